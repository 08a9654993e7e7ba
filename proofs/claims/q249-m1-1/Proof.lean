import JvmDerived
import JvmDerived.Pilot.@@N@@Statement
import JvmDerived.Pilot.@@N@@Code
set_option linter.unusedVariables false
set_option linter.unusedSimpArgs false
@@BLOCK:NumsL.lean.txt@@
namespace Jvm.Pilot.@@N@@
open Jvm Jvm.ClassFile Sem Op Lib Jvm.Free Jvm.Stand Jvm.LawKit Jvm.RoadKit Bundle Jvm.Pilot.@@N@@.Jvm.D
/-- from the state T with the frame g the run comes to an end that P speaks of -/
def own_Goes (tb : Tables) (e : Env) (below : List Frame) (P : Outcome → State → Prop) (T : State) (g : JFrame) : Prop :=
  ∃ s₂ o, Steps tb e below (T.setTop g) s₂ ∧ s₂.status = .running ∧ Ended s₂ below o ∧ P o s₂
theorem own_Goes.via {tb : Tables} {e : Env} {below : List Frame} {P : Outcome → State → Prop} {T T' : State} {g g' : JFrame} (h : ∀ t, Steps tb e below (T'.setTop g') t → Steps tb e below (T.setTop g) t) (k : own_Goes tb e below P T' g') : own_Goes tb e below P T g := by
  obtain ⟨s₂, o, a, b⟩ := k
  exact ⟨s₂, o, h _ a, b⟩
theorem own_Goes.fin {tb : Tables} {e : Env} {below : List Frame} {P : Outcome → State → Prop} {T s₂ : State} {g : JFrame} {o : Outcome} (h1 : Steps tb e below (T.setTop g) s₂) (h2 : s₂.status = .running) (h3 : Ended s₂ below o) (h4 : P o s₂) : own_Goes tb e below P T g := ⟨s₂, o, h1, h2, h3, h4⟩
theorem own_ltT {x y : Int64} (h : x < y) : ifCond.holds .lt (lcmpW x y) = true ∧ ifCond.holds .ge (lcmpW x y) = false := by
  have q : lcmpW x y < 0 := by rw [lcW]; exact (lc_lt x y).mpr h
  exact ⟨(if0 _ _).trans (tlt q).1, (if0 _ _).trans (tlt q).2.1⟩
theorem own_ltF {x y : Int64} (h : ¬ x < y) : ifCond.holds .lt (lcmpW x y) = false ∧ ifCond.holds .ge (lcmpW x y) = true := by
  have q : ¬ lcmpW x y < 0 := by rw [lcW]; exact fun z => h ((lc_lt x y).mp z)
  exact ⟨(if0 _ _).trans (flt q).1, (if0 _ _).trans (flt q).2.1⟩
theorem own_gtT {x y : Int64} (h : y < x) : ifCond.holds .gt (lcmpW x y) = true ∧ ifCond.holds .le (lcmpW x y) = false := by
  have q : 0 < lcmpW x y := by rw [lcW]; exact (lc_gt x y).mpr h
  exact ⟨(if0 _ _).trans (tlt q).2.2.1, (if0 _ _).trans (tlt q).2.2.2⟩
theorem own_gtF {x y : Int64} (h : ¬ y < x) : ifCond.holds .gt (lcmpW x y) = false ∧ ifCond.holds .le (lcmpW x y) = true := by
  have q : ¬ 0 < lcmpW x y := by rw [lcW]; exact fun z => h ((lc_gt x y).mp z)
  exact ⟨(if0 _ _).trans (flt q).2.2.1, (if0 _ _).trans (flt q).2.2.2⟩
theorem own_eqT {x y : Int64} (h : x = y) : ifCond.holds .eq (lcmpW x y) = true ∧ ifCond.holds .ne (lcmpW x y) = false := by
  have q : lcmpW x y = 0 := by rw [lcW]; exact (lc_eq x y).mpr h
  exact ⟨(if0 _ _).trans (teq q).1, (if0 _ _).trans (teq q).2⟩
theorem own_eqF {x y : Int64} (h : ¬ x = y) : ifCond.holds .eq (lcmpW x y) = false ∧ ifCond.holds .ne (lcmpW x y) = true := by
  have q : ¬ lcmpW x y = 0 := by rw [lcW]; exact fun z => h ((lc_eq x y).mp z)
  exact ⟨(if0 _ _).trans (feq q).1, (if0 _ _).trans (feq q).2⟩
theorem own_lrem (x y : Int64) : x - (x / y) * y = x % y := Int64.toInt_inj.mp (by rw [Jvm.Kit.i64_rem, Int64.toInt_mod])
theorem own_tri64 (a b : Int64) : a < b ∨ a = b ∨ b < a := by
  by_cases h : a = b
  · exact Or.inr (Or.inl h)
  · rcases Int64.lt_or_lt_of_ne h with g | g
    · exact Or.inl g
    · exact Or.inr (Or.inr g)
theorem own_tri32 (a b : Int32) : a < b ∨ a = b ∨ b < a := by
  by_cases h : a = b
  · exact Or.inr (Or.inl h)
  · rcases Int32.lt_or_lt_of_ne h with g | g
    · exact Or.inl g
    · exact Or.inr (Or.inr g)
theorem d1_0 : decode prog_16_method_2_code 0 = .ok (.lload_n 0, 1) := by decide +kernel
theorem d1_1 : decode prog_16_method_2_code 1 = .ok (.lload_n 3, 1) := by decide +kernel
theorem d1_2 : decode prog_16_method_2_code 2 = .ok (.lcmp, 1) := by decide +kernel
theorem d1_3 : decode prog_16_method_2_code 3 = .ok (.ifCond .lt 15, 3) := by decide +kernel
theorem d1_6 : decode prog_16_method_2_code 6 = .ok (.lload_n 0, 1) := by decide +kernel
theorem d1_7 : decode prog_16_method_2_code 7 = .ok (.lload_n 3, 1) := by decide +kernel
theorem d1_8 : decode prog_16_method_2_code 8 = .ok (.lcmp, 1) := by decide +kernel
theorem d1_9 : decode prog_16_method_2_code 9 = .ok (.ifCond .ne 13, 3) := by decide +kernel
theorem d1_12 : decode prog_16_method_2_code 12 = .ok (.iload_n 2, 1) := by decide +kernel
theorem d1_13 : decode prog_16_method_2_code 13 = .ok (.iload 5, 2) := by decide +kernel
theorem d1_15 : decode prog_16_method_2_code 15 = .ok (.if_icmp .ge 7, 3) := by decide +kernel
theorem d1_18 : decode prog_16_method_2_code 18 = .ok (.iconst 1, 1) := by decide +kernel
theorem d1_19 : decode prog_16_method_2_code 19 = .ok (.goto 4, 3) := by decide +kernel
theorem d1_22 : decode prog_16_method_2_code 22 = .ok (.iconst 0, 1) := by decide +kernel
theorem d1_23 : decode prog_16_method_2_code 23 = .ok (.ireturn, 1) := by decide +kernel
theorem pn_1 : plainName "com/example/ogmios/ogmios/mutex/Timestamps" = true := by first | (simp [plainName, overriddenIn]; done) | decide +kernel
theorem ef_1 (m : MethodId) (xt : Int64) (xp : Int32) (xu : Int64) (xq : Int32) : entryFrame m #[(.long xt), (.int xp), (.long xu), (.int xq)] 6 = mkF m 0 #[.val (.long xt), .second, .val (.int xp), .val (.long xu), .second, .val (.int xq)] [] := by first | (simp [entryFrame, mkF, argsToLocals, Value.category]; done) | rfl
def own_f1 (xt : Int64) (xp : Int32) (xu : Int64) (xq : Int32) : Int32 := (if xt < xu then (1 : Int32) else (if xt = xu then (if xp < xq then (1 : Int32) else (0 : Int32)) else (0 : Int32)))
def Q1 (Z : State) (xt : Int64) (xp : Int32) (xu : Int64) (xq : Int32) (h0 : Heap) (n0 : Nat) (v : Option Value) (h : Heap) (L : List Loc) : Prop := v = some (.int (own_f1 xt xp xu xq)) ∧ Fr n0 L ∧ h = h0
set_option maxRecDepth 65536 in
set_option maxHeartbeats 40000000 in
theorem rm1 (l : Launch) (Z : State) (a0 : Array Value) (hw : ∀ d ∈ tables_1, d.before a0 Z = true) (ws : List Jvm.Cond) (xt : Int64) (xp : Int32) (xu : Int64) (xq : Int32) (h0 : Heap) (n0 : Nat) (Z0 : n0 ≤ h0.size) :
    MetFree l (⟨"com/example/ogmios/ogmios/mutex/Timestamps", "before", "(JIJI)Z"⟩ : MethodName) (head1 (Jvm.Cond.code (⟨"com/example/ogmios/ogmios/mutex/Timestamps", "before", "(JIJI)Z"⟩ : MethodName) prog_16_method_2_code 6 (some .boolean) :: ws) ({ frames := 0, cells := 0, slots := 0, locals := 0 } : Room)) (fun a U => a = #[(.long xt), (.int xp), (.long xu), (.int xq)] ∧ Z.Warmed39 U.vm ∧ U.heap = h0) (fun _ _ _ _ _ => True) (fun _ U o U' => ∃ v L, o = .returned v ∧ Q1 Z xt xp xu xq h0 n0 v U'.heap L ∧ FrameEnd U o U' L ({ frames := 0, cells := 0, slots := 0, locals := 0 } : Room).cells ({ frames := 0, cells := 0, slots := 0, locals := 0 } : Room).slots) := by
  refine MetFree.of_bodySF (plainFor_of_name pn_1) hisR ?_
  intro p e s m args below meth c s₁ Bd hml0 hP hK
  obtain ⟨rfl, hZ, hh⟩ := hP
  have hx := Bd.exec
  have hby := Bd.bytes
  have hml : c.maxLocals = 6 := hml0
  have hown : s.vm.findClass "com/example/ogmios/ogmios/mutex/Timestamps" = some m.cls := findClass_of_methodNamed Bd.named
  have hnm := (name_of_methodNamed Bd.named Bd.method).1
  have X0 : Stand p l e ({ frames := 0, cells := 0, slots := 0, locals := 0 } : Room) s m #[(.long xt), (.int xp), (.long xu), (.int xq)] below meth c s₁ [] 0 0 := Stand.of_body Bd
  have e0 : s₁.heap = h0 := by rw [← hh, Bd.state]; rfl
  have N0 := Fr.nil n0
  suffices G : own_Goes p.tables e below (fun o U' => ∃ v L, o = .returned v ∧ Q1 Z xt xp xu xq h0 n0 v U'.heap L ∧ FrameEnd s o U' L ({ frames := 0, cells := 0, slots := 0, locals := 0 } : Room).cells ({ frames := 0, cells := 0, slots := 0, locals := 0 } : Room).slots) s₁ (mkF m 0 #[.val (.long xt), .second, .val (.int xp), .val (.long xu), .second, .val (.int xq)] []) by
    obtain ⟨t2_, o2_, z1_, z2_, z3_, z4_⟩ := G
    exact ⟨t2_, o2_, castTop (ef_1 m xt xp xu xq) z1_, z2_, z3_, z4_⟩
  generalize hPd : (fun (o : Outcome) (U' : State) => ∃ v L, o = .returned v ∧ Q1 Z xt xp xu xq h0 n0 v U'.heap L ∧ FrameEnd s o U' L ({ frames := 0, cells := 0, slots := 0, locals := 0 } : Room).cells ({ frames := 0, cells := 0, slots := 0, locals := 0 } : Room).slots) = P
  refine own_Goes.via (T' := s₁) (g' := (mkF m 1 #[.val (.long xt), .second, .val (.int xp), .val (.long xu), .second, .val (.int xq)] [(.long xt)])) (fun t_ k_ => XS.lloadN X0.here hx rfl (hb hby d1_0) rfl k_) ?_
  refine own_Goes.via (T' := s₁) (g' := (mkF m 2 #[.val (.long xt), .second, .val (.int xp), .val (.long xu), .second, .val (.int xq)] [(.long xu), (.long xt)])) (fun t_ k_ => XS.lloadN X0.here hx rfl (hb hby d1_1) rfl k_) ?_
  refine own_Goes.via (T' := s₁) (g' := (mkF m 3 #[.val (.long xt), .second, .val (.int xp), .val (.long xu), .second, .val (.int xq)] [(.int (lcmpW xt xu))])) (fun t_ k_ => XS.lcmp X0.here hx rfl (hb hby d1_2) rfl k_) ?_
  suffices J23_4 : ∀ (v23_2 : Int32) (hv23_2 : v23_2 = (if xt < xu then (1 : Int32) else (if xt = xu then (if xp < xq then (1 : Int32) else (0 : Int32)) else (0 : Int32)))), own_Goes p.tables e below P s₁ (mkF m 23 #[.val (.long xt), .second, .val (.int xp), .val (.long xu), .second, .val (.int xq)] [(.int v23_2)]) by
    by_cases hc3_1 : xt < xu
    · refine own_Goes.via (T' := s₁) (g' := (mkF m 18 #[.val (.long xt), .second, .val (.int xp), .val (.long xu), .second, .val (.int xq)] [])) (fun t_ k_ => XS.ifYes X0.here hx rfl (pc0 := 3) (pc' := 18) rfl (hb hby d1_3) rfl (own_ltT hc3_1).1 (by decide) (by decide) k_) ?_
      refine own_Goes.via (T' := s₁) (g' := (mkF m 19 #[.val (.long xt), .second, .val (.int xp), .val (.long xu), .second, .val (.int xq)] [(.int (1 : Int32))])) (fun t_ k_ => XS.iconst X0.here hx rfl (hb hby d1_18) k_) ?_
      refine own_Goes.via (T' := s₁) (g' := (mkF m 23 #[.val (.long xt), .second, .val (.int xp), .val (.long xu), .second, .val (.int xq)] [(.int (1 : Int32))])) (fun t_ k_ => XS.goto X0.here hx rfl (pc0 := 19) (pc' := 23) rfl (hb hby d1_19) (by decide) (by decide) k_) ?_
      exact J23_4 (1 : Int32) ((if_pos hc3_1)).symm
    · refine own_Goes.via (T' := s₁) (g' := (mkF m 6 #[.val (.long xt), .second, .val (.int xp), .val (.long xu), .second, .val (.int xq)] [])) (fun t_ k_ => XS.ifNo X0.here hx rfl (hb hby d1_3) rfl (own_ltF hc3_1).1 k_) ?_
      refine own_Goes.via (T' := s₁) (g' := (mkF m 7 #[.val (.long xt), .second, .val (.int xp), .val (.long xu), .second, .val (.int xq)] [(.long xt)])) (fun t_ k_ => XS.lloadN X0.here hx rfl (hb hby d1_6) rfl k_) ?_
      refine own_Goes.via (T' := s₁) (g' := (mkF m 8 #[.val (.long xt), .second, .val (.int xp), .val (.long xu), .second, .val (.int xq)] [(.long xu), (.long xt)])) (fun t_ k_ => XS.lloadN X0.here hx rfl (hb hby d1_7) rfl k_) ?_
      refine own_Goes.via (T' := s₁) (g' := (mkF m 9 #[.val (.long xt), .second, .val (.int xp), .val (.long xu), .second, .val (.int xq)] [(.int (lcmpW xt xu))])) (fun t_ k_ => XS.lcmp X0.here hx rfl (hb hby d1_8) rfl k_) ?_
      by_cases hc9_5 : xt = xu
      · refine own_Goes.via (T' := s₁) (g' := (mkF m 12 #[.val (.long xt), .second, .val (.int xp), .val (.long xu), .second, .val (.int xq)] [])) (fun t_ k_ => XS.ifNo X0.here hx rfl (hb hby d1_9) rfl (own_eqT hc9_5).2 k_) ?_
        refine own_Goes.via (T' := s₁) (g' := (mkF m 13 #[.val (.long xt), .second, .val (.int xp), .val (.long xu), .second, .val (.int xq)] [(.int xp)])) (fun t_ k_ => XS.iloadN X0.here hx rfl (hb hby d1_12) rfl k_) ?_
        refine own_Goes.via (T' := s₁) (g' := (mkF m 15 #[.val (.long xt), .second, .val (.int xp), .val (.long xu), .second, .val (.int xq)] [(.int xq), (.int xp)])) (fun t_ k_ => XS.iload X0.here hx rfl (hb hby d1_13) rfl k_) ?_
        by_cases hc15_6 : xp < xq
        · refine own_Goes.via (T' := s₁) (g' := (mkF m 18 #[.val (.long xt), .second, .val (.int xp), .val (.long xu), .second, .val (.int xq)] [])) (fun t_ k_ => XS.icmpNo X0.here hx rfl (hb hby d1_15) rfl (tlt hc15_6).2.1 k_) ?_
          refine own_Goes.via (T' := s₁) (g' := (mkF m 19 #[.val (.long xt), .second, .val (.int xp), .val (.long xu), .second, .val (.int xq)] [(.int (1 : Int32))])) (fun t_ k_ => XS.iconst X0.here hx rfl (hb hby d1_18) k_) ?_
          refine own_Goes.via (T' := s₁) (g' := (mkF m 23 #[.val (.long xt), .second, .val (.int xp), .val (.long xu), .second, .val (.int xq)] [(.int (1 : Int32))])) (fun t_ k_ => XS.goto X0.here hx rfl (pc0 := 19) (pc' := 23) rfl (hb hby d1_19) (by decide) (by decide) k_) ?_
          exact J23_4 (1 : Int32) (((if_neg hc3_1).trans ((if_pos hc9_5).trans (if_pos hc15_6)))).symm
        · refine own_Goes.via (T' := s₁) (g' := (mkF m 22 #[.val (.long xt), .second, .val (.int xp), .val (.long xu), .second, .val (.int xq)] [])) (fun t_ k_ => XS.icmpYes X0.here hx rfl (pc0 := 15) (pc' := 22) rfl (hb hby d1_15) rfl (flt hc15_6).2.1 (by decide) (by decide) k_) ?_
          refine own_Goes.via (T' := s₁) (g' := (mkF m 23 #[.val (.long xt), .second, .val (.int xp), .val (.long xu), .second, .val (.int xq)] [(.int (0 : Int32))])) (fun t_ k_ => XS.iconst X0.here hx rfl (hb hby d1_22) k_) ?_
          exact J23_4 (0 : Int32) (((if_neg hc3_1).trans ((if_pos hc9_5).trans (if_neg hc15_6)))).symm
      · refine own_Goes.via (T' := s₁) (g' := (mkF m 22 #[.val (.long xt), .second, .val (.int xp), .val (.long xu), .second, .val (.int xq)] [])) (fun t_ k_ => XS.ifYes X0.here hx rfl (pc0 := 9) (pc' := 22) rfl (hb hby d1_9) rfl (own_eqF hc9_5).2 (by decide) (by decide) k_) ?_
        refine own_Goes.via (T' := s₁) (g' := (mkF m 23 #[.val (.long xt), .second, .val (.int xp), .val (.long xu), .second, .val (.int xq)] [(.int (0 : Int32))])) (fun t_ k_ => XS.iconst X0.here hx rfl (hb hby d1_22) k_) ?_
        exact J23_4 (0 : Int32) (((if_neg hc3_1).trans (if_neg hc9_5))).symm
  intro v23_2 hv23_2
  have hnar7 : nar .boolean v23_2 = v23_2 := by rw [hv23_2]; (repeat' split) <;> rfl
  obtain ⟨fs, hr, hrun, hended, hW, hsame⟩ := X0.leave (v := some (.int v23_2)) (fun h => by rw [Bd.returns] at h; cases h)
  refine own_Goes.fin (retN X0 hx (t := .boolean) Bd.returns (by simp) (hb hby d1_23) (by rw [hnar7]; exact hr)) hrun hended ?_
  subst hPd
  refine ⟨_, _, rfl, ?_, ⟨_, rfl⟩, hW, hsame.mono (by decide) (by decide)⟩
  show Q1 Z xt xp xu xq h0 n0 _ s₁.heap _
  rw [e0]
  exact ⟨(by subst hv23_2; first | rfl | (simp only [own_f1])), N0, rfl⟩
theorem pn_0 : plainName "com/example/ogmios/ogmios/mutex/TimestampsBeforePinLaw" = true := by first | (simp [plainName, overriddenIn]; done) | decide +kernel
theorem pd_0_0 : parseMethodDescriptor "(JIJI)Z" = some ⟨[.long, .int, .long, .int], some .boolean⟩ := by decide +kernel
theorem ef_0 (m : MethodId) (xt : Int64) (xp : Int32) (xu : Int64) (xq : Int32) (xs : Int32) : entryFrame m #[(.long xt), (.int xp), (.long xu), (.int xq), (.int xs)] maxLocals = mkF m 0 #[.val (.long xt), .second, .val (.int xp), .val (.long xu), .second, .val (.int xq), .val (.int xs), .unset, .unset, .unset, .unset, .unset, .unset, .unset, .unset] [] := by first | (simp [entryFrame, mkF, argsToLocals, Value.category, maxLocals]; done) | rfl
def Q0 (Z : State) (xt : Int64) (xp : Int32) (xu : Int64) (xq : Int32) (xs : Int32) (h0 : Heap) (n0 : Nat) (v : Option Value) (h : Heap) (L : List Loc) : Prop := v = some (.int 1) ∧ Fr n0 L
set_option maxRecDepth 65536 in
theorem own_pl0_0 {xt : Int64} {xp : Int32} {xu : Int64} {xq : Int32} {xs : Int32} {v12_2 : Int64} {v27_6 : Int32} {v66_10 : Int32} {v16 : Int32} {v18 : Int32} {v106_20 : Int32} {v118_25 : Int32} {v128_29 : Int32} {v139_33 : Int32} {v36 : Int32} {v160_38 : Int32} (hv12_2 : v12_2 = (if (xs &&& (1 : Int32)) = (0 : Int32) then xu else xt)) (hv27_6 : v27_6 = (if (xs &&& (2 : Int32)) = (0 : Int32) then xq else xp)) (hv66_10 : v66_10 = (if xt = v12_2 then (if xp < v27_6 then (1 : Int32) else (0 : Int32)) else (if xt < v12_2 then (1 : Int32) else (0 : Int32)))) (hv16 : v16 = (own_f1 xt xp v12_2 v27_6)) (hv18 : v18 = (own_f1 v12_2 v27_6 xt xp)) (hv106_20 : v106_20 = (if xt = v12_2 then (if xp = v27_6 then (1 : Int32) else (0 : Int32)) else (0 : Int32))) (hv118_25 : v118_25 = (if v16 = (0 : Int32) then (0 : Int32) else (1 : Int32))) (hv128_29 : v128_29 = (if v18 = (0 : Int32) then (0 : Int32) else (1 : Int32))) (hv139_33 : v139_33 = (if v106_20 = (0 : Int32) then (0 : Int32) else (1 : Int32))) (hv36 : v36 = ((v118_25 + v128_29) + v139_33)) (hv160_38 : v160_38 = (if v16 = v66_10 then (if v36 = (1 : Int32) then (1 : Int32) else (0 : Int32)) else (0 : Int32))) : v160_38 = 1 := by
  clear hv12_2 hv27_6
  subst_vars
  rcases own_tri64 xt v12_2 with h | h | h
  · have h1 : ¬ xt = v12_2 := Int64.ne_of_lt h
    have h2 : ¬ v12_2 < xt := Int64.lt_asymm h
    have h3 : ¬ v12_2 = xt := fun e => h1 e.symm
    simp [own_f1, h, h1, h2, h3]
  · subst h
    have i1 : ¬ xt < xt := Int64.lt_irrefl
    rcases own_tri32 xp v27_6 with g | g | g
    · have g1 : ¬ xp = v27_6 := Int32.ne_of_lt g
      have g2 : ¬ v27_6 < xp := Int32.lt_asymm g
      simp [own_f1, g, g1, g2, i1]
    · subst g
      have i2 : ¬ xp < xp := Int32.lt_irrefl
      simp [own_f1, i1, i2]
    · have g1 : ¬ xp = v27_6 := fun e => Int32.ne_of_lt g e.symm
      have g2 : ¬ xp < v27_6 := Int32.lt_asymm g
      simp [own_f1, g, g1, g2, i1]
  · have h1 : ¬ xt = v12_2 := fun e => Int64.ne_of_lt h e.symm
    have h2 : ¬ xt < v12_2 := Int64.lt_asymm h
    have h3 : ¬ v12_2 = xt := Int64.ne_of_lt h
    simp [own_f1, h, h1, h2, h3]
set_option maxRecDepth 65536 in
set_option maxHeartbeats 40000000 in
theorem rm0 (l : Launch) (Z : State) (a0 : Array Value) (hw : ∀ d ∈ tables_1, d.before a0 Z = true) (ws : List Jvm.Cond) (xt : Int64) (xp : Int32) (xu : Int64) (xq : Int32) (xs : Int32) (h0 : Heap) (n0 : Nat) (Z0 : n0 ≤ h0.size) :
    MetFree l x (head1 (Jvm.Cond.code x code maxLocals ret :: ws) room_1) (fun a U => a = #[(.long xt), (.int xp), (.long xu), (.int xq), (.int xs)] ∧ Z.Warmed39 U.vm ∧ U.heap = h0) (fun _ _ _ _ _ => True) (fun _ U o U' => ∃ v L, o = .returned v ∧ Q0 Z xt xp xu xq xs h0 n0 v U'.heap L ∧ FrameEnd U o U' L 0 0) := by
  refine MetFree.of_bodySF (plainFor_of_name pn_0) hisR ?_
  intro p e s m args below meth c s₁ Bd hml0 hP hK
  obtain ⟨rfl, hZ, hh⟩ := hP
  have hx := Bd.exec
  have hby := Bd.bytes
  have hml : c.maxLocals = 15 := hml0
  have hown : s.vm.findClass "com/example/ogmios/ogmios/mutex/TimestampsBeforePinLaw" = some m.cls := findClass_of_methodNamed Bd.named
  have hnm := (name_of_methodNamed Bd.named Bd.method).1
  have X0 : Stand p l e room_1 s m #[(.long xt), (.int xp), (.long xu), (.int xq), (.int xs)] below meth c s₁ [] 0 0 := Stand.of_body Bd
  have e0 : s₁.heap = h0 := by rw [← hh, Bd.state]; rfl
  have N0 := Fr.nil n0
  suffices G : own_Goes p.tables e below (fun o U' => ∃ v L, o = .returned v ∧ Q0 Z xt xp xu xq xs h0 n0 v U'.heap L ∧ FrameEnd s o U' L 0 0) s₁ (mkF m 0 #[.val (.long xt), .second, .val (.int xp), .val (.long xu), .second, .val (.int xq), .val (.int xs), .unset, .unset, .unset, .unset, .unset, .unset, .unset, .unset] []) by
    obtain ⟨t2_, o2_, z1_, z2_, z3_, z4_⟩ := G
    exact ⟨t2_, o2_, castTop (ef_0 m xt xp xu xq xs) z1_, z2_, z3_, z4_⟩
  generalize hPd : (fun (o : Outcome) (U' : State) => ∃ v L, o = .returned v ∧ Q0 Z xt xp xu xq xs h0 n0 v U'.heap L ∧ FrameEnd s o U' L 0 0) = P
  refine own_Goes.via (T' := s₁) (g' := (mkF m 2 #[.val (.long xt), .second, .val (.int xp), .val (.long xu), .second, .val (.int xq), .val (.int xs), .unset, .unset, .unset, .unset, .unset, .unset, .unset, .unset] [(.int xs)])) (fun t_ k_ => XS.iload X0.here hx rfl (hb hby at_0) rfl k_) ?_
  refine own_Goes.via (T' := s₁) (g' := (mkF m 3 #[.val (.long xt), .second, .val (.int xp), .val (.long xu), .second, .val (.int xq), .val (.int xs), .unset, .unset, .unset, .unset, .unset, .unset, .unset, .unset] [(.int (1 : Int32)), (.int xs)])) (fun t_ k_ => XS.iconst X0.here hx rfl (hb hby at_2) k_) ?_
  refine own_Goes.via (T' := s₁) (g' := (mkF m 4 #[.val (.long xt), .second, .val (.int xp), .val (.long xu), .second, .val (.int xq), .val (.int xs), .unset, .unset, .unset, .unset, .unset, .unset, .unset, .unset] [(.int (xs &&& (1 : Int32)))])) (fun t_ k_ => XS.iand X0.here hx rfl (hb hby at_3) rfl k_) ?_
  suffices J12_4 : ∀ (v12_2 : Int64) (hv12_2 : v12_2 = (if (xs &&& (1 : Int32)) = (0 : Int32) then xu else xt)), own_Goes p.tables e below P s₁ (mkF m 12 #[.val (.long xt), .second, .val (.int xp), .val (.long xu), .second, .val (.int xq), .val (.int xs), .unset, .unset, .unset, .unset, .unset, .unset, .unset, .unset] [(.long v12_2)]) by
    by_cases hc4_1 : (xs &&& (1 : Int32)) = (0 : Int32)
    · refine own_Goes.via (T' := s₁) (g' := (mkF m 11 #[.val (.long xt), .second, .val (.int xp), .val (.long xu), .second, .val (.int xq), .val (.int xs), .unset, .unset, .unset, .unset, .unset, .unset, .unset, .unset] [])) (fun t_ k_ => XS.ifYes X0.here hx rfl (pc0 := 4) (pc' := 11) rfl (hb hby at_4) rfl ((if0 _ _).trans (teq hc4_1).1) (by decide) (by decide) k_) ?_
      refine own_Goes.via (T' := s₁) (g' := (mkF m 12 #[.val (.long xt), .second, .val (.int xp), .val (.long xu), .second, .val (.int xq), .val (.int xs), .unset, .unset, .unset, .unset, .unset, .unset, .unset, .unset] [(.long xu)])) (fun t_ k_ => XS.lloadN X0.here hx rfl (hb hby at_11) rfl k_) ?_
      exact J12_4 xu ((if_pos hc4_1)).symm
    · refine own_Goes.via (T' := s₁) (g' := (mkF m 7 #[.val (.long xt), .second, .val (.int xp), .val (.long xu), .second, .val (.int xq), .val (.int xs), .unset, .unset, .unset, .unset, .unset, .unset, .unset, .unset] [])) (fun t_ k_ => XS.ifNo X0.here hx rfl (hb hby at_4) rfl ((if0 _ _).trans (feq hc4_1).1) k_) ?_
      refine own_Goes.via (T' := s₁) (g' := (mkF m 8 #[.val (.long xt), .second, .val (.int xp), .val (.long xu), .second, .val (.int xq), .val (.int xs), .unset, .unset, .unset, .unset, .unset, .unset, .unset, .unset] [(.long xt)])) (fun t_ k_ => XS.lloadN X0.here hx rfl (hb hby at_7) rfl k_) ?_
      refine own_Goes.via (T' := s₁) (g' := (mkF m 12 #[.val (.long xt), .second, .val (.int xp), .val (.long xu), .second, .val (.int xq), .val (.int xs), .unset, .unset, .unset, .unset, .unset, .unset, .unset, .unset] [(.long xt)])) (fun t_ k_ => XS.goto X0.here hx rfl (pc0 := 8) (pc' := 12) rfl (hb hby at_8) (by decide) (by decide) k_) ?_
      exact J12_4 xt ((if_neg hc4_1)).symm
  intro v12_2 hv12_2
  refine own_Goes.via (T' := s₁) (g' := (mkF m 14 #[.val (.long xt), .second, .val (.int xp), .val (.long xu), .second, .val (.int xq), .val (.int xs), .val (.long v12_2), .second, .unset, .unset, .unset, .unset, .unset, .unset] [])) (fun t_ k_ => XS.lstore X0.here hx rfl (hb hby at_12) rfl (l' := #[.val (.long xt), .second, .val (.int xp), .val (.long xu), .second, .val (.int xq), .val (.int xs), .val (.long v12_2), .second, .unset, .unset, .unset, .unset, .unset, .unset]) rfl k_) ?_
  refine own_Goes.via (T' := s₁) (g' := (mkF m 16 #[.val (.long xt), .second, .val (.int xp), .val (.long xu), .second, .val (.int xq), .val (.int xs), .val (.long v12_2), .second, .unset, .unset, .unset, .unset, .unset, .unset] [(.int xs)])) (fun t_ k_ => XS.iload X0.here hx rfl (hb hby at_14) rfl k_) ?_
  refine own_Goes.via (T' := s₁) (g' := (mkF m 17 #[.val (.long xt), .second, .val (.int xp), .val (.long xu), .second, .val (.int xq), .val (.int xs), .val (.long v12_2), .second, .unset, .unset, .unset, .unset, .unset, .unset] [(.int (2 : Int32)), (.int xs)])) (fun t_ k_ => XS.iconst X0.here hx rfl (hb hby at_16) k_) ?_
  refine own_Goes.via (T' := s₁) (g' := (mkF m 18 #[.val (.long xt), .second, .val (.int xp), .val (.long xu), .second, .val (.int xq), .val (.int xs), .val (.long v12_2), .second, .unset, .unset, .unset, .unset, .unset, .unset] [(.int (xs &&& (2 : Int32)))])) (fun t_ k_ => XS.iand X0.here hx rfl (hb hby at_17) rfl k_) ?_
  suffices J27_8 : ∀ (v27_6 : Int32) (hv27_6 : v27_6 = (if (xs &&& (2 : Int32)) = (0 : Int32) then xq else xp)), own_Goes p.tables e below P s₁ (mkF m 27 #[.val (.long xt), .second, .val (.int xp), .val (.long xu), .second, .val (.int xq), .val (.int xs), .val (.long v12_2), .second, .unset, .unset, .unset, .unset, .unset, .unset] [(.int v27_6)]) by
    by_cases hc18_5 : (xs &&& (2 : Int32)) = (0 : Int32)
    · refine own_Goes.via (T' := s₁) (g' := (mkF m 25 #[.val (.long xt), .second, .val (.int xp), .val (.long xu), .second, .val (.int xq), .val (.int xs), .val (.long v12_2), .second, .unset, .unset, .unset, .unset, .unset, .unset] [])) (fun t_ k_ => XS.ifYes X0.here hx rfl (pc0 := 18) (pc' := 25) rfl (hb hby at_18) rfl ((if0 _ _).trans (teq hc18_5).1) (by decide) (by decide) k_) ?_
      refine own_Goes.via (T' := s₁) (g' := (mkF m 27 #[.val (.long xt), .second, .val (.int xp), .val (.long xu), .second, .val (.int xq), .val (.int xs), .val (.long v12_2), .second, .unset, .unset, .unset, .unset, .unset, .unset] [(.int xq)])) (fun t_ k_ => XS.iload X0.here hx rfl (hb hby at_25) rfl k_) ?_
      exact J27_8 xq ((if_pos hc18_5)).symm
    · refine own_Goes.via (T' := s₁) (g' := (mkF m 21 #[.val (.long xt), .second, .val (.int xp), .val (.long xu), .second, .val (.int xq), .val (.int xs), .val (.long v12_2), .second, .unset, .unset, .unset, .unset, .unset, .unset] [])) (fun t_ k_ => XS.ifNo X0.here hx rfl (hb hby at_18) rfl ((if0 _ _).trans (feq hc18_5).1) k_) ?_
      refine own_Goes.via (T' := s₁) (g' := (mkF m 22 #[.val (.long xt), .second, .val (.int xp), .val (.long xu), .second, .val (.int xq), .val (.int xs), .val (.long v12_2), .second, .unset, .unset, .unset, .unset, .unset, .unset] [(.int xp)])) (fun t_ k_ => XS.iloadN X0.here hx rfl (hb hby at_21) rfl k_) ?_
      refine own_Goes.via (T' := s₁) (g' := (mkF m 27 #[.val (.long xt), .second, .val (.int xp), .val (.long xu), .second, .val (.int xq), .val (.int xs), .val (.long v12_2), .second, .unset, .unset, .unset, .unset, .unset, .unset] [(.int xp)])) (fun t_ k_ => XS.goto X0.here hx rfl (pc0 := 22) (pc' := 27) rfl (hb hby at_22) (by decide) (by decide) k_) ?_
      exact J27_8 xp ((if_neg hc18_5)).symm
  intro v27_6 hv27_6
  refine own_Goes.via (T' := s₁) (g' := (mkF m 29 #[.val (.long xt), .second, .val (.int xp), .val (.long xu), .second, .val (.int xq), .val (.int xs), .val (.long v12_2), .second, .val (.int v27_6), .unset, .unset, .unset, .unset, .unset] [])) (fun t_ k_ => XS.istore X0.here hx rfl (hb hby at_27) rfl (l' := #[.val (.long xt), .second, .val (.int xp), .val (.long xu), .second, .val (.int xq), .val (.int xs), .val (.long v12_2), .second, .val (.int v27_6), .unset, .unset, .unset, .unset, .unset]) rfl k_) ?_
  refine own_Goes.via (T' := s₁) (g' := (mkF m 30 #[.val (.long xt), .second, .val (.int xp), .val (.long xu), .second, .val (.int xq), .val (.int xs), .val (.long v12_2), .second, .val (.int v27_6), .unset, .unset, .unset, .unset, .unset] [(.long xt)])) (fun t_ k_ => XS.lloadN X0.here hx rfl (hb hby at_29) rfl k_) ?_
  refine own_Goes.via (T' := s₁) (g' := (mkF m 32 #[.val (.long xt), .second, .val (.int xp), .val (.long xu), .second, .val (.int xq), .val (.int xs), .val (.long v12_2), .second, .val (.int v27_6), .unset, .unset, .unset, .unset, .unset] [(.long v12_2), (.long xt)])) (fun t_ k_ => XS.lload X0.here hx rfl (hb hby at_30) rfl k_) ?_
  refine own_Goes.via (T' := s₁) (g' := (mkF m 33 #[.val (.long xt), .second, .val (.int xp), .val (.long xu), .second, .val (.int xq), .val (.int xs), .val (.long v12_2), .second, .val (.int v27_6), .unset, .unset, .unset, .unset, .unset] [(.int (lcmpW xt v12_2))])) (fun t_ k_ => XS.lcmp X0.here hx rfl (hb hby at_32) rfl k_) ?_
  suffices J66_12 : ∀ (v66_10 : Int32) (hv66_10 : v66_10 = (if xt = v12_2 then (if xp < v27_6 then (1 : Int32) else (0 : Int32)) else (if xt < v12_2 then (1 : Int32) else (0 : Int32)))), own_Goes p.tables e below P s₁ (mkF m 66 #[.val (.long xt), .second, .val (.int xp), .val (.long xu), .second, .val (.int xq), .val (.int xs), .val (.long v12_2), .second, .val (.int v27_6), .val (.int v66_10), .unset, .unset, .unset, .unset] []) by
    by_cases hc33_9 : xt = v12_2
    · refine own_Goes.via (T' := s₁) (g' := (mkF m 53 #[.val (.long xt), .second, .val (.int xp), .val (.long xu), .second, .val (.int xq), .val (.int xs), .val (.long v12_2), .second, .val (.int v27_6), .unset, .unset, .unset, .unset, .unset] [])) (fun t_ k_ => XS.ifYes X0.here hx rfl (pc0 := 33) (pc' := 53) rfl (hb hby at_33) rfl (own_eqT hc33_9).1 (by decide) (by decide) k_) ?_
      refine own_Goes.via (T' := s₁) (g' := (mkF m 54 #[.val (.long xt), .second, .val (.int xp), .val (.long xu), .second, .val (.int xq), .val (.int xs), .val (.long v12_2), .second, .val (.int v27_6), .unset, .unset, .unset, .unset, .unset] [(.int xp)])) (fun t_ k_ => XS.iloadN X0.here hx rfl (hb hby at_53) rfl k_) ?_
      refine own_Goes.via (T' := s₁) (g' := (mkF m 56 #[.val (.long xt), .second, .val (.int xp), .val (.long xu), .second, .val (.int xq), .val (.int xs), .val (.long v12_2), .second, .val (.int v27_6), .unset, .unset, .unset, .unset, .unset] [(.int v27_6), (.int xp)])) (fun t_ k_ => XS.iload X0.here hx rfl (hb hby at_54) rfl k_) ?_
      by_cases hc56_13 : xp < v27_6
      · refine own_Goes.via (T' := s₁) (g' := (mkF m 59 #[.val (.long xt), .second, .val (.int xp), .val (.long xu), .second, .val (.int xq), .val (.int xs), .val (.long v12_2), .second, .val (.int v27_6), .unset, .unset, .unset, .unset, .unset] [])) (fun t_ k_ => XS.icmpNo X0.here hx rfl (hb hby at_56) rfl (tlt hc56_13).2.1 k_) ?_
        refine own_Goes.via (T' := s₁) (g' := (mkF m 60 #[.val (.long xt), .second, .val (.int xp), .val (.long xu), .second, .val (.int xq), .val (.int xs), .val (.long v12_2), .second, .val (.int v27_6), .unset, .unset, .unset, .unset, .unset] [(.int (1 : Int32))])) (fun t_ k_ => XS.iconst X0.here hx rfl (hb hby at_59) k_) ?_
        refine own_Goes.via (T' := s₁) (g' := (mkF m 64 #[.val (.long xt), .second, .val (.int xp), .val (.long xu), .second, .val (.int xq), .val (.int xs), .val (.long v12_2), .second, .val (.int v27_6), .unset, .unset, .unset, .unset, .unset] [(.int (1 : Int32))])) (fun t_ k_ => XS.goto X0.here hx rfl (pc0 := 60) (pc' := 64) rfl (hb hby at_60) (by decide) (by decide) k_) ?_
        refine own_Goes.via (T' := s₁) (g' := (mkF m 66 #[.val (.long xt), .second, .val (.int xp), .val (.long xu), .second, .val (.int xq), .val (.int xs), .val (.long v12_2), .second, .val (.int v27_6), .val (.int (1 : Int32)), .unset, .unset, .unset, .unset] [])) (fun t_ k_ => XS.istore X0.here hx rfl (hb hby at_64) rfl (l' := #[.val (.long xt), .second, .val (.int xp), .val (.long xu), .second, .val (.int xq), .val (.int xs), .val (.long v12_2), .second, .val (.int v27_6), .val (.int (1 : Int32)), .unset, .unset, .unset, .unset]) rfl k_) ?_
        exact J66_12 (1 : Int32) (((if_pos hc33_9).trans (if_pos hc56_13))).symm
      · refine own_Goes.via (T' := s₁) (g' := (mkF m 63 #[.val (.long xt), .second, .val (.int xp), .val (.long xu), .second, .val (.int xq), .val (.int xs), .val (.long v12_2), .second, .val (.int v27_6), .unset, .unset, .unset, .unset, .unset] [])) (fun t_ k_ => XS.icmpYes X0.here hx rfl (pc0 := 56) (pc' := 63) rfl (hb hby at_56) rfl (flt hc56_13).2.1 (by decide) (by decide) k_) ?_
        refine own_Goes.via (T' := s₁) (g' := (mkF m 64 #[.val (.long xt), .second, .val (.int xp), .val (.long xu), .second, .val (.int xq), .val (.int xs), .val (.long v12_2), .second, .val (.int v27_6), .unset, .unset, .unset, .unset, .unset] [(.int (0 : Int32))])) (fun t_ k_ => XS.iconst X0.here hx rfl (hb hby at_63) k_) ?_
        refine own_Goes.via (T' := s₁) (g' := (mkF m 66 #[.val (.long xt), .second, .val (.int xp), .val (.long xu), .second, .val (.int xq), .val (.int xs), .val (.long v12_2), .second, .val (.int v27_6), .val (.int (0 : Int32)), .unset, .unset, .unset, .unset] [])) (fun t_ k_ => XS.istore X0.here hx rfl (hb hby at_64) rfl (l' := #[.val (.long xt), .second, .val (.int xp), .val (.long xu), .second, .val (.int xq), .val (.int xs), .val (.long v12_2), .second, .val (.int v27_6), .val (.int (0 : Int32)), .unset, .unset, .unset, .unset]) rfl k_) ?_
        exact J66_12 (0 : Int32) (((if_pos hc33_9).trans (if_neg hc56_13))).symm
    · refine own_Goes.via (T' := s₁) (g' := (mkF m 36 #[.val (.long xt), .second, .val (.int xp), .val (.long xu), .second, .val (.int xq), .val (.int xs), .val (.long v12_2), .second, .val (.int v27_6), .unset, .unset, .unset, .unset, .unset] [])) (fun t_ k_ => XS.ifNo X0.here hx rfl (hb hby at_33) rfl (own_eqF hc33_9).1 k_) ?_
      refine own_Goes.via (T' := s₁) (g' := (mkF m 37 #[.val (.long xt), .second, .val (.int xp), .val (.long xu), .second, .val (.int xq), .val (.int xs), .val (.long v12_2), .second, .val (.int v27_6), .unset, .unset, .unset, .unset, .unset] [(.long xt)])) (fun t_ k_ => XS.lloadN X0.here hx rfl (hb hby at_36) rfl k_) ?_
      refine own_Goes.via (T' := s₁) (g' := (mkF m 39 #[.val (.long xt), .second, .val (.int xp), .val (.long xu), .second, .val (.int xq), .val (.int xs), .val (.long v12_2), .second, .val (.int v27_6), .unset, .unset, .unset, .unset, .unset] [(.long v12_2), (.long xt)])) (fun t_ k_ => XS.lload X0.here hx rfl (hb hby at_37) rfl k_) ?_
      refine own_Goes.via (T' := s₁) (g' := (mkF m 40 #[.val (.long xt), .second, .val (.int xp), .val (.long xu), .second, .val (.int xq), .val (.int xs), .val (.long v12_2), .second, .val (.int v27_6), .unset, .unset, .unset, .unset, .unset] [(.int (lcmpW xt v12_2))])) (fun t_ k_ => XS.lcmp X0.here hx rfl (hb hby at_39) rfl k_) ?_
      by_cases hc40_14 : xt < v12_2
      · refine own_Goes.via (T' := s₁) (g' := (mkF m 43 #[.val (.long xt), .second, .val (.int xp), .val (.long xu), .second, .val (.int xq), .val (.int xs), .val (.long v12_2), .second, .val (.int v27_6), .unset, .unset, .unset, .unset, .unset] [])) (fun t_ k_ => XS.ifNo X0.here hx rfl (hb hby at_40) rfl (own_ltT hc40_14).2 k_) ?_
        refine own_Goes.via (T' := s₁) (g' := (mkF m 44 #[.val (.long xt), .second, .val (.int xp), .val (.long xu), .second, .val (.int xq), .val (.int xs), .val (.long v12_2), .second, .val (.int v27_6), .unset, .unset, .unset, .unset, .unset] [(.int (1 : Int32))])) (fun t_ k_ => XS.iconst X0.here hx rfl (hb hby at_43) k_) ?_
        refine own_Goes.via (T' := s₁) (g' := (mkF m 48 #[.val (.long xt), .second, .val (.int xp), .val (.long xu), .second, .val (.int xq), .val (.int xs), .val (.long v12_2), .second, .val (.int v27_6), .unset, .unset, .unset, .unset, .unset] [(.int (1 : Int32))])) (fun t_ k_ => XS.goto X0.here hx rfl (pc0 := 44) (pc' := 48) rfl (hb hby at_44) (by decide) (by decide) k_) ?_
        refine own_Goes.via (T' := s₁) (g' := (mkF m 50 #[.val (.long xt), .second, .val (.int xp), .val (.long xu), .second, .val (.int xq), .val (.int xs), .val (.long v12_2), .second, .val (.int v27_6), .val (.int (1 : Int32)), .unset, .unset, .unset, .unset] [])) (fun t_ k_ => XS.istore X0.here hx rfl (hb hby at_48) rfl (l' := #[.val (.long xt), .second, .val (.int xp), .val (.long xu), .second, .val (.int xq), .val (.int xs), .val (.long v12_2), .second, .val (.int v27_6), .val (.int (1 : Int32)), .unset, .unset, .unset, .unset]) rfl k_) ?_
        refine own_Goes.via (T' := s₁) (g' := (mkF m 66 #[.val (.long xt), .second, .val (.int xp), .val (.long xu), .second, .val (.int xq), .val (.int xs), .val (.long v12_2), .second, .val (.int v27_6), .val (.int (1 : Int32)), .unset, .unset, .unset, .unset] [])) (fun t_ k_ => XS.goto X0.here hx rfl (pc0 := 50) (pc' := 66) rfl (hb hby at_50) (by decide) (by decide) k_) ?_
        exact J66_12 (1 : Int32) (((if_neg hc33_9).trans (if_pos hc40_14))).symm
      · refine own_Goes.via (T' := s₁) (g' := (mkF m 47 #[.val (.long xt), .second, .val (.int xp), .val (.long xu), .second, .val (.int xq), .val (.int xs), .val (.long v12_2), .second, .val (.int v27_6), .unset, .unset, .unset, .unset, .unset] [])) (fun t_ k_ => XS.ifYes X0.here hx rfl (pc0 := 40) (pc' := 47) rfl (hb hby at_40) rfl (own_ltF hc40_14).2 (by decide) (by decide) k_) ?_
        refine own_Goes.via (T' := s₁) (g' := (mkF m 48 #[.val (.long xt), .second, .val (.int xp), .val (.long xu), .second, .val (.int xq), .val (.int xs), .val (.long v12_2), .second, .val (.int v27_6), .unset, .unset, .unset, .unset, .unset] [(.int (0 : Int32))])) (fun t_ k_ => XS.iconst X0.here hx rfl (hb hby at_47) k_) ?_
        refine own_Goes.via (T' := s₁) (g' := (mkF m 50 #[.val (.long xt), .second, .val (.int xp), .val (.long xu), .second, .val (.int xq), .val (.int xs), .val (.long v12_2), .second, .val (.int v27_6), .val (.int (0 : Int32)), .unset, .unset, .unset, .unset] [])) (fun t_ k_ => XS.istore X0.here hx rfl (hb hby at_48) rfl (l' := #[.val (.long xt), .second, .val (.int xp), .val (.long xu), .second, .val (.int xq), .val (.int xs), .val (.long v12_2), .second, .val (.int v27_6), .val (.int (0 : Int32)), .unset, .unset, .unset, .unset]) rfl k_) ?_
        refine own_Goes.via (T' := s₁) (g' := (mkF m 66 #[.val (.long xt), .second, .val (.int xp), .val (.long xu), .second, .val (.int xq), .val (.int xs), .val (.long v12_2), .second, .val (.int v27_6), .val (.int (0 : Int32)), .unset, .unset, .unset, .unset] [])) (fun t_ k_ => XS.goto X0.here hx rfl (pc0 := 50) (pc' := 66) rfl (hb hby at_50) (by decide) (by decide) k_) ?_
        exact J66_12 (0 : Int32) (((if_neg hc33_9).trans (if_neg hc40_14))).symm
  intro v66_10 hv66_10
  refine own_Goes.via (T' := s₁) (g' := (mkF m 67 #[.val (.long xt), .second, .val (.int xp), .val (.long xu), .second, .val (.int xq), .val (.int xs), .val (.long v12_2), .second, .val (.int v27_6), .val (.int v66_10), .unset, .unset, .unset, .unset] [(.long xt)])) (fun t_ k_ => XS.lloadN X0.here hx rfl (hb hby at_66) rfl k_) ?_
  refine own_Goes.via (T' := s₁) (g' := (mkF m 68 #[.val (.long xt), .second, .val (.int xp), .val (.long xu), .second, .val (.int xq), .val (.int xs), .val (.long v12_2), .second, .val (.int v27_6), .val (.int v66_10), .unset, .unset, .unset, .unset] [(.int xp), (.long xt)])) (fun t_ k_ => XS.iloadN X0.here hx rfl (hb hby at_67) rfl k_) ?_
  refine own_Goes.via (T' := s₁) (g' := (mkF m 70 #[.val (.long xt), .second, .val (.int xp), .val (.long xu), .second, .val (.int xq), .val (.int xs), .val (.long v12_2), .second, .val (.int v27_6), .val (.int v66_10), .unset, .unset, .unset, .unset] [(.long v12_2), (.int xp), (.long xt)])) (fun t_ k_ => XS.lload X0.here hx rfl (hb hby at_68) rfl k_) ?_
  refine own_Goes.via (T' := s₁) (g' := (mkF m 72 #[.val (.long xt), .second, .val (.int xp), .val (.long xu), .second, .val (.int xq), .val (.int xs), .val (.long v12_2), .second, .val (.int v27_6), .val (.int v66_10), .unset, .unset, .unset, .unset] [(.int v27_6), (.long v12_2), (.int xp), (.long xt)])) (fun t_ k_ => XS.iload X0.here hx rfl (hb hby at_70) rfl k_) ?_
  obtain ⟨_, _, ⟨T15, L15, k15, n15⟩, -, X15, ⟨Lc15, hQ15, l15, y15, z15⟩, st15⟩ := Jvm.LawKit.callS X0 hx (y := (⟨"com/example/ogmios/ogmios/mutex/Timestamps", "before", "(JIJI)Z"⟩ : MethodName)) hown (mvT hZ (hw _ (List.mem_of_getElem? (i := 0) rfl))) (mvT hZ (hw _ (List.mem_of_getElem? (i := 1) rfl))) (mvT hZ (hw _ (List.mem_of_getElem? (i := 2) rfl))) (mvT hZ (hw _ (List.mem_of_getElem? (i := 3) rfl))) (by decide) (backOf (W := 0) (rm1 l Z a0 hw [] xt xp v12_2 v27_6 h0 n0 Z0 ) hZ (hw _ (List.mem_of_getElem? (i := 3) rfl)) (hw _ (List.mem_of_getElem? (i := 2) rfl)) (by decide) (by decide)) (g := (mkF m 72 #[.val (.long xt), .second, .val (.int xp), .val (.long xu), .second, .val (.int xq), .val (.int xs), .val (.long v12_2), .second, .val (.int v27_6), .val (.int v66_10), .unset, .unset, .unset, .unset] [(.int v27_6), (.long v12_2), (.int xp), (.long xt)])) rfl (by rw [hml]; rfl) (argsL := [(.long xt), (.int xp), (.long v12_2), (.int v27_6)]) (rest := []) (lenOf pd_0_0 rfl) rfl (by show 2 * 0 + _ ≤ _; exact Nat.le_of_eq rfl) (hb hby at_72) (fun _ _ => ⟨rfl, e0, (by decide : 0 + 0 ≤ _), (by decide : 0 + 0 ≤ _)⟩)
  dsimp only [Pt.U, Pt.locs, Pt.cells, Pt.slots] at X15 l15 y15 z15 st15 hQ15
  subst l15 y15 z15
  obtain ⟨rfl, Nq15, hh15⟩ := hQ15
  have N15 := Fr.app N0 Nq15
  refine own_Goes.via (T' := T15) (g' := (mkF m 75 #[.val (.long xt), .second, .val (.int xp), .val (.long xu), .second, .val (.int xq), .val (.int xs), .val (.long v12_2), .second, .val (.int v27_6), .val (.int v66_10), .unset, .unset, .unset, .unset] [(.int (own_f1 xt xp v12_2 v27_6))])) (st15) ?_
  obtain ⟨v16, hv16⟩ : ∃ z : Int32, z = (own_f1 xt xp v12_2 v27_6) := ⟨_, rfl⟩
  rw [← hv16]
  refine own_Goes.via (T' := T15) (g' := (mkF m 77 #[.val (.long xt), .second, .val (.int xp), .val (.long xu), .second, .val (.int xq), .val (.int xs), .val (.long v12_2), .second, .val (.int v27_6), .val (.int v66_10), .val (.int v16), .unset, .unset, .unset] [])) (fun t_ k_ => XS.istore X15.here hx rfl (hb hby at_75) rfl (l' := #[.val (.long xt), .second, .val (.int xp), .val (.long xu), .second, .val (.int xq), .val (.int xs), .val (.long v12_2), .second, .val (.int v27_6), .val (.int v66_10), .val (.int v16), .unset, .unset, .unset]) rfl k_) ?_
  refine own_Goes.via (T' := T15) (g' := (mkF m 79 #[.val (.long xt), .second, .val (.int xp), .val (.long xu), .second, .val (.int xq), .val (.int xs), .val (.long v12_2), .second, .val (.int v27_6), .val (.int v66_10), .val (.int v16), .unset, .unset, .unset] [(.long v12_2)])) (fun t_ k_ => XS.lload X15.here hx rfl (hb hby at_77) rfl k_) ?_
  refine own_Goes.via (T' := T15) (g' := (mkF m 81 #[.val (.long xt), .second, .val (.int xp), .val (.long xu), .second, .val (.int xq), .val (.int xs), .val (.long v12_2), .second, .val (.int v27_6), .val (.int v66_10), .val (.int v16), .unset, .unset, .unset] [(.int v27_6), (.long v12_2)])) (fun t_ k_ => XS.iload X15.here hx rfl (hb hby at_79) rfl k_) ?_
  refine own_Goes.via (T' := T15) (g' := (mkF m 82 #[.val (.long xt), .second, .val (.int xp), .val (.long xu), .second, .val (.int xq), .val (.int xs), .val (.long v12_2), .second, .val (.int v27_6), .val (.int v66_10), .val (.int v16), .unset, .unset, .unset] [(.long xt), (.int v27_6), (.long v12_2)])) (fun t_ k_ => XS.lloadN X15.here hx rfl (hb hby at_81) rfl k_) ?_
  refine own_Goes.via (T' := T15) (g' := (mkF m 83 #[.val (.long xt), .second, .val (.int xp), .val (.long xu), .second, .val (.int xq), .val (.int xs), .val (.long v12_2), .second, .val (.int v27_6), .val (.int v66_10), .val (.int v16), .unset, .unset, .unset] [(.int xp), (.long xt), (.int v27_6), (.long v12_2)])) (fun t_ k_ => XS.iloadN X15.here hx rfl (hb hby at_82) rfl k_) ?_
  obtain ⟨_, _, ⟨T17, L17, k17, n17⟩, -, X17, ⟨Lc17, hQ17, l17, y17, z17⟩, st17⟩ := Jvm.LawKit.callS X15 hx (y := (⟨"com/example/ogmios/ogmios/mutex/Timestamps", "before", "(JIJI)Z"⟩ : MethodName)) hown (mvT hZ (hw _ (List.mem_of_getElem? (i := 0) rfl))) (mvT hZ (hw _ (List.mem_of_getElem? (i := 1) rfl))) (mvT hZ (hw _ (List.mem_of_getElem? (i := 2) rfl))) (mvT hZ (hw _ (List.mem_of_getElem? (i := 3) rfl))) (by decide) (backOf (W := 0) (rm1 l Z a0 hw [] v12_2 v27_6 xt xp h0 n0 Z0 ) hZ (hw _ (List.mem_of_getElem? (i := 3) rfl)) (hw _ (List.mem_of_getElem? (i := 2) rfl)) (by decide) (by decide)) (g := (mkF m 83 #[.val (.long xt), .second, .val (.int xp), .val (.long xu), .second, .val (.int xq), .val (.int xs), .val (.long v12_2), .second, .val (.int v27_6), .val (.int v66_10), .val (.int v16), .unset, .unset, .unset] [(.int xp), (.long xt), (.int v27_6), (.long v12_2)])) rfl (by rw [hml]; rfl) (argsL := [(.long v12_2), (.int v27_6), (.long xt), (.int xp)]) (rest := []) (lenOf pd_0_0 rfl) rfl (by show 2 * 0 + _ ≤ _; exact Nat.le_of_eq rfl) (hb hby at_83) (fun _ _ => ⟨rfl, hh15, (by decide : 0 + 0 ≤ _), (by decide : 0 + 0 ≤ _)⟩)
  dsimp only [Pt.U, Pt.locs, Pt.cells, Pt.slots] at X17 l17 y17 z17 st17 hQ17
  subst l17 y17 z17
  obtain ⟨rfl, Nq17, hh17⟩ := hQ17
  have N17 := Fr.app N15 Nq17
  refine own_Goes.via (T' := T17) (g' := (mkF m 86 #[.val (.long xt), .second, .val (.int xp), .val (.long xu), .second, .val (.int xq), .val (.int xs), .val (.long v12_2), .second, .val (.int v27_6), .val (.int v66_10), .val (.int v16), .unset, .unset, .unset] [(.int (own_f1 v12_2 v27_6 xt xp))])) (st17) ?_
  obtain ⟨v18, hv18⟩ : ∃ z : Int32, z = (own_f1 v12_2 v27_6 xt xp) := ⟨_, rfl⟩
  rw [← hv18]
  refine own_Goes.via (T' := T17) (g' := (mkF m 88 #[.val (.long xt), .second, .val (.int xp), .val (.long xu), .second, .val (.int xq), .val (.int xs), .val (.long v12_2), .second, .val (.int v27_6), .val (.int v66_10), .val (.int v16), .val (.int v18), .unset, .unset] [])) (fun t_ k_ => XS.istore X17.here hx rfl (hb hby at_86) rfl (l' := #[.val (.long xt), .second, .val (.int xp), .val (.long xu), .second, .val (.int xq), .val (.int xs), .val (.long v12_2), .second, .val (.int v27_6), .val (.int v66_10), .val (.int v16), .val (.int v18), .unset, .unset]) rfl k_) ?_
  refine own_Goes.via (T' := T17) (g' := (mkF m 89 #[.val (.long xt), .second, .val (.int xp), .val (.long xu), .second, .val (.int xq), .val (.int xs), .val (.long v12_2), .second, .val (.int v27_6), .val (.int v66_10), .val (.int v16), .val (.int v18), .unset, .unset] [(.long xt)])) (fun t_ k_ => XS.lloadN X17.here hx rfl (hb hby at_88) rfl k_) ?_
  refine own_Goes.via (T' := T17) (g' := (mkF m 91 #[.val (.long xt), .second, .val (.int xp), .val (.long xu), .second, .val (.int xq), .val (.int xs), .val (.long v12_2), .second, .val (.int v27_6), .val (.int v66_10), .val (.int v16), .val (.int v18), .unset, .unset] [(.long v12_2), (.long xt)])) (fun t_ k_ => XS.lload X17.here hx rfl (hb hby at_89) rfl k_) ?_
  refine own_Goes.via (T' := T17) (g' := (mkF m 92 #[.val (.long xt), .second, .val (.int xp), .val (.long xu), .second, .val (.int xq), .val (.int xs), .val (.long v12_2), .second, .val (.int v27_6), .val (.int v66_10), .val (.int v16), .val (.int v18), .unset, .unset] [(.int (lcmpW xt v12_2))])) (fun t_ k_ => XS.lcmp X17.here hx rfl (hb hby at_91) rfl k_) ?_
  suffices J106_22 : ∀ (v106_20 : Int32) (hv106_20 : v106_20 = (if xt = v12_2 then (if xp = v27_6 then (1 : Int32) else (0 : Int32)) else (0 : Int32))), own_Goes p.tables e below P T17 (mkF m 106 #[.val (.long xt), .second, .val (.int xp), .val (.long xu), .second, .val (.int xq), .val (.int xs), .val (.long v12_2), .second, .val (.int v27_6), .val (.int v66_10), .val (.int v16), .val (.int v18), .unset, .unset] [(.int v106_20)]) by
    by_cases hc92_19 : xt = v12_2
    · refine own_Goes.via (T' := T17) (g' := (mkF m 95 #[.val (.long xt), .second, .val (.int xp), .val (.long xu), .second, .val (.int xq), .val (.int xs), .val (.long v12_2), .second, .val (.int v27_6), .val (.int v66_10), .val (.int v16), .val (.int v18), .unset, .unset] [])) (fun t_ k_ => XS.ifNo X17.here hx rfl (hb hby at_92) rfl (own_eqT hc92_19).2 k_) ?_
      refine own_Goes.via (T' := T17) (g' := (mkF m 96 #[.val (.long xt), .second, .val (.int xp), .val (.long xu), .second, .val (.int xq), .val (.int xs), .val (.long v12_2), .second, .val (.int v27_6), .val (.int v66_10), .val (.int v16), .val (.int v18), .unset, .unset] [(.int xp)])) (fun t_ k_ => XS.iloadN X17.here hx rfl (hb hby at_95) rfl k_) ?_
      refine own_Goes.via (T' := T17) (g' := (mkF m 98 #[.val (.long xt), .second, .val (.int xp), .val (.long xu), .second, .val (.int xq), .val (.int xs), .val (.long v12_2), .second, .val (.int v27_6), .val (.int v66_10), .val (.int v16), .val (.int v18), .unset, .unset] [(.int v27_6), (.int xp)])) (fun t_ k_ => XS.iload X17.here hx rfl (hb hby at_96) rfl k_) ?_
      by_cases hc98_23 : xp = v27_6
      · refine own_Goes.via (T' := T17) (g' := (mkF m 101 #[.val (.long xt), .second, .val (.int xp), .val (.long xu), .second, .val (.int xq), .val (.int xs), .val (.long v12_2), .second, .val (.int v27_6), .val (.int v66_10), .val (.int v16), .val (.int v18), .unset, .unset] [])) (fun t_ k_ => XS.icmpNo X17.here hx rfl (hb hby at_98) rfl (teq hc98_23).2 k_) ?_
        refine own_Goes.via (T' := T17) (g' := (mkF m 102 #[.val (.long xt), .second, .val (.int xp), .val (.long xu), .second, .val (.int xq), .val (.int xs), .val (.long v12_2), .second, .val (.int v27_6), .val (.int v66_10), .val (.int v16), .val (.int v18), .unset, .unset] [(.int (1 : Int32))])) (fun t_ k_ => XS.iconst X17.here hx rfl (hb hby at_101) k_) ?_
        refine own_Goes.via (T' := T17) (g' := (mkF m 106 #[.val (.long xt), .second, .val (.int xp), .val (.long xu), .second, .val (.int xq), .val (.int xs), .val (.long v12_2), .second, .val (.int v27_6), .val (.int v66_10), .val (.int v16), .val (.int v18), .unset, .unset] [(.int (1 : Int32))])) (fun t_ k_ => XS.goto X17.here hx rfl (pc0 := 102) (pc' := 106) rfl (hb hby at_102) (by decide) (by decide) k_) ?_
        exact J106_22 (1 : Int32) (((if_pos hc92_19).trans (if_pos hc98_23))).symm
      · refine own_Goes.via (T' := T17) (g' := (mkF m 105 #[.val (.long xt), .second, .val (.int xp), .val (.long xu), .second, .val (.int xq), .val (.int xs), .val (.long v12_2), .second, .val (.int v27_6), .val (.int v66_10), .val (.int v16), .val (.int v18), .unset, .unset] [])) (fun t_ k_ => XS.icmpYes X17.here hx rfl (pc0 := 98) (pc' := 105) rfl (hb hby at_98) rfl (feq hc98_23).2 (by decide) (by decide) k_) ?_
        refine own_Goes.via (T' := T17) (g' := (mkF m 106 #[.val (.long xt), .second, .val (.int xp), .val (.long xu), .second, .val (.int xq), .val (.int xs), .val (.long v12_2), .second, .val (.int v27_6), .val (.int v66_10), .val (.int v16), .val (.int v18), .unset, .unset] [(.int (0 : Int32))])) (fun t_ k_ => XS.iconst X17.here hx rfl (hb hby at_105) k_) ?_
        exact J106_22 (0 : Int32) (((if_pos hc92_19).trans (if_neg hc98_23))).symm
    · refine own_Goes.via (T' := T17) (g' := (mkF m 105 #[.val (.long xt), .second, .val (.int xp), .val (.long xu), .second, .val (.int xq), .val (.int xs), .val (.long v12_2), .second, .val (.int v27_6), .val (.int v66_10), .val (.int v16), .val (.int v18), .unset, .unset] [])) (fun t_ k_ => XS.ifYes X17.here hx rfl (pc0 := 92) (pc' := 105) rfl (hb hby at_92) rfl (own_eqF hc92_19).2 (by decide) (by decide) k_) ?_
      refine own_Goes.via (T' := T17) (g' := (mkF m 106 #[.val (.long xt), .second, .val (.int xp), .val (.long xu), .second, .val (.int xq), .val (.int xs), .val (.long v12_2), .second, .val (.int v27_6), .val (.int v66_10), .val (.int v16), .val (.int v18), .unset, .unset] [(.int (0 : Int32))])) (fun t_ k_ => XS.iconst X17.here hx rfl (hb hby at_105) k_) ?_
      exact J106_22 (0 : Int32) ((if_neg hc92_19)).symm
  intro v106_20 hv106_20
  refine own_Goes.via (T' := T17) (g' := (mkF m 108 #[.val (.long xt), .second, .val (.int xp), .val (.long xu), .second, .val (.int xq), .val (.int xs), .val (.long v12_2), .second, .val (.int v27_6), .val (.int v66_10), .val (.int v16), .val (.int v18), .val (.int v106_20), .unset] [])) (fun t_ k_ => XS.istore X17.here hx rfl (hb hby at_106) rfl (l' := #[.val (.long xt), .second, .val (.int xp), .val (.long xu), .second, .val (.int xq), .val (.int xs), .val (.long v12_2), .second, .val (.int v27_6), .val (.int v66_10), .val (.int v16), .val (.int v18), .val (.int v106_20), .unset]) rfl k_) ?_
  refine own_Goes.via (T' := T17) (g' := (mkF m 110 #[.val (.long xt), .second, .val (.int xp), .val (.long xu), .second, .val (.int xq), .val (.int xs), .val (.long v12_2), .second, .val (.int v27_6), .val (.int v66_10), .val (.int v16), .val (.int v18), .val (.int v106_20), .unset] [(.int v16)])) (fun t_ k_ => XS.iload X17.here hx rfl (hb hby at_108) rfl k_) ?_
  suffices J118_27 : ∀ (v118_25 : Int32) (hv118_25 : v118_25 = (if v16 = (0 : Int32) then (0 : Int32) else (1 : Int32))), own_Goes p.tables e below P T17 (mkF m 118 #[.val (.long xt), .second, .val (.int xp), .val (.long xu), .second, .val (.int xq), .val (.int xs), .val (.long v12_2), .second, .val (.int v27_6), .val (.int v66_10), .val (.int v16), .val (.int v18), .val (.int v106_20), .unset] [(.int v118_25)]) by
    by_cases hc110_24 : v16 = (0 : Int32)
    · refine own_Goes.via (T' := T17) (g' := (mkF m 117 #[.val (.long xt), .second, .val (.int xp), .val (.long xu), .second, .val (.int xq), .val (.int xs), .val (.long v12_2), .second, .val (.int v27_6), .val (.int v66_10), .val (.int v16), .val (.int v18), .val (.int v106_20), .unset] [])) (fun t_ k_ => XS.ifYes X17.here hx rfl (pc0 := 110) (pc' := 117) rfl (hb hby at_110) rfl ((if0 _ _).trans (teq hc110_24).1) (by decide) (by decide) k_) ?_
      refine own_Goes.via (T' := T17) (g' := (mkF m 118 #[.val (.long xt), .second, .val (.int xp), .val (.long xu), .second, .val (.int xq), .val (.int xs), .val (.long v12_2), .second, .val (.int v27_6), .val (.int v66_10), .val (.int v16), .val (.int v18), .val (.int v106_20), .unset] [(.int (0 : Int32))])) (fun t_ k_ => XS.iconst X17.here hx rfl (hb hby at_117) k_) ?_
      exact J118_27 (0 : Int32) ((if_pos hc110_24)).symm
    · refine own_Goes.via (T' := T17) (g' := (mkF m 113 #[.val (.long xt), .second, .val (.int xp), .val (.long xu), .second, .val (.int xq), .val (.int xs), .val (.long v12_2), .second, .val (.int v27_6), .val (.int v66_10), .val (.int v16), .val (.int v18), .val (.int v106_20), .unset] [])) (fun t_ k_ => XS.ifNo X17.here hx rfl (hb hby at_110) rfl ((if0 _ _).trans (feq hc110_24).1) k_) ?_
      refine own_Goes.via (T' := T17) (g' := (mkF m 114 #[.val (.long xt), .second, .val (.int xp), .val (.long xu), .second, .val (.int xq), .val (.int xs), .val (.long v12_2), .second, .val (.int v27_6), .val (.int v66_10), .val (.int v16), .val (.int v18), .val (.int v106_20), .unset] [(.int (1 : Int32))])) (fun t_ k_ => XS.iconst X17.here hx rfl (hb hby at_113) k_) ?_
      refine own_Goes.via (T' := T17) (g' := (mkF m 118 #[.val (.long xt), .second, .val (.int xp), .val (.long xu), .second, .val (.int xq), .val (.int xs), .val (.long v12_2), .second, .val (.int v27_6), .val (.int v66_10), .val (.int v16), .val (.int v18), .val (.int v106_20), .unset] [(.int (1 : Int32))])) (fun t_ k_ => XS.goto X17.here hx rfl (pc0 := 114) (pc' := 118) rfl (hb hby at_114) (by decide) (by decide) k_) ?_
      exact J118_27 (1 : Int32) ((if_neg hc110_24)).symm
  intro v118_25 hv118_25
  refine own_Goes.via (T' := T17) (g' := (mkF m 120 #[.val (.long xt), .second, .val (.int xp), .val (.long xu), .second, .val (.int xq), .val (.int xs), .val (.long v12_2), .second, .val (.int v27_6), .val (.int v66_10), .val (.int v16), .val (.int v18), .val (.int v106_20), .unset] [(.int v18), (.int v118_25)])) (fun t_ k_ => XS.iload X17.here hx rfl (hb hby at_118) rfl k_) ?_
  suffices J128_31 : ∀ (v128_29 : Int32) (hv128_29 : v128_29 = (if v18 = (0 : Int32) then (0 : Int32) else (1 : Int32))), own_Goes p.tables e below P T17 (mkF m 128 #[.val (.long xt), .second, .val (.int xp), .val (.long xu), .second, .val (.int xq), .val (.int xs), .val (.long v12_2), .second, .val (.int v27_6), .val (.int v66_10), .val (.int v16), .val (.int v18), .val (.int v106_20), .unset] [(.int v128_29), (.int v118_25)]) by
    by_cases hc120_28 : v18 = (0 : Int32)
    · refine own_Goes.via (T' := T17) (g' := (mkF m 127 #[.val (.long xt), .second, .val (.int xp), .val (.long xu), .second, .val (.int xq), .val (.int xs), .val (.long v12_2), .second, .val (.int v27_6), .val (.int v66_10), .val (.int v16), .val (.int v18), .val (.int v106_20), .unset] [(.int v118_25)])) (fun t_ k_ => XS.ifYes X17.here hx rfl (pc0 := 120) (pc' := 127) rfl (hb hby at_120) rfl ((if0 _ _).trans (teq hc120_28).1) (by decide) (by decide) k_) ?_
      refine own_Goes.via (T' := T17) (g' := (mkF m 128 #[.val (.long xt), .second, .val (.int xp), .val (.long xu), .second, .val (.int xq), .val (.int xs), .val (.long v12_2), .second, .val (.int v27_6), .val (.int v66_10), .val (.int v16), .val (.int v18), .val (.int v106_20), .unset] [(.int (0 : Int32)), (.int v118_25)])) (fun t_ k_ => XS.iconst X17.here hx rfl (hb hby at_127) k_) ?_
      exact J128_31 (0 : Int32) ((if_pos hc120_28)).symm
    · refine own_Goes.via (T' := T17) (g' := (mkF m 123 #[.val (.long xt), .second, .val (.int xp), .val (.long xu), .second, .val (.int xq), .val (.int xs), .val (.long v12_2), .second, .val (.int v27_6), .val (.int v66_10), .val (.int v16), .val (.int v18), .val (.int v106_20), .unset] [(.int v118_25)])) (fun t_ k_ => XS.ifNo X17.here hx rfl (hb hby at_120) rfl ((if0 _ _).trans (feq hc120_28).1) k_) ?_
      refine own_Goes.via (T' := T17) (g' := (mkF m 124 #[.val (.long xt), .second, .val (.int xp), .val (.long xu), .second, .val (.int xq), .val (.int xs), .val (.long v12_2), .second, .val (.int v27_6), .val (.int v66_10), .val (.int v16), .val (.int v18), .val (.int v106_20), .unset] [(.int (1 : Int32)), (.int v118_25)])) (fun t_ k_ => XS.iconst X17.here hx rfl (hb hby at_123) k_) ?_
      refine own_Goes.via (T' := T17) (g' := (mkF m 128 #[.val (.long xt), .second, .val (.int xp), .val (.long xu), .second, .val (.int xq), .val (.int xs), .val (.long v12_2), .second, .val (.int v27_6), .val (.int v66_10), .val (.int v16), .val (.int v18), .val (.int v106_20), .unset] [(.int (1 : Int32)), (.int v118_25)])) (fun t_ k_ => XS.goto X17.here hx rfl (pc0 := 124) (pc' := 128) rfl (hb hby at_124) (by decide) (by decide) k_) ?_
      exact J128_31 (1 : Int32) ((if_neg hc120_28)).symm
  intro v128_29 hv128_29
  refine own_Goes.via (T' := T17) (g' := (mkF m 129 #[.val (.long xt), .second, .val (.int xp), .val (.long xu), .second, .val (.int xq), .val (.int xs), .val (.long v12_2), .second, .val (.int v27_6), .val (.int v66_10), .val (.int v16), .val (.int v18), .val (.int v106_20), .unset] [(.int (v118_25 + v128_29))])) (fun t_ k_ => XS.iadd X17.here hx rfl (hb hby at_128) rfl k_) ?_
  refine own_Goes.via (T' := T17) (g' := (mkF m 131 #[.val (.long xt), .second, .val (.int xp), .val (.long xu), .second, .val (.int xq), .val (.int xs), .val (.long v12_2), .second, .val (.int v27_6), .val (.int v66_10), .val (.int v16), .val (.int v18), .val (.int v106_20), .unset] [(.int v106_20), (.int (v118_25 + v128_29))])) (fun t_ k_ => XS.iload X17.here hx rfl (hb hby at_129) rfl k_) ?_
  suffices J139_35 : ∀ (v139_33 : Int32) (hv139_33 : v139_33 = (if v106_20 = (0 : Int32) then (0 : Int32) else (1 : Int32))), own_Goes p.tables e below P T17 (mkF m 139 #[.val (.long xt), .second, .val (.int xp), .val (.long xu), .second, .val (.int xq), .val (.int xs), .val (.long v12_2), .second, .val (.int v27_6), .val (.int v66_10), .val (.int v16), .val (.int v18), .val (.int v106_20), .unset] [(.int v139_33), (.int (v118_25 + v128_29))]) by
    by_cases hc131_32 : v106_20 = (0 : Int32)
    · refine own_Goes.via (T' := T17) (g' := (mkF m 138 #[.val (.long xt), .second, .val (.int xp), .val (.long xu), .second, .val (.int xq), .val (.int xs), .val (.long v12_2), .second, .val (.int v27_6), .val (.int v66_10), .val (.int v16), .val (.int v18), .val (.int v106_20), .unset] [(.int (v118_25 + v128_29))])) (fun t_ k_ => XS.ifYes X17.here hx rfl (pc0 := 131) (pc' := 138) rfl (hb hby at_131) rfl ((if0 _ _).trans (teq hc131_32).1) (by decide) (by decide) k_) ?_
      refine own_Goes.via (T' := T17) (g' := (mkF m 139 #[.val (.long xt), .second, .val (.int xp), .val (.long xu), .second, .val (.int xq), .val (.int xs), .val (.long v12_2), .second, .val (.int v27_6), .val (.int v66_10), .val (.int v16), .val (.int v18), .val (.int v106_20), .unset] [(.int (0 : Int32)), (.int (v118_25 + v128_29))])) (fun t_ k_ => XS.iconst X17.here hx rfl (hb hby at_138) k_) ?_
      exact J139_35 (0 : Int32) ((if_pos hc131_32)).symm
    · refine own_Goes.via (T' := T17) (g' := (mkF m 134 #[.val (.long xt), .second, .val (.int xp), .val (.long xu), .second, .val (.int xq), .val (.int xs), .val (.long v12_2), .second, .val (.int v27_6), .val (.int v66_10), .val (.int v16), .val (.int v18), .val (.int v106_20), .unset] [(.int (v118_25 + v128_29))])) (fun t_ k_ => XS.ifNo X17.here hx rfl (hb hby at_131) rfl ((if0 _ _).trans (feq hc131_32).1) k_) ?_
      refine own_Goes.via (T' := T17) (g' := (mkF m 135 #[.val (.long xt), .second, .val (.int xp), .val (.long xu), .second, .val (.int xq), .val (.int xs), .val (.long v12_2), .second, .val (.int v27_6), .val (.int v66_10), .val (.int v16), .val (.int v18), .val (.int v106_20), .unset] [(.int (1 : Int32)), (.int (v118_25 + v128_29))])) (fun t_ k_ => XS.iconst X17.here hx rfl (hb hby at_134) k_) ?_
      refine own_Goes.via (T' := T17) (g' := (mkF m 139 #[.val (.long xt), .second, .val (.int xp), .val (.long xu), .second, .val (.int xq), .val (.int xs), .val (.long v12_2), .second, .val (.int v27_6), .val (.int v66_10), .val (.int v16), .val (.int v18), .val (.int v106_20), .unset] [(.int (1 : Int32)), (.int (v118_25 + v128_29))])) (fun t_ k_ => XS.goto X17.here hx rfl (pc0 := 135) (pc' := 139) rfl (hb hby at_135) (by decide) (by decide) k_) ?_
      exact J139_35 (1 : Int32) ((if_neg hc131_32)).symm
  intro v139_33 hv139_33
  refine own_Goes.via (T' := T17) (g' := (mkF m 140 #[.val (.long xt), .second, .val (.int xp), .val (.long xu), .second, .val (.int xq), .val (.int xs), .val (.long v12_2), .second, .val (.int v27_6), .val (.int v66_10), .val (.int v16), .val (.int v18), .val (.int v106_20), .unset] [(.int ((v118_25 + v128_29) + v139_33))])) (fun t_ k_ => XS.iadd X17.here hx rfl (hb hby at_139) rfl k_) ?_
  refine own_Goes.via (T' := T17) (g' := (mkF m 142 #[.val (.long xt), .second, .val (.int xp), .val (.long xu), .second, .val (.int xq), .val (.int xs), .val (.long v12_2), .second, .val (.int v27_6), .val (.int v66_10), .val (.int v16), .val (.int v18), .val (.int v106_20), .val (.int ((v118_25 + v128_29) + v139_33))] [])) (fun t_ k_ => XS.istore X17.here hx rfl (hb hby at_140) rfl (l' := #[.val (.long xt), .second, .val (.int xp), .val (.long xu), .second, .val (.int xq), .val (.int xs), .val (.long v12_2), .second, .val (.int v27_6), .val (.int v66_10), .val (.int v16), .val (.int v18), .val (.int v106_20), .val (.int ((v118_25 + v128_29) + v139_33))]) rfl k_) ?_
  obtain ⟨v36, hv36⟩ : ∃ z : Int32, z = ((v118_25 + v128_29) + v139_33) := ⟨_, rfl⟩
  rw [← hv36]
  refine own_Goes.via (T' := T17) (g' := (mkF m 144 #[.val (.long xt), .second, .val (.int xp), .val (.long xu), .second, .val (.int xq), .val (.int xs), .val (.long v12_2), .second, .val (.int v27_6), .val (.int v66_10), .val (.int v16), .val (.int v18), .val (.int v106_20), .val (.int v36)] [(.int v16)])) (fun t_ k_ => XS.iload X17.here hx rfl (hb hby at_142) rfl k_) ?_
  refine own_Goes.via (T' := T17) (g' := (mkF m 146 #[.val (.long xt), .second, .val (.int xp), .val (.long xu), .second, .val (.int xq), .val (.int xs), .val (.long v12_2), .second, .val (.int v27_6), .val (.int v66_10), .val (.int v16), .val (.int v18), .val (.int v106_20), .val (.int v36)] [(.int v66_10), (.int v16)])) (fun t_ k_ => XS.iload X17.here hx rfl (hb hby at_144) rfl k_) ?_
  suffices J160_40 : ∀ (v160_38 : Int32) (hv160_38 : v160_38 = (if v16 = v66_10 then (if v36 = (1 : Int32) then (1 : Int32) else (0 : Int32)) else (0 : Int32))), own_Goes p.tables e below P T17 (mkF m 160 #[.val (.long xt), .second, .val (.int xp), .val (.long xu), .second, .val (.int xq), .val (.int xs), .val (.long v12_2), .second, .val (.int v27_6), .val (.int v66_10), .val (.int v16), .val (.int v18), .val (.int v106_20), .val (.int v36)] [(.int v160_38)]) by
    by_cases hc146_37 : v16 = v66_10
    · refine own_Goes.via (T' := T17) (g' := (mkF m 149 #[.val (.long xt), .second, .val (.int xp), .val (.long xu), .second, .val (.int xq), .val (.int xs), .val (.long v12_2), .second, .val (.int v27_6), .val (.int v66_10), .val (.int v16), .val (.int v18), .val (.int v106_20), .val (.int v36)] [])) (fun t_ k_ => XS.icmpNo X17.here hx rfl (hb hby at_146) rfl (teq hc146_37).2 k_) ?_
      refine own_Goes.via (T' := T17) (g' := (mkF m 151 #[.val (.long xt), .second, .val (.int xp), .val (.long xu), .second, .val (.int xq), .val (.int xs), .val (.long v12_2), .second, .val (.int v27_6), .val (.int v66_10), .val (.int v16), .val (.int v18), .val (.int v106_20), .val (.int v36)] [(.int v36)])) (fun t_ k_ => XS.iload X17.here hx rfl (hb hby at_149) rfl k_) ?_
      refine own_Goes.via (T' := T17) (g' := (mkF m 152 #[.val (.long xt), .second, .val (.int xp), .val (.long xu), .second, .val (.int xq), .val (.int xs), .val (.long v12_2), .second, .val (.int v27_6), .val (.int v66_10), .val (.int v16), .val (.int v18), .val (.int v106_20), .val (.int v36)] [(.int (1 : Int32)), (.int v36)])) (fun t_ k_ => XS.iconst X17.here hx rfl (hb hby at_151) k_) ?_
      by_cases hc152_41 : v36 = (1 : Int32)
      · refine own_Goes.via (T' := T17) (g' := (mkF m 155 #[.val (.long xt), .second, .val (.int xp), .val (.long xu), .second, .val (.int xq), .val (.int xs), .val (.long v12_2), .second, .val (.int v27_6), .val (.int v66_10), .val (.int v16), .val (.int v18), .val (.int v106_20), .val (.int v36)] [])) (fun t_ k_ => XS.icmpNo X17.here hx rfl (hb hby at_152) rfl (teq hc152_41).2 k_) ?_
        refine own_Goes.via (T' := T17) (g' := (mkF m 156 #[.val (.long xt), .second, .val (.int xp), .val (.long xu), .second, .val (.int xq), .val (.int xs), .val (.long v12_2), .second, .val (.int v27_6), .val (.int v66_10), .val (.int v16), .val (.int v18), .val (.int v106_20), .val (.int v36)] [(.int (1 : Int32))])) (fun t_ k_ => XS.iconst X17.here hx rfl (hb hby at_155) k_) ?_
        refine own_Goes.via (T' := T17) (g' := (mkF m 160 #[.val (.long xt), .second, .val (.int xp), .val (.long xu), .second, .val (.int xq), .val (.int xs), .val (.long v12_2), .second, .val (.int v27_6), .val (.int v66_10), .val (.int v16), .val (.int v18), .val (.int v106_20), .val (.int v36)] [(.int (1 : Int32))])) (fun t_ k_ => XS.goto X17.here hx rfl (pc0 := 156) (pc' := 160) rfl (hb hby at_156) (by decide) (by decide) k_) ?_
        exact J160_40 (1 : Int32) (((if_pos hc146_37).trans (if_pos hc152_41))).symm
      · refine own_Goes.via (T' := T17) (g' := (mkF m 159 #[.val (.long xt), .second, .val (.int xp), .val (.long xu), .second, .val (.int xq), .val (.int xs), .val (.long v12_2), .second, .val (.int v27_6), .val (.int v66_10), .val (.int v16), .val (.int v18), .val (.int v106_20), .val (.int v36)] [])) (fun t_ k_ => XS.icmpYes X17.here hx rfl (pc0 := 152) (pc' := 159) rfl (hb hby at_152) rfl (feq hc152_41).2 (by decide) (by decide) k_) ?_
        refine own_Goes.via (T' := T17) (g' := (mkF m 160 #[.val (.long xt), .second, .val (.int xp), .val (.long xu), .second, .val (.int xq), .val (.int xs), .val (.long v12_2), .second, .val (.int v27_6), .val (.int v66_10), .val (.int v16), .val (.int v18), .val (.int v106_20), .val (.int v36)] [(.int (0 : Int32))])) (fun t_ k_ => XS.iconst X17.here hx rfl (hb hby at_159) k_) ?_
        exact J160_40 (0 : Int32) (((if_pos hc146_37).trans (if_neg hc152_41))).symm
    · refine own_Goes.via (T' := T17) (g' := (mkF m 159 #[.val (.long xt), .second, .val (.int xp), .val (.long xu), .second, .val (.int xq), .val (.int xs), .val (.long v12_2), .second, .val (.int v27_6), .val (.int v66_10), .val (.int v16), .val (.int v18), .val (.int v106_20), .val (.int v36)] [])) (fun t_ k_ => XS.icmpYes X17.here hx rfl (pc0 := 146) (pc' := 159) rfl (hb hby at_146) rfl (feq hc146_37).2 (by decide) (by decide) k_) ?_
      refine own_Goes.via (T' := T17) (g' := (mkF m 160 #[.val (.long xt), .second, .val (.int xp), .val (.long xu), .second, .val (.int xq), .val (.int xs), .val (.long v12_2), .second, .val (.int v27_6), .val (.int v66_10), .val (.int v16), .val (.int v18), .val (.int v106_20), .val (.int v36)] [(.int (0 : Int32))])) (fun t_ k_ => XS.iconst X17.here hx rfl (hb hby at_159) k_) ?_
      exact J160_40 (0 : Int32) ((if_neg hc146_37)).symm
  intro v160_38 hv160_38
  have hfin : v160_38 = 1 := own_pl0_0 hv12_2 hv27_6 hv66_10 hv16 hv18 hv106_20 hv118_25 hv128_29 hv139_33 hv36 hv160_38
  rw [hfin]
  obtain ⟨fs, hr, hrun, hended, hW, hsame⟩ := X17.leave (v := some (.int 1)) (fun h => by rw [Bd.returns] at h; cases h)
  refine own_Goes.fin (retN X17 hx (t := .boolean) Bd.returns (by simp) (hb hby at_160) hr) hrun hended ?_
  subst hPd
  refine ⟨_, _, rfl, ?_, ⟨_, rfl⟩, hW, hsame.mono (by decide) (by decide)⟩
  show Q0 Z xt xp xu xq xs h0 n0 _ T17.heap _
  rw [hh17]
  exact ⟨rfl, N17⟩
set_option maxRecDepth 65536 in
set_option maxHeartbeats 40000000 in
theorem comes_1 {Post : Tables → Env → Array Value → State → Outcome → State → Prop} (hpost : ∀ tb e args s v u, (limb_1_1.after args s (.returned v) u = true ∧ limb_1_2.after args s (.returned v) u = true ∧ True) → FrameEnd s (.returned v) u (Jvm.fieldLocs frame_1_writes args s ++ Jvm.arrayLocs frame_1_arrays args s ++ Jvm.staticLocs frame_1_statics s) 0 0 → Post tb e args s (.returned v) u) :
    ArmFor flags0 classFile x code maxLocals ret World_1 tables_1 room_1 Calls_1 rest_1 Pre_1 Post := by
  intro l hfl _ _ p e ha hc hk s m args below hf hA hF happ hP
  obtain ⟨hcalls, hrest, hpre⟩ := hP
  obtain ⟨-, -, -, hnamed, -, -, -, hat⟩ := (Spec.applies_iff hf).mp happ
  obtain ⟨hg, hn⟩ := and_e (Cond.before_iff.mp (show (Jvm.Cond.and given_1 narrow_1).before args s = true from hpre))
  obtain ⟨g1, g2⟩ := and_e hg
  obtain ⟨g3, g4⟩ := and_e g2
  obtain ⟨g5, g6⟩ := and_e g4
  obtain ⟨g7, g8⟩ := and_e g6
  obtain ⟨g9, g10⟩ := and_e g8
  obtain ⟨w0, w1, w2, w3, w4, rfl⟩ : ∃ w0 w1 w2 w3 w4 : Value, args = #[w0, w1, w2, w3, w4] := by
    have hs : args.size = 5 := by simpa [Cond.value, given_1] using g1
    obtain ⟨L⟩ := args
    match L, hs with
    | [w0, w1, w2, w3, w4], _ => exact ⟨w0, w1, w2, w3, w4, rfl⟩
  have hw := fun d (hd : d ∈ tables_1) => atoms_spec (ws := Jvm.Cond.code x code maxLocals ret :: tables_1) hat d (List.mem_cons_of_mem _ hd)
  have hfit : Fit s := fun {y c} hc i hi => by
    obtain ⟨ha, rfl⟩ := Array.getElem?_eq_some_iff.mp hc
    have q := List.all_eq_true.mp ((Array.all_eq_true_iff_forall_mem.mp hF) _ (Array.getElem_mem ha)) i (List.mem_range.mpr hi)
    simpa [Array.getElem?_eq_getElem hi] using q
  obtain ⟨i0, ei0⟩ := isL_v g3
  obtain rfl : w0 = (.long i0) := Option.some.inj ei0
  obtain ⟨i1, ei1⟩ := is_v g5
  obtain rfl : w1 = (.int i1) := Option.some.inj ei1
  obtain ⟨i2, ei2⟩ := isL_v g7
  obtain rfl : w2 = (.long i2) := Option.some.inj ei2
  obtain ⟨i3, ei3⟩ := is_v g9
  obtain rfl : w3 = (.int i3) := Option.some.inj ei3
  obtain ⟨i4, ei4⟩ := is_v g10
  obtain rfl : w4 = (.int i4) := Option.some.inj ei4
  obtain ⟨n, o, h1, h2, h3, _, L, rfl, ⟨rfl, N⟩, hq⟩ := rm0 l s _ hw tables_1 i0 i1 i2 i3 i4  s.heap s.heap.size (Nat.le_refl _)  p e ha hc hk s m _ below hf ((Spec.applies_iff_loose hf).mp happ).1 ⟨rfl, State.Warmed39.refl s, rfl⟩ trivial
  refine ⟨n, _, h1, h2, h3, hpost _ _ _ _ _ _ ⟨Cond.after_iff.mpr rfl, Cond.after_iff.mpr (eq_i res_at (Term.int_eval (1)) rfl), trivial⟩ ⟨hq.1, hq.2.1, (hq.2.2.sift fun y hy => Or.inr (N y hy)).mono (by decide) (by decide)⟩⟩
theorem main_1_1 : Claimed_1_1 := comes_1 fun _ _ _ _ _ _ h hF => ⟨h.1, hF⟩
theorem main_1_2 : Claimed_1_2 := comes_1 fun _ _ _ _ _ _ h hF => ⟨h.2.1, hF⟩
end Jvm.Pilot.@@N@@
namespace Jvm.Pilot.@@N@@
open Jvm Jvm.ClassFile Sem Op Lib Jvm.Free Jvm.Stand Jvm.Pilot.@@N@@.Jvm.D
/-! MADE BY PROGRAM (witnessworld.py) out of the Statement's table words and the real class files: 9 classes; the members and pool entries that the words name. The judged class is class 1, her method 1. -/
namespace start1
open Jvm.ClassFile
def u (s : String) : CpInfo := .utf8 (stringToUtf16 s)
/-- a pool by its gaps: so many unusable entries, then the entry; so many at the end -/
def gap : Nat → List CpInfo → List CpInfo
  | 0, r => r
  | n + 1, r => .unusable :: gap n r
def poolList (es : List (Nat × CpInfo)) (last : Nat) : List CpInfo := es.foldr (fun e r => gap e.1 (e.2 :: r)) (gap last [])
def pool (es : List (Nat × CpInfo)) (last : Nat) : Array CpInfo := ⟨poolList es last⟩
def fileOf (pool : Array CpInfo) (this : Nat) (attrs : Array Attribute := #[]) (ms : Array MethodInfo := #[]) (fl : Nat := 33) (sup : Nat := 0) (ifs : Array Nat := #[]) (fds : Array FieldInfo := #[]) : ClassFile where
  minorVersion := 0
  majorVersion := 65
  constantPool := pool
  accessFlags := fl
  thisClass := this
  superClass := sup
  interfaces := ifs
  fields := fds
  methods := ms
  attributes := attrs
def plain (name : String) (sup : Option ClassId) : Class where
  name := name
  kind := .ordinary
  loader := none
  accessFlags := 33
  super := sup
  interfaces := #[]
  cf := none
  fields := #[]
  methods := #[]
  instanceTypes := #[]
  staticTypes := #[]
  resolved := #[]
  callSites := []
  init := .initialized
  statics := none
  mirror := none

def pool0 : Array CpInfo := pool [(5, u "<init>"), (0, u "()V"), (1, .class_ 10), (1, u "java/lang/Object")] 113

def k0m0 : Method := { name := "<init>", desc := "()V", sig := { parameters := [], returnType := none }, accessFlags := 1, code := none }
/-- java/lang/Object -/
def k0 : Class := { plain "java/lang/Object" none with
  accessFlags := 33
  interfaces := #[]
  cf := some (fileOf pool0 8 #[] #[{ accessFlags := 1, nameIndex := 5, descriptorIndex := 6, attributes := #[] }] 33 0 #[] #[])
  fields := #[]
  methods := #[k0m0]
  instanceTypes := #[]
  staticTypes := #[]
  resolved := Array.replicate 124 none
  statics := none }

def pool1 : Array CpInfo := pool [(2, .class_ 4), (1, u "java/lang/Object"), (0, u "<init>"), (0, u "()V"), (0, .methodref 8 9), (0, .class_ 10), (0, .nameAndType 11 12), (0, u "com/example/ogmios/ogmios/mutex/Timestamps"), (0, u "before"), (0, u "(JIJI)Z"), (0, .class_ 14), (0, u "com/example/ogmios/ogmios/mutex/TimestampsBeforePinLaw"), (2, u "law"), (0, u "(JIJII)Z")] 3

def k1m0 : Method := { name := "<init>", desc := "()V", sig := { parameters := [], returnType := none }, accessFlags := 2, code := none }
def k1c1 : Code := { maxStack := 6, maxLocals := 15, code := code, exceptionTable := #[], attributes := #[] }
def k1m1 : Method := { name := "law", desc := "(JIJII)Z", sig := { parameters := [.long, .int, .long, .int, .int], returnType := some .boolean }, accessFlags := 9, code := some k1c1 }
/-- com/example/ogmios/ogmios/mutex/TimestampsBeforePinLaw -/
def k1 : Class := { plain "com/example/ogmios/ogmios/mutex/TimestampsBeforePinLaw" (some 0) with
  accessFlags := 49
  interfaces := #[]
  cf := some (fileOf pool1 13 #[] #[{ accessFlags := 2, nameIndex := 5, descriptorIndex := 6, attributes := #[] }, { accessFlags := 9, nameIndex := 17, descriptorIndex := 18, attributes := #[] }] 49 2 #[] #[])
  fields := #[]
  methods := #[k1m0, k1m1]
  instanceTypes := #[]
  staticTypes := #[]
  resolved := Array.replicate 22 none
  statics := none }

def pool2 : Array CpInfo := pool [(2, .class_ 4), (1, u "java/lang/Object"), (0, u "<init>"), (0, u "()V"), (0, .class_ 8), (0, u "com/example/ogmios/ogmios/mutex/Timestamps"), (2, u "before"), (0, u "(JIJI)Z")] 3

def k2m0 : Method := { name := "<init>", desc := "()V", sig := { parameters := [], returnType := none }, accessFlags := 2, code := none }
def k2c1 : Code := { maxStack := 4, maxLocals := 6, code := prog_16_method_2_code, exceptionTable := #[], attributes := #[] }
def k2m1 : Method := { name := "before", desc := "(JIJI)Z", sig := { parameters := [.long, .int, .long, .int], returnType := some .boolean }, accessFlags := 8, code := some k2c1 }
/-- com/example/ogmios/ogmios/mutex/Timestamps -/
def k2 : Class := { plain "com/example/ogmios/ogmios/mutex/Timestamps" (some 0) with
  accessFlags := 32
  interfaces := #[]
  cf := some (fileOf pool2 7 #[] #[{ accessFlags := 2, nameIndex := 5, descriptorIndex := 6, attributes := #[] }, { accessFlags := 8, nameIndex := 11, descriptorIndex := 12, attributes := #[] }] 32 2 #[] #[])
  fields := #[]
  methods := #[k2m0, k2m1]
  instanceTypes := #[]
  staticTypes := #[]
  resolved := Array.replicate 16 none
  statics := none }

def pool3 : Array CpInfo := pool [(1, u "java/lang/Cloneable"), (0, .class_ 1), (0, u "java/lang/Object"), (0, .class_ 3)] 3

/-- java/lang/Cloneable -/
def k3 : Class := { plain "java/lang/Cloneable" (some 0) with
  accessFlags := 1537
  interfaces := #[]
  cf := some (fileOf pool3 2 #[] #[] 1537 4 #[] #[])
  fields := #[]
  methods := #[]
  instanceTypes := #[]
  staticTypes := #[]
  resolved := Array.replicate 8 none
  statics := none }

def pool4 : Array CpInfo := pool [(1, u "java/io/Serializable"), (0, .class_ 1), (0, u "java/lang/Object"), (0, .class_ 3)] 3

/-- java/io/Serializable -/
def k4 : Class := { plain "java/io/Serializable" (some 0) with
  accessFlags := 1537
  interfaces := #[]
  cf := some (fileOf pool4 2 #[] #[] 1537 4 #[] #[])
  fields := #[]
  methods := #[]
  instanceTypes := #[]
  staticTypes := #[]
  resolved := Array.replicate 8 none
  statics := none }

/-- the primitive byte -/
def k5 : Class := { plain "byte" none with kind := .primitive 'B', accessFlags := 0x411 }
/-- [B -/
def k6 : Class := { plain "[B" (some 0) with kind := .array 5 .byte, interfaces := #[3, 4], accessFlags := 1041 }

/-- the primitive int -/
def k7 : Class := { plain "int" none with kind := .primitive 'I', accessFlags := 0x411 }
/-- [I -/
def k8 : Class := { plain "[I" (some 0) with kind := .array 7 .int, interfaces := #[3, 4], accessFlags := 1041 }

def heap : Heap := #[]
def classes : Array Class := #[k0, k1, k2, k3, k4, k5, k6, k7, k8]
def interned : List (Array UInt16 × Addr) := []
def slotsUsed : Nat := 0
def theMethod : MethodId := ⟨1, 1⟩
def args0 : Array Value := #[.long 5, .int 1, .long 7, .int 2, .int 3]
def aboutOver (below : List Frame) : State where
  vm := { classes := classes, interned := interned.toArray }
  heap := heap
  slotsUsed := slotsUsed
  threads := #[{ frames := .invoking theMethod args0 :: below }]
def below0 : List Frame := [.native { method := ⟨0, 0⟩, args := #[] }]
def about1 : State := aboutOver below0
def p0 : Program := .bare "" "" ""
def e0 : Env := launch0.env 0 0 0
theorem w_frames : about1.frames = Frame.invoking theMethod args0 :: below0 := rfl
set_option maxRecDepth 65536 in
theorem w_args : argsFit about1.vm theMethod args0 = true := by decide +kernel
set_option maxRecDepth 65536 in
theorem w_heap : heapFits about1 = true := by decide +kernel
set_option maxRecDepth 65536 in
theorem w_runnable : about1.curStatus? = some .runnable := by decide +kernel
set_option maxRecDepth 65536 in
theorem w_alone : about1.alone = true := by decide +kernel
set_option maxRecDepth 65536 in
theorem w_named : about1.methodNamed? x = some theMethod := by decide +kernel
set_option maxRecDepth 65536 in
theorem w_hears : about1.hears theMethod below0 = true := by decide +kernel
set_option maxRecDepth 65536 in
theorem w_ripe : about1.ripe theMethod args0 below0 = true := by decide +kernel
theorem w_running : about1.status = .running := rfl
set_option maxRecDepth 65536 in
theorem w_room : about1.hasRoom e0.platform room_1 = true :=
  launch0.hasRoom_least _ room_1 (by decide +kernel) (by decide +kernel) (by decide +kernel) (by decide +kernel) (by decide +kernel) (by decide +kernel)
theorem allAtoms_all (ts : List Jvm.Cond) (a : Array Jvm.Value) (st : Jvm.State) : (allAtoms ts).before a st = ts.all (fun c => c.before a st) := by
  induction ts with
  | nil => rfl
  | cons c t ih =>
    show (Jvm.Cond.and c (allAtoms t)).before a st = _
    rw [Jvm.Cond.before_and, ih, List.all_cons]
def words1 : List Jvm.Cond := Jvm.Cond.code x code maxLocals ret :: tables_1
/-- a 'code' word, met by the world's own term for the bytes: nothing is compared byte by byte -/
theorem code_word {y : MethodName} {bytes : ByteArray} {mx : Nat} {rt : Option FieldType} {a : Array Value} {s : State} {m : MethodId} {meth : Method} {c : Code} (h1 : s.methodNamed? y = some m) (h2 : s.vm.method? m = some meth) (h3 : meth.code = some c) (h4 : c.code = bytes)
    (h5 : (c.maxLocals == mx && c.exceptionTable.isEmpty && decide (c.maxStack ≤ mostOperands) && decide (meth.sig.returnType = rt) && !meth.locks && decide (parseMethodDescriptor y.desc = some meth.sig)) = true) : (Jvm.Cond.code y bytes mx rt).before a s = true := by
  simp only [Bool.and_eq_true, beq_iff_eq, Bool.not_eq_true', decide_eq_true_eq] at h5
  obtain ⟨⟨⟨⟨⟨g1, g2⟩, g3⟩, g4⟩, g5⟩, g6⟩ := h5
  simp [Cond.before, Cond.holds, Cond.value, h1, h2, h3, h4, g1, g2, g3, g4, g5, g6]
def isCode : Jvm.Cond → Bool
  | .code _ _ _ _ => true
  | _ => false
theorem all_split {L : List Jvm.Cond} {P : Jvm.Cond → Bool} (h1 : L.all (fun c => isCode c || P c) = true) (h2 : ∀ c ∈ L.filter isCode, P c = true) : L.all P = true := by
  refine List.all_eq_true.mpr fun c hc => ?_
  have h := List.all_eq_true.mp h1 c hc
  rcases Bool.eq_false_or_eq_true (isCode c) with hi | hi
  · exact h2 c (List.mem_filter.mpr ⟨hc, hi⟩)
  · simpa [hi] using h
set_option maxRecDepth 65536 in
theorem w_c0 : (Jvm.Cond.code x code maxLocals ret).before args0 about1 = true := code_word (m := ⟨1, 1⟩) (meth := k1m1) (c := k1c1) (by decide +kernel) rfl rfl rfl (by decide +kernel)
set_option maxRecDepth 65536 in
theorem w_c1 : (Jvm.Cond.code ({ cls := "com/example/ogmios/ogmios/mutex/Timestamps", name := "before", desc := "(JIJI)Z" } : Jvm.MethodName) prog_16_method_2_code (6 : Nat) (Option.some Jvm.ClassFile.FieldType.boolean)).before args0 about1 = true := code_word (m := ⟨2, 1⟩) (meth := k2m1) (c := k2c1) (by decide +kernel) rfl rfl rfl (by decide +kernel)
def codes1 : List Jvm.Cond := [Jvm.Cond.code x code maxLocals ret, Jvm.Cond.code ({ cls := "com/example/ogmios/ogmios/mutex/Timestamps", name := "before", desc := "(JIJI)Z" } : Jvm.MethodName) prog_16_method_2_code (6 : Nat) (Option.some Jvm.ClassFile.FieldType.boolean)]
set_option maxRecDepth 65536 in
theorem codes_eq : words1.filter isCode = codes1 := rfl
theorem w_codes : ∀ c ∈ words1.filter isCode, c.before args0 about1 = true := by
  rw [codes_eq]
  intro c hc
  simp only [codes1, List.mem_cons, List.not_mem_nil, or_false] at hc
  rcases hc with rfl | rfl
  · exact w_c0
  · exact w_c1
set_option maxRecDepth 65536 in
theorem w_t1 : words1.all (fun c => isCode c || c.before args0 about1) = true := by decide +kernel
theorem w_tables : (allAtoms (Jvm.Cond.code x code maxLocals ret :: tables_1)).before args0 about1 = true := by
  rw [allAtoms_all]
  show words1.all (fun c => c.before args0 about1) = true
  refine all_split ?_ w_codes
  rw [w_t1]
set_option maxRecDepth 65536 in
theorem w_case : (Jvm.Cond.and given_1 narrow_1).before args0 about1 = true := by decide +kernel
theorem w_applies : (headSpec (Jvm.Cond.code x code maxLocals ret :: tables_1) room_1).applies x e0.platform about1 = true :=
  (Spec.applies_iff w_frames).mpr ⟨w_running, w_runnable, w_alone, w_named, w_hears, w_ripe, w_room, w_tables⟩
theorem atStart : AtStart classFile x code maxLocals ret World_1 tables_1 room_1 Calls_1 rest_1 Pre_1 launch0 p0 e0 about1 theMethod args0 below0 :=
  ⟨lists_1, trivial, launch0.admits_env _ _ _, launch0.least_env, fairChoices_fair.cas, fairChoices_fair.clock, w_frames, w_args, w_heap, w_applies, trivial, trivial, w_case⟩
end start1
theorem witness_1 : WitnessClaimed_1 := ⟨start1.p0, start1.e0, start1.about1, start1.theMethod, start1.args0, start1.below0, start1.atStart⟩
end Jvm.Pilot.@@N@@
