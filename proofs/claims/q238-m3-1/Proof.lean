import JvmDerived
import JvmDerived.Pilot.@@N@@Statement
import JvmDerived.Pilot.@@N@@Code
set_option linter.unusedVariables false
set_option linter.unusedSimpArgs false
@@BLOCK:NumsL.lean.txt@@
namespace Jvm.Pilot.@@N@@
open Jvm Jvm.ClassFile Sem Op Lib Jvm.Free Jvm.Stand Jvm.LawKit Jvm.RoadKit Bundle Jvm.Pilot.@@N@@.Jvm.D
/-- from the state T with the frame g the run comes to an end that P speaks of -/
def own_Goes (tb : Tables) (e : Env) (below : List Frame) (P : Outcome → State → Prop) (T : State) (g : JFrame) : Prop :=
  ∃ s₂ o, Steps tb e below (T.setTop g) s₂ ∧ s₂.status = .running ∧ Ended s₂ below o ∧ P o s₂
theorem own_Goes.via {tb : Tables} {e : Env} {below : List Frame} {P : Outcome → State → Prop} {T T' : State} {g g' : JFrame} (h : ∀ t, Steps tb e below (T'.setTop g') t → Steps tb e below (T.setTop g) t) (k : own_Goes tb e below P T' g') : own_Goes tb e below P T g := by
  obtain ⟨s₂, o, a, b⟩ := k
  exact ⟨s₂, o, h _ a, b⟩
theorem own_Goes.fin {tb : Tables} {e : Env} {below : List Frame} {P : Outcome → State → Prop} {T s₂ : State} {g : JFrame} {o : Outcome} (h1 : Steps tb e below (T.setTop g) s₂) (h2 : s₂.status = .running) (h3 : Ended s₂ below o) (h4 : P o s₂) : own_Goes tb e below P T g := ⟨s₂, o, h1, h2, h3, h4⟩
theorem own_ltT {x y : Int64} (h : x < y) : ifCond.holds .lt (lcmpW x y) = true ∧ ifCond.holds .ge (lcmpW x y) = false := by
  have q : lcmpW x y < 0 := by rw [lcW]; exact (lc_lt x y).mpr h
  exact ⟨(if0 _ _).trans (tlt q).1, (if0 _ _).trans (tlt q).2.1⟩
theorem own_ltF {x y : Int64} (h : ¬ x < y) : ifCond.holds .lt (lcmpW x y) = false ∧ ifCond.holds .ge (lcmpW x y) = true := by
  have q : ¬ lcmpW x y < 0 := by rw [lcW]; exact fun z => h ((lc_lt x y).mp z)
  exact ⟨(if0 _ _).trans (flt q).1, (if0 _ _).trans (flt q).2.1⟩
theorem own_gtT {x y : Int64} (h : y < x) : ifCond.holds .gt (lcmpW x y) = true ∧ ifCond.holds .le (lcmpW x y) = false := by
  have q : 0 < lcmpW x y := by rw [lcW]; exact (lc_gt x y).mpr h
  exact ⟨(if0 _ _).trans (tlt q).2.2.1, (if0 _ _).trans (tlt q).2.2.2⟩
theorem own_gtF {x y : Int64} (h : ¬ y < x) : ifCond.holds .gt (lcmpW x y) = false ∧ ifCond.holds .le (lcmpW x y) = true := by
  have q : ¬ 0 < lcmpW x y := by rw [lcW]; exact fun z => h ((lc_gt x y).mp z)
  exact ⟨(if0 _ _).trans (flt q).2.2.1, (if0 _ _).trans (flt q).2.2.2⟩
theorem own_eqT {x y : Int64} (h : x = y) : ifCond.holds .eq (lcmpW x y) = true ∧ ifCond.holds .ne (lcmpW x y) = false := by
  have q : lcmpW x y = 0 := by rw [lcW]; exact (lc_eq x y).mpr h
  exact ⟨(if0 _ _).trans (teq q).1, (if0 _ _).trans (teq q).2⟩
theorem own_eqF {x y : Int64} (h : ¬ x = y) : ifCond.holds .eq (lcmpW x y) = false ∧ ifCond.holds .ne (lcmpW x y) = true := by
  have q : ¬ lcmpW x y = 0 := by rw [lcW]; exact fun z => h ((lc_eq x y).mp z)
  exact ⟨(if0 _ _).trans (feq q).1, (if0 _ _).trans (feq q).2⟩
theorem own_lrem (x y : Int64) : x - (x / y) * y = x % y := Int64.toInt_inj.mp (by rw [Jvm.Kit.i64_rem, Int64.toInt_mod])
theorem own_eqInt {args : Array Value} {s : State} {t : Term} {k : Int32} (h : (Cond.eq t (.int k)).value args s none s [] = some true) : t.eval args s none [] s = some (.int k) := by
  simp only [Cond.value, Term.eval] at h
  cases ht : t.eval args s none [] s with
  | none => simp [ht] at h
  | some x => cases x <;> simp [ht] at h ⊢ <;> exact h
theorem own_eqRef {args : Array Value} {s : State} {t u : Term} {x : Addr} (h : (Cond.eq t u).value args s none s [] = some true) (hu : u.eval args s none [] s = some (.ref x)) : t.eval args s none [] s = some (.ref x) := by
  simp only [Cond.value, hu] at h
  cases ht : t.eval args s none [] s with
  | none => simp [ht] at h
  | some y => cases y <;> simp [ht] at h ⊢ <;> exact h
theorem own_len {args : Array Value} {s : State} {t : Term} {x : Addr} {cl : Cell} {ty : FieldType} {n : Int32} (ht : t.eval args s none [] s = some (.ref x)) (A : Arr s s.heap x cl ty) (h : (Term.length t).eval args s none [] s = some (.int n)) : cl.slots.size < 2 ^ 31 ∧ cl.slots.size.toInt32 = n := by
  have q := A.fin (Vm.Alike.refl _)
  simp only [Term.eval, ht, Option.bind_eq_bind, Option.bind_some, q] at h
  by_cases g : cl.slots.size < 2 ^ 31
  · simp [g] at h
    exact ⟨g, h⟩
  · simp [g] at h
def own_pick (s_STRING s_LONG s_INT s_BYTE_ARRAY s_CUSTOM : Addr) (xi : Int32) : Addr := if xi = (0 : Int32) then s_STRING else (if xi = (1 : Int32) then s_LONG else (if xi = (2 : Int32) then s_INT else (if xi = (3 : Int32) then s_BYTE_ARRAY else (s_CUSTOM))))
def own_code (s_STRING s_LONG s_INT s_BYTE_ARRAY s_CUSTOM : Addr) (xc : Int32) : Value := if xc = (1 : Int32) then .ref s_STRING else (if xc = (2 : Int32) then .ref s_LONG else (if xc = (3 : Int32) then .ref s_INT else (if xc = (4 : Int32) then .ref s_BYTE_ARRAY else (if xc = (5 : Int32) then .ref s_CUSTOM else (.null)))))
theorem own_code_ref (s_STRING s_LONG s_INT s_BYTE_ARRAY s_CUSTOM : Addr) (xc : Int32) : (own_code s_STRING s_LONG s_INT s_BYTE_ARRAY s_CUSTOM xc).isRef = true := by
  unfold own_code
  repeat' split
  all_goals rfl
theorem own_code_cat (s_STRING s_LONG s_INT s_BYTE_ARRAY s_CUSTOM : Addr) (xc : Int32) : (own_code s_STRING s_LONG s_INT s_BYTE_ARRAY s_CUSTOM xc).category = 1 := by
  unfold own_code
  repeat' split
  all_goals rfl
theorem d1_0 : decode method_3_code 0 = .ok (.iload_n 0, 1) := by decide +kernel
theorem d1_1 : decode method_3_code 1 = .ok (.ldc 25, 2) := by decide +kernel
theorem d1_3 : decode method_3_code 3 = .ok (.iand, 1) := by decide +kernel
theorem d1_4 : decode method_3_code 4 = .ok (.iconst 5, 1) := by decide +kernel
theorem d1_5 : decode method_3_code 5 = .ok (.irem, 1) := by decide +kernel
theorem d1_6 : decode method_3_code 6 = .ok (.istore_n 1, 1) := by decide +kernel
theorem d1_7 : decode method_3_code 7 = .ok (.iload_n 1, 1) := by decide +kernel
theorem d1_8 : decode method_3_code 8 = .ok (.ifCond .ne 7, 3) := by decide +kernel
theorem d1_11 : decode method_3_code 11 = .ok (.getstatic 7, 3) := by decide +kernel
theorem d1_14 : decode method_3_code 14 = .ok (.areturn, 1) := by decide +kernel
theorem d1_15 : decode method_3_code 15 = .ok (.iload_n 1, 1) := by decide +kernel
theorem d1_16 : decode method_3_code 16 = .ok (.iconst 1, 1) := by decide +kernel
theorem d1_17 : decode method_3_code 17 = .ok (.if_icmp .ne 7, 3) := by decide +kernel
theorem d1_20 : decode method_3_code 20 = .ok (.getstatic 13, 3) := by decide +kernel
theorem d1_23 : decode method_3_code 23 = .ok (.areturn, 1) := by decide +kernel
theorem d1_24 : decode method_3_code 24 = .ok (.iload_n 1, 1) := by decide +kernel
theorem d1_25 : decode method_3_code 25 = .ok (.iconst 2, 1) := by decide +kernel
theorem d1_26 : decode method_3_code 26 = .ok (.if_icmp .ne 7, 3) := by decide +kernel
theorem d1_29 : decode method_3_code 29 = .ok (.getstatic 16, 3) := by decide +kernel
theorem d1_32 : decode method_3_code 32 = .ok (.areturn, 1) := by decide +kernel
theorem d1_33 : decode method_3_code 33 = .ok (.iload_n 1, 1) := by decide +kernel
theorem d1_34 : decode method_3_code 34 = .ok (.iconst 3, 1) := by decide +kernel
theorem d1_35 : decode method_3_code 35 = .ok (.if_icmp .ne 7, 3) := by decide +kernel
theorem d1_38 : decode method_3_code 38 = .ok (.getstatic 19, 3) := by decide +kernel
theorem d1_41 : decode method_3_code 41 = .ok (.areturn, 1) := by decide +kernel
theorem d1_42 : decode method_3_code 42 = .ok (.getstatic 22, 3) := by decide +kernel
theorem d1_45 : decode method_3_code 45 = .ok (.areturn, 1) := by decide +kernel
theorem pn_1 : plainName "com/example/danaid/danaid/io/ElementTypeForCodePinLaw" = true := by first | (simp [plainName, overriddenIn]; done) | decide +kernel
theorem ef_1 (m : MethodId) (xk : Int32) : entryFrame m #[(.int xk)] 2 = mkF m 0 #[.val (.int xk), .unset] [] := by first | (simp [entryFrame, mkF, argsToLocals, Value.category]; done) | rfl
def Q1 (Z : State) (xk : Int32) (s_STRING : Addr) (s_LONG : Addr) (s_INT : Addr) (s_BYTE_ARRAY : Addr) (s_CUSTOM : Addr) (xr : Addr) (h0 : Heap) (n0 : Nat) (v : Option Value) (h : Heap) (L : List Loc) : Prop := v = some (.ref xr) ∧ Fr n0 L ∧ h = h0
set_option maxRecDepth 65536 in
set_option maxHeartbeats 40000000 in
theorem rm1 (l : Launch) (Z : State) (a0 : Array Value) (hw : ∀ d ∈ tables_1, d.before a0 Z = true) (ws : List Jvm.Cond) (xk : Int32) (s_STRING : Addr) (s_LONG : Addr) (s_INT : Addr) (s_BYTE_ARRAY : Addr) (s_CUSTOM : Addr) (xr : Addr) (h0 : Heap) (n0 : Nat) (Z0 : n0 ≤ h0.size) (OL : Old Z n0 h0) (hxr : xr = own_pick s_STRING s_LONG s_INT s_BYTE_ARRAY s_CUSTOM ((xk &&& (2147483647 : Int32)) % (5 : Int32))) (S_STRING : Sta Z Z.heap "com/example/danaid/danaid/io/ElementType" "STRING" "Lcom/example/danaid/danaid/io/ElementType;" (.ref s_STRING)) (S_LONG : Sta Z Z.heap "com/example/danaid/danaid/io/ElementType" "LONG" "Lcom/example/danaid/danaid/io/ElementType;" (.ref s_LONG)) (S_INT : Sta Z Z.heap "com/example/danaid/danaid/io/ElementType" "INT" "Lcom/example/danaid/danaid/io/ElementType;" (.ref s_INT)) (S_BYTE_ARRAY : Sta Z Z.heap "com/example/danaid/danaid/io/ElementType" "BYTE_ARRAY" "Lcom/example/danaid/danaid/io/ElementType;" (.ref s_BYTE_ARRAY)) (S_CUSTOM : Sta Z Z.heap "com/example/danaid/danaid/io/ElementType" "CUSTOM" "Lcom/example/danaid/danaid/io/ElementType;" (.ref s_CUSTOM)) :
    MetFree l (⟨"com/example/danaid/danaid/io/ElementTypeForCodePinLaw", "pick", "(I)Lcom/example/danaid/danaid/io/ElementType;"⟩ : MethodName) (head1 (Jvm.Cond.code (⟨"com/example/danaid/danaid/io/ElementTypeForCodePinLaw", "pick", "(I)Lcom/example/danaid/danaid/io/ElementType;"⟩ : MethodName) method_3_code 2 (some (.object "com/example/danaid/danaid/io/ElementType")) :: ws) ({ frames := 0, cells := 0, slots := 0, locals := 0 } : Room)) (fun a U => a = #[(.int xk)] ∧ Z.Warmed39 U.vm ∧ U.heap = h0) (fun _ _ _ _ _ => True) (fun _ U o U' => ∃ v L, o = .returned v ∧ Q1 Z xk s_STRING s_LONG s_INT s_BYTE_ARRAY s_CUSTOM xr h0 n0 v U'.heap L ∧ FrameEnd U o U' L ({ frames := 0, cells := 0, slots := 0, locals := 0 } : Room).cells ({ frames := 0, cells := 0, slots := 0, locals := 0 } : Room).slots) := by
  refine MetFree.of_bodySF (plainFor_of_name pn_1) hisR ?_
  intro p e s m args below meth c s₁ Bd hml0 hP hK
  obtain ⟨rfl, hZ, hh⟩ := hP
  have hx := Bd.exec
  have hby := Bd.bytes
  have hml : c.maxLocals = 2 := hml0
  have hown : s.vm.findClass "com/example/danaid/danaid/io/ElementTypeForCodePinLaw" = some m.cls := findClass_of_methodNamed Bd.named
  have hnm := (name_of_methodNamed Bd.named Bd.method).1
  have X0 : Stand p l e ({ frames := 0, cells := 0, slots := 0, locals := 0 } : Room) s m #[(.int xk)] below meth c s₁ [] 0 0 := Stand.of_body Bd
  have e0 : s₁.heap = h0 := by rw [← hh, Bd.state]; rfl
  have N0 := Fr.nil n0
  suffices G : own_Goes p.tables e below (fun o U' => ∃ v L, o = .returned v ∧ Q1 Z xk s_STRING s_LONG s_INT s_BYTE_ARRAY s_CUSTOM xr h0 n0 v U'.heap L ∧ FrameEnd s o U' L ({ frames := 0, cells := 0, slots := 0, locals := 0 } : Room).cells ({ frames := 0, cells := 0, slots := 0, locals := 0 } : Room).slots) s₁ (mkF m 0 #[.val (.int xk), .unset] []) by
    obtain ⟨t2_, o2_, z1_, z2_, z3_, z4_⟩ := G
    exact ⟨t2_, o2_, castTop (ef_1 m xk) z1_, z2_, z3_, z4_⟩
  generalize hPd : (fun (o : Outcome) (U' : State) => ∃ v L, o = .returned v ∧ Q1 Z xk s_STRING s_LONG s_INT s_BYTE_ARRAY s_CUSTOM xr h0 n0 v U'.heap L ∧ FrameEnd s o U' L ({ frames := 0, cells := 0, slots := 0, locals := 0 } : Room).cells ({ frames := 0, cells := 0, slots := 0, locals := 0 } : Room).slots) = P
  refine own_Goes.via (T' := s₁) (g' := (mkF m 1 #[.val (.int xk), .unset] [(.int xk)])) (fun t_ k_ => XS.iloadN X0.here hx rfl (hb hby d1_0) rfl k_) ?_
  refine own_Goes.via (T' := s₁) (g' := (mkF m 3 #[.val (.int xk), .unset] [(.int (2147483647 : Int32)), (.int xk)])) (X0.ldcInt hx hown (mvT hZ (hw _ (List.mem_of_getElem? (i := 4) rfl))) (g := (mkF m 1 #[.val (.int xk), .unset] [(.int xk)])) rfl (hb hby d1_1)) ?_
  refine own_Goes.via (T' := s₁) (g' := (mkF m 4 #[.val (.int xk), .unset] [(.int (xk &&& (2147483647 : Int32)))])) (fun t_ k_ => XS.iand X0.here hx rfl (hb hby d1_3) rfl k_) ?_
  refine own_Goes.via (T' := s₁) (g' := (mkF m 5 #[.val (.int xk), .unset] [(.int (5 : Int32)), (.int (xk &&& (2147483647 : Int32)))])) (fun t_ k_ => XS.iconst X0.here hx rfl (hb hby d1_4) k_) ?_
  have nz5_1 : (5 : Int32) ≠ (0 : Int32) := by decide
  refine own_Goes.via (T' := s₁) (g' := (mkF m 6 #[.val (.int xk), .unset] [(.int ((xk &&& (2147483647 : Int32)) % (5 : Int32)))])) (fun t_ k_ => iremM X0 hx rfl (hb hby d1_5) rfl nz5_1 k_) ?_
  refine own_Goes.via (T' := s₁) (g' := (mkF m 7 #[.val (.int xk), .val (.int ((xk &&& (2147483647 : Int32)) % (5 : Int32)))] [])) (fun t_ k_ => XS.istoreN X0.here hx rfl (hb hby d1_6) rfl (l' := #[.val (.int xk), .val (.int ((xk &&& (2147483647 : Int32)) % (5 : Int32)))]) rfl k_) ?_
  obtain ⟨v2, hv2⟩ : ∃ z : Int32, z = ((xk &&& (2147483647 : Int32)) % (5 : Int32)) := ⟨_, rfl⟩
  rw [← hv2]
  refine own_Goes.via (T' := s₁) (g' := (mkF m 8 #[.val (.int xk), .val (.int v2)] [(.int v2)])) (fun t_ k_ => XS.iloadN X0.here hx rfl (hb hby d1_7) rfl k_) ?_
  by_cases hc8_3 : v2 = (0 : Int32)
  · refine own_Goes.via (T' := s₁) (g' := (mkF m 11 #[.val (.int xk), .val (.int v2)] [])) (fun t_ k_ => XS.ifNo X0.here hx rfl (hb hby d1_8) rfl ((if0 _ _).trans (teq hc8_3).2) k_) ?_
    obtain ⟨T4, X4, e4, st4⟩ := getS2 X0 hx hZ hown (host := "") (Or.inl (hw _ (List.mem_of_getElem? (i := 5) rfl))) Via.refl e0 (S_STRING.ext OL.2) (g := (mkF m 11 #[.val (.int xk), .val (.int v2)] [])) rfl (hb hby d1_11)
    refine own_Goes.via (T' := T4) (g' := (mkF m 14 #[.val (.int xk), .val (.int v2)] [(.ref s_STRING)])) (st4) ?_
    obtain ⟨fs, hr, hrun, hended, hW, hsame⟩ := X4.leave (v := some (.ref s_STRING)) (fun h => by rw [Bd.returns] at h; cases h)
    refine own_Goes.fin (retOut X4 hx Bd.returns rfl (Or.inr (Or.inr (Or.inr (Or.inr ⟨rfl, rfl, rfl⟩)))) (hb hby d1_14) hr) hrun hended ?_
    subst hPd
    refine ⟨_, _, rfl, ?_, ⟨_, rfl⟩, hW, hsame.mono (by decide) (by decide)⟩
    show Q1 Z xk s_STRING s_LONG s_INT s_BYTE_ARRAY s_CUSTOM xr h0 n0 _ T4.heap _
    rw [e4]
    exact ⟨(by subst_vars; simp only [own_pick, if_pos hc8_3]), N0, rfl⟩
  · refine own_Goes.via (T' := s₁) (g' := (mkF m 15 #[.val (.int xk), .val (.int v2)] [])) (fun t_ k_ => XS.ifYes X0.here hx rfl (pc0 := 8) (pc' := 15) rfl (hb hby d1_8) rfl ((if0 _ _).trans (feq hc8_3).2) (by decide) (by decide) k_) ?_
    refine own_Goes.via (T' := s₁) (g' := (mkF m 16 #[.val (.int xk), .val (.int v2)] [(.int v2)])) (fun t_ k_ => XS.iloadN X0.here hx rfl (hb hby d1_15) rfl k_) ?_
    refine own_Goes.via (T' := s₁) (g' := (mkF m 17 #[.val (.int xk), .val (.int v2)] [(.int (1 : Int32)), (.int v2)])) (fun t_ k_ => XS.iconst X0.here hx rfl (hb hby d1_16) k_) ?_
    by_cases hc17_5 : v2 = (1 : Int32)
    · refine own_Goes.via (T' := s₁) (g' := (mkF m 20 #[.val (.int xk), .val (.int v2)] [])) (fun t_ k_ => XS.icmpNo X0.here hx rfl (hb hby d1_17) rfl (teq hc17_5).2 k_) ?_
      obtain ⟨T6, X6, e6, st6⟩ := getS2 X0 hx hZ hown (host := "") (Or.inl (hw _ (List.mem_of_getElem? (i := 42) rfl))) Via.refl e0 (S_LONG.ext OL.2) (g := (mkF m 20 #[.val (.int xk), .val (.int v2)] [])) rfl (hb hby d1_20)
      refine own_Goes.via (T' := T6) (g' := (mkF m 23 #[.val (.int xk), .val (.int v2)] [(.ref s_LONG)])) (st6) ?_
      obtain ⟨fs, hr, hrun, hended, hW, hsame⟩ := X6.leave (v := some (.ref s_LONG)) (fun h => by rw [Bd.returns] at h; cases h)
      refine own_Goes.fin (retOut X6 hx Bd.returns rfl (Or.inr (Or.inr (Or.inr (Or.inr ⟨rfl, rfl, rfl⟩)))) (hb hby d1_23) hr) hrun hended ?_
      subst hPd
      refine ⟨_, _, rfl, ?_, ⟨_, rfl⟩, hW, hsame.mono (by decide) (by decide)⟩
      show Q1 Z xk s_STRING s_LONG s_INT s_BYTE_ARRAY s_CUSTOM xr h0 n0 _ T6.heap _
      rw [e6]
      exact ⟨(by subst_vars; simp only [own_pick, if_neg hc8_3, if_pos hc17_5]), N0, rfl⟩
    · refine own_Goes.via (T' := s₁) (g' := (mkF m 24 #[.val (.int xk), .val (.int v2)] [])) (fun t_ k_ => XS.icmpYes X0.here hx rfl (pc0 := 17) (pc' := 24) rfl (hb hby d1_17) rfl (feq hc17_5).2 (by decide) (by decide) k_) ?_
      refine own_Goes.via (T' := s₁) (g' := (mkF m 25 #[.val (.int xk), .val (.int v2)] [(.int v2)])) (fun t_ k_ => XS.iloadN X0.here hx rfl (hb hby d1_24) rfl k_) ?_
      refine own_Goes.via (T' := s₁) (g' := (mkF m 26 #[.val (.int xk), .val (.int v2)] [(.int (2 : Int32)), (.int v2)])) (fun t_ k_ => XS.iconst X0.here hx rfl (hb hby d1_25) k_) ?_
      by_cases hc26_7 : v2 = (2 : Int32)
      · refine own_Goes.via (T' := s₁) (g' := (mkF m 29 #[.val (.int xk), .val (.int v2)] [])) (fun t_ k_ => XS.icmpNo X0.here hx rfl (hb hby d1_26) rfl (teq hc26_7).2 k_) ?_
        obtain ⟨T8, X8, e8, st8⟩ := getS2 X0 hx hZ hown (host := "") (Or.inl (hw _ (List.mem_of_getElem? (i := 41) rfl))) Via.refl e0 (S_INT.ext OL.2) (g := (mkF m 29 #[.val (.int xk), .val (.int v2)] [])) rfl (hb hby d1_29)
        refine own_Goes.via (T' := T8) (g' := (mkF m 32 #[.val (.int xk), .val (.int v2)] [(.ref s_INT)])) (st8) ?_
        obtain ⟨fs, hr, hrun, hended, hW, hsame⟩ := X8.leave (v := some (.ref s_INT)) (fun h => by rw [Bd.returns] at h; cases h)
        refine own_Goes.fin (retOut X8 hx Bd.returns rfl (Or.inr (Or.inr (Or.inr (Or.inr ⟨rfl, rfl, rfl⟩)))) (hb hby d1_32) hr) hrun hended ?_
        subst hPd
        refine ⟨_, _, rfl, ?_, ⟨_, rfl⟩, hW, hsame.mono (by decide) (by decide)⟩
        show Q1 Z xk s_STRING s_LONG s_INT s_BYTE_ARRAY s_CUSTOM xr h0 n0 _ T8.heap _
        rw [e8]
        exact ⟨(by subst_vars; simp only [own_pick, if_neg hc8_3, if_neg hc17_5, if_pos hc26_7]), N0, rfl⟩
      · refine own_Goes.via (T' := s₁) (g' := (mkF m 33 #[.val (.int xk), .val (.int v2)] [])) (fun t_ k_ => XS.icmpYes X0.here hx rfl (pc0 := 26) (pc' := 33) rfl (hb hby d1_26) rfl (feq hc26_7).2 (by decide) (by decide) k_) ?_
        refine own_Goes.via (T' := s₁) (g' := (mkF m 34 #[.val (.int xk), .val (.int v2)] [(.int v2)])) (fun t_ k_ => XS.iloadN X0.here hx rfl (hb hby d1_33) rfl k_) ?_
        refine own_Goes.via (T' := s₁) (g' := (mkF m 35 #[.val (.int xk), .val (.int v2)] [(.int (3 : Int32)), (.int v2)])) (fun t_ k_ => XS.iconst X0.here hx rfl (hb hby d1_34) k_) ?_
        by_cases hc35_9 : v2 = (3 : Int32)
        · refine own_Goes.via (T' := s₁) (g' := (mkF m 38 #[.val (.int xk), .val (.int v2)] [])) (fun t_ k_ => XS.icmpNo X0.here hx rfl (hb hby d1_35) rfl (teq hc35_9).2 k_) ?_
          obtain ⟨T10, X10, e10, st10⟩ := getS2 X0 hx hZ hown (host := "") (Or.inl (hw _ (List.mem_of_getElem? (i := 40) rfl))) Via.refl e0 (S_BYTE_ARRAY.ext OL.2) (g := (mkF m 38 #[.val (.int xk), .val (.int v2)] [])) rfl (hb hby d1_38)
          refine own_Goes.via (T' := T10) (g' := (mkF m 41 #[.val (.int xk), .val (.int v2)] [(.ref s_BYTE_ARRAY)])) (st10) ?_
          obtain ⟨fs, hr, hrun, hended, hW, hsame⟩ := X10.leave (v := some (.ref s_BYTE_ARRAY)) (fun h => by rw [Bd.returns] at h; cases h)
          refine own_Goes.fin (retOut X10 hx Bd.returns rfl (Or.inr (Or.inr (Or.inr (Or.inr ⟨rfl, rfl, rfl⟩)))) (hb hby d1_41) hr) hrun hended ?_
          subst hPd
          refine ⟨_, _, rfl, ?_, ⟨_, rfl⟩, hW, hsame.mono (by decide) (by decide)⟩
          show Q1 Z xk s_STRING s_LONG s_INT s_BYTE_ARRAY s_CUSTOM xr h0 n0 _ T10.heap _
          rw [e10]
          exact ⟨(by subst_vars; simp only [own_pick, if_neg hc8_3, if_neg hc17_5, if_neg hc26_7, if_pos hc35_9]), N0, rfl⟩
        · refine own_Goes.via (T' := s₁) (g' := (mkF m 42 #[.val (.int xk), .val (.int v2)] [])) (fun t_ k_ => XS.icmpYes X0.here hx rfl (pc0 := 35) (pc' := 42) rfl (hb hby d1_35) rfl (feq hc35_9).2 (by decide) (by decide) k_) ?_
          obtain ⟨T11, X11, e11, st11⟩ := getS2 X0 hx hZ hown (host := "") (Or.inl (hw _ (List.mem_of_getElem? (i := 43) rfl))) Via.refl e0 (S_CUSTOM.ext OL.2) (g := (mkF m 42 #[.val (.int xk), .val (.int v2)] [])) rfl (hb hby d1_42)
          refine own_Goes.via (T' := T11) (g' := (mkF m 45 #[.val (.int xk), .val (.int v2)] [(.ref s_CUSTOM)])) (st11) ?_
          obtain ⟨fs, hr, hrun, hended, hW, hsame⟩ := X11.leave (v := some (.ref s_CUSTOM)) (fun h => by rw [Bd.returns] at h; cases h)
          refine own_Goes.fin (retOut X11 hx Bd.returns rfl (Or.inr (Or.inr (Or.inr (Or.inr ⟨rfl, rfl, rfl⟩)))) (hb hby d1_45) hr) hrun hended ?_
          subst hPd
          refine ⟨_, _, rfl, ?_, ⟨_, rfl⟩, hW, hsame.mono (by decide) (by decide)⟩
          show Q1 Z xk s_STRING s_LONG s_INT s_BYTE_ARRAY s_CUSTOM xr h0 n0 _ T11.heap _
          rw [e11]
          exact ⟨(by subst_vars; simp only [own_pick, if_neg hc8_3, if_neg hc17_5, if_neg hc26_7, if_neg hc35_9]), N0, rfl⟩
theorem d3_0 : decode prog_13_method_1_code 0 = .ok (.getstatic 19, 3) := by decide +kernel
theorem d3_3 : decode prog_13_method_1_code 3 = .ok (.invokevirtual 23, 3) := by decide +kernel
theorem d3_6 : decode prog_13_method_1_code 6 = .ok (.checkcast 24, 3) := by decide +kernel
theorem d3_9 : decode prog_13_method_1_code 9 = .ok (.areturn, 1) := by decide +kernel
theorem pn_3 : plainName "com/example/danaid/danaid/io/ElementType" = true := by first | (simp [plainName, overriddenIn]; done) | decide +kernel
theorem ef_3 (m : MethodId)  : entryFrame m #[] 0 = mkF m 0 #[] [] := by first | (simp [entryFrame, mkF, argsToLocals, Value.category]; done) | rfl
def Q3 (Z : State) (s__VALUES : Addr) (kV : ClassId) (s_STRING : Addr) (s_LONG : Addr) (s_INT : Addr) (s_BYTE_ARRAY : Addr) (s_CUSTOM : Addr) (h0 : Heap) (n0 : Nat) (v : Option Value) (h : Heap) (L : List Loc) : Prop := ∃ (bz : Addr), v = some (.ref bz) ∧ Fr n0 L ∧ Keep h0 h [] ∧ (h0.size ≤ bz ∧ n0 ≤ bz) ∧ Exa Z h bz "[Lcom/example/danaid/danaid/io/ElementType;" ∧ Arv Z h bz kV (.object "com/example/danaid/danaid/io/ElementType") (5 : Int32) [(.ref s_STRING), (.ref s_LONG), (.ref s_INT), (.ref s_BYTE_ARRAY), (.ref s_CUSTOM)] .null
set_option maxRecDepth 65536 in
set_option maxHeartbeats 40000000 in
theorem rm3 (l : Launch) (Z : State) (a0 : Array Value) (hw : ∀ d ∈ tables_1, d.before a0 Z = true) (ws : List Jvm.Cond) (s__VALUES : Addr) (kV : ClassId) (s_STRING : Addr) (s_LONG : Addr) (s_INT : Addr) (s_BYTE_ARRAY : Addr) (s_CUSTOM : Addr) (h0 : Heap) (n0 : Nat) (Z0 : n0 ≤ h0.size) (PF0 : Exa Z h0 s__VALUES "[Lcom/example/danaid/danaid/io/ElementType;") (PF1 : Arv Z h0 s__VALUES kV (.object "com/example/danaid/danaid/io/ElementType") (5 : Int32) [(.ref s_STRING), (.ref s_LONG), (.ref s_INT), (.ref s_BYTE_ARRAY), (.ref s_CUSTOM)] .null) (OL : Old Z n0 h0) (S__VALUES : Sta Z Z.heap "com/example/danaid/danaid/io/ElementType" "$VALUES" "[Lcom/example/danaid/danaid/io/ElementType;" (.ref s__VALUES)) :
    MetFree l (⟨"com/example/danaid/danaid/io/ElementType", "values", "()[Lcom/example/danaid/danaid/io/ElementType;"⟩ : MethodName) (head1 (Jvm.Cond.code (⟨"com/example/danaid/danaid/io/ElementType", "values", "()[Lcom/example/danaid/danaid/io/ElementType;"⟩ : MethodName) prog_13_method_1_code 0 (some (.array (.object "com/example/danaid/danaid/io/ElementType"))) :: ws) ({ frames := 1, cells := 1, slots := 5, locals := 14 } : Room)) (fun a U => a = #[] ∧ Z.Warmed39 U.vm ∧ U.heap = h0) (fun _ _ _ _ _ => True) (fun _ U o U' => ∃ v L, o = .returned v ∧ Q3 Z s__VALUES kV s_STRING s_LONG s_INT s_BYTE_ARRAY s_CUSTOM h0 n0 v U'.heap L ∧ FrameEnd U o U' L ({ frames := 1, cells := 1, slots := 5, locals := 14 } : Room).cells ({ frames := 1, cells := 1, slots := 5, locals := 14 } : Room).slots) := by
  refine MetFree.of_bodySF (plainFor_of_name pn_3) hisR ?_
  intro p e s m args below meth c s₁ Bd hml0 hP hK
  obtain ⟨rfl, hZ, hh⟩ := hP
  have hx := Bd.exec
  have hby := Bd.bytes
  have hml : c.maxLocals = 0 := hml0
  have hown : s.vm.findClass "com/example/danaid/danaid/io/ElementType" = some m.cls := findClass_of_methodNamed Bd.named
  have hnm := (name_of_methodNamed Bd.named Bd.method).1
  have X0 : Stand p l e ({ frames := 1, cells := 1, slots := 5, locals := 14 } : Room) s m #[] below meth c s₁ [] 0 0 := Stand.of_body Bd
  have e0 : s₁.heap = h0 := by rw [← hh, Bd.state]; rfl
  have N0 := Fr.nil n0
  suffices G : own_Goes p.tables e below (fun o U' => ∃ v L, o = .returned v ∧ Q3 Z s__VALUES kV s_STRING s_LONG s_INT s_BYTE_ARRAY s_CUSTOM h0 n0 v U'.heap L ∧ FrameEnd s o U' L ({ frames := 1, cells := 1, slots := 5, locals := 14 } : Room).cells ({ frames := 1, cells := 1, slots := 5, locals := 14 } : Room).slots) s₁ (mkF m 0 #[] []) by
    obtain ⟨t2_, o2_, z1_, z2_, z3_, z4_⟩ := G
    exact ⟨t2_, o2_, castTop (ef_3 m ) z1_, z2_, z3_, z4_⟩
  generalize hPd : (fun (o : Outcome) (U' : State) => ∃ v L, o = .returned v ∧ Q3 Z s__VALUES kV s_STRING s_LONG s_INT s_BYTE_ARRAY s_CUSTOM h0 n0 v U'.heap L ∧ FrameEnd s o U' L ({ frames := 1, cells := 1, slots := 5, locals := 14 } : Room).cells ({ frames := 1, cells := 1, slots := 5, locals := 14 } : Room).slots) = P
  obtain ⟨T1, X1, e1, st1⟩ := getS2 X0 hx hZ hown (host := "") (Or.inl (hw _ (List.mem_of_getElem? (i := 14) rfl))) Via.refl e0 (S__VALUES.ext OL.2) (g := (mkF m 0 #[] [])) rfl (hb hby d3_0)
  refine own_Goes.via (T' := T1) (g' := (mkF m 3 #[] [(.ref s__VALUES)])) (st1) ?_
  have hcap3_3 : (5 : Int32).toNatClampNeg ≤ 5 := by decide
  obtain ⟨T2, h2, X2, e2, E2, A2, Ea2, st2⟩ := cloneH X1 hx hZ hown (hw _ (List.mem_of_getElem? (i := 16) rfl)) (hw _ (List.mem_of_getElem? (i := 17) rfl)) (hw _ (List.mem_of_getElem? (i := 21) rfl)) (hw _ (List.mem_of_getElem? (i := 19) rfl)) (hw _ (List.mem_of_getElem? (i := 20) rfl)) (hw _ (List.mem_of_getElem? (i := 22) rfl)) e1 PF1.arh PF0 (g := (mkF m 3 #[] [(.ref s__VALUES)])) rfl (by rw [hml]; rfl) rfl (hb hby d3_3) (by decide) (W := 0) (cap := 5) (by show 2 * 0 + _ ≤ _; exact Nat.le_of_eq rfl) (by decide) hcap3_3 (by decide) (by decide)
  obtain ⟨b2, g2⟩ : ∃ z, z = h0.size := ⟨_, rfl⟩
  rw [← g2] at A2 Ea2 st2
  have ne_s__VALUES_b2 : s__VALUES ≠ b2 := Nat.ne_of_lt (Nat.lt_of_lt_of_le PF0.lt (Nat.le_of_eq g2.symm))
  have E4 : Exa Z h2 s__VALUES "[Lcom/example/danaid/danaid/io/ElementType;" := PF0.ext E2
  have V5 : Arv Z h2 s__VALUES kV (.object "com/example/danaid/danaid/io/ElementType") (5 : Int32) [(.ref s_STRING), (.ref s_LONG), (.ref s_INT), (.ref s_BYTE_ARRAY), (.ref s_CUSTOM)] .null := PF1.ext E2
  have O6 : Old Z n0 h2 := OL.ext E2
  have ge_b2 : n0 ≤ b2 := Nat.le_trans Z0 (Nat.le_of_eq g2.symm)
  have sz_b2 : h0.size ≤ b2 := Nat.le_trans ((Keep.refl h0 [])).1 (Nat.le_of_eq g2.symm)
  have sz2 : n0 ≤ h2.size := Nat.le_trans Z0 E2.1
  have K2 : Keep h0 h2 [] := ((Keep.refl h0 [])).ext E2
  have E7 : Exa Z h2 b2 "[Lcom/example/danaid/danaid/io/ElementType;" := Ea2
  have V8 : Arv Z h2 b2 kV (.object "com/example/danaid/danaid/io/ElementType") (5 : Int32) [(.ref s_STRING), (.ref s_LONG), (.ref s_INT), (.ref s_BYTE_ARRAY), (.ref s_CUSTOM)] .null := A2
  refine own_Goes.via (T' := T2) (g' := (mkF m 6 #[] [(.ref b2)])) (st2) ?_
  obtain ⟨T9, X9, e9, st9⟩ := castY X2 hx hZ hown (hw _ (List.mem_of_getElem? (i := 28) rfl)) e2 (Ins.self E7) (g := (mkF m 6 #[] [(.ref b2)])) rfl rfl (hb hby d3_6)
  refine own_Goes.via (T' := T9) (g' := (mkF m 9 #[] [(.ref b2)])) (st9) ?_
  obtain ⟨fs, hr, hrun, hended, hW, hsame⟩ := X9.leave (v := some (.ref b2)) (fun h => by rw [Bd.returns] at h; cases h)
  refine own_Goes.fin (retOut X9 hx Bd.returns rfl (Or.inr (Or.inr (Or.inr (Or.inr ⟨rfl, rfl, rfl⟩)))) (hb hby d3_9) hr) hrun hended ?_
  subst hPd
  refine ⟨_, _, rfl, ?_, ⟨_, rfl⟩, hW, hsame.mono (by decide) (by decide)⟩
  show Q3 Z s__VALUES kV s_STRING s_LONG s_INT s_BYTE_ARRAY s_CUSTOM h0 n0 _ T9.heap _
  rw [e9]
  exact ⟨b2, rfl, N0, K2, ⟨sz_b2, ge_b2⟩, E7, V8⟩
theorem d2_0 : decode prog_13_method_5_code 0 = .ok (.invokestatic 42, 3) := by decide +kernel
theorem d2_3 : decode prog_13_method_5_code 3 = .ok (.astore_n 1, 1) := by decide +kernel
theorem d2_4 : decode prog_13_method_5_code 4 = .ok (.aload_n 1, 1) := by decide +kernel
theorem d2_5 : decode prog_13_method_5_code 5 = .ok (.arraylength, 1) := by decide +kernel
theorem d2_6 : decode prog_13_method_5_code 6 = .ok (.istore_n 2, 1) := by decide +kernel
theorem d2_7 : decode prog_13_method_5_code 7 = .ok (.iconst 0, 1) := by decide +kernel
theorem d2_8 : decode prog_13_method_5_code 8 = .ok (.istore_n 3, 1) := by decide +kernel
theorem d2_9 : decode prog_13_method_5_code 9 = .ok (.iload_n 3, 1) := by decide +kernel
theorem d2_10 : decode prog_13_method_5_code 10 = .ok (.iload_n 2, 1) := by decide +kernel
theorem d2_11 : decode prog_13_method_5_code 11 = .ok (.if_icmp .ge 26, 3) := by decide +kernel
theorem d2_14 : decode prog_13_method_5_code 14 = .ok (.aload_n 1, 1) := by decide +kernel
theorem d2_15 : decode prog_13_method_5_code 15 = .ok (.iload_n 3, 1) := by decide +kernel
theorem d2_16 : decode prog_13_method_5_code 16 = .ok (.aaload, 1) := by decide +kernel
theorem d2_17 : decode prog_13_method_5_code 17 = .ok (.astore 4, 2) := by decide +kernel
theorem d2_19 : decode prog_13_method_5_code 19 = .ok (.aload 4, 2) := by decide +kernel
theorem d2_21 : decode prog_13_method_5_code 21 = .ok (.getfield 38, 3) := by decide +kernel
theorem d2_24 : decode prog_13_method_5_code 24 = .ok (.iload_n 0, 1) := by decide +kernel
theorem d2_25 : decode prog_13_method_5_code 25 = .ok (.if_icmp .ne 6, 3) := by decide +kernel
theorem d2_28 : decode prog_13_method_5_code 28 = .ok (.aload 4, 2) := by decide +kernel
theorem d2_30 : decode prog_13_method_5_code 30 = .ok (.areturn, 1) := by decide +kernel
theorem d2_31 : decode prog_13_method_5_code 31 = .ok (.iinc 3 1, 3) := by decide +kernel
theorem d2_34 : decode prog_13_method_5_code 34 = .ok (.goto (-25), 3) := by decide +kernel
theorem d2_37 : decode prog_13_method_5_code 37 = .ok (.aconst_null, 1) := by decide +kernel
theorem d2_38 : decode prog_13_method_5_code 38 = .ok (.areturn, 1) := by decide +kernel
theorem pn_2 : plainName "com/example/danaid/danaid/io/ElementType" = true := by first | (simp [plainName, overriddenIn]; done) | decide +kernel
theorem pd_2_0 : parseMethodDescriptor "()[Lcom/example/danaid/danaid/io/ElementType;" = some ⟨[], some (.array (.object "com/example/danaid/danaid/io/ElementType"))⟩ := by decide +kernel
theorem ef_2 (m : MethodId) (xc : Int32) : entryFrame m #[(.int xc)] 5 = mkF m 0 #[.val (.int xc), .unset, .unset, .unset, .unset] [] := by first | (simp [entryFrame, mkF, argsToLocals, Value.category]; done) | rfl
def Q2 (Z : State) (xc : Int32) (s__VALUES : Addr) (kV : ClassId) (s_STRING : Addr) (s_LONG : Addr) (s_INT : Addr) (s_BYTE_ARRAY : Addr) (s_CUSTOM : Addr) (xv : Value) (h0 : Heap) (n0 : Nat) (v : Option Value) (h : Heap) (L : List Loc) : Prop := v = some xv ∧ Fr n0 L ∧ Keep h0 h []
set_option maxRecDepth 65536 in
set_option maxHeartbeats 40000000 in
theorem rm2 (l : Launch) (Z : State) (a0 : Array Value) (hw : ∀ d ∈ tables_1, d.before a0 Z = true) (ws : List Jvm.Cond) (xc : Int32) (s__VALUES : Addr) (kV : ClassId) (s_STRING : Addr) (s_LONG : Addr) (s_INT : Addr) (s_BYTE_ARRAY : Addr) (s_CUSTOM : Addr) (xv : Value) (h0 : Heap) (n0 : Nat) (Z0 : n0 ≤ h0.size) (PF0 : Exa Z h0 s__VALUES "[Lcom/example/danaid/danaid/io/ElementType;") (PF1 : Arv Z h0 s__VALUES kV (.object "com/example/danaid/danaid/io/ElementType") (5 : Int32) [(.ref s_STRING), (.ref s_LONG), (.ref s_INT), (.ref s_BYTE_ARRAY), (.ref s_CUSTOM)] .null) (PF2 : Fld Z h0 s_STRING "com/example/danaid/danaid/io/ElementType" "code" "I" (.int (1 : Int32))) (PF3 : Fld Z h0 s_LONG "com/example/danaid/danaid/io/ElementType" "code" "I" (.int (2 : Int32))) (PF4 : Fld Z h0 s_INT "com/example/danaid/danaid/io/ElementType" "code" "I" (.int (3 : Int32))) (PF5 : Fld Z h0 s_BYTE_ARRAY "com/example/danaid/danaid/io/ElementType" "code" "I" (.int (4 : Int32))) (PF6 : Fld Z h0 s_CUSTOM "com/example/danaid/danaid/io/ElementType" "code" "I" (.int (5 : Int32))) (OL : Old Z n0 h0) (hxv : xv = own_code s_STRING s_LONG s_INT s_BYTE_ARRAY s_CUSTOM xc) (S__VALUES : Sta Z Z.heap "com/example/danaid/danaid/io/ElementType" "$VALUES" "[Lcom/example/danaid/danaid/io/ElementType;" (.ref s__VALUES)) :
    MetFree l (⟨"com/example/danaid/danaid/io/ElementType", "forCode", "(I)Lcom/example/danaid/danaid/io/ElementType;"⟩ : MethodName) (head1 (Jvm.Cond.code (⟨"com/example/danaid/danaid/io/ElementType", "forCode", "(I)Lcom/example/danaid/danaid/io/ElementType;"⟩ : MethodName) prog_13_method_5_code 5 (some (.object "com/example/danaid/danaid/io/ElementType")) :: ws) ({ frames := 2, cells := 1, slots := 5, locals := 25 } : Room)) (fun a U => a = #[(.int xc)] ∧ Z.Warmed39 U.vm ∧ U.heap = h0) (fun _ _ _ _ _ => True) (fun _ U o U' => ∃ v L, o = .returned v ∧ Q2 Z xc s__VALUES kV s_STRING s_LONG s_INT s_BYTE_ARRAY s_CUSTOM xv h0 n0 v U'.heap L ∧ FrameEnd U o U' L ({ frames := 2, cells := 1, slots := 5, locals := 25 } : Room).cells ({ frames := 2, cells := 1, slots := 5, locals := 25 } : Room).slots) := by
  refine MetFree.of_bodySF (plainFor_of_name pn_2) hisR ?_
  intro p e s m args below meth c s₁ Bd hml0 hP hK
  obtain ⟨rfl, hZ, hh⟩ := hP
  have hx := Bd.exec
  have hby := Bd.bytes
  have hml : c.maxLocals = 5 := hml0
  have hown : s.vm.findClass "com/example/danaid/danaid/io/ElementType" = some m.cls := findClass_of_methodNamed Bd.named
  have hnm := (name_of_methodNamed Bd.named Bd.method).1
  have X0 : Stand p l e ({ frames := 2, cells := 1, slots := 5, locals := 25 } : Room) s m #[(.int xc)] below meth c s₁ [] 0 0 := Stand.of_body Bd
  have e0 : s₁.heap = h0 := by rw [← hh, Bd.state]; rfl
  have N0 := Fr.nil n0
  suffices G : own_Goes p.tables e below (fun o U' => ∃ v L, o = .returned v ∧ Q2 Z xc s__VALUES kV s_STRING s_LONG s_INT s_BYTE_ARRAY s_CUSTOM xv h0 n0 v U'.heap L ∧ FrameEnd s o U' L ({ frames := 2, cells := 1, slots := 5, locals := 25 } : Room).cells ({ frames := 2, cells := 1, slots := 5, locals := 25 } : Room).slots) s₁ (mkF m 0 #[.val (.int xc), .unset, .unset, .unset, .unset] []) by
    obtain ⟨t2_, o2_, z1_, z2_, z3_, z4_⟩ := G
    exact ⟨t2_, o2_, castTop (ef_2 m xc) z1_, z2_, z3_, z4_⟩
  generalize hPd : (fun (o : Outcome) (U' : State) => ∃ v L, o = .returned v ∧ Q2 Z xc s__VALUES kV s_STRING s_LONG s_INT s_BYTE_ARRAY s_CUSTOM xv h0 n0 v U'.heap L ∧ FrameEnd s o U' L ({ frames := 2, cells := 1, slots := 5, locals := 25 } : Room).cells ({ frames := 2, cells := 1, slots := 5, locals := 25 } : Room).slots) = P
  obtain ⟨_, _, ⟨T1, L1, k1, n1⟩, -, X1, ⟨Lc1, hQ1, l1, y1, z1⟩, st1⟩ := Jvm.LawKit.callS X0 hx (y := (⟨"com/example/danaid/danaid/io/ElementType", "values", "()[Lcom/example/danaid/danaid/io/ElementType;"⟩ : MethodName)) hown (mvT hZ (hw _ (List.mem_of_getElem? (i := 11) rfl))) (mvT hZ (hw _ (List.mem_of_getElem? (i := 12) rfl))) (mvT hZ (hw _ (List.mem_of_getElem? (i := 6) rfl))) (mvT hZ (hw _ (List.mem_of_getElem? (i := 13) rfl))) (by decide) (backOf (W := 0) (rm3 l Z a0 hw [] s__VALUES kV s_STRING s_LONG s_INT s_BYTE_ARRAY s_CUSTOM h0 n0 Z0 PF0 PF1 OL S__VALUES) hZ (hw _ (List.mem_of_getElem? (i := 13) rfl)) (hw _ (List.mem_of_getElem? (i := 6) rfl)) (by decide) (by decide)) (g := (mkF m 0 #[.val (.int xc), .unset, .unset, .unset, .unset] [])) rfl (by rw [hml]; rfl) (argsL := []) (rest := []) (lenOf pd_2_0 rfl) rfl (by show 2 * 0 + _ ≤ _; exact Nat.le_of_eq rfl) (hb hby d2_0) (fun _ _ => ⟨rfl, e0, (by decide : 0 + 1 ≤ _), (by decide : 0 + 5 ≤ _)⟩)
  dsimp only [Pt.U, Pt.locs, Pt.cells, Pt.slots] at X1 l1 y1 z1 st1 hQ1
  subst l1 y1 z1
  obtain ⟨bz_1, rfl, Nq1, Kq1, ⟨sq_bz_1, ge_bz_1⟩, pf1_0, pf1_1⟩ := hQ1
  have N1 := Fr.app N0 Nq1
  have sz_bz_1 : h0.size ≤ bz_1 := Nat.le_trans ((Keep.refl h0 [])).1 sq_bz_1
  have ne_s__VALUES_bz_1 : s__VALUES ≠ bz_1 := Nat.ne_of_lt (Nat.lt_of_lt_of_le PF0.lt sq_bz_1)
  have ne_s_STRING_bz_1 : s_STRING ≠ bz_1 := Nat.ne_of_lt (Nat.lt_of_lt_of_le PF2.lt sq_bz_1)
  have ne_s_LONG_bz_1 : s_LONG ≠ bz_1 := Nat.ne_of_lt (Nat.lt_of_lt_of_le PF3.lt sq_bz_1)
  have ne_s_INT_bz_1 : s_INT ≠ bz_1 := Nat.ne_of_lt (Nat.lt_of_lt_of_le PF4.lt sq_bz_1)
  have ne_s_BYTE_ARRAY_bz_1 : s_BYTE_ARRAY ≠ bz_1 := Nat.ne_of_lt (Nat.lt_of_lt_of_le PF5.lt sq_bz_1)
  have ne_s_CUSTOM_bz_1 : s_CUSTOM ≠ bz_1 := Nat.ne_of_lt (Nat.lt_of_lt_of_le PF6.lt sq_bz_1)
  have E2 : Exa Z T1.heap s__VALUES "[Lcom/example/danaid/danaid/io/ElementType;" := PF0.keep Kq1
  have V3 : Arv Z T1.heap s__VALUES kV (.object "com/example/danaid/danaid/io/ElementType") (5 : Int32) [(.ref s_STRING), (.ref s_LONG), (.ref s_INT), (.ref s_BYTE_ARRAY), (.ref s_CUSTOM)] .null := PF1.keep Kq1 nin0
  have F4 : Fld Z T1.heap s_STRING "com/example/danaid/danaid/io/ElementType" "code" "I" (.int (1 : Int32)) := PF2.keep Kq1 nin0
  have F5 : Fld Z T1.heap s_LONG "com/example/danaid/danaid/io/ElementType" "code" "I" (.int (2 : Int32)) := PF3.keep Kq1 nin0
  have F6 : Fld Z T1.heap s_INT "com/example/danaid/danaid/io/ElementType" "code" "I" (.int (3 : Int32)) := PF4.keep Kq1 nin0
  have F7 : Fld Z T1.heap s_BYTE_ARRAY "com/example/danaid/danaid/io/ElementType" "code" "I" (.int (4 : Int32)) := PF5.keep Kq1 nin0
  have F8 : Fld Z T1.heap s_CUSTOM "com/example/danaid/danaid/io/ElementType" "code" "I" (.int (5 : Int32)) := PF6.keep Kq1 nin0
  have O9 : Old Z n0 T1.heap := OL.keep Kq1 all0
  have sz1 : n0 ≤ T1.heap.size := Nat.le_trans Z0 Kq1.1
  have K1 : Keep h0 T1.heap [] := ((Keep.refl h0 [])).trans Kq1 all0
  refine own_Goes.via (T' := T1) (g' := (mkF m 3 #[.val (.int xc), .unset, .unset, .unset, .unset] [(.ref bz_1)])) (st1) ?_
  refine own_Goes.via (T' := T1) (g' := (mkF m 4 #[.val (.int xc), .val (.ref bz_1), .unset, .unset, .unset] [])) (fun t_ k_ => XS.astoreN X1.here hx rfl (hb hby d2_3) rfl rfl (l' := #[.val (.int xc), .val (.ref bz_1), .unset, .unset, .unset]) rfl k_) ?_
  refine own_Goes.via (T' := T1) (g' := (mkF m 5 #[.val (.int xc), .val (.ref bz_1), .unset, .unset, .unset] [(.ref bz_1)])) (fun t_ k_ => XS.aloadN X1.here hx rfl (hb hby d2_4) rfl rfl k_) ?_
  obtain ⟨cl10, Ar10, -, Sl10, Ng10, -, -⟩ := id pf1_1
  refine own_Goes.via (T' := T1) (g' := (mkF m 6 #[.val (.int xc), .val (.ref bz_1), .unset, .unset, .unset] [(.int (5 : Int32))])) (fun t_ k_ => X1.arraylength hx Ar10.1 (State.isArrayOf_alike hZ.alike Ar10.2.1) (g := (mkF m 5 #[.val (.int xc), .val (.ref bz_1), .unset, .unset, .unset] [(.ref bz_1)])) rfl rfl (hb hby d2_5) _ (by rw [len_of Sl10 Ng10]; exact k_)) ?_
  refine own_Goes.via (T' := T1) (g' := (mkF m 7 #[.val (.int xc), .val (.ref bz_1), .val (.int (5 : Int32)), .unset, .unset] [])) (fun t_ k_ => XS.istoreN X1.here hx rfl (hb hby d2_6) rfl (l' := #[.val (.int xc), .val (.ref bz_1), .val (.int (5 : Int32)), .unset, .unset]) rfl k_) ?_
  refine own_Goes.via (T' := T1) (g' := (mkF m 8 #[.val (.int xc), .val (.ref bz_1), .val (.int (5 : Int32)), .unset, .unset] [(.int (0 : Int32))])) (fun t_ k_ => XS.iconst X1.here hx rfl (hb hby d2_7) k_) ?_
  refine own_Goes.via (T' := T1) (g' := (mkF m 9 #[.val (.int xc), .val (.ref bz_1), .val (.int (5 : Int32)), .val (.int (0 : Int32)), .unset] [])) (fun t_ k_ => XS.istoreN X1.here hx rfl (hb hby d2_8) rfl (l' := #[.val (.int xc), .val (.ref bz_1), .val (.int (5 : Int32)), .val (.int (0 : Int32)), .unset]) rfl k_) ?_
  refine own_Goes.via (T' := T1) (g' := (mkF m 10 #[.val (.int xc), .val (.ref bz_1), .val (.int (5 : Int32)), .val (.int (0 : Int32)), .unset] [(.int (0 : Int32))])) (fun t_ k_ => XS.iloadN X1.here hx rfl (hb hby d2_9) rfl k_) ?_
  refine own_Goes.via (T' := T1) (g' := (mkF m 11 #[.val (.int xc), .val (.ref bz_1), .val (.int (5 : Int32)), .val (.int (0 : Int32)), .unset] [(.int (5 : Int32)), (.int (0 : Int32))])) (fun t_ k_ => XS.iloadN X1.here hx rfl (hb hby d2_10) rfl k_) ?_
  refine own_Goes.via (T' := T1) (g' := (mkF m 14 #[.val (.int xc), .val (.ref bz_1), .val (.int (5 : Int32)), .val (.int (0 : Int32)), .unset] [])) (fun t_ k_ => XS.icmpNo X1.here hx rfl (hb hby d2_11) rfl (tlt (by decide : (0 : Int32) < (5 : Int32))).2.1 k_) ?_
  refine own_Goes.via (T' := T1) (g' := (mkF m 15 #[.val (.int xc), .val (.ref bz_1), .val (.int (5 : Int32)), .val (.int (0 : Int32)), .unset] [(.ref bz_1)])) (fun t_ k_ => XS.aloadN X1.here hx rfl (hb hby d2_14) rfl rfl k_) ?_
  refine own_Goes.via (T' := T1) (g' := (mkF m 16 #[.val (.int xc), .val (.ref bz_1), .val (.int (5 : Int32)), .val (.int (0 : Int32)), .unset] [(.int (0 : Int32)), (.ref bz_1)])) (fun t_ k_ => XS.iloadN X1.here hx rfl (hb hby d2_15) rfl k_) ?_
  obtain ⟨cl11, Ar11, -, Sl11, Ng11, H11, -⟩ := id pf1_1
  have in16_12 : ¬ (0 : Int32) < 0 ∧ (0 : Int32) < (5 : Int32) := by decide
  have at11 := H11.at (inb_of Sl11 in16_12) (v := (.ref s_STRING)) rfl
  refine own_Goes.via (T' := T1) (g' := (mkF m 17 #[.val (.int xc), .val (.ref bz_1), .val (.int (5 : Int32)), .val (.int (0 : Int32)), .unset] [(.ref s_STRING)])) (fun t_ k_ => X1.aaload hx (j := (0 : Int32)) (v := (.ref s_STRING)) Ar11.1 (State.isArrayOf_alike hZ.alike Ar11.2.1) rfl Ar11.2.2 (inb_of Sl11 in16_12) at11 (g := (mkF m 16 #[.val (.int xc), .val (.ref bz_1), .val (.int (5 : Int32)), .val (.int (0 : Int32)), .unset] [(.int (0 : Int32)), (.ref bz_1)])) rfl rfl (hb hby d2_16) _ k_) ?_
  refine own_Goes.via (T' := T1) (g' := (mkF m 19 #[.val (.int xc), .val (.ref bz_1), .val (.int (5 : Int32)), .val (.int (0 : Int32)), .val (.ref s_STRING)] [])) (fun t_ k_ => XS.astore X1.here hx rfl (hb hby d2_17) rfl rfl (l' := #[.val (.int xc), .val (.ref bz_1), .val (.int (5 : Int32)), .val (.int (0 : Int32)), .val (.ref s_STRING)]) rfl k_) ?_
  refine own_Goes.via (T' := T1) (g' := (mkF m 21 #[.val (.int xc), .val (.ref bz_1), .val (.int (5 : Int32)), .val (.int (0 : Int32)), .val (.ref s_STRING)] [(.ref s_STRING)])) (fun t_ k_ => XS.aload X1.here hx rfl (hb hby d2_19) rfl rfl k_) ?_
  obtain ⟨T13, X13, e13, st13⟩ := getF X1 hx hZ hown (host := "") (Or.inl (hw _ (List.mem_of_getElem? (i := 30) rfl))) Via.refl rfl F4 (g := (mkF m 21 #[.val (.int xc), .val (.ref bz_1), .val (.int (5 : Int32)), .val (.int (0 : Int32)), .val (.ref s_STRING)] [(.ref s_STRING)])) rfl rfl (hb hby d2_21)
  refine own_Goes.via (T' := T13) (g' := (mkF m 24 #[.val (.int xc), .val (.ref bz_1), .val (.int (5 : Int32)), .val (.int (0 : Int32)), .val (.ref s_STRING)] [(.int (1 : Int32))])) (st13) ?_
  refine own_Goes.via (T' := T13) (g' := (mkF m 25 #[.val (.int xc), .val (.ref bz_1), .val (.int (5 : Int32)), .val (.int (0 : Int32)), .val (.ref s_STRING)] [(.int xc), (.int (1 : Int32))])) (fun t_ k_ => XS.iloadN X13.here hx rfl (hb hby d2_24) rfl k_) ?_
  by_cases hc25_14 : (1 : Int32) = xc
  · refine own_Goes.via (T' := T13) (g' := (mkF m 28 #[.val (.int xc), .val (.ref bz_1), .val (.int (5 : Int32)), .val (.int (0 : Int32)), .val (.ref s_STRING)] [])) (fun t_ k_ => XS.icmpNo X13.here hx rfl (hb hby d2_25) rfl (teq hc25_14).2 k_) ?_
    refine own_Goes.via (T' := T13) (g' := (mkF m 30 #[.val (.int xc), .val (.ref bz_1), .val (.int (5 : Int32)), .val (.int (0 : Int32)), .val (.ref s_STRING)] [(.ref s_STRING)])) (fun t_ k_ => XS.aload X13.here hx rfl (hb hby d2_28) rfl rfl k_) ?_
    obtain ⟨fs, hr, hrun, hended, hW, hsame⟩ := X13.leave (v := some (.ref s_STRING)) (fun h => by rw [Bd.returns] at h; cases h)
    refine own_Goes.fin (retOut X13 hx Bd.returns rfl (Or.inr (Or.inr (Or.inr (Or.inr ⟨rfl, rfl, rfl⟩)))) (hb hby d2_30) hr) hrun hended ?_
    subst hPd
    refine ⟨_, _, rfl, ?_, ⟨_, rfl⟩, hW, hsame.mono (by decide) (by decide)⟩
    show Q2 Z xc s__VALUES kV s_STRING s_LONG s_INT s_BYTE_ARRAY s_CUSTOM xv h0 n0 _ T13.heap _
    rw [e13]
    exact ⟨(by rw [hxv]; simp only [own_code, if_pos hc25_14.symm]), N1, K1⟩
  · refine own_Goes.via (T' := T13) (g' := (mkF m 31 #[.val (.int xc), .val (.ref bz_1), .val (.int (5 : Int32)), .val (.int (0 : Int32)), .val (.ref s_STRING)] [])) (fun t_ k_ => XS.icmpYes X13.here hx rfl (pc0 := 25) (pc' := 31) rfl (hb hby d2_25) rfl (feq hc25_14).2 (by decide) (by decide) k_) ?_
    refine own_Goes.via (T' := T13) (g' := (mkF m 34 #[.val (.int xc), .val (.ref bz_1), .val (.int (5 : Int32)), .val (.int (1 : Int32)), .val (.ref s_STRING)] [])) (fun t_ k_ => XS.iinc X13.here hx rfl (hb hby d2_31) rfl (l' := #[.val (.int xc), .val (.ref bz_1), .val (.int (5 : Int32)), .val (.int (1 : Int32)), .val (.ref s_STRING)]) rfl k_) ?_
    refine own_Goes.via (T' := T13) (g' := (mkF m 9 #[.val (.int xc), .val (.ref bz_1), .val (.int (5 : Int32)), .val (.int (1 : Int32)), .val (.ref s_STRING)] [])) (fun t_ k_ => XS.goto X13.here hx rfl (pc0 := 34) (pc' := 9) rfl (hb hby d2_34) (by decide) (by decide) k_) ?_
    refine own_Goes.via (T' := T13) (g' := (mkF m 10 #[.val (.int xc), .val (.ref bz_1), .val (.int (5 : Int32)), .val (.int (1 : Int32)), .val (.ref s_STRING)] [(.int (1 : Int32))])) (fun t_ k_ => XS.iloadN X13.here hx rfl (hb hby d2_9) rfl k_) ?_
    refine own_Goes.via (T' := T13) (g' := (mkF m 11 #[.val (.int xc), .val (.ref bz_1), .val (.int (5 : Int32)), .val (.int (1 : Int32)), .val (.ref s_STRING)] [(.int (5 : Int32)), (.int (1 : Int32))])) (fun t_ k_ => XS.iloadN X13.here hx rfl (hb hby d2_10) rfl k_) ?_
    refine own_Goes.via (T' := T13) (g' := (mkF m 14 #[.val (.int xc), .val (.ref bz_1), .val (.int (5 : Int32)), .val (.int (1 : Int32)), .val (.ref s_STRING)] [])) (fun t_ k_ => XS.icmpNo X13.here hx rfl (hb hby d2_11) rfl (tlt (by decide : (1 : Int32) < (5 : Int32))).2.1 k_) ?_
    refine own_Goes.via (T' := T13) (g' := (mkF m 15 #[.val (.int xc), .val (.ref bz_1), .val (.int (5 : Int32)), .val (.int (1 : Int32)), .val (.ref s_STRING)] [(.ref bz_1)])) (fun t_ k_ => XS.aloadN X13.here hx rfl (hb hby d2_14) rfl rfl k_) ?_
    refine own_Goes.via (T' := T13) (g' := (mkF m 16 #[.val (.int xc), .val (.ref bz_1), .val (.int (5 : Int32)), .val (.int (1 : Int32)), .val (.ref s_STRING)] [(.int (1 : Int32)), (.ref bz_1)])) (fun t_ k_ => XS.iloadN X13.here hx rfl (hb hby d2_15) rfl k_) ?_
    obtain ⟨cl15, Ar15, -, Sl15, Ng15, H15, -⟩ := id pf1_1
    have in16_16 : ¬ (1 : Int32) < 0 ∧ (1 : Int32) < (5 : Int32) := by decide
    have at15 := H15.at (inb_of Sl15 in16_16) (v := (.ref s_LONG)) rfl
    refine own_Goes.via (T' := T13) (g' := (mkF m 17 #[.val (.int xc), .val (.ref bz_1), .val (.int (5 : Int32)), .val (.int (1 : Int32)), .val (.ref s_STRING)] [(.ref s_LONG)])) (fun t_ k_ => X13.aaload hx (j := (1 : Int32)) (v := (.ref s_LONG)) (by rw [e13]; exact Ar15.1) (State.isArrayOf_alike hZ.alike Ar15.2.1) rfl Ar15.2.2 (inb_of Sl15 in16_16) at15 (g := (mkF m 16 #[.val (.int xc), .val (.ref bz_1), .val (.int (5 : Int32)), .val (.int (1 : Int32)), .val (.ref s_STRING)] [(.int (1 : Int32)), (.ref bz_1)])) rfl rfl (hb hby d2_16) _ k_) ?_
    refine own_Goes.via (T' := T13) (g' := (mkF m 19 #[.val (.int xc), .val (.ref bz_1), .val (.int (5 : Int32)), .val (.int (1 : Int32)), .val (.ref s_LONG)] [])) (fun t_ k_ => XS.astore X13.here hx rfl (hb hby d2_17) rfl rfl (l' := #[.val (.int xc), .val (.ref bz_1), .val (.int (5 : Int32)), .val (.int (1 : Int32)), .val (.ref s_LONG)]) rfl k_) ?_
    refine own_Goes.via (T' := T13) (g' := (mkF m 21 #[.val (.int xc), .val (.ref bz_1), .val (.int (5 : Int32)), .val (.int (1 : Int32)), .val (.ref s_LONG)] [(.ref s_LONG)])) (fun t_ k_ => XS.aload X13.here hx rfl (hb hby d2_19) rfl rfl k_) ?_
    obtain ⟨T17, X17, e17, st17⟩ := getF X13 hx hZ hown (host := "") (Or.inl (hw _ (List.mem_of_getElem? (i := 30) rfl))) Via.refl e13 F5 (g := (mkF m 21 #[.val (.int xc), .val (.ref bz_1), .val (.int (5 : Int32)), .val (.int (1 : Int32)), .val (.ref s_LONG)] [(.ref s_LONG)])) rfl rfl (hb hby d2_21)
    refine own_Goes.via (T' := T17) (g' := (mkF m 24 #[.val (.int xc), .val (.ref bz_1), .val (.int (5 : Int32)), .val (.int (1 : Int32)), .val (.ref s_LONG)] [(.int (2 : Int32))])) (st17) ?_
    refine own_Goes.via (T' := T17) (g' := (mkF m 25 #[.val (.int xc), .val (.ref bz_1), .val (.int (5 : Int32)), .val (.int (1 : Int32)), .val (.ref s_LONG)] [(.int xc), (.int (2 : Int32))])) (fun t_ k_ => XS.iloadN X17.here hx rfl (hb hby d2_24) rfl k_) ?_
    by_cases hc25_18 : (2 : Int32) = xc
    · refine own_Goes.via (T' := T17) (g' := (mkF m 28 #[.val (.int xc), .val (.ref bz_1), .val (.int (5 : Int32)), .val (.int (1 : Int32)), .val (.ref s_LONG)] [])) (fun t_ k_ => XS.icmpNo X17.here hx rfl (hb hby d2_25) rfl (teq hc25_18).2 k_) ?_
      refine own_Goes.via (T' := T17) (g' := (mkF m 30 #[.val (.int xc), .val (.ref bz_1), .val (.int (5 : Int32)), .val (.int (1 : Int32)), .val (.ref s_LONG)] [(.ref s_LONG)])) (fun t_ k_ => XS.aload X17.here hx rfl (hb hby d2_28) rfl rfl k_) ?_
      obtain ⟨fs, hr, hrun, hended, hW, hsame⟩ := X17.leave (v := some (.ref s_LONG)) (fun h => by rw [Bd.returns] at h; cases h)
      refine own_Goes.fin (retOut X17 hx Bd.returns rfl (Or.inr (Or.inr (Or.inr (Or.inr ⟨rfl, rfl, rfl⟩)))) (hb hby d2_30) hr) hrun hended ?_
      subst hPd
      refine ⟨_, _, rfl, ?_, ⟨_, rfl⟩, hW, hsame.mono (by decide) (by decide)⟩
      show Q2 Z xc s__VALUES kV s_STRING s_LONG s_INT s_BYTE_ARRAY s_CUSTOM xv h0 n0 _ T17.heap _
      rw [e17]
      exact ⟨(by rw [hxv]; simp only [own_code, if_neg (show ¬ (xc = (1 : Int32)) from fun q => hc25_14 q.symm), if_pos hc25_18.symm]), N1, K1⟩
    · refine own_Goes.via (T' := T17) (g' := (mkF m 31 #[.val (.int xc), .val (.ref bz_1), .val (.int (5 : Int32)), .val (.int (1 : Int32)), .val (.ref s_LONG)] [])) (fun t_ k_ => XS.icmpYes X17.here hx rfl (pc0 := 25) (pc' := 31) rfl (hb hby d2_25) rfl (feq hc25_18).2 (by decide) (by decide) k_) ?_
      refine own_Goes.via (T' := T17) (g' := (mkF m 34 #[.val (.int xc), .val (.ref bz_1), .val (.int (5 : Int32)), .val (.int (2 : Int32)), .val (.ref s_LONG)] [])) (fun t_ k_ => XS.iinc X17.here hx rfl (hb hby d2_31) rfl (l' := #[.val (.int xc), .val (.ref bz_1), .val (.int (5 : Int32)), .val (.int (2 : Int32)), .val (.ref s_LONG)]) rfl k_) ?_
      refine own_Goes.via (T' := T17) (g' := (mkF m 9 #[.val (.int xc), .val (.ref bz_1), .val (.int (5 : Int32)), .val (.int (2 : Int32)), .val (.ref s_LONG)] [])) (fun t_ k_ => XS.goto X17.here hx rfl (pc0 := 34) (pc' := 9) rfl (hb hby d2_34) (by decide) (by decide) k_) ?_
      refine own_Goes.via (T' := T17) (g' := (mkF m 10 #[.val (.int xc), .val (.ref bz_1), .val (.int (5 : Int32)), .val (.int (2 : Int32)), .val (.ref s_LONG)] [(.int (2 : Int32))])) (fun t_ k_ => XS.iloadN X17.here hx rfl (hb hby d2_9) rfl k_) ?_
      refine own_Goes.via (T' := T17) (g' := (mkF m 11 #[.val (.int xc), .val (.ref bz_1), .val (.int (5 : Int32)), .val (.int (2 : Int32)), .val (.ref s_LONG)] [(.int (5 : Int32)), (.int (2 : Int32))])) (fun t_ k_ => XS.iloadN X17.here hx rfl (hb hby d2_10) rfl k_) ?_
      refine own_Goes.via (T' := T17) (g' := (mkF m 14 #[.val (.int xc), .val (.ref bz_1), .val (.int (5 : Int32)), .val (.int (2 : Int32)), .val (.ref s_LONG)] [])) (fun t_ k_ => XS.icmpNo X17.here hx rfl (hb hby d2_11) rfl (tlt (by decide : (2 : Int32) < (5 : Int32))).2.1 k_) ?_
      refine own_Goes.via (T' := T17) (g' := (mkF m 15 #[.val (.int xc), .val (.ref bz_1), .val (.int (5 : Int32)), .val (.int (2 : Int32)), .val (.ref s_LONG)] [(.ref bz_1)])) (fun t_ k_ => XS.aloadN X17.here hx rfl (hb hby d2_14) rfl rfl k_) ?_
      refine own_Goes.via (T' := T17) (g' := (mkF m 16 #[.val (.int xc), .val (.ref bz_1), .val (.int (5 : Int32)), .val (.int (2 : Int32)), .val (.ref s_LONG)] [(.int (2 : Int32)), (.ref bz_1)])) (fun t_ k_ => XS.iloadN X17.here hx rfl (hb hby d2_15) rfl k_) ?_
      obtain ⟨cl19, Ar19, -, Sl19, Ng19, H19, -⟩ := id pf1_1
      have in16_20 : ¬ (2 : Int32) < 0 ∧ (2 : Int32) < (5 : Int32) := by decide
      have at19 := H19.at (inb_of Sl19 in16_20) (v := (.ref s_INT)) rfl
      refine own_Goes.via (T' := T17) (g' := (mkF m 17 #[.val (.int xc), .val (.ref bz_1), .val (.int (5 : Int32)), .val (.int (2 : Int32)), .val (.ref s_LONG)] [(.ref s_INT)])) (fun t_ k_ => X17.aaload hx (j := (2 : Int32)) (v := (.ref s_INT)) (by rw [e17]; exact Ar19.1) (State.isArrayOf_alike hZ.alike Ar19.2.1) rfl Ar19.2.2 (inb_of Sl19 in16_20) at19 (g := (mkF m 16 #[.val (.int xc), .val (.ref bz_1), .val (.int (5 : Int32)), .val (.int (2 : Int32)), .val (.ref s_LONG)] [(.int (2 : Int32)), (.ref bz_1)])) rfl rfl (hb hby d2_16) _ k_) ?_
      refine own_Goes.via (T' := T17) (g' := (mkF m 19 #[.val (.int xc), .val (.ref bz_1), .val (.int (5 : Int32)), .val (.int (2 : Int32)), .val (.ref s_INT)] [])) (fun t_ k_ => XS.astore X17.here hx rfl (hb hby d2_17) rfl rfl (l' := #[.val (.int xc), .val (.ref bz_1), .val (.int (5 : Int32)), .val (.int (2 : Int32)), .val (.ref s_INT)]) rfl k_) ?_
      refine own_Goes.via (T' := T17) (g' := (mkF m 21 #[.val (.int xc), .val (.ref bz_1), .val (.int (5 : Int32)), .val (.int (2 : Int32)), .val (.ref s_INT)] [(.ref s_INT)])) (fun t_ k_ => XS.aload X17.here hx rfl (hb hby d2_19) rfl rfl k_) ?_
      obtain ⟨T21, X21, e21, st21⟩ := getF X17 hx hZ hown (host := "") (Or.inl (hw _ (List.mem_of_getElem? (i := 30) rfl))) Via.refl e17 F6 (g := (mkF m 21 #[.val (.int xc), .val (.ref bz_1), .val (.int (5 : Int32)), .val (.int (2 : Int32)), .val (.ref s_INT)] [(.ref s_INT)])) rfl rfl (hb hby d2_21)
      refine own_Goes.via (T' := T21) (g' := (mkF m 24 #[.val (.int xc), .val (.ref bz_1), .val (.int (5 : Int32)), .val (.int (2 : Int32)), .val (.ref s_INT)] [(.int (3 : Int32))])) (st21) ?_
      refine own_Goes.via (T' := T21) (g' := (mkF m 25 #[.val (.int xc), .val (.ref bz_1), .val (.int (5 : Int32)), .val (.int (2 : Int32)), .val (.ref s_INT)] [(.int xc), (.int (3 : Int32))])) (fun t_ k_ => XS.iloadN X21.here hx rfl (hb hby d2_24) rfl k_) ?_
      by_cases hc25_22 : (3 : Int32) = xc
      · refine own_Goes.via (T' := T21) (g' := (mkF m 28 #[.val (.int xc), .val (.ref bz_1), .val (.int (5 : Int32)), .val (.int (2 : Int32)), .val (.ref s_INT)] [])) (fun t_ k_ => XS.icmpNo X21.here hx rfl (hb hby d2_25) rfl (teq hc25_22).2 k_) ?_
        refine own_Goes.via (T' := T21) (g' := (mkF m 30 #[.val (.int xc), .val (.ref bz_1), .val (.int (5 : Int32)), .val (.int (2 : Int32)), .val (.ref s_INT)] [(.ref s_INT)])) (fun t_ k_ => XS.aload X21.here hx rfl (hb hby d2_28) rfl rfl k_) ?_
        obtain ⟨fs, hr, hrun, hended, hW, hsame⟩ := X21.leave (v := some (.ref s_INT)) (fun h => by rw [Bd.returns] at h; cases h)
        refine own_Goes.fin (retOut X21 hx Bd.returns rfl (Or.inr (Or.inr (Or.inr (Or.inr ⟨rfl, rfl, rfl⟩)))) (hb hby d2_30) hr) hrun hended ?_
        subst hPd
        refine ⟨_, _, rfl, ?_, ⟨_, rfl⟩, hW, hsame.mono (by decide) (by decide)⟩
        show Q2 Z xc s__VALUES kV s_STRING s_LONG s_INT s_BYTE_ARRAY s_CUSTOM xv h0 n0 _ T21.heap _
        rw [e21]
        exact ⟨(by rw [hxv]; simp only [own_code, if_neg (show ¬ (xc = (1 : Int32)) from fun q => hc25_14 q.symm), if_neg (show ¬ (xc = (2 : Int32)) from fun q => hc25_18 q.symm), if_pos hc25_22.symm]), N1, K1⟩
      · refine own_Goes.via (T' := T21) (g' := (mkF m 31 #[.val (.int xc), .val (.ref bz_1), .val (.int (5 : Int32)), .val (.int (2 : Int32)), .val (.ref s_INT)] [])) (fun t_ k_ => XS.icmpYes X21.here hx rfl (pc0 := 25) (pc' := 31) rfl (hb hby d2_25) rfl (feq hc25_22).2 (by decide) (by decide) k_) ?_
        refine own_Goes.via (T' := T21) (g' := (mkF m 34 #[.val (.int xc), .val (.ref bz_1), .val (.int (5 : Int32)), .val (.int (3 : Int32)), .val (.ref s_INT)] [])) (fun t_ k_ => XS.iinc X21.here hx rfl (hb hby d2_31) rfl (l' := #[.val (.int xc), .val (.ref bz_1), .val (.int (5 : Int32)), .val (.int (3 : Int32)), .val (.ref s_INT)]) rfl k_) ?_
        refine own_Goes.via (T' := T21) (g' := (mkF m 9 #[.val (.int xc), .val (.ref bz_1), .val (.int (5 : Int32)), .val (.int (3 : Int32)), .val (.ref s_INT)] [])) (fun t_ k_ => XS.goto X21.here hx rfl (pc0 := 34) (pc' := 9) rfl (hb hby d2_34) (by decide) (by decide) k_) ?_
        refine own_Goes.via (T' := T21) (g' := (mkF m 10 #[.val (.int xc), .val (.ref bz_1), .val (.int (5 : Int32)), .val (.int (3 : Int32)), .val (.ref s_INT)] [(.int (3 : Int32))])) (fun t_ k_ => XS.iloadN X21.here hx rfl (hb hby d2_9) rfl k_) ?_
        refine own_Goes.via (T' := T21) (g' := (mkF m 11 #[.val (.int xc), .val (.ref bz_1), .val (.int (5 : Int32)), .val (.int (3 : Int32)), .val (.ref s_INT)] [(.int (5 : Int32)), (.int (3 : Int32))])) (fun t_ k_ => XS.iloadN X21.here hx rfl (hb hby d2_10) rfl k_) ?_
        refine own_Goes.via (T' := T21) (g' := (mkF m 14 #[.val (.int xc), .val (.ref bz_1), .val (.int (5 : Int32)), .val (.int (3 : Int32)), .val (.ref s_INT)] [])) (fun t_ k_ => XS.icmpNo X21.here hx rfl (hb hby d2_11) rfl (tlt (by decide : (3 : Int32) < (5 : Int32))).2.1 k_) ?_
        refine own_Goes.via (T' := T21) (g' := (mkF m 15 #[.val (.int xc), .val (.ref bz_1), .val (.int (5 : Int32)), .val (.int (3 : Int32)), .val (.ref s_INT)] [(.ref bz_1)])) (fun t_ k_ => XS.aloadN X21.here hx rfl (hb hby d2_14) rfl rfl k_) ?_
        refine own_Goes.via (T' := T21) (g' := (mkF m 16 #[.val (.int xc), .val (.ref bz_1), .val (.int (5 : Int32)), .val (.int (3 : Int32)), .val (.ref s_INT)] [(.int (3 : Int32)), (.ref bz_1)])) (fun t_ k_ => XS.iloadN X21.here hx rfl (hb hby d2_15) rfl k_) ?_
        obtain ⟨cl23, Ar23, -, Sl23, Ng23, H23, -⟩ := id pf1_1
        have in16_24 : ¬ (3 : Int32) < 0 ∧ (3 : Int32) < (5 : Int32) := by decide
        have at23 := H23.at (inb_of Sl23 in16_24) (v := (.ref s_BYTE_ARRAY)) rfl
        refine own_Goes.via (T' := T21) (g' := (mkF m 17 #[.val (.int xc), .val (.ref bz_1), .val (.int (5 : Int32)), .val (.int (3 : Int32)), .val (.ref s_INT)] [(.ref s_BYTE_ARRAY)])) (fun t_ k_ => X21.aaload hx (j := (3 : Int32)) (v := (.ref s_BYTE_ARRAY)) (by rw [e21]; exact Ar23.1) (State.isArrayOf_alike hZ.alike Ar23.2.1) rfl Ar23.2.2 (inb_of Sl23 in16_24) at23 (g := (mkF m 16 #[.val (.int xc), .val (.ref bz_1), .val (.int (5 : Int32)), .val (.int (3 : Int32)), .val (.ref s_INT)] [(.int (3 : Int32)), (.ref bz_1)])) rfl rfl (hb hby d2_16) _ k_) ?_
        refine own_Goes.via (T' := T21) (g' := (mkF m 19 #[.val (.int xc), .val (.ref bz_1), .val (.int (5 : Int32)), .val (.int (3 : Int32)), .val (.ref s_BYTE_ARRAY)] [])) (fun t_ k_ => XS.astore X21.here hx rfl (hb hby d2_17) rfl rfl (l' := #[.val (.int xc), .val (.ref bz_1), .val (.int (5 : Int32)), .val (.int (3 : Int32)), .val (.ref s_BYTE_ARRAY)]) rfl k_) ?_
        refine own_Goes.via (T' := T21) (g' := (mkF m 21 #[.val (.int xc), .val (.ref bz_1), .val (.int (5 : Int32)), .val (.int (3 : Int32)), .val (.ref s_BYTE_ARRAY)] [(.ref s_BYTE_ARRAY)])) (fun t_ k_ => XS.aload X21.here hx rfl (hb hby d2_19) rfl rfl k_) ?_
        obtain ⟨T25, X25, e25, st25⟩ := getF X21 hx hZ hown (host := "") (Or.inl (hw _ (List.mem_of_getElem? (i := 30) rfl))) Via.refl e21 F7 (g := (mkF m 21 #[.val (.int xc), .val (.ref bz_1), .val (.int (5 : Int32)), .val (.int (3 : Int32)), .val (.ref s_BYTE_ARRAY)] [(.ref s_BYTE_ARRAY)])) rfl rfl (hb hby d2_21)
        refine own_Goes.via (T' := T25) (g' := (mkF m 24 #[.val (.int xc), .val (.ref bz_1), .val (.int (5 : Int32)), .val (.int (3 : Int32)), .val (.ref s_BYTE_ARRAY)] [(.int (4 : Int32))])) (st25) ?_
        refine own_Goes.via (T' := T25) (g' := (mkF m 25 #[.val (.int xc), .val (.ref bz_1), .val (.int (5 : Int32)), .val (.int (3 : Int32)), .val (.ref s_BYTE_ARRAY)] [(.int xc), (.int (4 : Int32))])) (fun t_ k_ => XS.iloadN X25.here hx rfl (hb hby d2_24) rfl k_) ?_
        by_cases hc25_26 : (4 : Int32) = xc
        · refine own_Goes.via (T' := T25) (g' := (mkF m 28 #[.val (.int xc), .val (.ref bz_1), .val (.int (5 : Int32)), .val (.int (3 : Int32)), .val (.ref s_BYTE_ARRAY)] [])) (fun t_ k_ => XS.icmpNo X25.here hx rfl (hb hby d2_25) rfl (teq hc25_26).2 k_) ?_
          refine own_Goes.via (T' := T25) (g' := (mkF m 30 #[.val (.int xc), .val (.ref bz_1), .val (.int (5 : Int32)), .val (.int (3 : Int32)), .val (.ref s_BYTE_ARRAY)] [(.ref s_BYTE_ARRAY)])) (fun t_ k_ => XS.aload X25.here hx rfl (hb hby d2_28) rfl rfl k_) ?_
          obtain ⟨fs, hr, hrun, hended, hW, hsame⟩ := X25.leave (v := some (.ref s_BYTE_ARRAY)) (fun h => by rw [Bd.returns] at h; cases h)
          refine own_Goes.fin (retOut X25 hx Bd.returns rfl (Or.inr (Or.inr (Or.inr (Or.inr ⟨rfl, rfl, rfl⟩)))) (hb hby d2_30) hr) hrun hended ?_
          subst hPd
          refine ⟨_, _, rfl, ?_, ⟨_, rfl⟩, hW, hsame.mono (by decide) (by decide)⟩
          show Q2 Z xc s__VALUES kV s_STRING s_LONG s_INT s_BYTE_ARRAY s_CUSTOM xv h0 n0 _ T25.heap _
          rw [e25]
          exact ⟨(by rw [hxv]; simp only [own_code, if_neg (show ¬ (xc = (1 : Int32)) from fun q => hc25_14 q.symm), if_neg (show ¬ (xc = (2 : Int32)) from fun q => hc25_18 q.symm), if_neg (show ¬ (xc = (3 : Int32)) from fun q => hc25_22 q.symm), if_pos hc25_26.symm]), N1, K1⟩
        · refine own_Goes.via (T' := T25) (g' := (mkF m 31 #[.val (.int xc), .val (.ref bz_1), .val (.int (5 : Int32)), .val (.int (3 : Int32)), .val (.ref s_BYTE_ARRAY)] [])) (fun t_ k_ => XS.icmpYes X25.here hx rfl (pc0 := 25) (pc' := 31) rfl (hb hby d2_25) rfl (feq hc25_26).2 (by decide) (by decide) k_) ?_
          refine own_Goes.via (T' := T25) (g' := (mkF m 34 #[.val (.int xc), .val (.ref bz_1), .val (.int (5 : Int32)), .val (.int (4 : Int32)), .val (.ref s_BYTE_ARRAY)] [])) (fun t_ k_ => XS.iinc X25.here hx rfl (hb hby d2_31) rfl (l' := #[.val (.int xc), .val (.ref bz_1), .val (.int (5 : Int32)), .val (.int (4 : Int32)), .val (.ref s_BYTE_ARRAY)]) rfl k_) ?_
          refine own_Goes.via (T' := T25) (g' := (mkF m 9 #[.val (.int xc), .val (.ref bz_1), .val (.int (5 : Int32)), .val (.int (4 : Int32)), .val (.ref s_BYTE_ARRAY)] [])) (fun t_ k_ => XS.goto X25.here hx rfl (pc0 := 34) (pc' := 9) rfl (hb hby d2_34) (by decide) (by decide) k_) ?_
          refine own_Goes.via (T' := T25) (g' := (mkF m 10 #[.val (.int xc), .val (.ref bz_1), .val (.int (5 : Int32)), .val (.int (4 : Int32)), .val (.ref s_BYTE_ARRAY)] [(.int (4 : Int32))])) (fun t_ k_ => XS.iloadN X25.here hx rfl (hb hby d2_9) rfl k_) ?_
          refine own_Goes.via (T' := T25) (g' := (mkF m 11 #[.val (.int xc), .val (.ref bz_1), .val (.int (5 : Int32)), .val (.int (4 : Int32)), .val (.ref s_BYTE_ARRAY)] [(.int (5 : Int32)), (.int (4 : Int32))])) (fun t_ k_ => XS.iloadN X25.here hx rfl (hb hby d2_10) rfl k_) ?_
          refine own_Goes.via (T' := T25) (g' := (mkF m 14 #[.val (.int xc), .val (.ref bz_1), .val (.int (5 : Int32)), .val (.int (4 : Int32)), .val (.ref s_BYTE_ARRAY)] [])) (fun t_ k_ => XS.icmpNo X25.here hx rfl (hb hby d2_11) rfl (tlt (by decide : (4 : Int32) < (5 : Int32))).2.1 k_) ?_
          refine own_Goes.via (T' := T25) (g' := (mkF m 15 #[.val (.int xc), .val (.ref bz_1), .val (.int (5 : Int32)), .val (.int (4 : Int32)), .val (.ref s_BYTE_ARRAY)] [(.ref bz_1)])) (fun t_ k_ => XS.aloadN X25.here hx rfl (hb hby d2_14) rfl rfl k_) ?_
          refine own_Goes.via (T' := T25) (g' := (mkF m 16 #[.val (.int xc), .val (.ref bz_1), .val (.int (5 : Int32)), .val (.int (4 : Int32)), .val (.ref s_BYTE_ARRAY)] [(.int (4 : Int32)), (.ref bz_1)])) (fun t_ k_ => XS.iloadN X25.here hx rfl (hb hby d2_15) rfl k_) ?_
          obtain ⟨cl27, Ar27, -, Sl27, Ng27, H27, -⟩ := id pf1_1
          have in16_28 : ¬ (4 : Int32) < 0 ∧ (4 : Int32) < (5 : Int32) := by decide
          have at27 := H27.at (inb_of Sl27 in16_28) (v := (.ref s_CUSTOM)) rfl
          refine own_Goes.via (T' := T25) (g' := (mkF m 17 #[.val (.int xc), .val (.ref bz_1), .val (.int (5 : Int32)), .val (.int (4 : Int32)), .val (.ref s_BYTE_ARRAY)] [(.ref s_CUSTOM)])) (fun t_ k_ => X25.aaload hx (j := (4 : Int32)) (v := (.ref s_CUSTOM)) (by rw [e25]; exact Ar27.1) (State.isArrayOf_alike hZ.alike Ar27.2.1) rfl Ar27.2.2 (inb_of Sl27 in16_28) at27 (g := (mkF m 16 #[.val (.int xc), .val (.ref bz_1), .val (.int (5 : Int32)), .val (.int (4 : Int32)), .val (.ref s_BYTE_ARRAY)] [(.int (4 : Int32)), (.ref bz_1)])) rfl rfl (hb hby d2_16) _ k_) ?_
          refine own_Goes.via (T' := T25) (g' := (mkF m 19 #[.val (.int xc), .val (.ref bz_1), .val (.int (5 : Int32)), .val (.int (4 : Int32)), .val (.ref s_CUSTOM)] [])) (fun t_ k_ => XS.astore X25.here hx rfl (hb hby d2_17) rfl rfl (l' := #[.val (.int xc), .val (.ref bz_1), .val (.int (5 : Int32)), .val (.int (4 : Int32)), .val (.ref s_CUSTOM)]) rfl k_) ?_
          refine own_Goes.via (T' := T25) (g' := (mkF m 21 #[.val (.int xc), .val (.ref bz_1), .val (.int (5 : Int32)), .val (.int (4 : Int32)), .val (.ref s_CUSTOM)] [(.ref s_CUSTOM)])) (fun t_ k_ => XS.aload X25.here hx rfl (hb hby d2_19) rfl rfl k_) ?_
          obtain ⟨T29, X29, e29, st29⟩ := getF X25 hx hZ hown (host := "") (Or.inl (hw _ (List.mem_of_getElem? (i := 30) rfl))) Via.refl e25 F8 (g := (mkF m 21 #[.val (.int xc), .val (.ref bz_1), .val (.int (5 : Int32)), .val (.int (4 : Int32)), .val (.ref s_CUSTOM)] [(.ref s_CUSTOM)])) rfl rfl (hb hby d2_21)
          refine own_Goes.via (T' := T29) (g' := (mkF m 24 #[.val (.int xc), .val (.ref bz_1), .val (.int (5 : Int32)), .val (.int (4 : Int32)), .val (.ref s_CUSTOM)] [(.int (5 : Int32))])) (st29) ?_
          refine own_Goes.via (T' := T29) (g' := (mkF m 25 #[.val (.int xc), .val (.ref bz_1), .val (.int (5 : Int32)), .val (.int (4 : Int32)), .val (.ref s_CUSTOM)] [(.int xc), (.int (5 : Int32))])) (fun t_ k_ => XS.iloadN X29.here hx rfl (hb hby d2_24) rfl k_) ?_
          by_cases hc25_30 : (5 : Int32) = xc
          · refine own_Goes.via (T' := T29) (g' := (mkF m 28 #[.val (.int xc), .val (.ref bz_1), .val (.int (5 : Int32)), .val (.int (4 : Int32)), .val (.ref s_CUSTOM)] [])) (fun t_ k_ => XS.icmpNo X29.here hx rfl (hb hby d2_25) rfl (teq hc25_30).2 k_) ?_
            refine own_Goes.via (T' := T29) (g' := (mkF m 30 #[.val (.int xc), .val (.ref bz_1), .val (.int (5 : Int32)), .val (.int (4 : Int32)), .val (.ref s_CUSTOM)] [(.ref s_CUSTOM)])) (fun t_ k_ => XS.aload X29.here hx rfl (hb hby d2_28) rfl rfl k_) ?_
            obtain ⟨fs, hr, hrun, hended, hW, hsame⟩ := X29.leave (v := some (.ref s_CUSTOM)) (fun h => by rw [Bd.returns] at h; cases h)
            refine own_Goes.fin (retOut X29 hx Bd.returns rfl (Or.inr (Or.inr (Or.inr (Or.inr ⟨rfl, rfl, rfl⟩)))) (hb hby d2_30) hr) hrun hended ?_
            subst hPd
            refine ⟨_, _, rfl, ?_, ⟨_, rfl⟩, hW, hsame.mono (by decide) (by decide)⟩
            show Q2 Z xc s__VALUES kV s_STRING s_LONG s_INT s_BYTE_ARRAY s_CUSTOM xv h0 n0 _ T29.heap _
            rw [e29]
            exact ⟨(by rw [hxv]; simp only [own_code, if_neg (show ¬ (xc = (1 : Int32)) from fun q => hc25_14 q.symm), if_neg (show ¬ (xc = (2 : Int32)) from fun q => hc25_18 q.symm), if_neg (show ¬ (xc = (3 : Int32)) from fun q => hc25_22 q.symm), if_neg (show ¬ (xc = (4 : Int32)) from fun q => hc25_26 q.symm), if_pos hc25_30.symm]), N1, K1⟩
          · refine own_Goes.via (T' := T29) (g' := (mkF m 31 #[.val (.int xc), .val (.ref bz_1), .val (.int (5 : Int32)), .val (.int (4 : Int32)), .val (.ref s_CUSTOM)] [])) (fun t_ k_ => XS.icmpYes X29.here hx rfl (pc0 := 25) (pc' := 31) rfl (hb hby d2_25) rfl (feq hc25_30).2 (by decide) (by decide) k_) ?_
            refine own_Goes.via (T' := T29) (g' := (mkF m 34 #[.val (.int xc), .val (.ref bz_1), .val (.int (5 : Int32)), .val (.int (5 : Int32)), .val (.ref s_CUSTOM)] [])) (fun t_ k_ => XS.iinc X29.here hx rfl (hb hby d2_31) rfl (l' := #[.val (.int xc), .val (.ref bz_1), .val (.int (5 : Int32)), .val (.int (5 : Int32)), .val (.ref s_CUSTOM)]) rfl k_) ?_
            refine own_Goes.via (T' := T29) (g' := (mkF m 9 #[.val (.int xc), .val (.ref bz_1), .val (.int (5 : Int32)), .val (.int (5 : Int32)), .val (.ref s_CUSTOM)] [])) (fun t_ k_ => XS.goto X29.here hx rfl (pc0 := 34) (pc' := 9) rfl (hb hby d2_34) (by decide) (by decide) k_) ?_
            refine own_Goes.via (T' := T29) (g' := (mkF m 10 #[.val (.int xc), .val (.ref bz_1), .val (.int (5 : Int32)), .val (.int (5 : Int32)), .val (.ref s_CUSTOM)] [(.int (5 : Int32))])) (fun t_ k_ => XS.iloadN X29.here hx rfl (hb hby d2_9) rfl k_) ?_
            refine own_Goes.via (T' := T29) (g' := (mkF m 11 #[.val (.int xc), .val (.ref bz_1), .val (.int (5 : Int32)), .val (.int (5 : Int32)), .val (.ref s_CUSTOM)] [(.int (5 : Int32)), (.int (5 : Int32))])) (fun t_ k_ => XS.iloadN X29.here hx rfl (hb hby d2_10) rfl k_) ?_
            refine own_Goes.via (T' := T29) (g' := (mkF m 37 #[.val (.int xc), .val (.ref bz_1), .val (.int (5 : Int32)), .val (.int (5 : Int32)), .val (.ref s_CUSTOM)] [])) (fun t_ k_ => XS.icmpYes X29.here hx rfl (pc0 := 11) (pc' := 37) rfl (hb hby d2_11) rfl (flt (by decide : ¬ ((5 : Int32) < (5 : Int32)))).2.1 (by decide) (by decide) k_) ?_
            refine own_Goes.via (T' := T29) (g' := (mkF m 38 #[.val (.int xc), .val (.ref bz_1), .val (.int (5 : Int32)), .val (.int (5 : Int32)), .val (.ref s_CUSTOM)] [.null])) (fun t_ k_ => XS.aconstNull X29.here hx rfl (hb hby d2_37) k_) ?_
            obtain ⟨fs, hr, hrun, hended, hW, hsame⟩ := X29.leave (v := some .null) (fun h => by rw [Bd.returns] at h; cases h)
            refine own_Goes.fin (retOut X29 hx Bd.returns rfl (Or.inr (Or.inr (Or.inr (Or.inr ⟨rfl, rfl, rfl⟩)))) (hb hby d2_38) hr) hrun hended ?_
            subst hPd
            refine ⟨_, _, rfl, ?_, ⟨_, rfl⟩, hW, hsame.mono (by decide) (by decide)⟩
            show Q2 Z xc s__VALUES kV s_STRING s_LONG s_INT s_BYTE_ARRAY s_CUSTOM xv h0 n0 _ T29.heap _
            rw [e29]
            exact ⟨(by rw [hxv]; simp only [own_code, if_neg (show ¬ (xc = (1 : Int32)) from fun q => hc25_14 q.symm), if_neg (show ¬ (xc = (2 : Int32)) from fun q => hc25_18 q.symm), if_neg (show ¬ (xc = (3 : Int32)) from fun q => hc25_22 q.symm), if_neg (show ¬ (xc = (4 : Int32)) from fun q => hc25_26 q.symm), if_neg (show ¬ (xc = (5 : Int32)) from fun q => hc25_30 q.symm)]), N1, K1⟩
theorem d4_0 : decode method_2_code 0 = .ok (.iload_n 0, 1) := by decide +kernel
theorem d4_1 : decode method_2_code 1 = .ok (.iconst 1, 1) := by decide +kernel
theorem d4_2 : decode method_2_code 2 = .ok (.if_icmp .ne 7, 3) := by decide +kernel
theorem d4_5 : decode method_2_code 5 = .ok (.getstatic 7, 3) := by decide +kernel
theorem d4_8 : decode method_2_code 8 = .ok (.areturn, 1) := by decide +kernel
theorem d4_9 : decode method_2_code 9 = .ok (.iload_n 0, 1) := by decide +kernel
theorem d4_10 : decode method_2_code 10 = .ok (.iconst 2, 1) := by decide +kernel
theorem d4_11 : decode method_2_code 11 = .ok (.if_icmp .ne 7, 3) := by decide +kernel
theorem d4_14 : decode method_2_code 14 = .ok (.getstatic 13, 3) := by decide +kernel
theorem d4_17 : decode method_2_code 17 = .ok (.areturn, 1) := by decide +kernel
theorem d4_18 : decode method_2_code 18 = .ok (.iload_n 0, 1) := by decide +kernel
theorem d4_19 : decode method_2_code 19 = .ok (.iconst 3, 1) := by decide +kernel
theorem d4_20 : decode method_2_code 20 = .ok (.if_icmp .ne 7, 3) := by decide +kernel
theorem d4_23 : decode method_2_code 23 = .ok (.getstatic 16, 3) := by decide +kernel
theorem d4_26 : decode method_2_code 26 = .ok (.areturn, 1) := by decide +kernel
theorem d4_27 : decode method_2_code 27 = .ok (.iload_n 0, 1) := by decide +kernel
theorem d4_28 : decode method_2_code 28 = .ok (.iconst 4, 1) := by decide +kernel
theorem d4_29 : decode method_2_code 29 = .ok (.if_icmp .ne 7, 3) := by decide +kernel
theorem d4_32 : decode method_2_code 32 = .ok (.getstatic 19, 3) := by decide +kernel
theorem d4_35 : decode method_2_code 35 = .ok (.areturn, 1) := by decide +kernel
theorem d4_36 : decode method_2_code 36 = .ok (.iload_n 0, 1) := by decide +kernel
theorem d4_37 : decode method_2_code 37 = .ok (.iconst 5, 1) := by decide +kernel
theorem d4_38 : decode method_2_code 38 = .ok (.if_icmp .ne 7, 3) := by decide +kernel
theorem d4_41 : decode method_2_code 41 = .ok (.getstatic 22, 3) := by decide +kernel
theorem d4_44 : decode method_2_code 44 = .ok (.areturn, 1) := by decide +kernel
theorem d4_45 : decode method_2_code 45 = .ok (.aconst_null, 1) := by decide +kernel
theorem d4_46 : decode method_2_code 46 = .ok (.areturn, 1) := by decide +kernel
theorem pn_4 : plainName "com/example/danaid/danaid/io/ElementTypeForCodePinLaw" = true := by first | (simp [plainName, overriddenIn]; done) | decide +kernel
theorem ef_4 (m : MethodId) (xc : Int32) : entryFrame m #[(.int xc)] 1 = mkF m 0 #[.val (.int xc)] [] := by first | (simp [entryFrame, mkF, argsToLocals, Value.category]; done) | rfl
def Q4 (Z : State) (xc : Int32) (s_STRING : Addr) (s_LONG : Addr) (s_INT : Addr) (s_BYTE_ARRAY : Addr) (s_CUSTOM : Addr) (h0 : Heap) (n0 : Nat) (v : Option Value) (h : Heap) (L : List Loc) : Prop := v = some (own_code s_STRING s_LONG s_INT s_BYTE_ARRAY s_CUSTOM xc) ∧ Fr n0 L ∧ h = h0
set_option maxRecDepth 65536 in
set_option maxHeartbeats 40000000 in
theorem rm4 (l : Launch) (Z : State) (a0 : Array Value) (hw : ∀ d ∈ tables_1, d.before a0 Z = true) (ws : List Jvm.Cond) (xc : Int32) (s_STRING : Addr) (s_LONG : Addr) (s_INT : Addr) (s_BYTE_ARRAY : Addr) (s_CUSTOM : Addr) (h0 : Heap) (n0 : Nat) (Z0 : n0 ≤ h0.size) (OL : Old Z n0 h0) (S_STRING : Sta Z Z.heap "com/example/danaid/danaid/io/ElementType" "STRING" "Lcom/example/danaid/danaid/io/ElementType;" (.ref s_STRING)) (S_LONG : Sta Z Z.heap "com/example/danaid/danaid/io/ElementType" "LONG" "Lcom/example/danaid/danaid/io/ElementType;" (.ref s_LONG)) (S_INT : Sta Z Z.heap "com/example/danaid/danaid/io/ElementType" "INT" "Lcom/example/danaid/danaid/io/ElementType;" (.ref s_INT)) (S_BYTE_ARRAY : Sta Z Z.heap "com/example/danaid/danaid/io/ElementType" "BYTE_ARRAY" "Lcom/example/danaid/danaid/io/ElementType;" (.ref s_BYTE_ARRAY)) (S_CUSTOM : Sta Z Z.heap "com/example/danaid/danaid/io/ElementType" "CUSTOM" "Lcom/example/danaid/danaid/io/ElementType;" (.ref s_CUSTOM)) :
    MetFree l (⟨"com/example/danaid/danaid/io/ElementTypeForCodePinLaw", "expected", "(I)Lcom/example/danaid/danaid/io/ElementType;"⟩ : MethodName) (head1 (Jvm.Cond.code (⟨"com/example/danaid/danaid/io/ElementTypeForCodePinLaw", "expected", "(I)Lcom/example/danaid/danaid/io/ElementType;"⟩ : MethodName) method_2_code 1 (some (.object "com/example/danaid/danaid/io/ElementType")) :: ws) ({ frames := 0, cells := 0, slots := 0, locals := 0 } : Room)) (fun a U => a = #[(.int xc)] ∧ Z.Warmed39 U.vm ∧ U.heap = h0) (fun _ _ _ _ _ => True) (fun _ U o U' => ∃ v L, o = .returned v ∧ Q4 Z xc s_STRING s_LONG s_INT s_BYTE_ARRAY s_CUSTOM h0 n0 v U'.heap L ∧ FrameEnd U o U' L ({ frames := 0, cells := 0, slots := 0, locals := 0 } : Room).cells ({ frames := 0, cells := 0, slots := 0, locals := 0 } : Room).slots) := by
  refine MetFree.of_bodySF (plainFor_of_name pn_4) hisR ?_
  intro p e s m args below meth c s₁ Bd hml0 hP hK
  obtain ⟨rfl, hZ, hh⟩ := hP
  have hx := Bd.exec
  have hby := Bd.bytes
  have hml : c.maxLocals = 1 := hml0
  have hown : s.vm.findClass "com/example/danaid/danaid/io/ElementTypeForCodePinLaw" = some m.cls := findClass_of_methodNamed Bd.named
  have hnm := (name_of_methodNamed Bd.named Bd.method).1
  have X0 : Stand p l e ({ frames := 0, cells := 0, slots := 0, locals := 0 } : Room) s m #[(.int xc)] below meth c s₁ [] 0 0 := Stand.of_body Bd
  have e0 : s₁.heap = h0 := by rw [← hh, Bd.state]; rfl
  have N0 := Fr.nil n0
  suffices G : own_Goes p.tables e below (fun o U' => ∃ v L, o = .returned v ∧ Q4 Z xc s_STRING s_LONG s_INT s_BYTE_ARRAY s_CUSTOM h0 n0 v U'.heap L ∧ FrameEnd s o U' L ({ frames := 0, cells := 0, slots := 0, locals := 0 } : Room).cells ({ frames := 0, cells := 0, slots := 0, locals := 0 } : Room).slots) s₁ (mkF m 0 #[.val (.int xc)] []) by
    obtain ⟨t2_, o2_, z1_, z2_, z3_, z4_⟩ := G
    exact ⟨t2_, o2_, castTop (ef_4 m xc) z1_, z2_, z3_, z4_⟩
  generalize hPd : (fun (o : Outcome) (U' : State) => ∃ v L, o = .returned v ∧ Q4 Z xc s_STRING s_LONG s_INT s_BYTE_ARRAY s_CUSTOM h0 n0 v U'.heap L ∧ FrameEnd s o U' L ({ frames := 0, cells := 0, slots := 0, locals := 0 } : Room).cells ({ frames := 0, cells := 0, slots := 0, locals := 0 } : Room).slots) = P
  refine own_Goes.via (T' := s₁) (g' := (mkF m 1 #[.val (.int xc)] [(.int xc)])) (fun t_ k_ => XS.iloadN X0.here hx rfl (hb hby d4_0) rfl k_) ?_
  refine own_Goes.via (T' := s₁) (g' := (mkF m 2 #[.val (.int xc)] [(.int (1 : Int32)), (.int xc)])) (fun t_ k_ => XS.iconst X0.here hx rfl (hb hby d4_1) k_) ?_
  by_cases hc2_1 : xc = (1 : Int32)
  · refine own_Goes.via (T' := s₁) (g' := (mkF m 5 #[.val (.int xc)] [])) (fun t_ k_ => XS.icmpNo X0.here hx rfl (hb hby d4_2) rfl (teq hc2_1).2 k_) ?_
    obtain ⟨T2, X2, e2, st2⟩ := getS2 X0 hx hZ hown (host := "") (Or.inl (hw _ (List.mem_of_getElem? (i := 5) rfl))) Via.refl e0 (S_STRING.ext OL.2) (g := (mkF m 5 #[.val (.int xc)] [])) rfl (hb hby d4_5)
    refine own_Goes.via (T' := T2) (g' := (mkF m 8 #[.val (.int xc)] [(.ref s_STRING)])) (st2) ?_
    obtain ⟨fs, hr, hrun, hended, hW, hsame⟩ := X2.leave (v := some (.ref s_STRING)) (fun h => by rw [Bd.returns] at h; cases h)
    refine own_Goes.fin (retOut X2 hx Bd.returns rfl (Or.inr (Or.inr (Or.inr (Or.inr ⟨rfl, rfl, rfl⟩)))) (hb hby d4_8) hr) hrun hended ?_
    subst hPd
    refine ⟨_, _, rfl, ?_, ⟨_, rfl⟩, hW, hsame.mono (by decide) (by decide)⟩
    show Q4 Z xc s_STRING s_LONG s_INT s_BYTE_ARRAY s_CUSTOM h0 n0 _ T2.heap _
    rw [e2]
    exact ⟨(by first | rfl | (simp only [own_code, if_pos hc2_1])), N0, rfl⟩
  · refine own_Goes.via (T' := s₁) (g' := (mkF m 9 #[.val (.int xc)] [])) (fun t_ k_ => XS.icmpYes X0.here hx rfl (pc0 := 2) (pc' := 9) rfl (hb hby d4_2) rfl (feq hc2_1).2 (by decide) (by decide) k_) ?_
    refine own_Goes.via (T' := s₁) (g' := (mkF m 10 #[.val (.int xc)] [(.int xc)])) (fun t_ k_ => XS.iloadN X0.here hx rfl (hb hby d4_9) rfl k_) ?_
    refine own_Goes.via (T' := s₁) (g' := (mkF m 11 #[.val (.int xc)] [(.int (2 : Int32)), (.int xc)])) (fun t_ k_ => XS.iconst X0.here hx rfl (hb hby d4_10) k_) ?_
    by_cases hc11_3 : xc = (2 : Int32)
    · refine own_Goes.via (T' := s₁) (g' := (mkF m 14 #[.val (.int xc)] [])) (fun t_ k_ => XS.icmpNo X0.here hx rfl (hb hby d4_11) rfl (teq hc11_3).2 k_) ?_
      obtain ⟨T4, X4, e4, st4⟩ := getS2 X0 hx hZ hown (host := "") (Or.inl (hw _ (List.mem_of_getElem? (i := 42) rfl))) Via.refl e0 (S_LONG.ext OL.2) (g := (mkF m 14 #[.val (.int xc)] [])) rfl (hb hby d4_14)
      refine own_Goes.via (T' := T4) (g' := (mkF m 17 #[.val (.int xc)] [(.ref s_LONG)])) (st4) ?_
      obtain ⟨fs, hr, hrun, hended, hW, hsame⟩ := X4.leave (v := some (.ref s_LONG)) (fun h => by rw [Bd.returns] at h; cases h)
      refine own_Goes.fin (retOut X4 hx Bd.returns rfl (Or.inr (Or.inr (Or.inr (Or.inr ⟨rfl, rfl, rfl⟩)))) (hb hby d4_17) hr) hrun hended ?_
      subst hPd
      refine ⟨_, _, rfl, ?_, ⟨_, rfl⟩, hW, hsame.mono (by decide) (by decide)⟩
      show Q4 Z xc s_STRING s_LONG s_INT s_BYTE_ARRAY s_CUSTOM h0 n0 _ T4.heap _
      rw [e4]
      exact ⟨(by first | rfl | (simp only [own_code, if_neg hc2_1, if_pos hc11_3])), N0, rfl⟩
    · refine own_Goes.via (T' := s₁) (g' := (mkF m 18 #[.val (.int xc)] [])) (fun t_ k_ => XS.icmpYes X0.here hx rfl (pc0 := 11) (pc' := 18) rfl (hb hby d4_11) rfl (feq hc11_3).2 (by decide) (by decide) k_) ?_
      refine own_Goes.via (T' := s₁) (g' := (mkF m 19 #[.val (.int xc)] [(.int xc)])) (fun t_ k_ => XS.iloadN X0.here hx rfl (hb hby d4_18) rfl k_) ?_
      refine own_Goes.via (T' := s₁) (g' := (mkF m 20 #[.val (.int xc)] [(.int (3 : Int32)), (.int xc)])) (fun t_ k_ => XS.iconst X0.here hx rfl (hb hby d4_19) k_) ?_
      by_cases hc20_5 : xc = (3 : Int32)
      · refine own_Goes.via (T' := s₁) (g' := (mkF m 23 #[.val (.int xc)] [])) (fun t_ k_ => XS.icmpNo X0.here hx rfl (hb hby d4_20) rfl (teq hc20_5).2 k_) ?_
        obtain ⟨T6, X6, e6, st6⟩ := getS2 X0 hx hZ hown (host := "") (Or.inl (hw _ (List.mem_of_getElem? (i := 41) rfl))) Via.refl e0 (S_INT.ext OL.2) (g := (mkF m 23 #[.val (.int xc)] [])) rfl (hb hby d4_23)
        refine own_Goes.via (T' := T6) (g' := (mkF m 26 #[.val (.int xc)] [(.ref s_INT)])) (st6) ?_
        obtain ⟨fs, hr, hrun, hended, hW, hsame⟩ := X6.leave (v := some (.ref s_INT)) (fun h => by rw [Bd.returns] at h; cases h)
        refine own_Goes.fin (retOut X6 hx Bd.returns rfl (Or.inr (Or.inr (Or.inr (Or.inr ⟨rfl, rfl, rfl⟩)))) (hb hby d4_26) hr) hrun hended ?_
        subst hPd
        refine ⟨_, _, rfl, ?_, ⟨_, rfl⟩, hW, hsame.mono (by decide) (by decide)⟩
        show Q4 Z xc s_STRING s_LONG s_INT s_BYTE_ARRAY s_CUSTOM h0 n0 _ T6.heap _
        rw [e6]
        exact ⟨(by first | rfl | (simp only [own_code, if_neg hc2_1, if_neg hc11_3, if_pos hc20_5])), N0, rfl⟩
      · refine own_Goes.via (T' := s₁) (g' := (mkF m 27 #[.val (.int xc)] [])) (fun t_ k_ => XS.icmpYes X0.here hx rfl (pc0 := 20) (pc' := 27) rfl (hb hby d4_20) rfl (feq hc20_5).2 (by decide) (by decide) k_) ?_
        refine own_Goes.via (T' := s₁) (g' := (mkF m 28 #[.val (.int xc)] [(.int xc)])) (fun t_ k_ => XS.iloadN X0.here hx rfl (hb hby d4_27) rfl k_) ?_
        refine own_Goes.via (T' := s₁) (g' := (mkF m 29 #[.val (.int xc)] [(.int (4 : Int32)), (.int xc)])) (fun t_ k_ => XS.iconst X0.here hx rfl (hb hby d4_28) k_) ?_
        by_cases hc29_7 : xc = (4 : Int32)
        · refine own_Goes.via (T' := s₁) (g' := (mkF m 32 #[.val (.int xc)] [])) (fun t_ k_ => XS.icmpNo X0.here hx rfl (hb hby d4_29) rfl (teq hc29_7).2 k_) ?_
          obtain ⟨T8, X8, e8, st8⟩ := getS2 X0 hx hZ hown (host := "") (Or.inl (hw _ (List.mem_of_getElem? (i := 40) rfl))) Via.refl e0 (S_BYTE_ARRAY.ext OL.2) (g := (mkF m 32 #[.val (.int xc)] [])) rfl (hb hby d4_32)
          refine own_Goes.via (T' := T8) (g' := (mkF m 35 #[.val (.int xc)] [(.ref s_BYTE_ARRAY)])) (st8) ?_
          obtain ⟨fs, hr, hrun, hended, hW, hsame⟩ := X8.leave (v := some (.ref s_BYTE_ARRAY)) (fun h => by rw [Bd.returns] at h; cases h)
          refine own_Goes.fin (retOut X8 hx Bd.returns rfl (Or.inr (Or.inr (Or.inr (Or.inr ⟨rfl, rfl, rfl⟩)))) (hb hby d4_35) hr) hrun hended ?_
          subst hPd
          refine ⟨_, _, rfl, ?_, ⟨_, rfl⟩, hW, hsame.mono (by decide) (by decide)⟩
          show Q4 Z xc s_STRING s_LONG s_INT s_BYTE_ARRAY s_CUSTOM h0 n0 _ T8.heap _
          rw [e8]
          exact ⟨(by first | rfl | (simp only [own_code, if_neg hc2_1, if_neg hc11_3, if_neg hc20_5, if_pos hc29_7])), N0, rfl⟩
        · refine own_Goes.via (T' := s₁) (g' := (mkF m 36 #[.val (.int xc)] [])) (fun t_ k_ => XS.icmpYes X0.here hx rfl (pc0 := 29) (pc' := 36) rfl (hb hby d4_29) rfl (feq hc29_7).2 (by decide) (by decide) k_) ?_
          refine own_Goes.via (T' := s₁) (g' := (mkF m 37 #[.val (.int xc)] [(.int xc)])) (fun t_ k_ => XS.iloadN X0.here hx rfl (hb hby d4_36) rfl k_) ?_
          refine own_Goes.via (T' := s₁) (g' := (mkF m 38 #[.val (.int xc)] [(.int (5 : Int32)), (.int xc)])) (fun t_ k_ => XS.iconst X0.here hx rfl (hb hby d4_37) k_) ?_
          by_cases hc38_9 : xc = (5 : Int32)
          · refine own_Goes.via (T' := s₁) (g' := (mkF m 41 #[.val (.int xc)] [])) (fun t_ k_ => XS.icmpNo X0.here hx rfl (hb hby d4_38) rfl (teq hc38_9).2 k_) ?_
            obtain ⟨T10, X10, e10, st10⟩ := getS2 X0 hx hZ hown (host := "") (Or.inl (hw _ (List.mem_of_getElem? (i := 43) rfl))) Via.refl e0 (S_CUSTOM.ext OL.2) (g := (mkF m 41 #[.val (.int xc)] [])) rfl (hb hby d4_41)
            refine own_Goes.via (T' := T10) (g' := (mkF m 44 #[.val (.int xc)] [(.ref s_CUSTOM)])) (st10) ?_
            obtain ⟨fs, hr, hrun, hended, hW, hsame⟩ := X10.leave (v := some (.ref s_CUSTOM)) (fun h => by rw [Bd.returns] at h; cases h)
            refine own_Goes.fin (retOut X10 hx Bd.returns rfl (Or.inr (Or.inr (Or.inr (Or.inr ⟨rfl, rfl, rfl⟩)))) (hb hby d4_44) hr) hrun hended ?_
            subst hPd
            refine ⟨_, _, rfl, ?_, ⟨_, rfl⟩, hW, hsame.mono (by decide) (by decide)⟩
            show Q4 Z xc s_STRING s_LONG s_INT s_BYTE_ARRAY s_CUSTOM h0 n0 _ T10.heap _
            rw [e10]
            exact ⟨(by first | rfl | (simp only [own_code, if_neg hc2_1, if_neg hc11_3, if_neg hc20_5, if_neg hc29_7, if_pos hc38_9])), N0, rfl⟩
          · refine own_Goes.via (T' := s₁) (g' := (mkF m 45 #[.val (.int xc)] [])) (fun t_ k_ => XS.icmpYes X0.here hx rfl (pc0 := 38) (pc' := 45) rfl (hb hby d4_38) rfl (feq hc38_9).2 (by decide) (by decide) k_) ?_
            refine own_Goes.via (T' := s₁) (g' := (mkF m 46 #[.val (.int xc)] [.null])) (fun t_ k_ => XS.aconstNull X0.here hx rfl (hb hby d4_45) k_) ?_
            obtain ⟨fs, hr, hrun, hended, hW, hsame⟩ := X0.leave (v := some .null) (fun h => by rw [Bd.returns] at h; cases h)
            refine own_Goes.fin (retOut X0 hx Bd.returns rfl (Or.inr (Or.inr (Or.inr (Or.inr ⟨rfl, rfl, rfl⟩)))) (hb hby d4_46) hr) hrun hended ?_
            subst hPd
            refine ⟨_, _, rfl, ?_, ⟨_, rfl⟩, hW, hsame.mono (by decide) (by decide)⟩
            show Q4 Z xc s_STRING s_LONG s_INT s_BYTE_ARRAY s_CUSTOM h0 n0 _ s₁.heap _
            rw [e0]
            exact ⟨(by first | rfl | (simp only [own_code, if_neg hc2_1, if_neg hc11_3, if_neg hc20_5, if_neg hc29_7, if_neg hc38_9])), N0, rfl⟩
theorem d5_0 : decode prog_13_method_4_code 0 = .ok (.aload_n 0, 1) := by decide +kernel
theorem d5_1 : decode prog_13_method_4_code 1 = .ok (.getfield 38, 3) := by decide +kernel
theorem d5_4 : decode prog_13_method_4_code 4 = .ok (.ireturn, 1) := by decide +kernel
theorem pn_5 : plainName "com/example/danaid/danaid/io/ElementType" = true := by first | (simp [plainName, overriddenIn]; done) | decide +kernel
theorem ef_5 (m : MethodId) (ao : Addr) : entryFrame m #[(.ref ao)] 1 = mkF m 0 #[.val (.ref ao)] [] := by first | (simp [entryFrame, mkF, argsToLocals, Value.category]; done) | rfl
def own_f5 (xc : Int32) : Int32 := xc
def Q5 (Z : State) (ao : Addr) (xc : Int32) (h0 : Heap) (n0 : Nat) (v : Option Value) (h : Heap) (L : List Loc) : Prop := v = some (.int (own_f5 xc)) ∧ Fr n0 L ∧ h = h0
set_option maxRecDepth 65536 in
set_option maxHeartbeats 40000000 in
theorem rm5 (l : Launch) (Z : State) (a0 : Array Value) (hw : ∀ d ∈ tables_1, d.before a0 Z = true) (ws : List Jvm.Cond) (ao : Addr) (xc : Int32) (h0 : Heap) (n0 : Nat) (Z0 : n0 ≤ h0.size) (PF0 : Fld Z h0 ao "com/example/danaid/danaid/io/ElementType" "code" "I" (.int xc)) :
    MetFree l (⟨"com/example/danaid/danaid/io/ElementType", "code", "()I"⟩ : MethodName) (head1 (Jvm.Cond.code (⟨"com/example/danaid/danaid/io/ElementType", "code", "()I"⟩ : MethodName) prog_13_method_4_code 1 (some .int) :: ws) ({ frames := 0, cells := 0, slots := 0, locals := 0 } : Room)) (fun a U => a = #[(.ref ao)] ∧ Z.Warmed39 U.vm ∧ U.heap = h0) (fun _ _ _ _ _ => True) (fun _ U o U' => ∃ v L, o = .returned v ∧ Q5 Z ao xc h0 n0 v U'.heap L ∧ FrameEnd U o U' L ({ frames := 0, cells := 0, slots := 0, locals := 0 } : Room).cells ({ frames := 0, cells := 0, slots := 0, locals := 0 } : Room).slots) := by
  refine MetFree.of_bodySF (plainFor_of_name pn_5) hisR ?_
  intro p e s m args below meth c s₁ Bd hml0 hP hK
  obtain ⟨rfl, hZ, hh⟩ := hP
  have hx := Bd.exec
  have hby := Bd.bytes
  have hml : c.maxLocals = 1 := hml0
  have hown : s.vm.findClass "com/example/danaid/danaid/io/ElementType" = some m.cls := findClass_of_methodNamed Bd.named
  have hnm := (name_of_methodNamed Bd.named Bd.method).1
  have X0 : Stand p l e ({ frames := 0, cells := 0, slots := 0, locals := 0 } : Room) s m #[(.ref ao)] below meth c s₁ [] 0 0 := Stand.of_body Bd
  have e0 : s₁.heap = h0 := by rw [← hh, Bd.state]; rfl
  have N0 := Fr.nil n0
  suffices G : own_Goes p.tables e below (fun o U' => ∃ v L, o = .returned v ∧ Q5 Z ao xc h0 n0 v U'.heap L ∧ FrameEnd s o U' L ({ frames := 0, cells := 0, slots := 0, locals := 0 } : Room).cells ({ frames := 0, cells := 0, slots := 0, locals := 0 } : Room).slots) s₁ (mkF m 0 #[.val (.ref ao)] []) by
    obtain ⟨t2_, o2_, z1_, z2_, z3_, z4_⟩ := G
    exact ⟨t2_, o2_, castTop (ef_5 m ao) z1_, z2_, z3_, z4_⟩
  generalize hPd : (fun (o : Outcome) (U' : State) => ∃ v L, o = .returned v ∧ Q5 Z ao xc h0 n0 v U'.heap L ∧ FrameEnd s o U' L ({ frames := 0, cells := 0, slots := 0, locals := 0 } : Room).cells ({ frames := 0, cells := 0, slots := 0, locals := 0 } : Room).slots) = P
  refine own_Goes.via (T' := s₁) (g' := (mkF m 1 #[.val (.ref ao)] [(.ref ao)])) (fun t_ k_ => XS.aloadN X0.here hx rfl (hb hby d5_0) rfl rfl k_) ?_
  obtain ⟨T1, X1, e1, st1⟩ := getF X0 hx hZ hown (host := "") (Or.inl (hw _ (List.mem_of_getElem? (i := 30) rfl))) Via.refl e0 PF0 (g := (mkF m 1 #[.val (.ref ao)] [(.ref ao)])) rfl rfl (hb hby d5_1)
  refine own_Goes.via (T' := T1) (g' := (mkF m 4 #[.val (.ref ao)] [(.int xc)])) (st1) ?_
  obtain ⟨fs, hr, hrun, hended, hW, hsame⟩ := X1.leave (v := some (.int xc)) (fun h => by rw [Bd.returns] at h; cases h)
  refine own_Goes.fin (retOut X1 hx Bd.returns rfl (Or.inl ⟨rfl, Or.inl rfl, _, rfl⟩) (hb hby d5_4) hr) hrun hended ?_
  subst hPd
  refine ⟨_, _, rfl, ?_, ⟨_, rfl⟩, hW, hsame.mono (by decide) (by decide)⟩
  show Q5 Z ao xc h0 n0 _ T1.heap _
  rw [e1]
  exact ⟨(by first | rfl | (simp only [own_f5])), N0, rfl⟩
theorem pn_0 : plainName "com/example/danaid/danaid/io/ElementTypeForCodePinLaw" = true := by first | (simp [plainName, overriddenIn]; done) | decide +kernel
theorem pd_0_0 : parseMethodDescriptor "(I)Lcom/example/danaid/danaid/io/ElementType;" = some ⟨[.int], some (.object "com/example/danaid/danaid/io/ElementType")⟩ := by decide +kernel
theorem pd_0_1 : parseMethodDescriptor "()I" = some ⟨[], some .int⟩ := by decide +kernel
theorem ef_0 (m : MethodId) (xc : Int32) (xk : Int32) : entryFrame m #[(.int xc), (.int xk)] maxLocals = mkF m 0 #[.val (.int xc), .val (.int xk), .unset, .unset, .unset, .unset, .unset] [] := by first | (simp [entryFrame, mkF, argsToLocals, Value.category, maxLocals]; done) | rfl
def Q0 (Z : State) (xc : Int32) (xk : Int32) (s__VALUES : Addr) (kV : ClassId) (s_STRING : Addr) (s_LONG : Addr) (s_INT : Addr) (s_BYTE_ARRAY : Addr) (s_CUSTOM : Addr) (h0 : Heap) (n0 : Nat) (v : Option Value) (h : Heap) (L : List Loc) : Prop := v = some (.int 1) ∧ Fr n0 L
set_option maxRecDepth 65536 in
set_option maxHeartbeats 40000000 in
theorem rm0 (l : Launch) (Z : State) (a0 : Array Value) (hw : ∀ d ∈ tables_1, d.before a0 Z = true) (ws : List Jvm.Cond) (xc : Int32) (xk : Int32) (s__VALUES : Addr) (kV : ClassId) (s_STRING : Addr) (s_LONG : Addr) (s_INT : Addr) (s_BYTE_ARRAY : Addr) (s_CUSTOM : Addr) (h0 : Heap) (n0 : Nat) (Z0 : n0 ≤ h0.size) (OL : Old Z n0 h0) (S_STRING : Sta Z Z.heap "com/example/danaid/danaid/io/ElementType" "STRING" "Lcom/example/danaid/danaid/io/ElementType;" (.ref s_STRING)) (S_LONG : Sta Z Z.heap "com/example/danaid/danaid/io/ElementType" "LONG" "Lcom/example/danaid/danaid/io/ElementType;" (.ref s_LONG)) (S_INT : Sta Z Z.heap "com/example/danaid/danaid/io/ElementType" "INT" "Lcom/example/danaid/danaid/io/ElementType;" (.ref s_INT)) (S_BYTE_ARRAY : Sta Z Z.heap "com/example/danaid/danaid/io/ElementType" "BYTE_ARRAY" "Lcom/example/danaid/danaid/io/ElementType;" (.ref s_BYTE_ARRAY)) (S_CUSTOM : Sta Z Z.heap "com/example/danaid/danaid/io/ElementType" "CUSTOM" "Lcom/example/danaid/danaid/io/ElementType;" (.ref s_CUSTOM)) (S__VALUES : Sta Z Z.heap "com/example/danaid/danaid/io/ElementType" "$VALUES" "[Lcom/example/danaid/danaid/io/ElementType;" (.ref s__VALUES)) (E_STRING : Exa Z Z.heap s_STRING "com/example/danaid/danaid/io/ElementType") (E_LONG : Exa Z Z.heap s_LONG "com/example/danaid/danaid/io/ElementType") (E_INT : Exa Z Z.heap s_INT "com/example/danaid/danaid/io/ElementType") (E_BYTE_ARRAY : Exa Z Z.heap s_BYTE_ARRAY "com/example/danaid/danaid/io/ElementType") (E_CUSTOM : Exa Z Z.heap s_CUSTOM "com/example/danaid/danaid/io/ElementType") (E__VALUES : Exa Z Z.heap s__VALUES "[Lcom/example/danaid/danaid/io/ElementType;") (F_STRING_code : Fld Z Z.heap s_STRING "com/example/danaid/danaid/io/ElementType" "code" "I" (.int (1 : Int32))) (F_LONG_code : Fld Z Z.heap s_LONG "com/example/danaid/danaid/io/ElementType" "code" "I" (.int (2 : Int32))) (F_INT_code : Fld Z Z.heap s_INT "com/example/danaid/danaid/io/ElementType" "code" "I" (.int (3 : Int32))) (F_BYTE_ARRAY_code : Fld Z Z.heap s_BYTE_ARRAY "com/example/danaid/danaid/io/ElementType" "code" "I" (.int (4 : Int32))) (F_CUSTOM_code : Fld Z Z.heap s_CUSTOM "com/example/danaid/danaid/io/ElementType" "code" "I" (.int (5 : Int32))) (A__VALUES : Arv Z Z.heap s__VALUES kV (.object "com/example/danaid/danaid/io/ElementType") (5 : Int32) [(.ref s_STRING), (.ref s_LONG), (.ref s_INT), (.ref s_BYTE_ARRAY), (.ref s_CUSTOM)] .null) :
    MetFree l x (head1 (Jvm.Cond.code x code maxLocals ret :: ws) room_1) (fun a U => a = #[(.int xc), (.int xk)] ∧ Z.Warmed39 U.vm ∧ U.heap = h0) (fun _ _ _ _ _ => True) (fun _ U o U' => ∃ v L, o = .returned v ∧ Q0 Z xc xk s__VALUES kV s_STRING s_LONG s_INT s_BYTE_ARRAY s_CUSTOM h0 n0 v U'.heap L ∧ FrameEnd U o U' L 3 15) := by
  refine MetFree.of_bodySF (plainFor_of_name pn_0) hisR ?_
  intro p e s m args below meth c s₁ Bd hml0 hP hK
  obtain ⟨rfl, hZ, hh⟩ := hP
  have hx := Bd.exec
  have hby := Bd.bytes
  have hml : c.maxLocals = 7 := hml0
  have hown : s.vm.findClass "com/example/danaid/danaid/io/ElementTypeForCodePinLaw" = some m.cls := findClass_of_methodNamed Bd.named
  have hnm := (name_of_methodNamed Bd.named Bd.method).1
  have X0 : Stand p l e room_1 s m #[(.int xc), (.int xk)] below meth c s₁ [] 0 0 := Stand.of_body Bd
  have e0 : s₁.heap = h0 := by rw [← hh, Bd.state]; rfl
  have N0 := Fr.nil n0
  suffices G : own_Goes p.tables e below (fun o U' => ∃ v L, o = .returned v ∧ Q0 Z xc xk s__VALUES kV s_STRING s_LONG s_INT s_BYTE_ARRAY s_CUSTOM h0 n0 v U'.heap L ∧ FrameEnd s o U' L 3 15) s₁ (mkF m 0 #[.val (.int xc), .val (.int xk), .unset, .unset, .unset, .unset, .unset] []) by
    obtain ⟨t2_, o2_, z1_, z2_, z3_, z4_⟩ := G
    exact ⟨t2_, o2_, castTop (ef_0 m xc xk) z1_, z2_, z3_, z4_⟩
  generalize hPd : (fun (o : Outcome) (U' : State) => ∃ v L, o = .returned v ∧ Q0 Z xc xk s__VALUES kV s_STRING s_LONG s_INT s_BYTE_ARRAY s_CUSTOM h0 n0 v U'.heap L ∧ FrameEnd s o U' L 3 15) = P
  have E1 : Exa Z h0 s_STRING "com/example/danaid/danaid/io/ElementType" := E_STRING.ext OL.2
  have E2 : Exa Z h0 s_LONG "com/example/danaid/danaid/io/ElementType" := E_LONG.ext OL.2
  have E3 : Exa Z h0 s_INT "com/example/danaid/danaid/io/ElementType" := E_INT.ext OL.2
  have E4 : Exa Z h0 s_BYTE_ARRAY "com/example/danaid/danaid/io/ElementType" := E_BYTE_ARRAY.ext OL.2
  have E5 : Exa Z h0 s_CUSTOM "com/example/danaid/danaid/io/ElementType" := E_CUSTOM.ext OL.2
  have E6 : Exa Z h0 s__VALUES "[Lcom/example/danaid/danaid/io/ElementType;" := E__VALUES.ext OL.2
  have V7 : Arv Z h0 s__VALUES kV (.object "com/example/danaid/danaid/io/ElementType") (5 : Int32) [(.ref s_STRING), (.ref s_LONG), (.ref s_INT), (.ref s_BYTE_ARRAY), (.ref s_CUSTOM)] .null := A__VALUES.ext OL.2
  have F8 : Fld Z h0 s_STRING "com/example/danaid/danaid/io/ElementType" "code" "I" (.int (1 : Int32)) := F_STRING_code.ext OL.2
  have F9 : Fld Z h0 s_LONG "com/example/danaid/danaid/io/ElementType" "code" "I" (.int (2 : Int32)) := F_LONG_code.ext OL.2
  have F10 : Fld Z h0 s_INT "com/example/danaid/danaid/io/ElementType" "code" "I" (.int (3 : Int32)) := F_INT_code.ext OL.2
  have F11 : Fld Z h0 s_BYTE_ARRAY "com/example/danaid/danaid/io/ElementType" "code" "I" (.int (4 : Int32)) := F_BYTE_ARRAY_code.ext OL.2
  have F12 : Fld Z h0 s_CUSTOM "com/example/danaid/danaid/io/ElementType" "code" "I" (.int (5 : Int32)) := F_CUSTOM_code.ext OL.2
  refine own_Goes.via (T' := s₁) (g' := (mkF m 1 #[.val (.int xc), .val (.int xk), .unset, .unset, .unset, .unset, .unset] [(.int xk)])) (fun t_ k_ => XS.iloadN X0.here hx rfl (hb hby at_0) rfl k_) ?_
  refine own_Goes.via (T' := s₁) (g' := (mkF m 3 #[.val (.int xc), .val (.int xk), .unset, .unset, .unset, .unset, .unset] [(.int (15 : Int32)), (.int xk)])) (fun t_ k_ => XS.bipush X0.here hx rfl (hb hby at_1) k_) ?_
  refine own_Goes.via (T' := s₁) (g' := (mkF m 4 #[.val (.int xc), .val (.int xk), .unset, .unset, .unset, .unset, .unset] [(.int (xk &&& (15 : Int32)))])) (fun t_ k_ => XS.iand X0.here hx rfl (hb hby at_3) rfl k_) ?_
  refine own_Goes.via (T' := s₁) (g' := (mkF m 5 #[.val (.int xc), .val (.int xk), .unset, .unset, .unset, .unset, .unset] [(.int (4 : Int32)), (.int (xk &&& (15 : Int32)))])) (fun t_ k_ => XS.iconst X0.here hx rfl (hb hby at_4) k_) ?_
  refine own_Goes.via (T' := s₁) (g' := (mkF m 6 #[.val (.int xc), .val (.int xk), .unset, .unset, .unset, .unset, .unset] [(.int ((xk &&& (15 : Int32)) - (4 : Int32)))])) (fun t_ k_ => XS.isub X0.here hx rfl (hb hby at_5) rfl k_) ?_
  refine own_Goes.via (T' := s₁) (g' := (mkF m 7 #[.val (.int xc), .val (.int xk), .val (.int ((xk &&& (15 : Int32)) - (4 : Int32))), .unset, .unset, .unset, .unset] [])) (fun t_ k_ => XS.istoreN X0.here hx rfl (hb hby at_6) rfl (l' := #[.val (.int xc), .val (.int xk), .val (.int ((xk &&& (15 : Int32)) - (4 : Int32))), .unset, .unset, .unset, .unset]) rfl k_) ?_
  obtain ⟨v13, hv13⟩ : ∃ z : Int32, z = ((xk &&& (15 : Int32)) - (4 : Int32)) := ⟨_, rfl⟩
  rw [← hv13]
  refine own_Goes.via (T' := s₁) (g' := (mkF m 8 #[.val (.int xc), .val (.int xk), .val (.int v13), .unset, .unset, .unset, .unset] [(.int xk)])) (fun t_ k_ => XS.iloadN X0.here hx rfl (hb hby at_7) rfl k_) ?_
  refine own_Goes.via (T' := s₁) (g' := (mkF m 9 #[.val (.int xc), .val (.int xk), .val (.int v13), .unset, .unset, .unset, .unset] [(.int (4 : Int32)), (.int xk)])) (fun t_ k_ => XS.iconst X0.here hx rfl (hb hby at_8) k_) ?_
  refine own_Goes.via (T' := s₁) (g' := (mkF m 10 #[.val (.int xc), .val (.int xk), .val (.int v13), .unset, .unset, .unset, .unset] [(.int ((xk.toUInt32 >>> ((4 : Int32) &&& 31).toUInt32).toInt32))])) (fun t_ k_ => XS.iushr X0.here hx rfl (hb hby at_9) rfl k_) ?_
  by_cases hk10_14 : ((((xk.toUInt32 >>> ((4 : Int32) &&& 31).toUInt32).toInt32) &&& (2147483647 : Int32)) % (5 : Int32)) = (0 : Int32)
  · have cd10_16 : s_STRING = own_pick s_STRING s_LONG s_INT s_BYTE_ARRAY s_CUSTOM ((((xk.toUInt32 >>> ((4 : Int32) &&& 31).toUInt32).toInt32) &&& (2147483647 : Int32)) % (5 : Int32)) := by simp only [own_pick, if_pos hk10_14]
    obtain ⟨_, _, ⟨T15, L15, k15, n15⟩, -, X15, ⟨Lc15, hQ15, l15, y15, z15⟩, st15⟩ := Jvm.LawKit.callS X0 hx (y := (⟨"com/example/danaid/danaid/io/ElementTypeForCodePinLaw", "pick", "(I)Lcom/example/danaid/danaid/io/ElementType;"⟩ : MethodName)) hown (mvT hZ (hw _ (List.mem_of_getElem? (i := 0) rfl))) (mvT hZ (hw _ (List.mem_of_getElem? (i := 1) rfl))) (mvT hZ (hw _ (List.mem_of_getElem? (i := 2) rfl))) (mvT hZ (hw _ (List.mem_of_getElem? (i := 3) rfl))) (by decide) (backOf (W := 0) (rm1 l Z a0 hw [] ((xk.toUInt32 >>> ((4 : Int32) &&& 31).toUInt32).toInt32) s_STRING s_LONG s_INT s_BYTE_ARRAY s_CUSTOM s_STRING h0 n0 Z0 OL cd10_16 S_STRING S_LONG S_INT S_BYTE_ARRAY S_CUSTOM) hZ (hw _ (List.mem_of_getElem? (i := 3) rfl)) (hw _ (List.mem_of_getElem? (i := 2) rfl)) (by decide) (by decide)) (g := (mkF m 10 #[.val (.int xc), .val (.int xk), .val (.int v13), .unset, .unset, .unset, .unset] [(.int ((xk.toUInt32 >>> ((4 : Int32) &&& 31).toUInt32).toInt32))])) rfl (by rw [hml]; rfl) (argsL := [(.int ((xk.toUInt32 >>> ((4 : Int32) &&& 31).toUInt32).toInt32))]) (rest := []) (lenOf pd_0_0 rfl) rfl (by show 2 * 0 + _ ≤ _; exact Nat.le_of_eq rfl) (hb hby at_10) (fun _ _ => ⟨rfl, e0, (by decide : 0 + 0 ≤ _), (by decide : 0 + 0 ≤ _)⟩)
    dsimp only [Pt.U, Pt.locs, Pt.cells, Pt.slots] at X15 l15 y15 z15 st15 hQ15
    subst l15 y15 z15
    obtain ⟨rfl, Nq15, hh15⟩ := hQ15
    have N15 := Fr.app N0 Nq15
    refine own_Goes.via (T' := T15) (g' := (mkF m 13 #[.val (.int xc), .val (.int xk), .val (.int v13), .unset, .unset, .unset, .unset] [(.ref s_STRING)])) (st15) ?_
    refine own_Goes.via (T' := T15) (g' := (mkF m 14 #[.val (.int xc), .val (.int xk), .val (.int v13), .val (.ref s_STRING), .unset, .unset, .unset] [])) (fun t_ k_ => XS.astoreN X15.here hx rfl (hb hby at_13) rfl rfl (l' := #[.val (.int xc), .val (.int xk), .val (.int v13), .val (.ref s_STRING), .unset, .unset, .unset]) rfl k_) ?_
    refine own_Goes.via (T' := T15) (g' := (mkF m 15 #[.val (.int xc), .val (.int xk), .val (.int v13), .val (.ref s_STRING), .unset, .unset, .unset] [(.int xc)])) (fun t_ k_ => XS.iloadN X15.here hx rfl (hb hby at_14) rfl k_) ?_
    have cd15_18 : (own_code s_STRING s_LONG s_INT s_BYTE_ARRAY s_CUSTOM xc) = own_code s_STRING s_LONG s_INT s_BYTE_ARRAY s_CUSTOM xc := rfl
    obtain ⟨_, _, ⟨T17, L17, k17, n17⟩, -, X17, ⟨Lc17, hQ17, l17, y17, z17⟩, st17⟩ := Jvm.LawKit.callS X15 hx (y := (⟨"com/example/danaid/danaid/io/ElementType", "forCode", "(I)Lcom/example/danaid/danaid/io/ElementType;"⟩ : MethodName)) hown (mvT hZ (hw _ (List.mem_of_getElem? (i := 8) rfl))) (mvT hZ (hw _ (List.mem_of_getElem? (i := 9) rfl))) (mvT hZ (hw _ (List.mem_of_getElem? (i := 6) rfl))) (mvT hZ (hw _ (List.mem_of_getElem? (i := 10) rfl))) (by decide) (backOf (W := 0) (rm2 l Z a0 hw [] xc s__VALUES kV s_STRING s_LONG s_INT s_BYTE_ARRAY s_CUSTOM (own_code s_STRING s_LONG s_INT s_BYTE_ARRAY s_CUSTOM xc) h0 n0 Z0 E6 V7 F8 F9 F10 F11 F12 OL cd15_18 S__VALUES) hZ (hw _ (List.mem_of_getElem? (i := 10) rfl)) (hw _ (List.mem_of_getElem? (i := 6) rfl)) (by decide) (by decide)) (g := (mkF m 15 #[.val (.int xc), .val (.int xk), .val (.int v13), .val (.ref s_STRING), .unset, .unset, .unset] [(.int xc)])) rfl (by rw [hml]; rfl) (argsL := [(.int xc)]) (rest := []) (lenOf pd_0_0 rfl) rfl (by show 2 * 0 + _ ≤ _; exact Nat.le_of_eq rfl) (hb hby at_15) (fun _ _ => ⟨rfl, hh15, (by decide : 0 + 1 ≤ _), (by decide : 0 + 5 ≤ _)⟩)
    dsimp only [Pt.U, Pt.locs, Pt.cells, Pt.slots] at X17 l17 y17 z17 st17 hQ17
    subst l17 y17 z17
    obtain ⟨rfl, Nq17, Kq17⟩ := hQ17
    have N17 := Fr.app N15 Nq17
    have O19 : Old Z n0 T17.heap := OL.keep Kq17 all0
    have E20 : Exa Z T17.heap s_STRING "com/example/danaid/danaid/io/ElementType" := E1.keep Kq17
    have E21 : Exa Z T17.heap s_LONG "com/example/danaid/danaid/io/ElementType" := E2.keep Kq17
    have E22 : Exa Z T17.heap s_INT "com/example/danaid/danaid/io/ElementType" := E3.keep Kq17
    have E23 : Exa Z T17.heap s_BYTE_ARRAY "com/example/danaid/danaid/io/ElementType" := E4.keep Kq17
    have E24 : Exa Z T17.heap s_CUSTOM "com/example/danaid/danaid/io/ElementType" := E5.keep Kq17
    have E25 : Exa Z T17.heap s__VALUES "[Lcom/example/danaid/danaid/io/ElementType;" := E6.keep Kq17
    have V26 : Arv Z T17.heap s__VALUES kV (.object "com/example/danaid/danaid/io/ElementType") (5 : Int32) [(.ref s_STRING), (.ref s_LONG), (.ref s_INT), (.ref s_BYTE_ARRAY), (.ref s_CUSTOM)] .null := V7.keep Kq17 nin0
    have F27 : Fld Z T17.heap s_STRING "com/example/danaid/danaid/io/ElementType" "code" "I" (.int (1 : Int32)) := F8.keep Kq17 nin0
    have F28 : Fld Z T17.heap s_LONG "com/example/danaid/danaid/io/ElementType" "code" "I" (.int (2 : Int32)) := F9.keep Kq17 nin0
    have F29 : Fld Z T17.heap s_INT "com/example/danaid/danaid/io/ElementType" "code" "I" (.int (3 : Int32)) := F10.keep Kq17 nin0
    have F30 : Fld Z T17.heap s_BYTE_ARRAY "com/example/danaid/danaid/io/ElementType" "code" "I" (.int (4 : Int32)) := F11.keep Kq17 nin0
    have F31 : Fld Z T17.heap s_CUSTOM "com/example/danaid/danaid/io/ElementType" "code" "I" (.int (5 : Int32)) := F12.keep Kq17 nin0
    have sz17 : n0 ≤ T17.heap.size := Nat.le_trans Z0 Kq17.1
    have K17 : Keep h0 T17.heap [] := ((Keep.refl h0 [])).trans Kq17 all0
    refine own_Goes.via (T' := T17) (g' := (mkF m 18 #[.val (.int xc), .val (.int xk), .val (.int v13), .val (.ref s_STRING), .unset, .unset, .unset] [(own_code s_STRING s_LONG s_INT s_BYTE_ARRAY s_CUSTOM xc)])) (st17) ?_
    refine own_Goes.via (T' := T17) (g' := (mkF m 19 #[.val (.int xc), .val (.int xk), .val (.int v13), .val (.ref s_STRING), .unset, .unset, .unset] [(.int xc), (own_code s_STRING s_LONG s_INT s_BYTE_ARRAY s_CUSTOM xc)])) (fun t_ k_ => XS.iloadN X17.here hx rfl (hb hby at_18) rfl k_) ?_
    obtain ⟨_, _, ⟨T32, L32, k32, n32⟩, -, X32, ⟨Lc32, hQ32, l32, y32, z32⟩, st32⟩ := Jvm.LawKit.callS X17 hx (y := (⟨"com/example/danaid/danaid/io/ElementTypeForCodePinLaw", "expected", "(I)Lcom/example/danaid/danaid/io/ElementType;"⟩ : MethodName)) hown (mvT hZ (hw _ (List.mem_of_getElem? (i := 32) rfl))) (mvT hZ (hw _ (List.mem_of_getElem? (i := 33) rfl))) (mvT hZ (hw _ (List.mem_of_getElem? (i := 2) rfl))) (mvT hZ (hw _ (List.mem_of_getElem? (i := 34) rfl))) (by decide) (backOf (W := 1) (rm4 l Z a0 hw [] xc s_STRING s_LONG s_INT s_BYTE_ARRAY s_CUSTOM T17.heap n0 sz17 O19 S_STRING S_LONG S_INT S_BYTE_ARRAY S_CUSTOM) hZ (hw _ (List.mem_of_getElem? (i := 34) rfl)) (hw _ (List.mem_of_getElem? (i := 2) rfl)) (by decide) (by decide)) (g := (mkF m 19 #[.val (.int xc), .val (.int xk), .val (.int v13), .val (.ref s_STRING), .unset, .unset, .unset] [(.int xc), (own_code s_STRING s_LONG s_INT s_BYTE_ARRAY s_CUSTOM xc)])) rfl (by rw [hml]; rfl) (argsL := [(.int xc)]) (rest := [(own_code s_STRING s_LONG s_INT s_BYTE_ARRAY s_CUSTOM xc)]) (lenOf pd_0_0 rfl) rfl (by show 2 * 0 + _ ≤ _; simp [own_code_cat]) (hb hby at_19) (fun _ _ => ⟨rfl, rfl, (by decide : 1 + 0 ≤ _), (by decide : 5 + 0 ≤ _)⟩)
    dsimp only [Pt.U, Pt.locs, Pt.cells, Pt.slots] at X32 l32 y32 z32 st32 hQ32
    subst l32 y32 z32
    obtain ⟨rfl, Nq32, hh32⟩ := hQ32
    have N32 := Fr.app N17 Nq32
    refine own_Goes.via (T' := T32) (g' := (mkF m 22 #[.val (.int xc), .val (.int xk), .val (.int v13), .val (.ref s_STRING), .unset, .unset, .unset] [(own_code s_STRING s_LONG s_INT s_BYTE_ARRAY s_CUSTOM xc), (own_code s_STRING s_LONG s_INT s_BYTE_ARRAY s_CUSTOM xc)])) (st32) ?_
    refine own_Goes.via (T' := T32) (g' := (mkF m 25 #[.val (.int xc), .val (.int xk), .val (.int v13), .val (.ref s_STRING), .unset, .unset, .unset] [])) (fun t_ k_ => Jvm.RoadKit.acmp (g := (mkF m 22 #[.val (.int xc), .val (.int xk), .val (.int v13), .val (.ref s_STRING), .unset, .unset, .unset] [(own_code s_STRING s_LONG s_INT s_BYTE_ARRAY s_CUSTOM xc), (own_code s_STRING s_LONG s_INT s_BYTE_ARRAY s_CUSTOM xc)])) X32 hx rfl (own_code_ref _ _ _ _ _ _) (own_code_ref _ _ _ _ _ _) (pc0 := 22) (pc' := 25) (same := true) rfl (hb hby at_22) rfl (decide_eq_true rfl) (by decide) (by decide) k_) ?_
    refine own_Goes.via (T' := T32) (g' := (mkF m 26 #[.val (.int xc), .val (.int xk), .val (.int v13), .val (.ref s_STRING), .unset, .unset, .unset] [(.int (1 : Int32))])) (fun t_ k_ => XS.iconst X32.here hx rfl (hb hby at_25) k_) ?_
    refine own_Goes.via (T' := T32) (g' := (mkF m 30 #[.val (.int xc), .val (.int xk), .val (.int v13), .val (.ref s_STRING), .unset, .unset, .unset] [(.int (1 : Int32))])) (fun t_ k_ => XS.goto X32.here hx rfl (pc0 := 26) (pc' := 30) rfl (hb hby at_26) (by decide) (by decide) k_) ?_
    refine own_Goes.via (T' := T32) (g' := (mkF m 32 #[.val (.int xc), .val (.int xk), .val (.int v13), .val (.ref s_STRING), .val (.int (1 : Int32)), .unset, .unset] [])) (fun t_ k_ => XS.istore X32.here hx rfl (hb hby at_30) rfl (l' := #[.val (.int xc), .val (.int xk), .val (.int v13), .val (.ref s_STRING), .val (.int (1 : Int32)), .unset, .unset]) rfl k_) ?_
    refine own_Goes.via (T' := T32) (g' := (mkF m 33 #[.val (.int xc), .val (.int xk), .val (.int v13), .val (.ref s_STRING), .val (.int (1 : Int32)), .unset, .unset] [(.int v13)])) (fun t_ k_ => XS.iloadN X32.here hx rfl (hb hby at_32) rfl k_) ?_
    have cd33_34 : (own_code s_STRING s_LONG s_INT s_BYTE_ARRAY s_CUSTOM v13) = own_code s_STRING s_LONG s_INT s_BYTE_ARRAY s_CUSTOM v13 := rfl
    obtain ⟨_, _, ⟨T33, L33, k33, n33⟩, -, X33, ⟨Lc33, hQ33, l33, y33, z33⟩, st33⟩ := Jvm.LawKit.callS X32 hx (y := (⟨"com/example/danaid/danaid/io/ElementType", "forCode", "(I)Lcom/example/danaid/danaid/io/ElementType;"⟩ : MethodName)) hown (mvT hZ (hw _ (List.mem_of_getElem? (i := 8) rfl))) (mvT hZ (hw _ (List.mem_of_getElem? (i := 9) rfl))) (mvT hZ (hw _ (List.mem_of_getElem? (i := 6) rfl))) (mvT hZ (hw _ (List.mem_of_getElem? (i := 10) rfl))) (by decide) (backOf (W := 0) (rm2 l Z a0 hw [] v13 s__VALUES kV s_STRING s_LONG s_INT s_BYTE_ARRAY s_CUSTOM (own_code s_STRING s_LONG s_INT s_BYTE_ARRAY s_CUSTOM v13) T17.heap n0 sz17 E25 V26 F27 F28 F29 F30 F31 O19 cd33_34 S__VALUES) hZ (hw _ (List.mem_of_getElem? (i := 10) rfl)) (hw _ (List.mem_of_getElem? (i := 6) rfl)) (by decide) (by decide)) (g := (mkF m 33 #[.val (.int xc), .val (.int xk), .val (.int v13), .val (.ref s_STRING), .val (.int (1 : Int32)), .unset, .unset] [(.int v13)])) rfl (by rw [hml]; rfl) (argsL := [(.int v13)]) (rest := []) (lenOf pd_0_0 rfl) rfl (by show 2 * 0 + _ ≤ _; exact Nat.le_of_eq rfl) (hb hby at_33) (fun _ _ => ⟨rfl, hh32, (by decide : 1 + 1 ≤ _), (by decide : 5 + 5 ≤ _)⟩)
    dsimp only [Pt.U, Pt.locs, Pt.cells, Pt.slots] at X33 l33 y33 z33 st33 hQ33
    subst l33 y33 z33
    obtain ⟨rfl, Nq33, Kq33⟩ := hQ33
    have N33 := Fr.app N32 Nq33
    have O35 : Old Z n0 T33.heap := O19.keep Kq33 all0
    have E36 : Exa Z T33.heap s_STRING "com/example/danaid/danaid/io/ElementType" := E20.keep Kq33
    have E37 : Exa Z T33.heap s_LONG "com/example/danaid/danaid/io/ElementType" := E21.keep Kq33
    have E38 : Exa Z T33.heap s_INT "com/example/danaid/danaid/io/ElementType" := E22.keep Kq33
    have E39 : Exa Z T33.heap s_BYTE_ARRAY "com/example/danaid/danaid/io/ElementType" := E23.keep Kq33
    have E40 : Exa Z T33.heap s_CUSTOM "com/example/danaid/danaid/io/ElementType" := E24.keep Kq33
    have E41 : Exa Z T33.heap s__VALUES "[Lcom/example/danaid/danaid/io/ElementType;" := E25.keep Kq33
    have V42 : Arv Z T33.heap s__VALUES kV (.object "com/example/danaid/danaid/io/ElementType") (5 : Int32) [(.ref s_STRING), (.ref s_LONG), (.ref s_INT), (.ref s_BYTE_ARRAY), (.ref s_CUSTOM)] .null := V26.keep Kq33 nin0
    have F43 : Fld Z T33.heap s_STRING "com/example/danaid/danaid/io/ElementType" "code" "I" (.int (1 : Int32)) := F27.keep Kq33 nin0
    have F44 : Fld Z T33.heap s_LONG "com/example/danaid/danaid/io/ElementType" "code" "I" (.int (2 : Int32)) := F28.keep Kq33 nin0
    have F45 : Fld Z T33.heap s_INT "com/example/danaid/danaid/io/ElementType" "code" "I" (.int (3 : Int32)) := F29.keep Kq33 nin0
    have F46 : Fld Z T33.heap s_BYTE_ARRAY "com/example/danaid/danaid/io/ElementType" "code" "I" (.int (4 : Int32)) := F30.keep Kq33 nin0
    have F47 : Fld Z T33.heap s_CUSTOM "com/example/danaid/danaid/io/ElementType" "code" "I" (.int (5 : Int32)) := F31.keep Kq33 nin0
    have sz33 : n0 ≤ T33.heap.size := Nat.le_trans sz17 Kq33.1
    have K33 : Keep h0 T33.heap [] := (K17).trans Kq33 all0
    refine own_Goes.via (T' := T33) (g' := (mkF m 36 #[.val (.int xc), .val (.int xk), .val (.int v13), .val (.ref s_STRING), .val (.int (1 : Int32)), .unset, .unset] [(own_code s_STRING s_LONG s_INT s_BYTE_ARRAY s_CUSTOM v13)])) (st33) ?_
    refine own_Goes.via (T' := T33) (g' := (mkF m 37 #[.val (.int xc), .val (.int xk), .val (.int v13), .val (.ref s_STRING), .val (.int (1 : Int32)), .unset, .unset] [(.int v13), (own_code s_STRING s_LONG s_INT s_BYTE_ARRAY s_CUSTOM v13)])) (fun t_ k_ => XS.iloadN X33.here hx rfl (hb hby at_36) rfl k_) ?_
    obtain ⟨_, _, ⟨T48, L48, k48, n48⟩, -, X48, ⟨Lc48, hQ48, l48, y48, z48⟩, st48⟩ := Jvm.LawKit.callS X33 hx (y := (⟨"com/example/danaid/danaid/io/ElementTypeForCodePinLaw", "expected", "(I)Lcom/example/danaid/danaid/io/ElementType;"⟩ : MethodName)) hown (mvT hZ (hw _ (List.mem_of_getElem? (i := 32) rfl))) (mvT hZ (hw _ (List.mem_of_getElem? (i := 33) rfl))) (mvT hZ (hw _ (List.mem_of_getElem? (i := 2) rfl))) (mvT hZ (hw _ (List.mem_of_getElem? (i := 34) rfl))) (by decide) (backOf (W := 1) (rm4 l Z a0 hw [] v13 s_STRING s_LONG s_INT s_BYTE_ARRAY s_CUSTOM T33.heap n0 sz33 O35 S_STRING S_LONG S_INT S_BYTE_ARRAY S_CUSTOM) hZ (hw _ (List.mem_of_getElem? (i := 34) rfl)) (hw _ (List.mem_of_getElem? (i := 2) rfl)) (by decide) (by decide)) (g := (mkF m 37 #[.val (.int xc), .val (.int xk), .val (.int v13), .val (.ref s_STRING), .val (.int (1 : Int32)), .unset, .unset] [(.int v13), (own_code s_STRING s_LONG s_INT s_BYTE_ARRAY s_CUSTOM v13)])) rfl (by rw [hml]; rfl) (argsL := [(.int v13)]) (rest := [(own_code s_STRING s_LONG s_INT s_BYTE_ARRAY s_CUSTOM v13)]) (lenOf pd_0_0 rfl) rfl (by show 2 * 0 + _ ≤ _; simp [own_code_cat]) (hb hby at_37) (fun _ _ => ⟨rfl, rfl, (by decide : 2 + 0 ≤ _), (by decide : 10 + 0 ≤ _)⟩)
    dsimp only [Pt.U, Pt.locs, Pt.cells, Pt.slots] at X48 l48 y48 z48 st48 hQ48
    subst l48 y48 z48
    obtain ⟨rfl, Nq48, hh48⟩ := hQ48
    have N48 := Fr.app N33 Nq48
    refine own_Goes.via (T' := T48) (g' := (mkF m 40 #[.val (.int xc), .val (.int xk), .val (.int v13), .val (.ref s_STRING), .val (.int (1 : Int32)), .unset, .unset] [(own_code s_STRING s_LONG s_INT s_BYTE_ARRAY s_CUSTOM v13), (own_code s_STRING s_LONG s_INT s_BYTE_ARRAY s_CUSTOM v13)])) (st48) ?_
    refine own_Goes.via (T' := T48) (g' := (mkF m 43 #[.val (.int xc), .val (.int xk), .val (.int v13), .val (.ref s_STRING), .val (.int (1 : Int32)), .unset, .unset] [])) (fun t_ k_ => Jvm.RoadKit.acmp (g := (mkF m 40 #[.val (.int xc), .val (.int xk), .val (.int v13), .val (.ref s_STRING), .val (.int (1 : Int32)), .unset, .unset] [(own_code s_STRING s_LONG s_INT s_BYTE_ARRAY s_CUSTOM v13), (own_code s_STRING s_LONG s_INT s_BYTE_ARRAY s_CUSTOM v13)])) X48 hx rfl (own_code_ref _ _ _ _ _ _) (own_code_ref _ _ _ _ _ _) (pc0 := 40) (pc' := 43) (same := true) rfl (hb hby at_40) rfl (decide_eq_true rfl) (by decide) (by decide) k_) ?_
    refine own_Goes.via (T' := T48) (g' := (mkF m 44 #[.val (.int xc), .val (.int xk), .val (.int v13), .val (.ref s_STRING), .val (.int (1 : Int32)), .unset, .unset] [(.int (1 : Int32))])) (fun t_ k_ => XS.iconst X48.here hx rfl (hb hby at_43) k_) ?_
    refine own_Goes.via (T' := T48) (g' := (mkF m 48 #[.val (.int xc), .val (.int xk), .val (.int v13), .val (.ref s_STRING), .val (.int (1 : Int32)), .unset, .unset] [(.int (1 : Int32))])) (fun t_ k_ => XS.goto X48.here hx rfl (pc0 := 44) (pc' := 48) rfl (hb hby at_44) (by decide) (by decide) k_) ?_
    refine own_Goes.via (T' := T48) (g' := (mkF m 50 #[.val (.int xc), .val (.int xk), .val (.int v13), .val (.ref s_STRING), .val (.int (1 : Int32)), .val (.int (1 : Int32)), .unset] [])) (fun t_ k_ => XS.istore X48.here hx rfl (hb hby at_48) rfl (l' := #[.val (.int xc), .val (.int xk), .val (.int v13), .val (.ref s_STRING), .val (.int (1 : Int32)), .val (.int (1 : Int32)), .unset]) rfl k_) ?_
    refine own_Goes.via (T' := T48) (g' := (mkF m 51 #[.val (.int xc), .val (.int xk), .val (.int v13), .val (.ref s_STRING), .val (.int (1 : Int32)), .val (.int (1 : Int32)), .unset] [(.ref s_STRING)])) (fun t_ k_ => XS.aloadN X48.here hx rfl (hb hby at_50) rfl rfl k_) ?_
    obtain ⟨cq49, kq49, q49a, q49b, q49c⟩ := isOf hZ hh48 E36
    obtain ⟨_, _, ⟨T49, L49, k49, n49⟩, -, X49, ⟨Lc49, hQ49, l49, y49, z49⟩, st49⟩ := X48.virtualBack hx (y := (⟨"com/example/danaid/danaid/io/ElementType", "code", "()I"⟩ : MethodName)) (z := (⟨"com/example/danaid/danaid/io/ElementType", "code", "()I"⟩ : MethodName)) hown (mvT hZ (hw _ (List.mem_of_getElem? (i := 35) rfl))) (mvT hZ (hw _ (List.mem_of_getElem? (i := 36) rfl))) (notFace_of_selects (args := #[]) (mvT hZ (hw _ (List.mem_of_getElem? (i := 38) rfl)))) (mvT hZ (hw _ (List.mem_of_getElem? (i := 38) rfl))) (mvT hZ (hw _ (List.mem_of_getElem? (i := 37) rfl))) (by decide) (backOf (W := 0) (rm5 l Z a0 hw [] s_STRING (1 : Int32) T33.heap n0 sz33 F43) hZ (hw _ (List.mem_of_getElem? (i := 39) rfl)) (hw _ (List.mem_of_getElem? (i := 6) rfl)) (by decide) (by decide)) q49a q49c (g := (mkF m 51 #[.val (.int xc), .val (.int xk), .val (.int v13), .val (.ref s_STRING), .val (.int (1 : Int32)), .val (.int (1 : Int32)), .unset] [(.ref s_STRING)])) rfl (by rw [hml]; rfl) (Steps.refl _) (argsL := []) (rest := []) (lenOf pd_0_1 rfl) rfl (by show 2 * 0 + _ ≤ _; exact Nat.le_of_eq rfl) (hb hby at_51) (fun _ _ => ⟨rfl, hh48, (by decide : 2 + 0 ≤ _), (by decide : 10 + 0 ≤ _)⟩)
    dsimp only [Pt.U, Pt.locs, Pt.cells, Pt.slots] at X49 l49 y49 z49 st49 hQ49
    subst l49 y49 z49
    obtain ⟨rfl, Nq49, hh49⟩ := hQ49
    have N49 := Fr.app N48 Nq49
    refine own_Goes.via (T' := T49) (g' := (mkF m 54 #[.val (.int xc), .val (.int xk), .val (.int v13), .val (.ref s_STRING), .val (.int (1 : Int32)), .val (.int (1 : Int32)), .unset] [(.int (own_f5 (1 : Int32)))])) (fun t_ k_ => st49.trans k_) ?_
    obtain ⟨v50, hv50⟩ : ∃ z : Int32, z = (own_f5 (1 : Int32)) := ⟨_, rfl⟩
    rw [← hv50]
    have cd54_52 : (.ref s_STRING) = own_code s_STRING s_LONG s_INT s_BYTE_ARRAY s_CUSTOM v50 := by rw [hv50]; simp [own_code, own_f5]
    obtain ⟨_, _, ⟨T51, L51, k51, n51⟩, -, X51, ⟨Lc51, hQ51, l51, y51, z51⟩, st51⟩ := Jvm.LawKit.callS X49 hx (y := (⟨"com/example/danaid/danaid/io/ElementType", "forCode", "(I)Lcom/example/danaid/danaid/io/ElementType;"⟩ : MethodName)) hown (mvT hZ (hw _ (List.mem_of_getElem? (i := 8) rfl))) (mvT hZ (hw _ (List.mem_of_getElem? (i := 9) rfl))) (mvT hZ (hw _ (List.mem_of_getElem? (i := 6) rfl))) (mvT hZ (hw _ (List.mem_of_getElem? (i := 10) rfl))) (by decide) (backOf (W := 0) (rm2 l Z a0 hw [] v50 s__VALUES kV s_STRING s_LONG s_INT s_BYTE_ARRAY s_CUSTOM (.ref s_STRING) T33.heap n0 sz33 E41 V42 F43 F44 F45 F46 F47 O35 cd54_52 S__VALUES) hZ (hw _ (List.mem_of_getElem? (i := 10) rfl)) (hw _ (List.mem_of_getElem? (i := 6) rfl)) (by decide) (by decide)) (g := (mkF m 54 #[.val (.int xc), .val (.int xk), .val (.int v13), .val (.ref s_STRING), .val (.int (1 : Int32)), .val (.int (1 : Int32)), .unset] [(.int v50)])) rfl (by rw [hml]; rfl) (argsL := [(.int v50)]) (rest := []) (lenOf pd_0_0 rfl) rfl (by show 2 * 0 + _ ≤ _; exact Nat.le_of_eq rfl) (hb hby at_54) (fun _ _ => ⟨rfl, hh49, (by decide : 2 + 1 ≤ _), (by decide : 10 + 5 ≤ _)⟩)
    dsimp only [Pt.U, Pt.locs, Pt.cells, Pt.slots] at X51 l51 y51 z51 st51 hQ51
    subst l51 y51 z51
    obtain ⟨rfl, Nq51, Kq51⟩ := hQ51
    have N51 := Fr.app N49 Nq51
    have O53 : Old Z n0 T51.heap := O35.keep Kq51 all0
    have E54 : Exa Z T51.heap s_STRING "com/example/danaid/danaid/io/ElementType" := E36.keep Kq51
    have E55 : Exa Z T51.heap s_LONG "com/example/danaid/danaid/io/ElementType" := E37.keep Kq51
    have E56 : Exa Z T51.heap s_INT "com/example/danaid/danaid/io/ElementType" := E38.keep Kq51
    have E57 : Exa Z T51.heap s_BYTE_ARRAY "com/example/danaid/danaid/io/ElementType" := E39.keep Kq51
    have E58 : Exa Z T51.heap s_CUSTOM "com/example/danaid/danaid/io/ElementType" := E40.keep Kq51
    have E59 : Exa Z T51.heap s__VALUES "[Lcom/example/danaid/danaid/io/ElementType;" := E41.keep Kq51
    have V60 : Arv Z T51.heap s__VALUES kV (.object "com/example/danaid/danaid/io/ElementType") (5 : Int32) [(.ref s_STRING), (.ref s_LONG), (.ref s_INT), (.ref s_BYTE_ARRAY), (.ref s_CUSTOM)] .null := V42.keep Kq51 nin0
    have F61 : Fld Z T51.heap s_STRING "com/example/danaid/danaid/io/ElementType" "code" "I" (.int (1 : Int32)) := F43.keep Kq51 nin0
    have F62 : Fld Z T51.heap s_LONG "com/example/danaid/danaid/io/ElementType" "code" "I" (.int (2 : Int32)) := F44.keep Kq51 nin0
    have F63 : Fld Z T51.heap s_INT "com/example/danaid/danaid/io/ElementType" "code" "I" (.int (3 : Int32)) := F45.keep Kq51 nin0
    have F64 : Fld Z T51.heap s_BYTE_ARRAY "com/example/danaid/danaid/io/ElementType" "code" "I" (.int (4 : Int32)) := F46.keep Kq51 nin0
    have F65 : Fld Z T51.heap s_CUSTOM "com/example/danaid/danaid/io/ElementType" "code" "I" (.int (5 : Int32)) := F47.keep Kq51 nin0
    have sz51 : n0 ≤ T51.heap.size := Nat.le_trans sz33 Kq51.1
    have K51 : Keep h0 T51.heap [] := (K33).trans Kq51 all0
    refine own_Goes.via (T' := T51) (g' := (mkF m 57 #[.val (.int xc), .val (.int xk), .val (.int v13), .val (.ref s_STRING), .val (.int (1 : Int32)), .val (.int (1 : Int32)), .unset] [(.ref s_STRING)])) (st51) ?_
    refine own_Goes.via (T' := T51) (g' := (mkF m 58 #[.val (.int xc), .val (.int xk), .val (.int v13), .val (.ref s_STRING), .val (.int (1 : Int32)), .val (.int (1 : Int32)), .unset] [(.ref s_STRING), (.ref s_STRING)])) (fun t_ k_ => XS.aloadN X51.here hx rfl (hb hby at_57) rfl rfl k_) ?_
    refine own_Goes.via (T' := T51) (g' := (mkF m 61 #[.val (.int xc), .val (.int xk), .val (.int v13), .val (.ref s_STRING), .val (.int (1 : Int32)), .val (.int (1 : Int32)), .unset] [])) (fun t_ k_ => Jvm.RoadKit.acmp (g := (mkF m 58 #[.val (.int xc), .val (.int xk), .val (.int v13), .val (.ref s_STRING), .val (.int (1 : Int32)), .val (.int (1 : Int32)), .unset] [(.ref s_STRING), (.ref s_STRING)])) X51 hx rfl rfl rfl (pc0 := 58) (pc' := 61) (same := true) rfl (hb hby at_58) rfl (decide_eq_true rfl) (by decide) (by decide) k_) ?_
    refine own_Goes.via (T' := T51) (g' := (mkF m 62 #[.val (.int xc), .val (.int xk), .val (.int v13), .val (.ref s_STRING), .val (.int (1 : Int32)), .val (.int (1 : Int32)), .unset] [(.int (1 : Int32))])) (fun t_ k_ => XS.iconst X51.here hx rfl (hb hby at_61) k_) ?_
    refine own_Goes.via (T' := T51) (g' := (mkF m 66 #[.val (.int xc), .val (.int xk), .val (.int v13), .val (.ref s_STRING), .val (.int (1 : Int32)), .val (.int (1 : Int32)), .unset] [(.int (1 : Int32))])) (fun t_ k_ => XS.goto X51.here hx rfl (pc0 := 62) (pc' := 66) rfl (hb hby at_62) (by decide) (by decide) k_) ?_
    refine own_Goes.via (T' := T51) (g' := (mkF m 68 #[.val (.int xc), .val (.int xk), .val (.int v13), .val (.ref s_STRING), .val (.int (1 : Int32)), .val (.int (1 : Int32)), .val (.int (1 : Int32))] [])) (fun t_ k_ => XS.istore X51.here hx rfl (hb hby at_66) rfl (l' := #[.val (.int xc), .val (.int xk), .val (.int v13), .val (.ref s_STRING), .val (.int (1 : Int32)), .val (.int (1 : Int32)), .val (.int (1 : Int32))]) rfl k_) ?_
    refine own_Goes.via (T' := T51) (g' := (mkF m 70 #[.val (.int xc), .val (.int xk), .val (.int v13), .val (.ref s_STRING), .val (.int (1 : Int32)), .val (.int (1 : Int32)), .val (.int (1 : Int32))] [(.int (1 : Int32))])) (fun t_ k_ => XS.iload X51.here hx rfl (hb hby at_68) rfl k_) ?_
    refine own_Goes.via (T' := T51) (g' := (mkF m 73 #[.val (.int xc), .val (.int xk), .val (.int v13), .val (.ref s_STRING), .val (.int (1 : Int32)), .val (.int (1 : Int32)), .val (.int (1 : Int32))] [])) (fun t_ k_ => XS.ifNo X51.here hx rfl (hb hby at_70) rfl ((if0 _ _).trans (feq (by decide : ¬ ((1 : Int32) = (0 : Int32)))).1) k_) ?_
    refine own_Goes.via (T' := T51) (g' := (mkF m 75 #[.val (.int xc), .val (.int xk), .val (.int v13), .val (.ref s_STRING), .val (.int (1 : Int32)), .val (.int (1 : Int32)), .val (.int (1 : Int32))] [(.int (1 : Int32))])) (fun t_ k_ => XS.iload X51.here hx rfl (hb hby at_73) rfl k_) ?_
    refine own_Goes.via (T' := T51) (g' := (mkF m 78 #[.val (.int xc), .val (.int xk), .val (.int v13), .val (.ref s_STRING), .val (.int (1 : Int32)), .val (.int (1 : Int32)), .val (.int (1 : Int32))] [])) (fun t_ k_ => XS.ifNo X51.here hx rfl (hb hby at_75) rfl ((if0 _ _).trans (feq (by decide : ¬ ((1 : Int32) = (0 : Int32)))).1) k_) ?_
    refine own_Goes.via (T' := T51) (g' := (mkF m 80 #[.val (.int xc), .val (.int xk), .val (.int v13), .val (.ref s_STRING), .val (.int (1 : Int32)), .val (.int (1 : Int32)), .val (.int (1 : Int32))] [(.int (1 : Int32))])) (fun t_ k_ => XS.iload X51.here hx rfl (hb hby at_78) rfl k_) ?_
    refine own_Goes.via (T' := T51) (g' := (mkF m 83 #[.val (.int xc), .val (.int xk), .val (.int v13), .val (.ref s_STRING), .val (.int (1 : Int32)), .val (.int (1 : Int32)), .val (.int (1 : Int32))] [])) (fun t_ k_ => XS.ifNo X51.here hx rfl (hb hby at_80) rfl ((if0 _ _).trans (feq (by decide : ¬ ((1 : Int32) = (0 : Int32)))).1) k_) ?_
    refine own_Goes.via (T' := T51) (g' := (mkF m 84 #[.val (.int xc), .val (.int xk), .val (.int v13), .val (.ref s_STRING), .val (.int (1 : Int32)), .val (.int (1 : Int32)), .val (.int (1 : Int32))] [(.int (1 : Int32))])) (fun t_ k_ => XS.iconst X51.here hx rfl (hb hby at_83) k_) ?_
    refine own_Goes.via (T' := T51) (g' := (mkF m 88 #[.val (.int xc), .val (.int xk), .val (.int v13), .val (.ref s_STRING), .val (.int (1 : Int32)), .val (.int (1 : Int32)), .val (.int (1 : Int32))] [(.int (1 : Int32))])) (fun t_ k_ => XS.goto X51.here hx rfl (pc0 := 84) (pc' := 88) rfl (hb hby at_84) (by decide) (by decide) k_) ?_
    obtain ⟨fs, hr, hrun, hended, hW, hsame⟩ := X51.leave (v := some (.int 1)) (fun h => by rw [Bd.returns] at h; cases h)
    refine own_Goes.fin (retN X51 hx (t := .boolean) Bd.returns (by simp) (hb hby at_88) hr) hrun hended ?_
    subst hPd
    refine ⟨_, _, rfl, ?_, ⟨_, rfl⟩, hW, hsame.mono (by decide) (by decide)⟩
    show Q0 Z xc xk s__VALUES kV s_STRING s_LONG s_INT s_BYTE_ARRAY s_CUSTOM h0 n0 _ T51.heap _
    exact ⟨rfl, N51⟩
  · by_cases hk10_66 : ((((xk.toUInt32 >>> ((4 : Int32) &&& 31).toUInt32).toInt32) &&& (2147483647 : Int32)) % (5 : Int32)) = (1 : Int32)
    · have cd10_68 : s_LONG = own_pick s_STRING s_LONG s_INT s_BYTE_ARRAY s_CUSTOM ((((xk.toUInt32 >>> ((4 : Int32) &&& 31).toUInt32).toInt32) &&& (2147483647 : Int32)) % (5 : Int32)) := by simp only [own_pick, if_neg hk10_14, if_pos hk10_66]
      obtain ⟨_, _, ⟨T67, L67, k67, n67⟩, -, X67, ⟨Lc67, hQ67, l67, y67, z67⟩, st67⟩ := Jvm.LawKit.callS X0 hx (y := (⟨"com/example/danaid/danaid/io/ElementTypeForCodePinLaw", "pick", "(I)Lcom/example/danaid/danaid/io/ElementType;"⟩ : MethodName)) hown (mvT hZ (hw _ (List.mem_of_getElem? (i := 0) rfl))) (mvT hZ (hw _ (List.mem_of_getElem? (i := 1) rfl))) (mvT hZ (hw _ (List.mem_of_getElem? (i := 2) rfl))) (mvT hZ (hw _ (List.mem_of_getElem? (i := 3) rfl))) (by decide) (backOf (W := 0) (rm1 l Z a0 hw [] ((xk.toUInt32 >>> ((4 : Int32) &&& 31).toUInt32).toInt32) s_STRING s_LONG s_INT s_BYTE_ARRAY s_CUSTOM s_LONG h0 n0 Z0 OL cd10_68 S_STRING S_LONG S_INT S_BYTE_ARRAY S_CUSTOM) hZ (hw _ (List.mem_of_getElem? (i := 3) rfl)) (hw _ (List.mem_of_getElem? (i := 2) rfl)) (by decide) (by decide)) (g := (mkF m 10 #[.val (.int xc), .val (.int xk), .val (.int v13), .unset, .unset, .unset, .unset] [(.int ((xk.toUInt32 >>> ((4 : Int32) &&& 31).toUInt32).toInt32))])) rfl (by rw [hml]; rfl) (argsL := [(.int ((xk.toUInt32 >>> ((4 : Int32) &&& 31).toUInt32).toInt32))]) (rest := []) (lenOf pd_0_0 rfl) rfl (by show 2 * 0 + _ ≤ _; exact Nat.le_of_eq rfl) (hb hby at_10) (fun _ _ => ⟨rfl, e0, (by decide : 0 + 0 ≤ _), (by decide : 0 + 0 ≤ _)⟩)
      dsimp only [Pt.U, Pt.locs, Pt.cells, Pt.slots] at X67 l67 y67 z67 st67 hQ67
      subst l67 y67 z67
      obtain ⟨rfl, Nq67, hh67⟩ := hQ67
      have N67 := Fr.app N0 Nq67
      refine own_Goes.via (T' := T67) (g' := (mkF m 13 #[.val (.int xc), .val (.int xk), .val (.int v13), .unset, .unset, .unset, .unset] [(.ref s_LONG)])) (st67) ?_
      refine own_Goes.via (T' := T67) (g' := (mkF m 14 #[.val (.int xc), .val (.int xk), .val (.int v13), .val (.ref s_LONG), .unset, .unset, .unset] [])) (fun t_ k_ => XS.astoreN X67.here hx rfl (hb hby at_13) rfl rfl (l' := #[.val (.int xc), .val (.int xk), .val (.int v13), .val (.ref s_LONG), .unset, .unset, .unset]) rfl k_) ?_
      refine own_Goes.via (T' := T67) (g' := (mkF m 15 #[.val (.int xc), .val (.int xk), .val (.int v13), .val (.ref s_LONG), .unset, .unset, .unset] [(.int xc)])) (fun t_ k_ => XS.iloadN X67.here hx rfl (hb hby at_14) rfl k_) ?_
      have cd15_70 : (own_code s_STRING s_LONG s_INT s_BYTE_ARRAY s_CUSTOM xc) = own_code s_STRING s_LONG s_INT s_BYTE_ARRAY s_CUSTOM xc := rfl
      obtain ⟨_, _, ⟨T69, L69, k69, n69⟩, -, X69, ⟨Lc69, hQ69, l69, y69, z69⟩, st69⟩ := Jvm.LawKit.callS X67 hx (y := (⟨"com/example/danaid/danaid/io/ElementType", "forCode", "(I)Lcom/example/danaid/danaid/io/ElementType;"⟩ : MethodName)) hown (mvT hZ (hw _ (List.mem_of_getElem? (i := 8) rfl))) (mvT hZ (hw _ (List.mem_of_getElem? (i := 9) rfl))) (mvT hZ (hw _ (List.mem_of_getElem? (i := 6) rfl))) (mvT hZ (hw _ (List.mem_of_getElem? (i := 10) rfl))) (by decide) (backOf (W := 0) (rm2 l Z a0 hw [] xc s__VALUES kV s_STRING s_LONG s_INT s_BYTE_ARRAY s_CUSTOM (own_code s_STRING s_LONG s_INT s_BYTE_ARRAY s_CUSTOM xc) h0 n0 Z0 E6 V7 F8 F9 F10 F11 F12 OL cd15_70 S__VALUES) hZ (hw _ (List.mem_of_getElem? (i := 10) rfl)) (hw _ (List.mem_of_getElem? (i := 6) rfl)) (by decide) (by decide)) (g := (mkF m 15 #[.val (.int xc), .val (.int xk), .val (.int v13), .val (.ref s_LONG), .unset, .unset, .unset] [(.int xc)])) rfl (by rw [hml]; rfl) (argsL := [(.int xc)]) (rest := []) (lenOf pd_0_0 rfl) rfl (by show 2 * 0 + _ ≤ _; exact Nat.le_of_eq rfl) (hb hby at_15) (fun _ _ => ⟨rfl, hh67, (by decide : 0 + 1 ≤ _), (by decide : 0 + 5 ≤ _)⟩)
      dsimp only [Pt.U, Pt.locs, Pt.cells, Pt.slots] at X69 l69 y69 z69 st69 hQ69
      subst l69 y69 z69
      obtain ⟨rfl, Nq69, Kq69⟩ := hQ69
      have N69 := Fr.app N67 Nq69
      have O71 : Old Z n0 T69.heap := OL.keep Kq69 all0
      have E72 : Exa Z T69.heap s_STRING "com/example/danaid/danaid/io/ElementType" := E1.keep Kq69
      have E73 : Exa Z T69.heap s_LONG "com/example/danaid/danaid/io/ElementType" := E2.keep Kq69
      have E74 : Exa Z T69.heap s_INT "com/example/danaid/danaid/io/ElementType" := E3.keep Kq69
      have E75 : Exa Z T69.heap s_BYTE_ARRAY "com/example/danaid/danaid/io/ElementType" := E4.keep Kq69
      have E76 : Exa Z T69.heap s_CUSTOM "com/example/danaid/danaid/io/ElementType" := E5.keep Kq69
      have E77 : Exa Z T69.heap s__VALUES "[Lcom/example/danaid/danaid/io/ElementType;" := E6.keep Kq69
      have V78 : Arv Z T69.heap s__VALUES kV (.object "com/example/danaid/danaid/io/ElementType") (5 : Int32) [(.ref s_STRING), (.ref s_LONG), (.ref s_INT), (.ref s_BYTE_ARRAY), (.ref s_CUSTOM)] .null := V7.keep Kq69 nin0
      have F79 : Fld Z T69.heap s_STRING "com/example/danaid/danaid/io/ElementType" "code" "I" (.int (1 : Int32)) := F8.keep Kq69 nin0
      have F80 : Fld Z T69.heap s_LONG "com/example/danaid/danaid/io/ElementType" "code" "I" (.int (2 : Int32)) := F9.keep Kq69 nin0
      have F81 : Fld Z T69.heap s_INT "com/example/danaid/danaid/io/ElementType" "code" "I" (.int (3 : Int32)) := F10.keep Kq69 nin0
      have F82 : Fld Z T69.heap s_BYTE_ARRAY "com/example/danaid/danaid/io/ElementType" "code" "I" (.int (4 : Int32)) := F11.keep Kq69 nin0
      have F83 : Fld Z T69.heap s_CUSTOM "com/example/danaid/danaid/io/ElementType" "code" "I" (.int (5 : Int32)) := F12.keep Kq69 nin0
      have sz69 : n0 ≤ T69.heap.size := Nat.le_trans Z0 Kq69.1
      have K69 : Keep h0 T69.heap [] := ((Keep.refl h0 [])).trans Kq69 all0
      refine own_Goes.via (T' := T69) (g' := (mkF m 18 #[.val (.int xc), .val (.int xk), .val (.int v13), .val (.ref s_LONG), .unset, .unset, .unset] [(own_code s_STRING s_LONG s_INT s_BYTE_ARRAY s_CUSTOM xc)])) (st69) ?_
      refine own_Goes.via (T' := T69) (g' := (mkF m 19 #[.val (.int xc), .val (.int xk), .val (.int v13), .val (.ref s_LONG), .unset, .unset, .unset] [(.int xc), (own_code s_STRING s_LONG s_INT s_BYTE_ARRAY s_CUSTOM xc)])) (fun t_ k_ => XS.iloadN X69.here hx rfl (hb hby at_18) rfl k_) ?_
      obtain ⟨_, _, ⟨T84, L84, k84, n84⟩, -, X84, ⟨Lc84, hQ84, l84, y84, z84⟩, st84⟩ := Jvm.LawKit.callS X69 hx (y := (⟨"com/example/danaid/danaid/io/ElementTypeForCodePinLaw", "expected", "(I)Lcom/example/danaid/danaid/io/ElementType;"⟩ : MethodName)) hown (mvT hZ (hw _ (List.mem_of_getElem? (i := 32) rfl))) (mvT hZ (hw _ (List.mem_of_getElem? (i := 33) rfl))) (mvT hZ (hw _ (List.mem_of_getElem? (i := 2) rfl))) (mvT hZ (hw _ (List.mem_of_getElem? (i := 34) rfl))) (by decide) (backOf (W := 1) (rm4 l Z a0 hw [] xc s_STRING s_LONG s_INT s_BYTE_ARRAY s_CUSTOM T69.heap n0 sz69 O71 S_STRING S_LONG S_INT S_BYTE_ARRAY S_CUSTOM) hZ (hw _ (List.mem_of_getElem? (i := 34) rfl)) (hw _ (List.mem_of_getElem? (i := 2) rfl)) (by decide) (by decide)) (g := (mkF m 19 #[.val (.int xc), .val (.int xk), .val (.int v13), .val (.ref s_LONG), .unset, .unset, .unset] [(.int xc), (own_code s_STRING s_LONG s_INT s_BYTE_ARRAY s_CUSTOM xc)])) rfl (by rw [hml]; rfl) (argsL := [(.int xc)]) (rest := [(own_code s_STRING s_LONG s_INT s_BYTE_ARRAY s_CUSTOM xc)]) (lenOf pd_0_0 rfl) rfl (by show 2 * 0 + _ ≤ _; simp [own_code_cat]) (hb hby at_19) (fun _ _ => ⟨rfl, rfl, (by decide : 1 + 0 ≤ _), (by decide : 5 + 0 ≤ _)⟩)
      dsimp only [Pt.U, Pt.locs, Pt.cells, Pt.slots] at X84 l84 y84 z84 st84 hQ84
      subst l84 y84 z84
      obtain ⟨rfl, Nq84, hh84⟩ := hQ84
      have N84 := Fr.app N69 Nq84
      refine own_Goes.via (T' := T84) (g' := (mkF m 22 #[.val (.int xc), .val (.int xk), .val (.int v13), .val (.ref s_LONG), .unset, .unset, .unset] [(own_code s_STRING s_LONG s_INT s_BYTE_ARRAY s_CUSTOM xc), (own_code s_STRING s_LONG s_INT s_BYTE_ARRAY s_CUSTOM xc)])) (st84) ?_
      refine own_Goes.via (T' := T84) (g' := (mkF m 25 #[.val (.int xc), .val (.int xk), .val (.int v13), .val (.ref s_LONG), .unset, .unset, .unset] [])) (fun t_ k_ => Jvm.RoadKit.acmp (g := (mkF m 22 #[.val (.int xc), .val (.int xk), .val (.int v13), .val (.ref s_LONG), .unset, .unset, .unset] [(own_code s_STRING s_LONG s_INT s_BYTE_ARRAY s_CUSTOM xc), (own_code s_STRING s_LONG s_INT s_BYTE_ARRAY s_CUSTOM xc)])) X84 hx rfl (own_code_ref _ _ _ _ _ _) (own_code_ref _ _ _ _ _ _) (pc0 := 22) (pc' := 25) (same := true) rfl (hb hby at_22) rfl (decide_eq_true rfl) (by decide) (by decide) k_) ?_
      refine own_Goes.via (T' := T84) (g' := (mkF m 26 #[.val (.int xc), .val (.int xk), .val (.int v13), .val (.ref s_LONG), .unset, .unset, .unset] [(.int (1 : Int32))])) (fun t_ k_ => XS.iconst X84.here hx rfl (hb hby at_25) k_) ?_
      refine own_Goes.via (T' := T84) (g' := (mkF m 30 #[.val (.int xc), .val (.int xk), .val (.int v13), .val (.ref s_LONG), .unset, .unset, .unset] [(.int (1 : Int32))])) (fun t_ k_ => XS.goto X84.here hx rfl (pc0 := 26) (pc' := 30) rfl (hb hby at_26) (by decide) (by decide) k_) ?_
      refine own_Goes.via (T' := T84) (g' := (mkF m 32 #[.val (.int xc), .val (.int xk), .val (.int v13), .val (.ref s_LONG), .val (.int (1 : Int32)), .unset, .unset] [])) (fun t_ k_ => XS.istore X84.here hx rfl (hb hby at_30) rfl (l' := #[.val (.int xc), .val (.int xk), .val (.int v13), .val (.ref s_LONG), .val (.int (1 : Int32)), .unset, .unset]) rfl k_) ?_
      refine own_Goes.via (T' := T84) (g' := (mkF m 33 #[.val (.int xc), .val (.int xk), .val (.int v13), .val (.ref s_LONG), .val (.int (1 : Int32)), .unset, .unset] [(.int v13)])) (fun t_ k_ => XS.iloadN X84.here hx rfl (hb hby at_32) rfl k_) ?_
      have cd33_86 : (own_code s_STRING s_LONG s_INT s_BYTE_ARRAY s_CUSTOM v13) = own_code s_STRING s_LONG s_INT s_BYTE_ARRAY s_CUSTOM v13 := rfl
      obtain ⟨_, _, ⟨T85, L85, k85, n85⟩, -, X85, ⟨Lc85, hQ85, l85, y85, z85⟩, st85⟩ := Jvm.LawKit.callS X84 hx (y := (⟨"com/example/danaid/danaid/io/ElementType", "forCode", "(I)Lcom/example/danaid/danaid/io/ElementType;"⟩ : MethodName)) hown (mvT hZ (hw _ (List.mem_of_getElem? (i := 8) rfl))) (mvT hZ (hw _ (List.mem_of_getElem? (i := 9) rfl))) (mvT hZ (hw _ (List.mem_of_getElem? (i := 6) rfl))) (mvT hZ (hw _ (List.mem_of_getElem? (i := 10) rfl))) (by decide) (backOf (W := 0) (rm2 l Z a0 hw [] v13 s__VALUES kV s_STRING s_LONG s_INT s_BYTE_ARRAY s_CUSTOM (own_code s_STRING s_LONG s_INT s_BYTE_ARRAY s_CUSTOM v13) T69.heap n0 sz69 E77 V78 F79 F80 F81 F82 F83 O71 cd33_86 S__VALUES) hZ (hw _ (List.mem_of_getElem? (i := 10) rfl)) (hw _ (List.mem_of_getElem? (i := 6) rfl)) (by decide) (by decide)) (g := (mkF m 33 #[.val (.int xc), .val (.int xk), .val (.int v13), .val (.ref s_LONG), .val (.int (1 : Int32)), .unset, .unset] [(.int v13)])) rfl (by rw [hml]; rfl) (argsL := [(.int v13)]) (rest := []) (lenOf pd_0_0 rfl) rfl (by show 2 * 0 + _ ≤ _; exact Nat.le_of_eq rfl) (hb hby at_33) (fun _ _ => ⟨rfl, hh84, (by decide : 1 + 1 ≤ _), (by decide : 5 + 5 ≤ _)⟩)
      dsimp only [Pt.U, Pt.locs, Pt.cells, Pt.slots] at X85 l85 y85 z85 st85 hQ85
      subst l85 y85 z85
      obtain ⟨rfl, Nq85, Kq85⟩ := hQ85
      have N85 := Fr.app N84 Nq85
      have O87 : Old Z n0 T85.heap := O71.keep Kq85 all0
      have E88 : Exa Z T85.heap s_STRING "com/example/danaid/danaid/io/ElementType" := E72.keep Kq85
      have E89 : Exa Z T85.heap s_LONG "com/example/danaid/danaid/io/ElementType" := E73.keep Kq85
      have E90 : Exa Z T85.heap s_INT "com/example/danaid/danaid/io/ElementType" := E74.keep Kq85
      have E91 : Exa Z T85.heap s_BYTE_ARRAY "com/example/danaid/danaid/io/ElementType" := E75.keep Kq85
      have E92 : Exa Z T85.heap s_CUSTOM "com/example/danaid/danaid/io/ElementType" := E76.keep Kq85
      have E93 : Exa Z T85.heap s__VALUES "[Lcom/example/danaid/danaid/io/ElementType;" := E77.keep Kq85
      have V94 : Arv Z T85.heap s__VALUES kV (.object "com/example/danaid/danaid/io/ElementType") (5 : Int32) [(.ref s_STRING), (.ref s_LONG), (.ref s_INT), (.ref s_BYTE_ARRAY), (.ref s_CUSTOM)] .null := V78.keep Kq85 nin0
      have F95 : Fld Z T85.heap s_STRING "com/example/danaid/danaid/io/ElementType" "code" "I" (.int (1 : Int32)) := F79.keep Kq85 nin0
      have F96 : Fld Z T85.heap s_LONG "com/example/danaid/danaid/io/ElementType" "code" "I" (.int (2 : Int32)) := F80.keep Kq85 nin0
      have F97 : Fld Z T85.heap s_INT "com/example/danaid/danaid/io/ElementType" "code" "I" (.int (3 : Int32)) := F81.keep Kq85 nin0
      have F98 : Fld Z T85.heap s_BYTE_ARRAY "com/example/danaid/danaid/io/ElementType" "code" "I" (.int (4 : Int32)) := F82.keep Kq85 nin0
      have F99 : Fld Z T85.heap s_CUSTOM "com/example/danaid/danaid/io/ElementType" "code" "I" (.int (5 : Int32)) := F83.keep Kq85 nin0
      have sz85 : n0 ≤ T85.heap.size := Nat.le_trans sz69 Kq85.1
      have K85 : Keep h0 T85.heap [] := (K69).trans Kq85 all0
      refine own_Goes.via (T' := T85) (g' := (mkF m 36 #[.val (.int xc), .val (.int xk), .val (.int v13), .val (.ref s_LONG), .val (.int (1 : Int32)), .unset, .unset] [(own_code s_STRING s_LONG s_INT s_BYTE_ARRAY s_CUSTOM v13)])) (st85) ?_
      refine own_Goes.via (T' := T85) (g' := (mkF m 37 #[.val (.int xc), .val (.int xk), .val (.int v13), .val (.ref s_LONG), .val (.int (1 : Int32)), .unset, .unset] [(.int v13), (own_code s_STRING s_LONG s_INT s_BYTE_ARRAY s_CUSTOM v13)])) (fun t_ k_ => XS.iloadN X85.here hx rfl (hb hby at_36) rfl k_) ?_
      obtain ⟨_, _, ⟨T100, L100, k100, n100⟩, -, X100, ⟨Lc100, hQ100, l100, y100, z100⟩, st100⟩ := Jvm.LawKit.callS X85 hx (y := (⟨"com/example/danaid/danaid/io/ElementTypeForCodePinLaw", "expected", "(I)Lcom/example/danaid/danaid/io/ElementType;"⟩ : MethodName)) hown (mvT hZ (hw _ (List.mem_of_getElem? (i := 32) rfl))) (mvT hZ (hw _ (List.mem_of_getElem? (i := 33) rfl))) (mvT hZ (hw _ (List.mem_of_getElem? (i := 2) rfl))) (mvT hZ (hw _ (List.mem_of_getElem? (i := 34) rfl))) (by decide) (backOf (W := 1) (rm4 l Z a0 hw [] v13 s_STRING s_LONG s_INT s_BYTE_ARRAY s_CUSTOM T85.heap n0 sz85 O87 S_STRING S_LONG S_INT S_BYTE_ARRAY S_CUSTOM) hZ (hw _ (List.mem_of_getElem? (i := 34) rfl)) (hw _ (List.mem_of_getElem? (i := 2) rfl)) (by decide) (by decide)) (g := (mkF m 37 #[.val (.int xc), .val (.int xk), .val (.int v13), .val (.ref s_LONG), .val (.int (1 : Int32)), .unset, .unset] [(.int v13), (own_code s_STRING s_LONG s_INT s_BYTE_ARRAY s_CUSTOM v13)])) rfl (by rw [hml]; rfl) (argsL := [(.int v13)]) (rest := [(own_code s_STRING s_LONG s_INT s_BYTE_ARRAY s_CUSTOM v13)]) (lenOf pd_0_0 rfl) rfl (by show 2 * 0 + _ ≤ _; simp [own_code_cat]) (hb hby at_37) (fun _ _ => ⟨rfl, rfl, (by decide : 2 + 0 ≤ _), (by decide : 10 + 0 ≤ _)⟩)
      dsimp only [Pt.U, Pt.locs, Pt.cells, Pt.slots] at X100 l100 y100 z100 st100 hQ100
      subst l100 y100 z100
      obtain ⟨rfl, Nq100, hh100⟩ := hQ100
      have N100 := Fr.app N85 Nq100
      refine own_Goes.via (T' := T100) (g' := (mkF m 40 #[.val (.int xc), .val (.int xk), .val (.int v13), .val (.ref s_LONG), .val (.int (1 : Int32)), .unset, .unset] [(own_code s_STRING s_LONG s_INT s_BYTE_ARRAY s_CUSTOM v13), (own_code s_STRING s_LONG s_INT s_BYTE_ARRAY s_CUSTOM v13)])) (st100) ?_
      refine own_Goes.via (T' := T100) (g' := (mkF m 43 #[.val (.int xc), .val (.int xk), .val (.int v13), .val (.ref s_LONG), .val (.int (1 : Int32)), .unset, .unset] [])) (fun t_ k_ => Jvm.RoadKit.acmp (g := (mkF m 40 #[.val (.int xc), .val (.int xk), .val (.int v13), .val (.ref s_LONG), .val (.int (1 : Int32)), .unset, .unset] [(own_code s_STRING s_LONG s_INT s_BYTE_ARRAY s_CUSTOM v13), (own_code s_STRING s_LONG s_INT s_BYTE_ARRAY s_CUSTOM v13)])) X100 hx rfl (own_code_ref _ _ _ _ _ _) (own_code_ref _ _ _ _ _ _) (pc0 := 40) (pc' := 43) (same := true) rfl (hb hby at_40) rfl (decide_eq_true rfl) (by decide) (by decide) k_) ?_
      refine own_Goes.via (T' := T100) (g' := (mkF m 44 #[.val (.int xc), .val (.int xk), .val (.int v13), .val (.ref s_LONG), .val (.int (1 : Int32)), .unset, .unset] [(.int (1 : Int32))])) (fun t_ k_ => XS.iconst X100.here hx rfl (hb hby at_43) k_) ?_
      refine own_Goes.via (T' := T100) (g' := (mkF m 48 #[.val (.int xc), .val (.int xk), .val (.int v13), .val (.ref s_LONG), .val (.int (1 : Int32)), .unset, .unset] [(.int (1 : Int32))])) (fun t_ k_ => XS.goto X100.here hx rfl (pc0 := 44) (pc' := 48) rfl (hb hby at_44) (by decide) (by decide) k_) ?_
      refine own_Goes.via (T' := T100) (g' := (mkF m 50 #[.val (.int xc), .val (.int xk), .val (.int v13), .val (.ref s_LONG), .val (.int (1 : Int32)), .val (.int (1 : Int32)), .unset] [])) (fun t_ k_ => XS.istore X100.here hx rfl (hb hby at_48) rfl (l' := #[.val (.int xc), .val (.int xk), .val (.int v13), .val (.ref s_LONG), .val (.int (1 : Int32)), .val (.int (1 : Int32)), .unset]) rfl k_) ?_
      refine own_Goes.via (T' := T100) (g' := (mkF m 51 #[.val (.int xc), .val (.int xk), .val (.int v13), .val (.ref s_LONG), .val (.int (1 : Int32)), .val (.int (1 : Int32)), .unset] [(.ref s_LONG)])) (fun t_ k_ => XS.aloadN X100.here hx rfl (hb hby at_50) rfl rfl k_) ?_
      obtain ⟨cq101, kq101, q101a, q101b, q101c⟩ := isOf hZ hh100 E89
      obtain ⟨_, _, ⟨T101, L101, k101, n101⟩, -, X101, ⟨Lc101, hQ101, l101, y101, z101⟩, st101⟩ := X100.virtualBack hx (y := (⟨"com/example/danaid/danaid/io/ElementType", "code", "()I"⟩ : MethodName)) (z := (⟨"com/example/danaid/danaid/io/ElementType", "code", "()I"⟩ : MethodName)) hown (mvT hZ (hw _ (List.mem_of_getElem? (i := 35) rfl))) (mvT hZ (hw _ (List.mem_of_getElem? (i := 36) rfl))) (notFace_of_selects (args := #[]) (mvT hZ (hw _ (List.mem_of_getElem? (i := 38) rfl)))) (mvT hZ (hw _ (List.mem_of_getElem? (i := 38) rfl))) (mvT hZ (hw _ (List.mem_of_getElem? (i := 37) rfl))) (by decide) (backOf (W := 0) (rm5 l Z a0 hw [] s_LONG (2 : Int32) T85.heap n0 sz85 F96) hZ (hw _ (List.mem_of_getElem? (i := 39) rfl)) (hw _ (List.mem_of_getElem? (i := 6) rfl)) (by decide) (by decide)) q101a q101c (g := (mkF m 51 #[.val (.int xc), .val (.int xk), .val (.int v13), .val (.ref s_LONG), .val (.int (1 : Int32)), .val (.int (1 : Int32)), .unset] [(.ref s_LONG)])) rfl (by rw [hml]; rfl) (Steps.refl _) (argsL := []) (rest := []) (lenOf pd_0_1 rfl) rfl (by show 2 * 0 + _ ≤ _; exact Nat.le_of_eq rfl) (hb hby at_51) (fun _ _ => ⟨rfl, hh100, (by decide : 2 + 0 ≤ _), (by decide : 10 + 0 ≤ _)⟩)
      dsimp only [Pt.U, Pt.locs, Pt.cells, Pt.slots] at X101 l101 y101 z101 st101 hQ101
      subst l101 y101 z101
      obtain ⟨rfl, Nq101, hh101⟩ := hQ101
      have N101 := Fr.app N100 Nq101
      refine own_Goes.via (T' := T101) (g' := (mkF m 54 #[.val (.int xc), .val (.int xk), .val (.int v13), .val (.ref s_LONG), .val (.int (1 : Int32)), .val (.int (1 : Int32)), .unset] [(.int (own_f5 (2 : Int32)))])) (fun t_ k_ => st101.trans k_) ?_
      obtain ⟨v102, hv102⟩ : ∃ z : Int32, z = (own_f5 (2 : Int32)) := ⟨_, rfl⟩
      rw [← hv102]
      have cd54_104 : (.ref s_LONG) = own_code s_STRING s_LONG s_INT s_BYTE_ARRAY s_CUSTOM v102 := by rw [hv102]; simp [own_code, own_f5]
      obtain ⟨_, _, ⟨T103, L103, k103, n103⟩, -, X103, ⟨Lc103, hQ103, l103, y103, z103⟩, st103⟩ := Jvm.LawKit.callS X101 hx (y := (⟨"com/example/danaid/danaid/io/ElementType", "forCode", "(I)Lcom/example/danaid/danaid/io/ElementType;"⟩ : MethodName)) hown (mvT hZ (hw _ (List.mem_of_getElem? (i := 8) rfl))) (mvT hZ (hw _ (List.mem_of_getElem? (i := 9) rfl))) (mvT hZ (hw _ (List.mem_of_getElem? (i := 6) rfl))) (mvT hZ (hw _ (List.mem_of_getElem? (i := 10) rfl))) (by decide) (backOf (W := 0) (rm2 l Z a0 hw [] v102 s__VALUES kV s_STRING s_LONG s_INT s_BYTE_ARRAY s_CUSTOM (.ref s_LONG) T85.heap n0 sz85 E93 V94 F95 F96 F97 F98 F99 O87 cd54_104 S__VALUES) hZ (hw _ (List.mem_of_getElem? (i := 10) rfl)) (hw _ (List.mem_of_getElem? (i := 6) rfl)) (by decide) (by decide)) (g := (mkF m 54 #[.val (.int xc), .val (.int xk), .val (.int v13), .val (.ref s_LONG), .val (.int (1 : Int32)), .val (.int (1 : Int32)), .unset] [(.int v102)])) rfl (by rw [hml]; rfl) (argsL := [(.int v102)]) (rest := []) (lenOf pd_0_0 rfl) rfl (by show 2 * 0 + _ ≤ _; exact Nat.le_of_eq rfl) (hb hby at_54) (fun _ _ => ⟨rfl, hh101, (by decide : 2 + 1 ≤ _), (by decide : 10 + 5 ≤ _)⟩)
      dsimp only [Pt.U, Pt.locs, Pt.cells, Pt.slots] at X103 l103 y103 z103 st103 hQ103
      subst l103 y103 z103
      obtain ⟨rfl, Nq103, Kq103⟩ := hQ103
      have N103 := Fr.app N101 Nq103
      have O105 : Old Z n0 T103.heap := O87.keep Kq103 all0
      have E106 : Exa Z T103.heap s_STRING "com/example/danaid/danaid/io/ElementType" := E88.keep Kq103
      have E107 : Exa Z T103.heap s_LONG "com/example/danaid/danaid/io/ElementType" := E89.keep Kq103
      have E108 : Exa Z T103.heap s_INT "com/example/danaid/danaid/io/ElementType" := E90.keep Kq103
      have E109 : Exa Z T103.heap s_BYTE_ARRAY "com/example/danaid/danaid/io/ElementType" := E91.keep Kq103
      have E110 : Exa Z T103.heap s_CUSTOM "com/example/danaid/danaid/io/ElementType" := E92.keep Kq103
      have E111 : Exa Z T103.heap s__VALUES "[Lcom/example/danaid/danaid/io/ElementType;" := E93.keep Kq103
      have V112 : Arv Z T103.heap s__VALUES kV (.object "com/example/danaid/danaid/io/ElementType") (5 : Int32) [(.ref s_STRING), (.ref s_LONG), (.ref s_INT), (.ref s_BYTE_ARRAY), (.ref s_CUSTOM)] .null := V94.keep Kq103 nin0
      have F113 : Fld Z T103.heap s_STRING "com/example/danaid/danaid/io/ElementType" "code" "I" (.int (1 : Int32)) := F95.keep Kq103 nin0
      have F114 : Fld Z T103.heap s_LONG "com/example/danaid/danaid/io/ElementType" "code" "I" (.int (2 : Int32)) := F96.keep Kq103 nin0
      have F115 : Fld Z T103.heap s_INT "com/example/danaid/danaid/io/ElementType" "code" "I" (.int (3 : Int32)) := F97.keep Kq103 nin0
      have F116 : Fld Z T103.heap s_BYTE_ARRAY "com/example/danaid/danaid/io/ElementType" "code" "I" (.int (4 : Int32)) := F98.keep Kq103 nin0
      have F117 : Fld Z T103.heap s_CUSTOM "com/example/danaid/danaid/io/ElementType" "code" "I" (.int (5 : Int32)) := F99.keep Kq103 nin0
      have sz103 : n0 ≤ T103.heap.size := Nat.le_trans sz85 Kq103.1
      have K103 : Keep h0 T103.heap [] := (K85).trans Kq103 all0
      refine own_Goes.via (T' := T103) (g' := (mkF m 57 #[.val (.int xc), .val (.int xk), .val (.int v13), .val (.ref s_LONG), .val (.int (1 : Int32)), .val (.int (1 : Int32)), .unset] [(.ref s_LONG)])) (st103) ?_
      refine own_Goes.via (T' := T103) (g' := (mkF m 58 #[.val (.int xc), .val (.int xk), .val (.int v13), .val (.ref s_LONG), .val (.int (1 : Int32)), .val (.int (1 : Int32)), .unset] [(.ref s_LONG), (.ref s_LONG)])) (fun t_ k_ => XS.aloadN X103.here hx rfl (hb hby at_57) rfl rfl k_) ?_
      refine own_Goes.via (T' := T103) (g' := (mkF m 61 #[.val (.int xc), .val (.int xk), .val (.int v13), .val (.ref s_LONG), .val (.int (1 : Int32)), .val (.int (1 : Int32)), .unset] [])) (fun t_ k_ => Jvm.RoadKit.acmp (g := (mkF m 58 #[.val (.int xc), .val (.int xk), .val (.int v13), .val (.ref s_LONG), .val (.int (1 : Int32)), .val (.int (1 : Int32)), .unset] [(.ref s_LONG), (.ref s_LONG)])) X103 hx rfl rfl rfl (pc0 := 58) (pc' := 61) (same := true) rfl (hb hby at_58) rfl (decide_eq_true rfl) (by decide) (by decide) k_) ?_
      refine own_Goes.via (T' := T103) (g' := (mkF m 62 #[.val (.int xc), .val (.int xk), .val (.int v13), .val (.ref s_LONG), .val (.int (1 : Int32)), .val (.int (1 : Int32)), .unset] [(.int (1 : Int32))])) (fun t_ k_ => XS.iconst X103.here hx rfl (hb hby at_61) k_) ?_
      refine own_Goes.via (T' := T103) (g' := (mkF m 66 #[.val (.int xc), .val (.int xk), .val (.int v13), .val (.ref s_LONG), .val (.int (1 : Int32)), .val (.int (1 : Int32)), .unset] [(.int (1 : Int32))])) (fun t_ k_ => XS.goto X103.here hx rfl (pc0 := 62) (pc' := 66) rfl (hb hby at_62) (by decide) (by decide) k_) ?_
      refine own_Goes.via (T' := T103) (g' := (mkF m 68 #[.val (.int xc), .val (.int xk), .val (.int v13), .val (.ref s_LONG), .val (.int (1 : Int32)), .val (.int (1 : Int32)), .val (.int (1 : Int32))] [])) (fun t_ k_ => XS.istore X103.here hx rfl (hb hby at_66) rfl (l' := #[.val (.int xc), .val (.int xk), .val (.int v13), .val (.ref s_LONG), .val (.int (1 : Int32)), .val (.int (1 : Int32)), .val (.int (1 : Int32))]) rfl k_) ?_
      refine own_Goes.via (T' := T103) (g' := (mkF m 70 #[.val (.int xc), .val (.int xk), .val (.int v13), .val (.ref s_LONG), .val (.int (1 : Int32)), .val (.int (1 : Int32)), .val (.int (1 : Int32))] [(.int (1 : Int32))])) (fun t_ k_ => XS.iload X103.here hx rfl (hb hby at_68) rfl k_) ?_
      refine own_Goes.via (T' := T103) (g' := (mkF m 73 #[.val (.int xc), .val (.int xk), .val (.int v13), .val (.ref s_LONG), .val (.int (1 : Int32)), .val (.int (1 : Int32)), .val (.int (1 : Int32))] [])) (fun t_ k_ => XS.ifNo X103.here hx rfl (hb hby at_70) rfl ((if0 _ _).trans (feq (by decide : ¬ ((1 : Int32) = (0 : Int32)))).1) k_) ?_
      refine own_Goes.via (T' := T103) (g' := (mkF m 75 #[.val (.int xc), .val (.int xk), .val (.int v13), .val (.ref s_LONG), .val (.int (1 : Int32)), .val (.int (1 : Int32)), .val (.int (1 : Int32))] [(.int (1 : Int32))])) (fun t_ k_ => XS.iload X103.here hx rfl (hb hby at_73) rfl k_) ?_
      refine own_Goes.via (T' := T103) (g' := (mkF m 78 #[.val (.int xc), .val (.int xk), .val (.int v13), .val (.ref s_LONG), .val (.int (1 : Int32)), .val (.int (1 : Int32)), .val (.int (1 : Int32))] [])) (fun t_ k_ => XS.ifNo X103.here hx rfl (hb hby at_75) rfl ((if0 _ _).trans (feq (by decide : ¬ ((1 : Int32) = (0 : Int32)))).1) k_) ?_
      refine own_Goes.via (T' := T103) (g' := (mkF m 80 #[.val (.int xc), .val (.int xk), .val (.int v13), .val (.ref s_LONG), .val (.int (1 : Int32)), .val (.int (1 : Int32)), .val (.int (1 : Int32))] [(.int (1 : Int32))])) (fun t_ k_ => XS.iload X103.here hx rfl (hb hby at_78) rfl k_) ?_
      refine own_Goes.via (T' := T103) (g' := (mkF m 83 #[.val (.int xc), .val (.int xk), .val (.int v13), .val (.ref s_LONG), .val (.int (1 : Int32)), .val (.int (1 : Int32)), .val (.int (1 : Int32))] [])) (fun t_ k_ => XS.ifNo X103.here hx rfl (hb hby at_80) rfl ((if0 _ _).trans (feq (by decide : ¬ ((1 : Int32) = (0 : Int32)))).1) k_) ?_
      refine own_Goes.via (T' := T103) (g' := (mkF m 84 #[.val (.int xc), .val (.int xk), .val (.int v13), .val (.ref s_LONG), .val (.int (1 : Int32)), .val (.int (1 : Int32)), .val (.int (1 : Int32))] [(.int (1 : Int32))])) (fun t_ k_ => XS.iconst X103.here hx rfl (hb hby at_83) k_) ?_
      refine own_Goes.via (T' := T103) (g' := (mkF m 88 #[.val (.int xc), .val (.int xk), .val (.int v13), .val (.ref s_LONG), .val (.int (1 : Int32)), .val (.int (1 : Int32)), .val (.int (1 : Int32))] [(.int (1 : Int32))])) (fun t_ k_ => XS.goto X103.here hx rfl (pc0 := 84) (pc' := 88) rfl (hb hby at_84) (by decide) (by decide) k_) ?_
      obtain ⟨fs, hr, hrun, hended, hW, hsame⟩ := X103.leave (v := some (.int 1)) (fun h => by rw [Bd.returns] at h; cases h)
      refine own_Goes.fin (retN X103 hx (t := .boolean) Bd.returns (by simp) (hb hby at_88) hr) hrun hended ?_
      subst hPd
      refine ⟨_, _, rfl, ?_, ⟨_, rfl⟩, hW, hsame.mono (by decide) (by decide)⟩
      show Q0 Z xc xk s__VALUES kV s_STRING s_LONG s_INT s_BYTE_ARRAY s_CUSTOM h0 n0 _ T103.heap _
      exact ⟨rfl, N103⟩
    · by_cases hk10_118 : ((((xk.toUInt32 >>> ((4 : Int32) &&& 31).toUInt32).toInt32) &&& (2147483647 : Int32)) % (5 : Int32)) = (2 : Int32)
      · have cd10_120 : s_INT = own_pick s_STRING s_LONG s_INT s_BYTE_ARRAY s_CUSTOM ((((xk.toUInt32 >>> ((4 : Int32) &&& 31).toUInt32).toInt32) &&& (2147483647 : Int32)) % (5 : Int32)) := by simp only [own_pick, if_neg hk10_14, if_neg hk10_66, if_pos hk10_118]
        obtain ⟨_, _, ⟨T119, L119, k119, n119⟩, -, X119, ⟨Lc119, hQ119, l119, y119, z119⟩, st119⟩ := Jvm.LawKit.callS X0 hx (y := (⟨"com/example/danaid/danaid/io/ElementTypeForCodePinLaw", "pick", "(I)Lcom/example/danaid/danaid/io/ElementType;"⟩ : MethodName)) hown (mvT hZ (hw _ (List.mem_of_getElem? (i := 0) rfl))) (mvT hZ (hw _ (List.mem_of_getElem? (i := 1) rfl))) (mvT hZ (hw _ (List.mem_of_getElem? (i := 2) rfl))) (mvT hZ (hw _ (List.mem_of_getElem? (i := 3) rfl))) (by decide) (backOf (W := 0) (rm1 l Z a0 hw [] ((xk.toUInt32 >>> ((4 : Int32) &&& 31).toUInt32).toInt32) s_STRING s_LONG s_INT s_BYTE_ARRAY s_CUSTOM s_INT h0 n0 Z0 OL cd10_120 S_STRING S_LONG S_INT S_BYTE_ARRAY S_CUSTOM) hZ (hw _ (List.mem_of_getElem? (i := 3) rfl)) (hw _ (List.mem_of_getElem? (i := 2) rfl)) (by decide) (by decide)) (g := (mkF m 10 #[.val (.int xc), .val (.int xk), .val (.int v13), .unset, .unset, .unset, .unset] [(.int ((xk.toUInt32 >>> ((4 : Int32) &&& 31).toUInt32).toInt32))])) rfl (by rw [hml]; rfl) (argsL := [(.int ((xk.toUInt32 >>> ((4 : Int32) &&& 31).toUInt32).toInt32))]) (rest := []) (lenOf pd_0_0 rfl) rfl (by show 2 * 0 + _ ≤ _; exact Nat.le_of_eq rfl) (hb hby at_10) (fun _ _ => ⟨rfl, e0, (by decide : 0 + 0 ≤ _), (by decide : 0 + 0 ≤ _)⟩)
        dsimp only [Pt.U, Pt.locs, Pt.cells, Pt.slots] at X119 l119 y119 z119 st119 hQ119
        subst l119 y119 z119
        obtain ⟨rfl, Nq119, hh119⟩ := hQ119
        have N119 := Fr.app N0 Nq119
        refine own_Goes.via (T' := T119) (g' := (mkF m 13 #[.val (.int xc), .val (.int xk), .val (.int v13), .unset, .unset, .unset, .unset] [(.ref s_INT)])) (st119) ?_
        refine own_Goes.via (T' := T119) (g' := (mkF m 14 #[.val (.int xc), .val (.int xk), .val (.int v13), .val (.ref s_INT), .unset, .unset, .unset] [])) (fun t_ k_ => XS.astoreN X119.here hx rfl (hb hby at_13) rfl rfl (l' := #[.val (.int xc), .val (.int xk), .val (.int v13), .val (.ref s_INT), .unset, .unset, .unset]) rfl k_) ?_
        refine own_Goes.via (T' := T119) (g' := (mkF m 15 #[.val (.int xc), .val (.int xk), .val (.int v13), .val (.ref s_INT), .unset, .unset, .unset] [(.int xc)])) (fun t_ k_ => XS.iloadN X119.here hx rfl (hb hby at_14) rfl k_) ?_
        have cd15_122 : (own_code s_STRING s_LONG s_INT s_BYTE_ARRAY s_CUSTOM xc) = own_code s_STRING s_LONG s_INT s_BYTE_ARRAY s_CUSTOM xc := rfl
        obtain ⟨_, _, ⟨T121, L121, k121, n121⟩, -, X121, ⟨Lc121, hQ121, l121, y121, z121⟩, st121⟩ := Jvm.LawKit.callS X119 hx (y := (⟨"com/example/danaid/danaid/io/ElementType", "forCode", "(I)Lcom/example/danaid/danaid/io/ElementType;"⟩ : MethodName)) hown (mvT hZ (hw _ (List.mem_of_getElem? (i := 8) rfl))) (mvT hZ (hw _ (List.mem_of_getElem? (i := 9) rfl))) (mvT hZ (hw _ (List.mem_of_getElem? (i := 6) rfl))) (mvT hZ (hw _ (List.mem_of_getElem? (i := 10) rfl))) (by decide) (backOf (W := 0) (rm2 l Z a0 hw [] xc s__VALUES kV s_STRING s_LONG s_INT s_BYTE_ARRAY s_CUSTOM (own_code s_STRING s_LONG s_INT s_BYTE_ARRAY s_CUSTOM xc) h0 n0 Z0 E6 V7 F8 F9 F10 F11 F12 OL cd15_122 S__VALUES) hZ (hw _ (List.mem_of_getElem? (i := 10) rfl)) (hw _ (List.mem_of_getElem? (i := 6) rfl)) (by decide) (by decide)) (g := (mkF m 15 #[.val (.int xc), .val (.int xk), .val (.int v13), .val (.ref s_INT), .unset, .unset, .unset] [(.int xc)])) rfl (by rw [hml]; rfl) (argsL := [(.int xc)]) (rest := []) (lenOf pd_0_0 rfl) rfl (by show 2 * 0 + _ ≤ _; exact Nat.le_of_eq rfl) (hb hby at_15) (fun _ _ => ⟨rfl, hh119, (by decide : 0 + 1 ≤ _), (by decide : 0 + 5 ≤ _)⟩)
        dsimp only [Pt.U, Pt.locs, Pt.cells, Pt.slots] at X121 l121 y121 z121 st121 hQ121
        subst l121 y121 z121
        obtain ⟨rfl, Nq121, Kq121⟩ := hQ121
        have N121 := Fr.app N119 Nq121
        have O123 : Old Z n0 T121.heap := OL.keep Kq121 all0
        have E124 : Exa Z T121.heap s_STRING "com/example/danaid/danaid/io/ElementType" := E1.keep Kq121
        have E125 : Exa Z T121.heap s_LONG "com/example/danaid/danaid/io/ElementType" := E2.keep Kq121
        have E126 : Exa Z T121.heap s_INT "com/example/danaid/danaid/io/ElementType" := E3.keep Kq121
        have E127 : Exa Z T121.heap s_BYTE_ARRAY "com/example/danaid/danaid/io/ElementType" := E4.keep Kq121
        have E128 : Exa Z T121.heap s_CUSTOM "com/example/danaid/danaid/io/ElementType" := E5.keep Kq121
        have E129 : Exa Z T121.heap s__VALUES "[Lcom/example/danaid/danaid/io/ElementType;" := E6.keep Kq121
        have V130 : Arv Z T121.heap s__VALUES kV (.object "com/example/danaid/danaid/io/ElementType") (5 : Int32) [(.ref s_STRING), (.ref s_LONG), (.ref s_INT), (.ref s_BYTE_ARRAY), (.ref s_CUSTOM)] .null := V7.keep Kq121 nin0
        have F131 : Fld Z T121.heap s_STRING "com/example/danaid/danaid/io/ElementType" "code" "I" (.int (1 : Int32)) := F8.keep Kq121 nin0
        have F132 : Fld Z T121.heap s_LONG "com/example/danaid/danaid/io/ElementType" "code" "I" (.int (2 : Int32)) := F9.keep Kq121 nin0
        have F133 : Fld Z T121.heap s_INT "com/example/danaid/danaid/io/ElementType" "code" "I" (.int (3 : Int32)) := F10.keep Kq121 nin0
        have F134 : Fld Z T121.heap s_BYTE_ARRAY "com/example/danaid/danaid/io/ElementType" "code" "I" (.int (4 : Int32)) := F11.keep Kq121 nin0
        have F135 : Fld Z T121.heap s_CUSTOM "com/example/danaid/danaid/io/ElementType" "code" "I" (.int (5 : Int32)) := F12.keep Kq121 nin0
        have sz121 : n0 ≤ T121.heap.size := Nat.le_trans Z0 Kq121.1
        have K121 : Keep h0 T121.heap [] := ((Keep.refl h0 [])).trans Kq121 all0
        refine own_Goes.via (T' := T121) (g' := (mkF m 18 #[.val (.int xc), .val (.int xk), .val (.int v13), .val (.ref s_INT), .unset, .unset, .unset] [(own_code s_STRING s_LONG s_INT s_BYTE_ARRAY s_CUSTOM xc)])) (st121) ?_
        refine own_Goes.via (T' := T121) (g' := (mkF m 19 #[.val (.int xc), .val (.int xk), .val (.int v13), .val (.ref s_INT), .unset, .unset, .unset] [(.int xc), (own_code s_STRING s_LONG s_INT s_BYTE_ARRAY s_CUSTOM xc)])) (fun t_ k_ => XS.iloadN X121.here hx rfl (hb hby at_18) rfl k_) ?_
        obtain ⟨_, _, ⟨T136, L136, k136, n136⟩, -, X136, ⟨Lc136, hQ136, l136, y136, z136⟩, st136⟩ := Jvm.LawKit.callS X121 hx (y := (⟨"com/example/danaid/danaid/io/ElementTypeForCodePinLaw", "expected", "(I)Lcom/example/danaid/danaid/io/ElementType;"⟩ : MethodName)) hown (mvT hZ (hw _ (List.mem_of_getElem? (i := 32) rfl))) (mvT hZ (hw _ (List.mem_of_getElem? (i := 33) rfl))) (mvT hZ (hw _ (List.mem_of_getElem? (i := 2) rfl))) (mvT hZ (hw _ (List.mem_of_getElem? (i := 34) rfl))) (by decide) (backOf (W := 1) (rm4 l Z a0 hw [] xc s_STRING s_LONG s_INT s_BYTE_ARRAY s_CUSTOM T121.heap n0 sz121 O123 S_STRING S_LONG S_INT S_BYTE_ARRAY S_CUSTOM) hZ (hw _ (List.mem_of_getElem? (i := 34) rfl)) (hw _ (List.mem_of_getElem? (i := 2) rfl)) (by decide) (by decide)) (g := (mkF m 19 #[.val (.int xc), .val (.int xk), .val (.int v13), .val (.ref s_INT), .unset, .unset, .unset] [(.int xc), (own_code s_STRING s_LONG s_INT s_BYTE_ARRAY s_CUSTOM xc)])) rfl (by rw [hml]; rfl) (argsL := [(.int xc)]) (rest := [(own_code s_STRING s_LONG s_INT s_BYTE_ARRAY s_CUSTOM xc)]) (lenOf pd_0_0 rfl) rfl (by show 2 * 0 + _ ≤ _; simp [own_code_cat]) (hb hby at_19) (fun _ _ => ⟨rfl, rfl, (by decide : 1 + 0 ≤ _), (by decide : 5 + 0 ≤ _)⟩)
        dsimp only [Pt.U, Pt.locs, Pt.cells, Pt.slots] at X136 l136 y136 z136 st136 hQ136
        subst l136 y136 z136
        obtain ⟨rfl, Nq136, hh136⟩ := hQ136
        have N136 := Fr.app N121 Nq136
        refine own_Goes.via (T' := T136) (g' := (mkF m 22 #[.val (.int xc), .val (.int xk), .val (.int v13), .val (.ref s_INT), .unset, .unset, .unset] [(own_code s_STRING s_LONG s_INT s_BYTE_ARRAY s_CUSTOM xc), (own_code s_STRING s_LONG s_INT s_BYTE_ARRAY s_CUSTOM xc)])) (st136) ?_
        refine own_Goes.via (T' := T136) (g' := (mkF m 25 #[.val (.int xc), .val (.int xk), .val (.int v13), .val (.ref s_INT), .unset, .unset, .unset] [])) (fun t_ k_ => Jvm.RoadKit.acmp (g := (mkF m 22 #[.val (.int xc), .val (.int xk), .val (.int v13), .val (.ref s_INT), .unset, .unset, .unset] [(own_code s_STRING s_LONG s_INT s_BYTE_ARRAY s_CUSTOM xc), (own_code s_STRING s_LONG s_INT s_BYTE_ARRAY s_CUSTOM xc)])) X136 hx rfl (own_code_ref _ _ _ _ _ _) (own_code_ref _ _ _ _ _ _) (pc0 := 22) (pc' := 25) (same := true) rfl (hb hby at_22) rfl (decide_eq_true rfl) (by decide) (by decide) k_) ?_
        refine own_Goes.via (T' := T136) (g' := (mkF m 26 #[.val (.int xc), .val (.int xk), .val (.int v13), .val (.ref s_INT), .unset, .unset, .unset] [(.int (1 : Int32))])) (fun t_ k_ => XS.iconst X136.here hx rfl (hb hby at_25) k_) ?_
        refine own_Goes.via (T' := T136) (g' := (mkF m 30 #[.val (.int xc), .val (.int xk), .val (.int v13), .val (.ref s_INT), .unset, .unset, .unset] [(.int (1 : Int32))])) (fun t_ k_ => XS.goto X136.here hx rfl (pc0 := 26) (pc' := 30) rfl (hb hby at_26) (by decide) (by decide) k_) ?_
        refine own_Goes.via (T' := T136) (g' := (mkF m 32 #[.val (.int xc), .val (.int xk), .val (.int v13), .val (.ref s_INT), .val (.int (1 : Int32)), .unset, .unset] [])) (fun t_ k_ => XS.istore X136.here hx rfl (hb hby at_30) rfl (l' := #[.val (.int xc), .val (.int xk), .val (.int v13), .val (.ref s_INT), .val (.int (1 : Int32)), .unset, .unset]) rfl k_) ?_
        refine own_Goes.via (T' := T136) (g' := (mkF m 33 #[.val (.int xc), .val (.int xk), .val (.int v13), .val (.ref s_INT), .val (.int (1 : Int32)), .unset, .unset] [(.int v13)])) (fun t_ k_ => XS.iloadN X136.here hx rfl (hb hby at_32) rfl k_) ?_
        have cd33_138 : (own_code s_STRING s_LONG s_INT s_BYTE_ARRAY s_CUSTOM v13) = own_code s_STRING s_LONG s_INT s_BYTE_ARRAY s_CUSTOM v13 := rfl
        obtain ⟨_, _, ⟨T137, L137, k137, n137⟩, -, X137, ⟨Lc137, hQ137, l137, y137, z137⟩, st137⟩ := Jvm.LawKit.callS X136 hx (y := (⟨"com/example/danaid/danaid/io/ElementType", "forCode", "(I)Lcom/example/danaid/danaid/io/ElementType;"⟩ : MethodName)) hown (mvT hZ (hw _ (List.mem_of_getElem? (i := 8) rfl))) (mvT hZ (hw _ (List.mem_of_getElem? (i := 9) rfl))) (mvT hZ (hw _ (List.mem_of_getElem? (i := 6) rfl))) (mvT hZ (hw _ (List.mem_of_getElem? (i := 10) rfl))) (by decide) (backOf (W := 0) (rm2 l Z a0 hw [] v13 s__VALUES kV s_STRING s_LONG s_INT s_BYTE_ARRAY s_CUSTOM (own_code s_STRING s_LONG s_INT s_BYTE_ARRAY s_CUSTOM v13) T121.heap n0 sz121 E129 V130 F131 F132 F133 F134 F135 O123 cd33_138 S__VALUES) hZ (hw _ (List.mem_of_getElem? (i := 10) rfl)) (hw _ (List.mem_of_getElem? (i := 6) rfl)) (by decide) (by decide)) (g := (mkF m 33 #[.val (.int xc), .val (.int xk), .val (.int v13), .val (.ref s_INT), .val (.int (1 : Int32)), .unset, .unset] [(.int v13)])) rfl (by rw [hml]; rfl) (argsL := [(.int v13)]) (rest := []) (lenOf pd_0_0 rfl) rfl (by show 2 * 0 + _ ≤ _; exact Nat.le_of_eq rfl) (hb hby at_33) (fun _ _ => ⟨rfl, hh136, (by decide : 1 + 1 ≤ _), (by decide : 5 + 5 ≤ _)⟩)
        dsimp only [Pt.U, Pt.locs, Pt.cells, Pt.slots] at X137 l137 y137 z137 st137 hQ137
        subst l137 y137 z137
        obtain ⟨rfl, Nq137, Kq137⟩ := hQ137
        have N137 := Fr.app N136 Nq137
        have O139 : Old Z n0 T137.heap := O123.keep Kq137 all0
        have E140 : Exa Z T137.heap s_STRING "com/example/danaid/danaid/io/ElementType" := E124.keep Kq137
        have E141 : Exa Z T137.heap s_LONG "com/example/danaid/danaid/io/ElementType" := E125.keep Kq137
        have E142 : Exa Z T137.heap s_INT "com/example/danaid/danaid/io/ElementType" := E126.keep Kq137
        have E143 : Exa Z T137.heap s_BYTE_ARRAY "com/example/danaid/danaid/io/ElementType" := E127.keep Kq137
        have E144 : Exa Z T137.heap s_CUSTOM "com/example/danaid/danaid/io/ElementType" := E128.keep Kq137
        have E145 : Exa Z T137.heap s__VALUES "[Lcom/example/danaid/danaid/io/ElementType;" := E129.keep Kq137
        have V146 : Arv Z T137.heap s__VALUES kV (.object "com/example/danaid/danaid/io/ElementType") (5 : Int32) [(.ref s_STRING), (.ref s_LONG), (.ref s_INT), (.ref s_BYTE_ARRAY), (.ref s_CUSTOM)] .null := V130.keep Kq137 nin0
        have F147 : Fld Z T137.heap s_STRING "com/example/danaid/danaid/io/ElementType" "code" "I" (.int (1 : Int32)) := F131.keep Kq137 nin0
        have F148 : Fld Z T137.heap s_LONG "com/example/danaid/danaid/io/ElementType" "code" "I" (.int (2 : Int32)) := F132.keep Kq137 nin0
        have F149 : Fld Z T137.heap s_INT "com/example/danaid/danaid/io/ElementType" "code" "I" (.int (3 : Int32)) := F133.keep Kq137 nin0
        have F150 : Fld Z T137.heap s_BYTE_ARRAY "com/example/danaid/danaid/io/ElementType" "code" "I" (.int (4 : Int32)) := F134.keep Kq137 nin0
        have F151 : Fld Z T137.heap s_CUSTOM "com/example/danaid/danaid/io/ElementType" "code" "I" (.int (5 : Int32)) := F135.keep Kq137 nin0
        have sz137 : n0 ≤ T137.heap.size := Nat.le_trans sz121 Kq137.1
        have K137 : Keep h0 T137.heap [] := (K121).trans Kq137 all0
        refine own_Goes.via (T' := T137) (g' := (mkF m 36 #[.val (.int xc), .val (.int xk), .val (.int v13), .val (.ref s_INT), .val (.int (1 : Int32)), .unset, .unset] [(own_code s_STRING s_LONG s_INT s_BYTE_ARRAY s_CUSTOM v13)])) (st137) ?_
        refine own_Goes.via (T' := T137) (g' := (mkF m 37 #[.val (.int xc), .val (.int xk), .val (.int v13), .val (.ref s_INT), .val (.int (1 : Int32)), .unset, .unset] [(.int v13), (own_code s_STRING s_LONG s_INT s_BYTE_ARRAY s_CUSTOM v13)])) (fun t_ k_ => XS.iloadN X137.here hx rfl (hb hby at_36) rfl k_) ?_
        obtain ⟨_, _, ⟨T152, L152, k152, n152⟩, -, X152, ⟨Lc152, hQ152, l152, y152, z152⟩, st152⟩ := Jvm.LawKit.callS X137 hx (y := (⟨"com/example/danaid/danaid/io/ElementTypeForCodePinLaw", "expected", "(I)Lcom/example/danaid/danaid/io/ElementType;"⟩ : MethodName)) hown (mvT hZ (hw _ (List.mem_of_getElem? (i := 32) rfl))) (mvT hZ (hw _ (List.mem_of_getElem? (i := 33) rfl))) (mvT hZ (hw _ (List.mem_of_getElem? (i := 2) rfl))) (mvT hZ (hw _ (List.mem_of_getElem? (i := 34) rfl))) (by decide) (backOf (W := 1) (rm4 l Z a0 hw [] v13 s_STRING s_LONG s_INT s_BYTE_ARRAY s_CUSTOM T137.heap n0 sz137 O139 S_STRING S_LONG S_INT S_BYTE_ARRAY S_CUSTOM) hZ (hw _ (List.mem_of_getElem? (i := 34) rfl)) (hw _ (List.mem_of_getElem? (i := 2) rfl)) (by decide) (by decide)) (g := (mkF m 37 #[.val (.int xc), .val (.int xk), .val (.int v13), .val (.ref s_INT), .val (.int (1 : Int32)), .unset, .unset] [(.int v13), (own_code s_STRING s_LONG s_INT s_BYTE_ARRAY s_CUSTOM v13)])) rfl (by rw [hml]; rfl) (argsL := [(.int v13)]) (rest := [(own_code s_STRING s_LONG s_INT s_BYTE_ARRAY s_CUSTOM v13)]) (lenOf pd_0_0 rfl) rfl (by show 2 * 0 + _ ≤ _; simp [own_code_cat]) (hb hby at_37) (fun _ _ => ⟨rfl, rfl, (by decide : 2 + 0 ≤ _), (by decide : 10 + 0 ≤ _)⟩)
        dsimp only [Pt.U, Pt.locs, Pt.cells, Pt.slots] at X152 l152 y152 z152 st152 hQ152
        subst l152 y152 z152
        obtain ⟨rfl, Nq152, hh152⟩ := hQ152
        have N152 := Fr.app N137 Nq152
        refine own_Goes.via (T' := T152) (g' := (mkF m 40 #[.val (.int xc), .val (.int xk), .val (.int v13), .val (.ref s_INT), .val (.int (1 : Int32)), .unset, .unset] [(own_code s_STRING s_LONG s_INT s_BYTE_ARRAY s_CUSTOM v13), (own_code s_STRING s_LONG s_INT s_BYTE_ARRAY s_CUSTOM v13)])) (st152) ?_
        refine own_Goes.via (T' := T152) (g' := (mkF m 43 #[.val (.int xc), .val (.int xk), .val (.int v13), .val (.ref s_INT), .val (.int (1 : Int32)), .unset, .unset] [])) (fun t_ k_ => Jvm.RoadKit.acmp (g := (mkF m 40 #[.val (.int xc), .val (.int xk), .val (.int v13), .val (.ref s_INT), .val (.int (1 : Int32)), .unset, .unset] [(own_code s_STRING s_LONG s_INT s_BYTE_ARRAY s_CUSTOM v13), (own_code s_STRING s_LONG s_INT s_BYTE_ARRAY s_CUSTOM v13)])) X152 hx rfl (own_code_ref _ _ _ _ _ _) (own_code_ref _ _ _ _ _ _) (pc0 := 40) (pc' := 43) (same := true) rfl (hb hby at_40) rfl (decide_eq_true rfl) (by decide) (by decide) k_) ?_
        refine own_Goes.via (T' := T152) (g' := (mkF m 44 #[.val (.int xc), .val (.int xk), .val (.int v13), .val (.ref s_INT), .val (.int (1 : Int32)), .unset, .unset] [(.int (1 : Int32))])) (fun t_ k_ => XS.iconst X152.here hx rfl (hb hby at_43) k_) ?_
        refine own_Goes.via (T' := T152) (g' := (mkF m 48 #[.val (.int xc), .val (.int xk), .val (.int v13), .val (.ref s_INT), .val (.int (1 : Int32)), .unset, .unset] [(.int (1 : Int32))])) (fun t_ k_ => XS.goto X152.here hx rfl (pc0 := 44) (pc' := 48) rfl (hb hby at_44) (by decide) (by decide) k_) ?_
        refine own_Goes.via (T' := T152) (g' := (mkF m 50 #[.val (.int xc), .val (.int xk), .val (.int v13), .val (.ref s_INT), .val (.int (1 : Int32)), .val (.int (1 : Int32)), .unset] [])) (fun t_ k_ => XS.istore X152.here hx rfl (hb hby at_48) rfl (l' := #[.val (.int xc), .val (.int xk), .val (.int v13), .val (.ref s_INT), .val (.int (1 : Int32)), .val (.int (1 : Int32)), .unset]) rfl k_) ?_
        refine own_Goes.via (T' := T152) (g' := (mkF m 51 #[.val (.int xc), .val (.int xk), .val (.int v13), .val (.ref s_INT), .val (.int (1 : Int32)), .val (.int (1 : Int32)), .unset] [(.ref s_INT)])) (fun t_ k_ => XS.aloadN X152.here hx rfl (hb hby at_50) rfl rfl k_) ?_
        obtain ⟨cq153, kq153, q153a, q153b, q153c⟩ := isOf hZ hh152 E142
        obtain ⟨_, _, ⟨T153, L153, k153, n153⟩, -, X153, ⟨Lc153, hQ153, l153, y153, z153⟩, st153⟩ := X152.virtualBack hx (y := (⟨"com/example/danaid/danaid/io/ElementType", "code", "()I"⟩ : MethodName)) (z := (⟨"com/example/danaid/danaid/io/ElementType", "code", "()I"⟩ : MethodName)) hown (mvT hZ (hw _ (List.mem_of_getElem? (i := 35) rfl))) (mvT hZ (hw _ (List.mem_of_getElem? (i := 36) rfl))) (notFace_of_selects (args := #[]) (mvT hZ (hw _ (List.mem_of_getElem? (i := 38) rfl)))) (mvT hZ (hw _ (List.mem_of_getElem? (i := 38) rfl))) (mvT hZ (hw _ (List.mem_of_getElem? (i := 37) rfl))) (by decide) (backOf (W := 0) (rm5 l Z a0 hw [] s_INT (3 : Int32) T137.heap n0 sz137 F149) hZ (hw _ (List.mem_of_getElem? (i := 39) rfl)) (hw _ (List.mem_of_getElem? (i := 6) rfl)) (by decide) (by decide)) q153a q153c (g := (mkF m 51 #[.val (.int xc), .val (.int xk), .val (.int v13), .val (.ref s_INT), .val (.int (1 : Int32)), .val (.int (1 : Int32)), .unset] [(.ref s_INT)])) rfl (by rw [hml]; rfl) (Steps.refl _) (argsL := []) (rest := []) (lenOf pd_0_1 rfl) rfl (by show 2 * 0 + _ ≤ _; exact Nat.le_of_eq rfl) (hb hby at_51) (fun _ _ => ⟨rfl, hh152, (by decide : 2 + 0 ≤ _), (by decide : 10 + 0 ≤ _)⟩)
        dsimp only [Pt.U, Pt.locs, Pt.cells, Pt.slots] at X153 l153 y153 z153 st153 hQ153
        subst l153 y153 z153
        obtain ⟨rfl, Nq153, hh153⟩ := hQ153
        have N153 := Fr.app N152 Nq153
        refine own_Goes.via (T' := T153) (g' := (mkF m 54 #[.val (.int xc), .val (.int xk), .val (.int v13), .val (.ref s_INT), .val (.int (1 : Int32)), .val (.int (1 : Int32)), .unset] [(.int (own_f5 (3 : Int32)))])) (fun t_ k_ => st153.trans k_) ?_
        obtain ⟨v154, hv154⟩ : ∃ z : Int32, z = (own_f5 (3 : Int32)) := ⟨_, rfl⟩
        rw [← hv154]
        have cd54_156 : (.ref s_INT) = own_code s_STRING s_LONG s_INT s_BYTE_ARRAY s_CUSTOM v154 := by rw [hv154]; simp [own_code, own_f5]
        obtain ⟨_, _, ⟨T155, L155, k155, n155⟩, -, X155, ⟨Lc155, hQ155, l155, y155, z155⟩, st155⟩ := Jvm.LawKit.callS X153 hx (y := (⟨"com/example/danaid/danaid/io/ElementType", "forCode", "(I)Lcom/example/danaid/danaid/io/ElementType;"⟩ : MethodName)) hown (mvT hZ (hw _ (List.mem_of_getElem? (i := 8) rfl))) (mvT hZ (hw _ (List.mem_of_getElem? (i := 9) rfl))) (mvT hZ (hw _ (List.mem_of_getElem? (i := 6) rfl))) (mvT hZ (hw _ (List.mem_of_getElem? (i := 10) rfl))) (by decide) (backOf (W := 0) (rm2 l Z a0 hw [] v154 s__VALUES kV s_STRING s_LONG s_INT s_BYTE_ARRAY s_CUSTOM (.ref s_INT) T137.heap n0 sz137 E145 V146 F147 F148 F149 F150 F151 O139 cd54_156 S__VALUES) hZ (hw _ (List.mem_of_getElem? (i := 10) rfl)) (hw _ (List.mem_of_getElem? (i := 6) rfl)) (by decide) (by decide)) (g := (mkF m 54 #[.val (.int xc), .val (.int xk), .val (.int v13), .val (.ref s_INT), .val (.int (1 : Int32)), .val (.int (1 : Int32)), .unset] [(.int v154)])) rfl (by rw [hml]; rfl) (argsL := [(.int v154)]) (rest := []) (lenOf pd_0_0 rfl) rfl (by show 2 * 0 + _ ≤ _; exact Nat.le_of_eq rfl) (hb hby at_54) (fun _ _ => ⟨rfl, hh153, (by decide : 2 + 1 ≤ _), (by decide : 10 + 5 ≤ _)⟩)
        dsimp only [Pt.U, Pt.locs, Pt.cells, Pt.slots] at X155 l155 y155 z155 st155 hQ155
        subst l155 y155 z155
        obtain ⟨rfl, Nq155, Kq155⟩ := hQ155
        have N155 := Fr.app N153 Nq155
        have O157 : Old Z n0 T155.heap := O139.keep Kq155 all0
        have E158 : Exa Z T155.heap s_STRING "com/example/danaid/danaid/io/ElementType" := E140.keep Kq155
        have E159 : Exa Z T155.heap s_LONG "com/example/danaid/danaid/io/ElementType" := E141.keep Kq155
        have E160 : Exa Z T155.heap s_INT "com/example/danaid/danaid/io/ElementType" := E142.keep Kq155
        have E161 : Exa Z T155.heap s_BYTE_ARRAY "com/example/danaid/danaid/io/ElementType" := E143.keep Kq155
        have E162 : Exa Z T155.heap s_CUSTOM "com/example/danaid/danaid/io/ElementType" := E144.keep Kq155
        have E163 : Exa Z T155.heap s__VALUES "[Lcom/example/danaid/danaid/io/ElementType;" := E145.keep Kq155
        have V164 : Arv Z T155.heap s__VALUES kV (.object "com/example/danaid/danaid/io/ElementType") (5 : Int32) [(.ref s_STRING), (.ref s_LONG), (.ref s_INT), (.ref s_BYTE_ARRAY), (.ref s_CUSTOM)] .null := V146.keep Kq155 nin0
        have F165 : Fld Z T155.heap s_STRING "com/example/danaid/danaid/io/ElementType" "code" "I" (.int (1 : Int32)) := F147.keep Kq155 nin0
        have F166 : Fld Z T155.heap s_LONG "com/example/danaid/danaid/io/ElementType" "code" "I" (.int (2 : Int32)) := F148.keep Kq155 nin0
        have F167 : Fld Z T155.heap s_INT "com/example/danaid/danaid/io/ElementType" "code" "I" (.int (3 : Int32)) := F149.keep Kq155 nin0
        have F168 : Fld Z T155.heap s_BYTE_ARRAY "com/example/danaid/danaid/io/ElementType" "code" "I" (.int (4 : Int32)) := F150.keep Kq155 nin0
        have F169 : Fld Z T155.heap s_CUSTOM "com/example/danaid/danaid/io/ElementType" "code" "I" (.int (5 : Int32)) := F151.keep Kq155 nin0
        have sz155 : n0 ≤ T155.heap.size := Nat.le_trans sz137 Kq155.1
        have K155 : Keep h0 T155.heap [] := (K137).trans Kq155 all0
        refine own_Goes.via (T' := T155) (g' := (mkF m 57 #[.val (.int xc), .val (.int xk), .val (.int v13), .val (.ref s_INT), .val (.int (1 : Int32)), .val (.int (1 : Int32)), .unset] [(.ref s_INT)])) (st155) ?_
        refine own_Goes.via (T' := T155) (g' := (mkF m 58 #[.val (.int xc), .val (.int xk), .val (.int v13), .val (.ref s_INT), .val (.int (1 : Int32)), .val (.int (1 : Int32)), .unset] [(.ref s_INT), (.ref s_INT)])) (fun t_ k_ => XS.aloadN X155.here hx rfl (hb hby at_57) rfl rfl k_) ?_
        refine own_Goes.via (T' := T155) (g' := (mkF m 61 #[.val (.int xc), .val (.int xk), .val (.int v13), .val (.ref s_INT), .val (.int (1 : Int32)), .val (.int (1 : Int32)), .unset] [])) (fun t_ k_ => Jvm.RoadKit.acmp (g := (mkF m 58 #[.val (.int xc), .val (.int xk), .val (.int v13), .val (.ref s_INT), .val (.int (1 : Int32)), .val (.int (1 : Int32)), .unset] [(.ref s_INT), (.ref s_INT)])) X155 hx rfl rfl rfl (pc0 := 58) (pc' := 61) (same := true) rfl (hb hby at_58) rfl (decide_eq_true rfl) (by decide) (by decide) k_) ?_
        refine own_Goes.via (T' := T155) (g' := (mkF m 62 #[.val (.int xc), .val (.int xk), .val (.int v13), .val (.ref s_INT), .val (.int (1 : Int32)), .val (.int (1 : Int32)), .unset] [(.int (1 : Int32))])) (fun t_ k_ => XS.iconst X155.here hx rfl (hb hby at_61) k_) ?_
        refine own_Goes.via (T' := T155) (g' := (mkF m 66 #[.val (.int xc), .val (.int xk), .val (.int v13), .val (.ref s_INT), .val (.int (1 : Int32)), .val (.int (1 : Int32)), .unset] [(.int (1 : Int32))])) (fun t_ k_ => XS.goto X155.here hx rfl (pc0 := 62) (pc' := 66) rfl (hb hby at_62) (by decide) (by decide) k_) ?_
        refine own_Goes.via (T' := T155) (g' := (mkF m 68 #[.val (.int xc), .val (.int xk), .val (.int v13), .val (.ref s_INT), .val (.int (1 : Int32)), .val (.int (1 : Int32)), .val (.int (1 : Int32))] [])) (fun t_ k_ => XS.istore X155.here hx rfl (hb hby at_66) rfl (l' := #[.val (.int xc), .val (.int xk), .val (.int v13), .val (.ref s_INT), .val (.int (1 : Int32)), .val (.int (1 : Int32)), .val (.int (1 : Int32))]) rfl k_) ?_
        refine own_Goes.via (T' := T155) (g' := (mkF m 70 #[.val (.int xc), .val (.int xk), .val (.int v13), .val (.ref s_INT), .val (.int (1 : Int32)), .val (.int (1 : Int32)), .val (.int (1 : Int32))] [(.int (1 : Int32))])) (fun t_ k_ => XS.iload X155.here hx rfl (hb hby at_68) rfl k_) ?_
        refine own_Goes.via (T' := T155) (g' := (mkF m 73 #[.val (.int xc), .val (.int xk), .val (.int v13), .val (.ref s_INT), .val (.int (1 : Int32)), .val (.int (1 : Int32)), .val (.int (1 : Int32))] [])) (fun t_ k_ => XS.ifNo X155.here hx rfl (hb hby at_70) rfl ((if0 _ _).trans (feq (by decide : ¬ ((1 : Int32) = (0 : Int32)))).1) k_) ?_
        refine own_Goes.via (T' := T155) (g' := (mkF m 75 #[.val (.int xc), .val (.int xk), .val (.int v13), .val (.ref s_INT), .val (.int (1 : Int32)), .val (.int (1 : Int32)), .val (.int (1 : Int32))] [(.int (1 : Int32))])) (fun t_ k_ => XS.iload X155.here hx rfl (hb hby at_73) rfl k_) ?_
        refine own_Goes.via (T' := T155) (g' := (mkF m 78 #[.val (.int xc), .val (.int xk), .val (.int v13), .val (.ref s_INT), .val (.int (1 : Int32)), .val (.int (1 : Int32)), .val (.int (1 : Int32))] [])) (fun t_ k_ => XS.ifNo X155.here hx rfl (hb hby at_75) rfl ((if0 _ _).trans (feq (by decide : ¬ ((1 : Int32) = (0 : Int32)))).1) k_) ?_
        refine own_Goes.via (T' := T155) (g' := (mkF m 80 #[.val (.int xc), .val (.int xk), .val (.int v13), .val (.ref s_INT), .val (.int (1 : Int32)), .val (.int (1 : Int32)), .val (.int (1 : Int32))] [(.int (1 : Int32))])) (fun t_ k_ => XS.iload X155.here hx rfl (hb hby at_78) rfl k_) ?_
        refine own_Goes.via (T' := T155) (g' := (mkF m 83 #[.val (.int xc), .val (.int xk), .val (.int v13), .val (.ref s_INT), .val (.int (1 : Int32)), .val (.int (1 : Int32)), .val (.int (1 : Int32))] [])) (fun t_ k_ => XS.ifNo X155.here hx rfl (hb hby at_80) rfl ((if0 _ _).trans (feq (by decide : ¬ ((1 : Int32) = (0 : Int32)))).1) k_) ?_
        refine own_Goes.via (T' := T155) (g' := (mkF m 84 #[.val (.int xc), .val (.int xk), .val (.int v13), .val (.ref s_INT), .val (.int (1 : Int32)), .val (.int (1 : Int32)), .val (.int (1 : Int32))] [(.int (1 : Int32))])) (fun t_ k_ => XS.iconst X155.here hx rfl (hb hby at_83) k_) ?_
        refine own_Goes.via (T' := T155) (g' := (mkF m 88 #[.val (.int xc), .val (.int xk), .val (.int v13), .val (.ref s_INT), .val (.int (1 : Int32)), .val (.int (1 : Int32)), .val (.int (1 : Int32))] [(.int (1 : Int32))])) (fun t_ k_ => XS.goto X155.here hx rfl (pc0 := 84) (pc' := 88) rfl (hb hby at_84) (by decide) (by decide) k_) ?_
        obtain ⟨fs, hr, hrun, hended, hW, hsame⟩ := X155.leave (v := some (.int 1)) (fun h => by rw [Bd.returns] at h; cases h)
        refine own_Goes.fin (retN X155 hx (t := .boolean) Bd.returns (by simp) (hb hby at_88) hr) hrun hended ?_
        subst hPd
        refine ⟨_, _, rfl, ?_, ⟨_, rfl⟩, hW, hsame.mono (by decide) (by decide)⟩
        show Q0 Z xc xk s__VALUES kV s_STRING s_LONG s_INT s_BYTE_ARRAY s_CUSTOM h0 n0 _ T155.heap _
        exact ⟨rfl, N155⟩
      · by_cases hk10_170 : ((((xk.toUInt32 >>> ((4 : Int32) &&& 31).toUInt32).toInt32) &&& (2147483647 : Int32)) % (5 : Int32)) = (3 : Int32)
        · have cd10_172 : s_BYTE_ARRAY = own_pick s_STRING s_LONG s_INT s_BYTE_ARRAY s_CUSTOM ((((xk.toUInt32 >>> ((4 : Int32) &&& 31).toUInt32).toInt32) &&& (2147483647 : Int32)) % (5 : Int32)) := by simp only [own_pick, if_neg hk10_14, if_neg hk10_66, if_neg hk10_118, if_pos hk10_170]
          obtain ⟨_, _, ⟨T171, L171, k171, n171⟩, -, X171, ⟨Lc171, hQ171, l171, y171, z171⟩, st171⟩ := Jvm.LawKit.callS X0 hx (y := (⟨"com/example/danaid/danaid/io/ElementTypeForCodePinLaw", "pick", "(I)Lcom/example/danaid/danaid/io/ElementType;"⟩ : MethodName)) hown (mvT hZ (hw _ (List.mem_of_getElem? (i := 0) rfl))) (mvT hZ (hw _ (List.mem_of_getElem? (i := 1) rfl))) (mvT hZ (hw _ (List.mem_of_getElem? (i := 2) rfl))) (mvT hZ (hw _ (List.mem_of_getElem? (i := 3) rfl))) (by decide) (backOf (W := 0) (rm1 l Z a0 hw [] ((xk.toUInt32 >>> ((4 : Int32) &&& 31).toUInt32).toInt32) s_STRING s_LONG s_INT s_BYTE_ARRAY s_CUSTOM s_BYTE_ARRAY h0 n0 Z0 OL cd10_172 S_STRING S_LONG S_INT S_BYTE_ARRAY S_CUSTOM) hZ (hw _ (List.mem_of_getElem? (i := 3) rfl)) (hw _ (List.mem_of_getElem? (i := 2) rfl)) (by decide) (by decide)) (g := (mkF m 10 #[.val (.int xc), .val (.int xk), .val (.int v13), .unset, .unset, .unset, .unset] [(.int ((xk.toUInt32 >>> ((4 : Int32) &&& 31).toUInt32).toInt32))])) rfl (by rw [hml]; rfl) (argsL := [(.int ((xk.toUInt32 >>> ((4 : Int32) &&& 31).toUInt32).toInt32))]) (rest := []) (lenOf pd_0_0 rfl) rfl (by show 2 * 0 + _ ≤ _; exact Nat.le_of_eq rfl) (hb hby at_10) (fun _ _ => ⟨rfl, e0, (by decide : 0 + 0 ≤ _), (by decide : 0 + 0 ≤ _)⟩)
          dsimp only [Pt.U, Pt.locs, Pt.cells, Pt.slots] at X171 l171 y171 z171 st171 hQ171
          subst l171 y171 z171
          obtain ⟨rfl, Nq171, hh171⟩ := hQ171
          have N171 := Fr.app N0 Nq171
          refine own_Goes.via (T' := T171) (g' := (mkF m 13 #[.val (.int xc), .val (.int xk), .val (.int v13), .unset, .unset, .unset, .unset] [(.ref s_BYTE_ARRAY)])) (st171) ?_
          refine own_Goes.via (T' := T171) (g' := (mkF m 14 #[.val (.int xc), .val (.int xk), .val (.int v13), .val (.ref s_BYTE_ARRAY), .unset, .unset, .unset] [])) (fun t_ k_ => XS.astoreN X171.here hx rfl (hb hby at_13) rfl rfl (l' := #[.val (.int xc), .val (.int xk), .val (.int v13), .val (.ref s_BYTE_ARRAY), .unset, .unset, .unset]) rfl k_) ?_
          refine own_Goes.via (T' := T171) (g' := (mkF m 15 #[.val (.int xc), .val (.int xk), .val (.int v13), .val (.ref s_BYTE_ARRAY), .unset, .unset, .unset] [(.int xc)])) (fun t_ k_ => XS.iloadN X171.here hx rfl (hb hby at_14) rfl k_) ?_
          have cd15_174 : (own_code s_STRING s_LONG s_INT s_BYTE_ARRAY s_CUSTOM xc) = own_code s_STRING s_LONG s_INT s_BYTE_ARRAY s_CUSTOM xc := rfl
          obtain ⟨_, _, ⟨T173, L173, k173, n173⟩, -, X173, ⟨Lc173, hQ173, l173, y173, z173⟩, st173⟩ := Jvm.LawKit.callS X171 hx (y := (⟨"com/example/danaid/danaid/io/ElementType", "forCode", "(I)Lcom/example/danaid/danaid/io/ElementType;"⟩ : MethodName)) hown (mvT hZ (hw _ (List.mem_of_getElem? (i := 8) rfl))) (mvT hZ (hw _ (List.mem_of_getElem? (i := 9) rfl))) (mvT hZ (hw _ (List.mem_of_getElem? (i := 6) rfl))) (mvT hZ (hw _ (List.mem_of_getElem? (i := 10) rfl))) (by decide) (backOf (W := 0) (rm2 l Z a0 hw [] xc s__VALUES kV s_STRING s_LONG s_INT s_BYTE_ARRAY s_CUSTOM (own_code s_STRING s_LONG s_INT s_BYTE_ARRAY s_CUSTOM xc) h0 n0 Z0 E6 V7 F8 F9 F10 F11 F12 OL cd15_174 S__VALUES) hZ (hw _ (List.mem_of_getElem? (i := 10) rfl)) (hw _ (List.mem_of_getElem? (i := 6) rfl)) (by decide) (by decide)) (g := (mkF m 15 #[.val (.int xc), .val (.int xk), .val (.int v13), .val (.ref s_BYTE_ARRAY), .unset, .unset, .unset] [(.int xc)])) rfl (by rw [hml]; rfl) (argsL := [(.int xc)]) (rest := []) (lenOf pd_0_0 rfl) rfl (by show 2 * 0 + _ ≤ _; exact Nat.le_of_eq rfl) (hb hby at_15) (fun _ _ => ⟨rfl, hh171, (by decide : 0 + 1 ≤ _), (by decide : 0 + 5 ≤ _)⟩)
          dsimp only [Pt.U, Pt.locs, Pt.cells, Pt.slots] at X173 l173 y173 z173 st173 hQ173
          subst l173 y173 z173
          obtain ⟨rfl, Nq173, Kq173⟩ := hQ173
          have N173 := Fr.app N171 Nq173
          have O175 : Old Z n0 T173.heap := OL.keep Kq173 all0
          have E176 : Exa Z T173.heap s_STRING "com/example/danaid/danaid/io/ElementType" := E1.keep Kq173
          have E177 : Exa Z T173.heap s_LONG "com/example/danaid/danaid/io/ElementType" := E2.keep Kq173
          have E178 : Exa Z T173.heap s_INT "com/example/danaid/danaid/io/ElementType" := E3.keep Kq173
          have E179 : Exa Z T173.heap s_BYTE_ARRAY "com/example/danaid/danaid/io/ElementType" := E4.keep Kq173
          have E180 : Exa Z T173.heap s_CUSTOM "com/example/danaid/danaid/io/ElementType" := E5.keep Kq173
          have E181 : Exa Z T173.heap s__VALUES "[Lcom/example/danaid/danaid/io/ElementType;" := E6.keep Kq173
          have V182 : Arv Z T173.heap s__VALUES kV (.object "com/example/danaid/danaid/io/ElementType") (5 : Int32) [(.ref s_STRING), (.ref s_LONG), (.ref s_INT), (.ref s_BYTE_ARRAY), (.ref s_CUSTOM)] .null := V7.keep Kq173 nin0
          have F183 : Fld Z T173.heap s_STRING "com/example/danaid/danaid/io/ElementType" "code" "I" (.int (1 : Int32)) := F8.keep Kq173 nin0
          have F184 : Fld Z T173.heap s_LONG "com/example/danaid/danaid/io/ElementType" "code" "I" (.int (2 : Int32)) := F9.keep Kq173 nin0
          have F185 : Fld Z T173.heap s_INT "com/example/danaid/danaid/io/ElementType" "code" "I" (.int (3 : Int32)) := F10.keep Kq173 nin0
          have F186 : Fld Z T173.heap s_BYTE_ARRAY "com/example/danaid/danaid/io/ElementType" "code" "I" (.int (4 : Int32)) := F11.keep Kq173 nin0
          have F187 : Fld Z T173.heap s_CUSTOM "com/example/danaid/danaid/io/ElementType" "code" "I" (.int (5 : Int32)) := F12.keep Kq173 nin0
          have sz173 : n0 ≤ T173.heap.size := Nat.le_trans Z0 Kq173.1
          have K173 : Keep h0 T173.heap [] := ((Keep.refl h0 [])).trans Kq173 all0
          refine own_Goes.via (T' := T173) (g' := (mkF m 18 #[.val (.int xc), .val (.int xk), .val (.int v13), .val (.ref s_BYTE_ARRAY), .unset, .unset, .unset] [(own_code s_STRING s_LONG s_INT s_BYTE_ARRAY s_CUSTOM xc)])) (st173) ?_
          refine own_Goes.via (T' := T173) (g' := (mkF m 19 #[.val (.int xc), .val (.int xk), .val (.int v13), .val (.ref s_BYTE_ARRAY), .unset, .unset, .unset] [(.int xc), (own_code s_STRING s_LONG s_INT s_BYTE_ARRAY s_CUSTOM xc)])) (fun t_ k_ => XS.iloadN X173.here hx rfl (hb hby at_18) rfl k_) ?_
          obtain ⟨_, _, ⟨T188, L188, k188, n188⟩, -, X188, ⟨Lc188, hQ188, l188, y188, z188⟩, st188⟩ := Jvm.LawKit.callS X173 hx (y := (⟨"com/example/danaid/danaid/io/ElementTypeForCodePinLaw", "expected", "(I)Lcom/example/danaid/danaid/io/ElementType;"⟩ : MethodName)) hown (mvT hZ (hw _ (List.mem_of_getElem? (i := 32) rfl))) (mvT hZ (hw _ (List.mem_of_getElem? (i := 33) rfl))) (mvT hZ (hw _ (List.mem_of_getElem? (i := 2) rfl))) (mvT hZ (hw _ (List.mem_of_getElem? (i := 34) rfl))) (by decide) (backOf (W := 1) (rm4 l Z a0 hw [] xc s_STRING s_LONG s_INT s_BYTE_ARRAY s_CUSTOM T173.heap n0 sz173 O175 S_STRING S_LONG S_INT S_BYTE_ARRAY S_CUSTOM) hZ (hw _ (List.mem_of_getElem? (i := 34) rfl)) (hw _ (List.mem_of_getElem? (i := 2) rfl)) (by decide) (by decide)) (g := (mkF m 19 #[.val (.int xc), .val (.int xk), .val (.int v13), .val (.ref s_BYTE_ARRAY), .unset, .unset, .unset] [(.int xc), (own_code s_STRING s_LONG s_INT s_BYTE_ARRAY s_CUSTOM xc)])) rfl (by rw [hml]; rfl) (argsL := [(.int xc)]) (rest := [(own_code s_STRING s_LONG s_INT s_BYTE_ARRAY s_CUSTOM xc)]) (lenOf pd_0_0 rfl) rfl (by show 2 * 0 + _ ≤ _; simp [own_code_cat]) (hb hby at_19) (fun _ _ => ⟨rfl, rfl, (by decide : 1 + 0 ≤ _), (by decide : 5 + 0 ≤ _)⟩)
          dsimp only [Pt.U, Pt.locs, Pt.cells, Pt.slots] at X188 l188 y188 z188 st188 hQ188
          subst l188 y188 z188
          obtain ⟨rfl, Nq188, hh188⟩ := hQ188
          have N188 := Fr.app N173 Nq188
          refine own_Goes.via (T' := T188) (g' := (mkF m 22 #[.val (.int xc), .val (.int xk), .val (.int v13), .val (.ref s_BYTE_ARRAY), .unset, .unset, .unset] [(own_code s_STRING s_LONG s_INT s_BYTE_ARRAY s_CUSTOM xc), (own_code s_STRING s_LONG s_INT s_BYTE_ARRAY s_CUSTOM xc)])) (st188) ?_
          refine own_Goes.via (T' := T188) (g' := (mkF m 25 #[.val (.int xc), .val (.int xk), .val (.int v13), .val (.ref s_BYTE_ARRAY), .unset, .unset, .unset] [])) (fun t_ k_ => Jvm.RoadKit.acmp (g := (mkF m 22 #[.val (.int xc), .val (.int xk), .val (.int v13), .val (.ref s_BYTE_ARRAY), .unset, .unset, .unset] [(own_code s_STRING s_LONG s_INT s_BYTE_ARRAY s_CUSTOM xc), (own_code s_STRING s_LONG s_INT s_BYTE_ARRAY s_CUSTOM xc)])) X188 hx rfl (own_code_ref _ _ _ _ _ _) (own_code_ref _ _ _ _ _ _) (pc0 := 22) (pc' := 25) (same := true) rfl (hb hby at_22) rfl (decide_eq_true rfl) (by decide) (by decide) k_) ?_
          refine own_Goes.via (T' := T188) (g' := (mkF m 26 #[.val (.int xc), .val (.int xk), .val (.int v13), .val (.ref s_BYTE_ARRAY), .unset, .unset, .unset] [(.int (1 : Int32))])) (fun t_ k_ => XS.iconst X188.here hx rfl (hb hby at_25) k_) ?_
          refine own_Goes.via (T' := T188) (g' := (mkF m 30 #[.val (.int xc), .val (.int xk), .val (.int v13), .val (.ref s_BYTE_ARRAY), .unset, .unset, .unset] [(.int (1 : Int32))])) (fun t_ k_ => XS.goto X188.here hx rfl (pc0 := 26) (pc' := 30) rfl (hb hby at_26) (by decide) (by decide) k_) ?_
          refine own_Goes.via (T' := T188) (g' := (mkF m 32 #[.val (.int xc), .val (.int xk), .val (.int v13), .val (.ref s_BYTE_ARRAY), .val (.int (1 : Int32)), .unset, .unset] [])) (fun t_ k_ => XS.istore X188.here hx rfl (hb hby at_30) rfl (l' := #[.val (.int xc), .val (.int xk), .val (.int v13), .val (.ref s_BYTE_ARRAY), .val (.int (1 : Int32)), .unset, .unset]) rfl k_) ?_
          refine own_Goes.via (T' := T188) (g' := (mkF m 33 #[.val (.int xc), .val (.int xk), .val (.int v13), .val (.ref s_BYTE_ARRAY), .val (.int (1 : Int32)), .unset, .unset] [(.int v13)])) (fun t_ k_ => XS.iloadN X188.here hx rfl (hb hby at_32) rfl k_) ?_
          have cd33_190 : (own_code s_STRING s_LONG s_INT s_BYTE_ARRAY s_CUSTOM v13) = own_code s_STRING s_LONG s_INT s_BYTE_ARRAY s_CUSTOM v13 := rfl
          obtain ⟨_, _, ⟨T189, L189, k189, n189⟩, -, X189, ⟨Lc189, hQ189, l189, y189, z189⟩, st189⟩ := Jvm.LawKit.callS X188 hx (y := (⟨"com/example/danaid/danaid/io/ElementType", "forCode", "(I)Lcom/example/danaid/danaid/io/ElementType;"⟩ : MethodName)) hown (mvT hZ (hw _ (List.mem_of_getElem? (i := 8) rfl))) (mvT hZ (hw _ (List.mem_of_getElem? (i := 9) rfl))) (mvT hZ (hw _ (List.mem_of_getElem? (i := 6) rfl))) (mvT hZ (hw _ (List.mem_of_getElem? (i := 10) rfl))) (by decide) (backOf (W := 0) (rm2 l Z a0 hw [] v13 s__VALUES kV s_STRING s_LONG s_INT s_BYTE_ARRAY s_CUSTOM (own_code s_STRING s_LONG s_INT s_BYTE_ARRAY s_CUSTOM v13) T173.heap n0 sz173 E181 V182 F183 F184 F185 F186 F187 O175 cd33_190 S__VALUES) hZ (hw _ (List.mem_of_getElem? (i := 10) rfl)) (hw _ (List.mem_of_getElem? (i := 6) rfl)) (by decide) (by decide)) (g := (mkF m 33 #[.val (.int xc), .val (.int xk), .val (.int v13), .val (.ref s_BYTE_ARRAY), .val (.int (1 : Int32)), .unset, .unset] [(.int v13)])) rfl (by rw [hml]; rfl) (argsL := [(.int v13)]) (rest := []) (lenOf pd_0_0 rfl) rfl (by show 2 * 0 + _ ≤ _; exact Nat.le_of_eq rfl) (hb hby at_33) (fun _ _ => ⟨rfl, hh188, (by decide : 1 + 1 ≤ _), (by decide : 5 + 5 ≤ _)⟩)
          dsimp only [Pt.U, Pt.locs, Pt.cells, Pt.slots] at X189 l189 y189 z189 st189 hQ189
          subst l189 y189 z189
          obtain ⟨rfl, Nq189, Kq189⟩ := hQ189
          have N189 := Fr.app N188 Nq189
          have O191 : Old Z n0 T189.heap := O175.keep Kq189 all0
          have E192 : Exa Z T189.heap s_STRING "com/example/danaid/danaid/io/ElementType" := E176.keep Kq189
          have E193 : Exa Z T189.heap s_LONG "com/example/danaid/danaid/io/ElementType" := E177.keep Kq189
          have E194 : Exa Z T189.heap s_INT "com/example/danaid/danaid/io/ElementType" := E178.keep Kq189
          have E195 : Exa Z T189.heap s_BYTE_ARRAY "com/example/danaid/danaid/io/ElementType" := E179.keep Kq189
          have E196 : Exa Z T189.heap s_CUSTOM "com/example/danaid/danaid/io/ElementType" := E180.keep Kq189
          have E197 : Exa Z T189.heap s__VALUES "[Lcom/example/danaid/danaid/io/ElementType;" := E181.keep Kq189
          have V198 : Arv Z T189.heap s__VALUES kV (.object "com/example/danaid/danaid/io/ElementType") (5 : Int32) [(.ref s_STRING), (.ref s_LONG), (.ref s_INT), (.ref s_BYTE_ARRAY), (.ref s_CUSTOM)] .null := V182.keep Kq189 nin0
          have F199 : Fld Z T189.heap s_STRING "com/example/danaid/danaid/io/ElementType" "code" "I" (.int (1 : Int32)) := F183.keep Kq189 nin0
          have F200 : Fld Z T189.heap s_LONG "com/example/danaid/danaid/io/ElementType" "code" "I" (.int (2 : Int32)) := F184.keep Kq189 nin0
          have F201 : Fld Z T189.heap s_INT "com/example/danaid/danaid/io/ElementType" "code" "I" (.int (3 : Int32)) := F185.keep Kq189 nin0
          have F202 : Fld Z T189.heap s_BYTE_ARRAY "com/example/danaid/danaid/io/ElementType" "code" "I" (.int (4 : Int32)) := F186.keep Kq189 nin0
          have F203 : Fld Z T189.heap s_CUSTOM "com/example/danaid/danaid/io/ElementType" "code" "I" (.int (5 : Int32)) := F187.keep Kq189 nin0
          have sz189 : n0 ≤ T189.heap.size := Nat.le_trans sz173 Kq189.1
          have K189 : Keep h0 T189.heap [] := (K173).trans Kq189 all0
          refine own_Goes.via (T' := T189) (g' := (mkF m 36 #[.val (.int xc), .val (.int xk), .val (.int v13), .val (.ref s_BYTE_ARRAY), .val (.int (1 : Int32)), .unset, .unset] [(own_code s_STRING s_LONG s_INT s_BYTE_ARRAY s_CUSTOM v13)])) (st189) ?_
          refine own_Goes.via (T' := T189) (g' := (mkF m 37 #[.val (.int xc), .val (.int xk), .val (.int v13), .val (.ref s_BYTE_ARRAY), .val (.int (1 : Int32)), .unset, .unset] [(.int v13), (own_code s_STRING s_LONG s_INT s_BYTE_ARRAY s_CUSTOM v13)])) (fun t_ k_ => XS.iloadN X189.here hx rfl (hb hby at_36) rfl k_) ?_
          obtain ⟨_, _, ⟨T204, L204, k204, n204⟩, -, X204, ⟨Lc204, hQ204, l204, y204, z204⟩, st204⟩ := Jvm.LawKit.callS X189 hx (y := (⟨"com/example/danaid/danaid/io/ElementTypeForCodePinLaw", "expected", "(I)Lcom/example/danaid/danaid/io/ElementType;"⟩ : MethodName)) hown (mvT hZ (hw _ (List.mem_of_getElem? (i := 32) rfl))) (mvT hZ (hw _ (List.mem_of_getElem? (i := 33) rfl))) (mvT hZ (hw _ (List.mem_of_getElem? (i := 2) rfl))) (mvT hZ (hw _ (List.mem_of_getElem? (i := 34) rfl))) (by decide) (backOf (W := 1) (rm4 l Z a0 hw [] v13 s_STRING s_LONG s_INT s_BYTE_ARRAY s_CUSTOM T189.heap n0 sz189 O191 S_STRING S_LONG S_INT S_BYTE_ARRAY S_CUSTOM) hZ (hw _ (List.mem_of_getElem? (i := 34) rfl)) (hw _ (List.mem_of_getElem? (i := 2) rfl)) (by decide) (by decide)) (g := (mkF m 37 #[.val (.int xc), .val (.int xk), .val (.int v13), .val (.ref s_BYTE_ARRAY), .val (.int (1 : Int32)), .unset, .unset] [(.int v13), (own_code s_STRING s_LONG s_INT s_BYTE_ARRAY s_CUSTOM v13)])) rfl (by rw [hml]; rfl) (argsL := [(.int v13)]) (rest := [(own_code s_STRING s_LONG s_INT s_BYTE_ARRAY s_CUSTOM v13)]) (lenOf pd_0_0 rfl) rfl (by show 2 * 0 + _ ≤ _; simp [own_code_cat]) (hb hby at_37) (fun _ _ => ⟨rfl, rfl, (by decide : 2 + 0 ≤ _), (by decide : 10 + 0 ≤ _)⟩)
          dsimp only [Pt.U, Pt.locs, Pt.cells, Pt.slots] at X204 l204 y204 z204 st204 hQ204
          subst l204 y204 z204
          obtain ⟨rfl, Nq204, hh204⟩ := hQ204
          have N204 := Fr.app N189 Nq204
          refine own_Goes.via (T' := T204) (g' := (mkF m 40 #[.val (.int xc), .val (.int xk), .val (.int v13), .val (.ref s_BYTE_ARRAY), .val (.int (1 : Int32)), .unset, .unset] [(own_code s_STRING s_LONG s_INT s_BYTE_ARRAY s_CUSTOM v13), (own_code s_STRING s_LONG s_INT s_BYTE_ARRAY s_CUSTOM v13)])) (st204) ?_
          refine own_Goes.via (T' := T204) (g' := (mkF m 43 #[.val (.int xc), .val (.int xk), .val (.int v13), .val (.ref s_BYTE_ARRAY), .val (.int (1 : Int32)), .unset, .unset] [])) (fun t_ k_ => Jvm.RoadKit.acmp (g := (mkF m 40 #[.val (.int xc), .val (.int xk), .val (.int v13), .val (.ref s_BYTE_ARRAY), .val (.int (1 : Int32)), .unset, .unset] [(own_code s_STRING s_LONG s_INT s_BYTE_ARRAY s_CUSTOM v13), (own_code s_STRING s_LONG s_INT s_BYTE_ARRAY s_CUSTOM v13)])) X204 hx rfl (own_code_ref _ _ _ _ _ _) (own_code_ref _ _ _ _ _ _) (pc0 := 40) (pc' := 43) (same := true) rfl (hb hby at_40) rfl (decide_eq_true rfl) (by decide) (by decide) k_) ?_
          refine own_Goes.via (T' := T204) (g' := (mkF m 44 #[.val (.int xc), .val (.int xk), .val (.int v13), .val (.ref s_BYTE_ARRAY), .val (.int (1 : Int32)), .unset, .unset] [(.int (1 : Int32))])) (fun t_ k_ => XS.iconst X204.here hx rfl (hb hby at_43) k_) ?_
          refine own_Goes.via (T' := T204) (g' := (mkF m 48 #[.val (.int xc), .val (.int xk), .val (.int v13), .val (.ref s_BYTE_ARRAY), .val (.int (1 : Int32)), .unset, .unset] [(.int (1 : Int32))])) (fun t_ k_ => XS.goto X204.here hx rfl (pc0 := 44) (pc' := 48) rfl (hb hby at_44) (by decide) (by decide) k_) ?_
          refine own_Goes.via (T' := T204) (g' := (mkF m 50 #[.val (.int xc), .val (.int xk), .val (.int v13), .val (.ref s_BYTE_ARRAY), .val (.int (1 : Int32)), .val (.int (1 : Int32)), .unset] [])) (fun t_ k_ => XS.istore X204.here hx rfl (hb hby at_48) rfl (l' := #[.val (.int xc), .val (.int xk), .val (.int v13), .val (.ref s_BYTE_ARRAY), .val (.int (1 : Int32)), .val (.int (1 : Int32)), .unset]) rfl k_) ?_
          refine own_Goes.via (T' := T204) (g' := (mkF m 51 #[.val (.int xc), .val (.int xk), .val (.int v13), .val (.ref s_BYTE_ARRAY), .val (.int (1 : Int32)), .val (.int (1 : Int32)), .unset] [(.ref s_BYTE_ARRAY)])) (fun t_ k_ => XS.aloadN X204.here hx rfl (hb hby at_50) rfl rfl k_) ?_
          obtain ⟨cq205, kq205, q205a, q205b, q205c⟩ := isOf hZ hh204 E195
          obtain ⟨_, _, ⟨T205, L205, k205, n205⟩, -, X205, ⟨Lc205, hQ205, l205, y205, z205⟩, st205⟩ := X204.virtualBack hx (y := (⟨"com/example/danaid/danaid/io/ElementType", "code", "()I"⟩ : MethodName)) (z := (⟨"com/example/danaid/danaid/io/ElementType", "code", "()I"⟩ : MethodName)) hown (mvT hZ (hw _ (List.mem_of_getElem? (i := 35) rfl))) (mvT hZ (hw _ (List.mem_of_getElem? (i := 36) rfl))) (notFace_of_selects (args := #[]) (mvT hZ (hw _ (List.mem_of_getElem? (i := 38) rfl)))) (mvT hZ (hw _ (List.mem_of_getElem? (i := 38) rfl))) (mvT hZ (hw _ (List.mem_of_getElem? (i := 37) rfl))) (by decide) (backOf (W := 0) (rm5 l Z a0 hw [] s_BYTE_ARRAY (4 : Int32) T189.heap n0 sz189 F202) hZ (hw _ (List.mem_of_getElem? (i := 39) rfl)) (hw _ (List.mem_of_getElem? (i := 6) rfl)) (by decide) (by decide)) q205a q205c (g := (mkF m 51 #[.val (.int xc), .val (.int xk), .val (.int v13), .val (.ref s_BYTE_ARRAY), .val (.int (1 : Int32)), .val (.int (1 : Int32)), .unset] [(.ref s_BYTE_ARRAY)])) rfl (by rw [hml]; rfl) (Steps.refl _) (argsL := []) (rest := []) (lenOf pd_0_1 rfl) rfl (by show 2 * 0 + _ ≤ _; exact Nat.le_of_eq rfl) (hb hby at_51) (fun _ _ => ⟨rfl, hh204, (by decide : 2 + 0 ≤ _), (by decide : 10 + 0 ≤ _)⟩)
          dsimp only [Pt.U, Pt.locs, Pt.cells, Pt.slots] at X205 l205 y205 z205 st205 hQ205
          subst l205 y205 z205
          obtain ⟨rfl, Nq205, hh205⟩ := hQ205
          have N205 := Fr.app N204 Nq205
          refine own_Goes.via (T' := T205) (g' := (mkF m 54 #[.val (.int xc), .val (.int xk), .val (.int v13), .val (.ref s_BYTE_ARRAY), .val (.int (1 : Int32)), .val (.int (1 : Int32)), .unset] [(.int (own_f5 (4 : Int32)))])) (fun t_ k_ => st205.trans k_) ?_
          obtain ⟨v206, hv206⟩ : ∃ z : Int32, z = (own_f5 (4 : Int32)) := ⟨_, rfl⟩
          rw [← hv206]
          have cd54_208 : (.ref s_BYTE_ARRAY) = own_code s_STRING s_LONG s_INT s_BYTE_ARRAY s_CUSTOM v206 := by rw [hv206]; simp [own_code, own_f5]
          obtain ⟨_, _, ⟨T207, L207, k207, n207⟩, -, X207, ⟨Lc207, hQ207, l207, y207, z207⟩, st207⟩ := Jvm.LawKit.callS X205 hx (y := (⟨"com/example/danaid/danaid/io/ElementType", "forCode", "(I)Lcom/example/danaid/danaid/io/ElementType;"⟩ : MethodName)) hown (mvT hZ (hw _ (List.mem_of_getElem? (i := 8) rfl))) (mvT hZ (hw _ (List.mem_of_getElem? (i := 9) rfl))) (mvT hZ (hw _ (List.mem_of_getElem? (i := 6) rfl))) (mvT hZ (hw _ (List.mem_of_getElem? (i := 10) rfl))) (by decide) (backOf (W := 0) (rm2 l Z a0 hw [] v206 s__VALUES kV s_STRING s_LONG s_INT s_BYTE_ARRAY s_CUSTOM (.ref s_BYTE_ARRAY) T189.heap n0 sz189 E197 V198 F199 F200 F201 F202 F203 O191 cd54_208 S__VALUES) hZ (hw _ (List.mem_of_getElem? (i := 10) rfl)) (hw _ (List.mem_of_getElem? (i := 6) rfl)) (by decide) (by decide)) (g := (mkF m 54 #[.val (.int xc), .val (.int xk), .val (.int v13), .val (.ref s_BYTE_ARRAY), .val (.int (1 : Int32)), .val (.int (1 : Int32)), .unset] [(.int v206)])) rfl (by rw [hml]; rfl) (argsL := [(.int v206)]) (rest := []) (lenOf pd_0_0 rfl) rfl (by show 2 * 0 + _ ≤ _; exact Nat.le_of_eq rfl) (hb hby at_54) (fun _ _ => ⟨rfl, hh205, (by decide : 2 + 1 ≤ _), (by decide : 10 + 5 ≤ _)⟩)
          dsimp only [Pt.U, Pt.locs, Pt.cells, Pt.slots] at X207 l207 y207 z207 st207 hQ207
          subst l207 y207 z207
          obtain ⟨rfl, Nq207, Kq207⟩ := hQ207
          have N207 := Fr.app N205 Nq207
          have O209 : Old Z n0 T207.heap := O191.keep Kq207 all0
          have E210 : Exa Z T207.heap s_STRING "com/example/danaid/danaid/io/ElementType" := E192.keep Kq207
          have E211 : Exa Z T207.heap s_LONG "com/example/danaid/danaid/io/ElementType" := E193.keep Kq207
          have E212 : Exa Z T207.heap s_INT "com/example/danaid/danaid/io/ElementType" := E194.keep Kq207
          have E213 : Exa Z T207.heap s_BYTE_ARRAY "com/example/danaid/danaid/io/ElementType" := E195.keep Kq207
          have E214 : Exa Z T207.heap s_CUSTOM "com/example/danaid/danaid/io/ElementType" := E196.keep Kq207
          have E215 : Exa Z T207.heap s__VALUES "[Lcom/example/danaid/danaid/io/ElementType;" := E197.keep Kq207
          have V216 : Arv Z T207.heap s__VALUES kV (.object "com/example/danaid/danaid/io/ElementType") (5 : Int32) [(.ref s_STRING), (.ref s_LONG), (.ref s_INT), (.ref s_BYTE_ARRAY), (.ref s_CUSTOM)] .null := V198.keep Kq207 nin0
          have F217 : Fld Z T207.heap s_STRING "com/example/danaid/danaid/io/ElementType" "code" "I" (.int (1 : Int32)) := F199.keep Kq207 nin0
          have F218 : Fld Z T207.heap s_LONG "com/example/danaid/danaid/io/ElementType" "code" "I" (.int (2 : Int32)) := F200.keep Kq207 nin0
          have F219 : Fld Z T207.heap s_INT "com/example/danaid/danaid/io/ElementType" "code" "I" (.int (3 : Int32)) := F201.keep Kq207 nin0
          have F220 : Fld Z T207.heap s_BYTE_ARRAY "com/example/danaid/danaid/io/ElementType" "code" "I" (.int (4 : Int32)) := F202.keep Kq207 nin0
          have F221 : Fld Z T207.heap s_CUSTOM "com/example/danaid/danaid/io/ElementType" "code" "I" (.int (5 : Int32)) := F203.keep Kq207 nin0
          have sz207 : n0 ≤ T207.heap.size := Nat.le_trans sz189 Kq207.1
          have K207 : Keep h0 T207.heap [] := (K189).trans Kq207 all0
          refine own_Goes.via (T' := T207) (g' := (mkF m 57 #[.val (.int xc), .val (.int xk), .val (.int v13), .val (.ref s_BYTE_ARRAY), .val (.int (1 : Int32)), .val (.int (1 : Int32)), .unset] [(.ref s_BYTE_ARRAY)])) (st207) ?_
          refine own_Goes.via (T' := T207) (g' := (mkF m 58 #[.val (.int xc), .val (.int xk), .val (.int v13), .val (.ref s_BYTE_ARRAY), .val (.int (1 : Int32)), .val (.int (1 : Int32)), .unset] [(.ref s_BYTE_ARRAY), (.ref s_BYTE_ARRAY)])) (fun t_ k_ => XS.aloadN X207.here hx rfl (hb hby at_57) rfl rfl k_) ?_
          refine own_Goes.via (T' := T207) (g' := (mkF m 61 #[.val (.int xc), .val (.int xk), .val (.int v13), .val (.ref s_BYTE_ARRAY), .val (.int (1 : Int32)), .val (.int (1 : Int32)), .unset] [])) (fun t_ k_ => Jvm.RoadKit.acmp (g := (mkF m 58 #[.val (.int xc), .val (.int xk), .val (.int v13), .val (.ref s_BYTE_ARRAY), .val (.int (1 : Int32)), .val (.int (1 : Int32)), .unset] [(.ref s_BYTE_ARRAY), (.ref s_BYTE_ARRAY)])) X207 hx rfl rfl rfl (pc0 := 58) (pc' := 61) (same := true) rfl (hb hby at_58) rfl (decide_eq_true rfl) (by decide) (by decide) k_) ?_
          refine own_Goes.via (T' := T207) (g' := (mkF m 62 #[.val (.int xc), .val (.int xk), .val (.int v13), .val (.ref s_BYTE_ARRAY), .val (.int (1 : Int32)), .val (.int (1 : Int32)), .unset] [(.int (1 : Int32))])) (fun t_ k_ => XS.iconst X207.here hx rfl (hb hby at_61) k_) ?_
          refine own_Goes.via (T' := T207) (g' := (mkF m 66 #[.val (.int xc), .val (.int xk), .val (.int v13), .val (.ref s_BYTE_ARRAY), .val (.int (1 : Int32)), .val (.int (1 : Int32)), .unset] [(.int (1 : Int32))])) (fun t_ k_ => XS.goto X207.here hx rfl (pc0 := 62) (pc' := 66) rfl (hb hby at_62) (by decide) (by decide) k_) ?_
          refine own_Goes.via (T' := T207) (g' := (mkF m 68 #[.val (.int xc), .val (.int xk), .val (.int v13), .val (.ref s_BYTE_ARRAY), .val (.int (1 : Int32)), .val (.int (1 : Int32)), .val (.int (1 : Int32))] [])) (fun t_ k_ => XS.istore X207.here hx rfl (hb hby at_66) rfl (l' := #[.val (.int xc), .val (.int xk), .val (.int v13), .val (.ref s_BYTE_ARRAY), .val (.int (1 : Int32)), .val (.int (1 : Int32)), .val (.int (1 : Int32))]) rfl k_) ?_
          refine own_Goes.via (T' := T207) (g' := (mkF m 70 #[.val (.int xc), .val (.int xk), .val (.int v13), .val (.ref s_BYTE_ARRAY), .val (.int (1 : Int32)), .val (.int (1 : Int32)), .val (.int (1 : Int32))] [(.int (1 : Int32))])) (fun t_ k_ => XS.iload X207.here hx rfl (hb hby at_68) rfl k_) ?_
          refine own_Goes.via (T' := T207) (g' := (mkF m 73 #[.val (.int xc), .val (.int xk), .val (.int v13), .val (.ref s_BYTE_ARRAY), .val (.int (1 : Int32)), .val (.int (1 : Int32)), .val (.int (1 : Int32))] [])) (fun t_ k_ => XS.ifNo X207.here hx rfl (hb hby at_70) rfl ((if0 _ _).trans (feq (by decide : ¬ ((1 : Int32) = (0 : Int32)))).1) k_) ?_
          refine own_Goes.via (T' := T207) (g' := (mkF m 75 #[.val (.int xc), .val (.int xk), .val (.int v13), .val (.ref s_BYTE_ARRAY), .val (.int (1 : Int32)), .val (.int (1 : Int32)), .val (.int (1 : Int32))] [(.int (1 : Int32))])) (fun t_ k_ => XS.iload X207.here hx rfl (hb hby at_73) rfl k_) ?_
          refine own_Goes.via (T' := T207) (g' := (mkF m 78 #[.val (.int xc), .val (.int xk), .val (.int v13), .val (.ref s_BYTE_ARRAY), .val (.int (1 : Int32)), .val (.int (1 : Int32)), .val (.int (1 : Int32))] [])) (fun t_ k_ => XS.ifNo X207.here hx rfl (hb hby at_75) rfl ((if0 _ _).trans (feq (by decide : ¬ ((1 : Int32) = (0 : Int32)))).1) k_) ?_
          refine own_Goes.via (T' := T207) (g' := (mkF m 80 #[.val (.int xc), .val (.int xk), .val (.int v13), .val (.ref s_BYTE_ARRAY), .val (.int (1 : Int32)), .val (.int (1 : Int32)), .val (.int (1 : Int32))] [(.int (1 : Int32))])) (fun t_ k_ => XS.iload X207.here hx rfl (hb hby at_78) rfl k_) ?_
          refine own_Goes.via (T' := T207) (g' := (mkF m 83 #[.val (.int xc), .val (.int xk), .val (.int v13), .val (.ref s_BYTE_ARRAY), .val (.int (1 : Int32)), .val (.int (1 : Int32)), .val (.int (1 : Int32))] [])) (fun t_ k_ => XS.ifNo X207.here hx rfl (hb hby at_80) rfl ((if0 _ _).trans (feq (by decide : ¬ ((1 : Int32) = (0 : Int32)))).1) k_) ?_
          refine own_Goes.via (T' := T207) (g' := (mkF m 84 #[.val (.int xc), .val (.int xk), .val (.int v13), .val (.ref s_BYTE_ARRAY), .val (.int (1 : Int32)), .val (.int (1 : Int32)), .val (.int (1 : Int32))] [(.int (1 : Int32))])) (fun t_ k_ => XS.iconst X207.here hx rfl (hb hby at_83) k_) ?_
          refine own_Goes.via (T' := T207) (g' := (mkF m 88 #[.val (.int xc), .val (.int xk), .val (.int v13), .val (.ref s_BYTE_ARRAY), .val (.int (1 : Int32)), .val (.int (1 : Int32)), .val (.int (1 : Int32))] [(.int (1 : Int32))])) (fun t_ k_ => XS.goto X207.here hx rfl (pc0 := 84) (pc' := 88) rfl (hb hby at_84) (by decide) (by decide) k_) ?_
          obtain ⟨fs, hr, hrun, hended, hW, hsame⟩ := X207.leave (v := some (.int 1)) (fun h => by rw [Bd.returns] at h; cases h)
          refine own_Goes.fin (retN X207 hx (t := .boolean) Bd.returns (by simp) (hb hby at_88) hr) hrun hended ?_
          subst hPd
          refine ⟨_, _, rfl, ?_, ⟨_, rfl⟩, hW, hsame.mono (by decide) (by decide)⟩
          show Q0 Z xc xk s__VALUES kV s_STRING s_LONG s_INT s_BYTE_ARRAY s_CUSTOM h0 n0 _ T207.heap _
          exact ⟨rfl, N207⟩
        · have cd10_223 : s_CUSTOM = own_pick s_STRING s_LONG s_INT s_BYTE_ARRAY s_CUSTOM ((((xk.toUInt32 >>> ((4 : Int32) &&& 31).toUInt32).toInt32) &&& (2147483647 : Int32)) % (5 : Int32)) := by simp only [own_pick, if_neg hk10_14, if_neg hk10_66, if_neg hk10_118, if_neg hk10_170]
          obtain ⟨_, _, ⟨T222, L222, k222, n222⟩, -, X222, ⟨Lc222, hQ222, l222, y222, z222⟩, st222⟩ := Jvm.LawKit.callS X0 hx (y := (⟨"com/example/danaid/danaid/io/ElementTypeForCodePinLaw", "pick", "(I)Lcom/example/danaid/danaid/io/ElementType;"⟩ : MethodName)) hown (mvT hZ (hw _ (List.mem_of_getElem? (i := 0) rfl))) (mvT hZ (hw _ (List.mem_of_getElem? (i := 1) rfl))) (mvT hZ (hw _ (List.mem_of_getElem? (i := 2) rfl))) (mvT hZ (hw _ (List.mem_of_getElem? (i := 3) rfl))) (by decide) (backOf (W := 0) (rm1 l Z a0 hw [] ((xk.toUInt32 >>> ((4 : Int32) &&& 31).toUInt32).toInt32) s_STRING s_LONG s_INT s_BYTE_ARRAY s_CUSTOM s_CUSTOM h0 n0 Z0 OL cd10_223 S_STRING S_LONG S_INT S_BYTE_ARRAY S_CUSTOM) hZ (hw _ (List.mem_of_getElem? (i := 3) rfl)) (hw _ (List.mem_of_getElem? (i := 2) rfl)) (by decide) (by decide)) (g := (mkF m 10 #[.val (.int xc), .val (.int xk), .val (.int v13), .unset, .unset, .unset, .unset] [(.int ((xk.toUInt32 >>> ((4 : Int32) &&& 31).toUInt32).toInt32))])) rfl (by rw [hml]; rfl) (argsL := [(.int ((xk.toUInt32 >>> ((4 : Int32) &&& 31).toUInt32).toInt32))]) (rest := []) (lenOf pd_0_0 rfl) rfl (by show 2 * 0 + _ ≤ _; exact Nat.le_of_eq rfl) (hb hby at_10) (fun _ _ => ⟨rfl, e0, (by decide : 0 + 0 ≤ _), (by decide : 0 + 0 ≤ _)⟩)
          dsimp only [Pt.U, Pt.locs, Pt.cells, Pt.slots] at X222 l222 y222 z222 st222 hQ222
          subst l222 y222 z222
          obtain ⟨rfl, Nq222, hh222⟩ := hQ222
          have N222 := Fr.app N0 Nq222
          refine own_Goes.via (T' := T222) (g' := (mkF m 13 #[.val (.int xc), .val (.int xk), .val (.int v13), .unset, .unset, .unset, .unset] [(.ref s_CUSTOM)])) (st222) ?_
          refine own_Goes.via (T' := T222) (g' := (mkF m 14 #[.val (.int xc), .val (.int xk), .val (.int v13), .val (.ref s_CUSTOM), .unset, .unset, .unset] [])) (fun t_ k_ => XS.astoreN X222.here hx rfl (hb hby at_13) rfl rfl (l' := #[.val (.int xc), .val (.int xk), .val (.int v13), .val (.ref s_CUSTOM), .unset, .unset, .unset]) rfl k_) ?_
          refine own_Goes.via (T' := T222) (g' := (mkF m 15 #[.val (.int xc), .val (.int xk), .val (.int v13), .val (.ref s_CUSTOM), .unset, .unset, .unset] [(.int xc)])) (fun t_ k_ => XS.iloadN X222.here hx rfl (hb hby at_14) rfl k_) ?_
          have cd15_225 : (own_code s_STRING s_LONG s_INT s_BYTE_ARRAY s_CUSTOM xc) = own_code s_STRING s_LONG s_INT s_BYTE_ARRAY s_CUSTOM xc := rfl
          obtain ⟨_, _, ⟨T224, L224, k224, n224⟩, -, X224, ⟨Lc224, hQ224, l224, y224, z224⟩, st224⟩ := Jvm.LawKit.callS X222 hx (y := (⟨"com/example/danaid/danaid/io/ElementType", "forCode", "(I)Lcom/example/danaid/danaid/io/ElementType;"⟩ : MethodName)) hown (mvT hZ (hw _ (List.mem_of_getElem? (i := 8) rfl))) (mvT hZ (hw _ (List.mem_of_getElem? (i := 9) rfl))) (mvT hZ (hw _ (List.mem_of_getElem? (i := 6) rfl))) (mvT hZ (hw _ (List.mem_of_getElem? (i := 10) rfl))) (by decide) (backOf (W := 0) (rm2 l Z a0 hw [] xc s__VALUES kV s_STRING s_LONG s_INT s_BYTE_ARRAY s_CUSTOM (own_code s_STRING s_LONG s_INT s_BYTE_ARRAY s_CUSTOM xc) h0 n0 Z0 E6 V7 F8 F9 F10 F11 F12 OL cd15_225 S__VALUES) hZ (hw _ (List.mem_of_getElem? (i := 10) rfl)) (hw _ (List.mem_of_getElem? (i := 6) rfl)) (by decide) (by decide)) (g := (mkF m 15 #[.val (.int xc), .val (.int xk), .val (.int v13), .val (.ref s_CUSTOM), .unset, .unset, .unset] [(.int xc)])) rfl (by rw [hml]; rfl) (argsL := [(.int xc)]) (rest := []) (lenOf pd_0_0 rfl) rfl (by show 2 * 0 + _ ≤ _; exact Nat.le_of_eq rfl) (hb hby at_15) (fun _ _ => ⟨rfl, hh222, (by decide : 0 + 1 ≤ _), (by decide : 0 + 5 ≤ _)⟩)
          dsimp only [Pt.U, Pt.locs, Pt.cells, Pt.slots] at X224 l224 y224 z224 st224 hQ224
          subst l224 y224 z224
          obtain ⟨rfl, Nq224, Kq224⟩ := hQ224
          have N224 := Fr.app N222 Nq224
          have O226 : Old Z n0 T224.heap := OL.keep Kq224 all0
          have E227 : Exa Z T224.heap s_STRING "com/example/danaid/danaid/io/ElementType" := E1.keep Kq224
          have E228 : Exa Z T224.heap s_LONG "com/example/danaid/danaid/io/ElementType" := E2.keep Kq224
          have E229 : Exa Z T224.heap s_INT "com/example/danaid/danaid/io/ElementType" := E3.keep Kq224
          have E230 : Exa Z T224.heap s_BYTE_ARRAY "com/example/danaid/danaid/io/ElementType" := E4.keep Kq224
          have E231 : Exa Z T224.heap s_CUSTOM "com/example/danaid/danaid/io/ElementType" := E5.keep Kq224
          have E232 : Exa Z T224.heap s__VALUES "[Lcom/example/danaid/danaid/io/ElementType;" := E6.keep Kq224
          have V233 : Arv Z T224.heap s__VALUES kV (.object "com/example/danaid/danaid/io/ElementType") (5 : Int32) [(.ref s_STRING), (.ref s_LONG), (.ref s_INT), (.ref s_BYTE_ARRAY), (.ref s_CUSTOM)] .null := V7.keep Kq224 nin0
          have F234 : Fld Z T224.heap s_STRING "com/example/danaid/danaid/io/ElementType" "code" "I" (.int (1 : Int32)) := F8.keep Kq224 nin0
          have F235 : Fld Z T224.heap s_LONG "com/example/danaid/danaid/io/ElementType" "code" "I" (.int (2 : Int32)) := F9.keep Kq224 nin0
          have F236 : Fld Z T224.heap s_INT "com/example/danaid/danaid/io/ElementType" "code" "I" (.int (3 : Int32)) := F10.keep Kq224 nin0
          have F237 : Fld Z T224.heap s_BYTE_ARRAY "com/example/danaid/danaid/io/ElementType" "code" "I" (.int (4 : Int32)) := F11.keep Kq224 nin0
          have F238 : Fld Z T224.heap s_CUSTOM "com/example/danaid/danaid/io/ElementType" "code" "I" (.int (5 : Int32)) := F12.keep Kq224 nin0
          have sz224 : n0 ≤ T224.heap.size := Nat.le_trans Z0 Kq224.1
          have K224 : Keep h0 T224.heap [] := ((Keep.refl h0 [])).trans Kq224 all0
          refine own_Goes.via (T' := T224) (g' := (mkF m 18 #[.val (.int xc), .val (.int xk), .val (.int v13), .val (.ref s_CUSTOM), .unset, .unset, .unset] [(own_code s_STRING s_LONG s_INT s_BYTE_ARRAY s_CUSTOM xc)])) (st224) ?_
          refine own_Goes.via (T' := T224) (g' := (mkF m 19 #[.val (.int xc), .val (.int xk), .val (.int v13), .val (.ref s_CUSTOM), .unset, .unset, .unset] [(.int xc), (own_code s_STRING s_LONG s_INT s_BYTE_ARRAY s_CUSTOM xc)])) (fun t_ k_ => XS.iloadN X224.here hx rfl (hb hby at_18) rfl k_) ?_
          obtain ⟨_, _, ⟨T239, L239, k239, n239⟩, -, X239, ⟨Lc239, hQ239, l239, y239, z239⟩, st239⟩ := Jvm.LawKit.callS X224 hx (y := (⟨"com/example/danaid/danaid/io/ElementTypeForCodePinLaw", "expected", "(I)Lcom/example/danaid/danaid/io/ElementType;"⟩ : MethodName)) hown (mvT hZ (hw _ (List.mem_of_getElem? (i := 32) rfl))) (mvT hZ (hw _ (List.mem_of_getElem? (i := 33) rfl))) (mvT hZ (hw _ (List.mem_of_getElem? (i := 2) rfl))) (mvT hZ (hw _ (List.mem_of_getElem? (i := 34) rfl))) (by decide) (backOf (W := 1) (rm4 l Z a0 hw [] xc s_STRING s_LONG s_INT s_BYTE_ARRAY s_CUSTOM T224.heap n0 sz224 O226 S_STRING S_LONG S_INT S_BYTE_ARRAY S_CUSTOM) hZ (hw _ (List.mem_of_getElem? (i := 34) rfl)) (hw _ (List.mem_of_getElem? (i := 2) rfl)) (by decide) (by decide)) (g := (mkF m 19 #[.val (.int xc), .val (.int xk), .val (.int v13), .val (.ref s_CUSTOM), .unset, .unset, .unset] [(.int xc), (own_code s_STRING s_LONG s_INT s_BYTE_ARRAY s_CUSTOM xc)])) rfl (by rw [hml]; rfl) (argsL := [(.int xc)]) (rest := [(own_code s_STRING s_LONG s_INT s_BYTE_ARRAY s_CUSTOM xc)]) (lenOf pd_0_0 rfl) rfl (by show 2 * 0 + _ ≤ _; simp [own_code_cat]) (hb hby at_19) (fun _ _ => ⟨rfl, rfl, (by decide : 1 + 0 ≤ _), (by decide : 5 + 0 ≤ _)⟩)
          dsimp only [Pt.U, Pt.locs, Pt.cells, Pt.slots] at X239 l239 y239 z239 st239 hQ239
          subst l239 y239 z239
          obtain ⟨rfl, Nq239, hh239⟩ := hQ239
          have N239 := Fr.app N224 Nq239
          refine own_Goes.via (T' := T239) (g' := (mkF m 22 #[.val (.int xc), .val (.int xk), .val (.int v13), .val (.ref s_CUSTOM), .unset, .unset, .unset] [(own_code s_STRING s_LONG s_INT s_BYTE_ARRAY s_CUSTOM xc), (own_code s_STRING s_LONG s_INT s_BYTE_ARRAY s_CUSTOM xc)])) (st239) ?_
          refine own_Goes.via (T' := T239) (g' := (mkF m 25 #[.val (.int xc), .val (.int xk), .val (.int v13), .val (.ref s_CUSTOM), .unset, .unset, .unset] [])) (fun t_ k_ => Jvm.RoadKit.acmp (g := (mkF m 22 #[.val (.int xc), .val (.int xk), .val (.int v13), .val (.ref s_CUSTOM), .unset, .unset, .unset] [(own_code s_STRING s_LONG s_INT s_BYTE_ARRAY s_CUSTOM xc), (own_code s_STRING s_LONG s_INT s_BYTE_ARRAY s_CUSTOM xc)])) X239 hx rfl (own_code_ref _ _ _ _ _ _) (own_code_ref _ _ _ _ _ _) (pc0 := 22) (pc' := 25) (same := true) rfl (hb hby at_22) rfl (decide_eq_true rfl) (by decide) (by decide) k_) ?_
          refine own_Goes.via (T' := T239) (g' := (mkF m 26 #[.val (.int xc), .val (.int xk), .val (.int v13), .val (.ref s_CUSTOM), .unset, .unset, .unset] [(.int (1 : Int32))])) (fun t_ k_ => XS.iconst X239.here hx rfl (hb hby at_25) k_) ?_
          refine own_Goes.via (T' := T239) (g' := (mkF m 30 #[.val (.int xc), .val (.int xk), .val (.int v13), .val (.ref s_CUSTOM), .unset, .unset, .unset] [(.int (1 : Int32))])) (fun t_ k_ => XS.goto X239.here hx rfl (pc0 := 26) (pc' := 30) rfl (hb hby at_26) (by decide) (by decide) k_) ?_
          refine own_Goes.via (T' := T239) (g' := (mkF m 32 #[.val (.int xc), .val (.int xk), .val (.int v13), .val (.ref s_CUSTOM), .val (.int (1 : Int32)), .unset, .unset] [])) (fun t_ k_ => XS.istore X239.here hx rfl (hb hby at_30) rfl (l' := #[.val (.int xc), .val (.int xk), .val (.int v13), .val (.ref s_CUSTOM), .val (.int (1 : Int32)), .unset, .unset]) rfl k_) ?_
          refine own_Goes.via (T' := T239) (g' := (mkF m 33 #[.val (.int xc), .val (.int xk), .val (.int v13), .val (.ref s_CUSTOM), .val (.int (1 : Int32)), .unset, .unset] [(.int v13)])) (fun t_ k_ => XS.iloadN X239.here hx rfl (hb hby at_32) rfl k_) ?_
          have cd33_241 : (own_code s_STRING s_LONG s_INT s_BYTE_ARRAY s_CUSTOM v13) = own_code s_STRING s_LONG s_INT s_BYTE_ARRAY s_CUSTOM v13 := rfl
          obtain ⟨_, _, ⟨T240, L240, k240, n240⟩, -, X240, ⟨Lc240, hQ240, l240, y240, z240⟩, st240⟩ := Jvm.LawKit.callS X239 hx (y := (⟨"com/example/danaid/danaid/io/ElementType", "forCode", "(I)Lcom/example/danaid/danaid/io/ElementType;"⟩ : MethodName)) hown (mvT hZ (hw _ (List.mem_of_getElem? (i := 8) rfl))) (mvT hZ (hw _ (List.mem_of_getElem? (i := 9) rfl))) (mvT hZ (hw _ (List.mem_of_getElem? (i := 6) rfl))) (mvT hZ (hw _ (List.mem_of_getElem? (i := 10) rfl))) (by decide) (backOf (W := 0) (rm2 l Z a0 hw [] v13 s__VALUES kV s_STRING s_LONG s_INT s_BYTE_ARRAY s_CUSTOM (own_code s_STRING s_LONG s_INT s_BYTE_ARRAY s_CUSTOM v13) T224.heap n0 sz224 E232 V233 F234 F235 F236 F237 F238 O226 cd33_241 S__VALUES) hZ (hw _ (List.mem_of_getElem? (i := 10) rfl)) (hw _ (List.mem_of_getElem? (i := 6) rfl)) (by decide) (by decide)) (g := (mkF m 33 #[.val (.int xc), .val (.int xk), .val (.int v13), .val (.ref s_CUSTOM), .val (.int (1 : Int32)), .unset, .unset] [(.int v13)])) rfl (by rw [hml]; rfl) (argsL := [(.int v13)]) (rest := []) (lenOf pd_0_0 rfl) rfl (by show 2 * 0 + _ ≤ _; exact Nat.le_of_eq rfl) (hb hby at_33) (fun _ _ => ⟨rfl, hh239, (by decide : 1 + 1 ≤ _), (by decide : 5 + 5 ≤ _)⟩)
          dsimp only [Pt.U, Pt.locs, Pt.cells, Pt.slots] at X240 l240 y240 z240 st240 hQ240
          subst l240 y240 z240
          obtain ⟨rfl, Nq240, Kq240⟩ := hQ240
          have N240 := Fr.app N239 Nq240
          have O242 : Old Z n0 T240.heap := O226.keep Kq240 all0
          have E243 : Exa Z T240.heap s_STRING "com/example/danaid/danaid/io/ElementType" := E227.keep Kq240
          have E244 : Exa Z T240.heap s_LONG "com/example/danaid/danaid/io/ElementType" := E228.keep Kq240
          have E245 : Exa Z T240.heap s_INT "com/example/danaid/danaid/io/ElementType" := E229.keep Kq240
          have E246 : Exa Z T240.heap s_BYTE_ARRAY "com/example/danaid/danaid/io/ElementType" := E230.keep Kq240
          have E247 : Exa Z T240.heap s_CUSTOM "com/example/danaid/danaid/io/ElementType" := E231.keep Kq240
          have E248 : Exa Z T240.heap s__VALUES "[Lcom/example/danaid/danaid/io/ElementType;" := E232.keep Kq240
          have V249 : Arv Z T240.heap s__VALUES kV (.object "com/example/danaid/danaid/io/ElementType") (5 : Int32) [(.ref s_STRING), (.ref s_LONG), (.ref s_INT), (.ref s_BYTE_ARRAY), (.ref s_CUSTOM)] .null := V233.keep Kq240 nin0
          have F250 : Fld Z T240.heap s_STRING "com/example/danaid/danaid/io/ElementType" "code" "I" (.int (1 : Int32)) := F234.keep Kq240 nin0
          have F251 : Fld Z T240.heap s_LONG "com/example/danaid/danaid/io/ElementType" "code" "I" (.int (2 : Int32)) := F235.keep Kq240 nin0
          have F252 : Fld Z T240.heap s_INT "com/example/danaid/danaid/io/ElementType" "code" "I" (.int (3 : Int32)) := F236.keep Kq240 nin0
          have F253 : Fld Z T240.heap s_BYTE_ARRAY "com/example/danaid/danaid/io/ElementType" "code" "I" (.int (4 : Int32)) := F237.keep Kq240 nin0
          have F254 : Fld Z T240.heap s_CUSTOM "com/example/danaid/danaid/io/ElementType" "code" "I" (.int (5 : Int32)) := F238.keep Kq240 nin0
          have sz240 : n0 ≤ T240.heap.size := Nat.le_trans sz224 Kq240.1
          have K240 : Keep h0 T240.heap [] := (K224).trans Kq240 all0
          refine own_Goes.via (T' := T240) (g' := (mkF m 36 #[.val (.int xc), .val (.int xk), .val (.int v13), .val (.ref s_CUSTOM), .val (.int (1 : Int32)), .unset, .unset] [(own_code s_STRING s_LONG s_INT s_BYTE_ARRAY s_CUSTOM v13)])) (st240) ?_
          refine own_Goes.via (T' := T240) (g' := (mkF m 37 #[.val (.int xc), .val (.int xk), .val (.int v13), .val (.ref s_CUSTOM), .val (.int (1 : Int32)), .unset, .unset] [(.int v13), (own_code s_STRING s_LONG s_INT s_BYTE_ARRAY s_CUSTOM v13)])) (fun t_ k_ => XS.iloadN X240.here hx rfl (hb hby at_36) rfl k_) ?_
          obtain ⟨_, _, ⟨T255, L255, k255, n255⟩, -, X255, ⟨Lc255, hQ255, l255, y255, z255⟩, st255⟩ := Jvm.LawKit.callS X240 hx (y := (⟨"com/example/danaid/danaid/io/ElementTypeForCodePinLaw", "expected", "(I)Lcom/example/danaid/danaid/io/ElementType;"⟩ : MethodName)) hown (mvT hZ (hw _ (List.mem_of_getElem? (i := 32) rfl))) (mvT hZ (hw _ (List.mem_of_getElem? (i := 33) rfl))) (mvT hZ (hw _ (List.mem_of_getElem? (i := 2) rfl))) (mvT hZ (hw _ (List.mem_of_getElem? (i := 34) rfl))) (by decide) (backOf (W := 1) (rm4 l Z a0 hw [] v13 s_STRING s_LONG s_INT s_BYTE_ARRAY s_CUSTOM T240.heap n0 sz240 O242 S_STRING S_LONG S_INT S_BYTE_ARRAY S_CUSTOM) hZ (hw _ (List.mem_of_getElem? (i := 34) rfl)) (hw _ (List.mem_of_getElem? (i := 2) rfl)) (by decide) (by decide)) (g := (mkF m 37 #[.val (.int xc), .val (.int xk), .val (.int v13), .val (.ref s_CUSTOM), .val (.int (1 : Int32)), .unset, .unset] [(.int v13), (own_code s_STRING s_LONG s_INT s_BYTE_ARRAY s_CUSTOM v13)])) rfl (by rw [hml]; rfl) (argsL := [(.int v13)]) (rest := [(own_code s_STRING s_LONG s_INT s_BYTE_ARRAY s_CUSTOM v13)]) (lenOf pd_0_0 rfl) rfl (by show 2 * 0 + _ ≤ _; simp [own_code_cat]) (hb hby at_37) (fun _ _ => ⟨rfl, rfl, (by decide : 2 + 0 ≤ _), (by decide : 10 + 0 ≤ _)⟩)
          dsimp only [Pt.U, Pt.locs, Pt.cells, Pt.slots] at X255 l255 y255 z255 st255 hQ255
          subst l255 y255 z255
          obtain ⟨rfl, Nq255, hh255⟩ := hQ255
          have N255 := Fr.app N240 Nq255
          refine own_Goes.via (T' := T255) (g' := (mkF m 40 #[.val (.int xc), .val (.int xk), .val (.int v13), .val (.ref s_CUSTOM), .val (.int (1 : Int32)), .unset, .unset] [(own_code s_STRING s_LONG s_INT s_BYTE_ARRAY s_CUSTOM v13), (own_code s_STRING s_LONG s_INT s_BYTE_ARRAY s_CUSTOM v13)])) (st255) ?_
          refine own_Goes.via (T' := T255) (g' := (mkF m 43 #[.val (.int xc), .val (.int xk), .val (.int v13), .val (.ref s_CUSTOM), .val (.int (1 : Int32)), .unset, .unset] [])) (fun t_ k_ => Jvm.RoadKit.acmp (g := (mkF m 40 #[.val (.int xc), .val (.int xk), .val (.int v13), .val (.ref s_CUSTOM), .val (.int (1 : Int32)), .unset, .unset] [(own_code s_STRING s_LONG s_INT s_BYTE_ARRAY s_CUSTOM v13), (own_code s_STRING s_LONG s_INT s_BYTE_ARRAY s_CUSTOM v13)])) X255 hx rfl (own_code_ref _ _ _ _ _ _) (own_code_ref _ _ _ _ _ _) (pc0 := 40) (pc' := 43) (same := true) rfl (hb hby at_40) rfl (decide_eq_true rfl) (by decide) (by decide) k_) ?_
          refine own_Goes.via (T' := T255) (g' := (mkF m 44 #[.val (.int xc), .val (.int xk), .val (.int v13), .val (.ref s_CUSTOM), .val (.int (1 : Int32)), .unset, .unset] [(.int (1 : Int32))])) (fun t_ k_ => XS.iconst X255.here hx rfl (hb hby at_43) k_) ?_
          refine own_Goes.via (T' := T255) (g' := (mkF m 48 #[.val (.int xc), .val (.int xk), .val (.int v13), .val (.ref s_CUSTOM), .val (.int (1 : Int32)), .unset, .unset] [(.int (1 : Int32))])) (fun t_ k_ => XS.goto X255.here hx rfl (pc0 := 44) (pc' := 48) rfl (hb hby at_44) (by decide) (by decide) k_) ?_
          refine own_Goes.via (T' := T255) (g' := (mkF m 50 #[.val (.int xc), .val (.int xk), .val (.int v13), .val (.ref s_CUSTOM), .val (.int (1 : Int32)), .val (.int (1 : Int32)), .unset] [])) (fun t_ k_ => XS.istore X255.here hx rfl (hb hby at_48) rfl (l' := #[.val (.int xc), .val (.int xk), .val (.int v13), .val (.ref s_CUSTOM), .val (.int (1 : Int32)), .val (.int (1 : Int32)), .unset]) rfl k_) ?_
          refine own_Goes.via (T' := T255) (g' := (mkF m 51 #[.val (.int xc), .val (.int xk), .val (.int v13), .val (.ref s_CUSTOM), .val (.int (1 : Int32)), .val (.int (1 : Int32)), .unset] [(.ref s_CUSTOM)])) (fun t_ k_ => XS.aloadN X255.here hx rfl (hb hby at_50) rfl rfl k_) ?_
          obtain ⟨cq256, kq256, q256a, q256b, q256c⟩ := isOf hZ hh255 E247
          obtain ⟨_, _, ⟨T256, L256, k256, n256⟩, -, X256, ⟨Lc256, hQ256, l256, y256, z256⟩, st256⟩ := X255.virtualBack hx (y := (⟨"com/example/danaid/danaid/io/ElementType", "code", "()I"⟩ : MethodName)) (z := (⟨"com/example/danaid/danaid/io/ElementType", "code", "()I"⟩ : MethodName)) hown (mvT hZ (hw _ (List.mem_of_getElem? (i := 35) rfl))) (mvT hZ (hw _ (List.mem_of_getElem? (i := 36) rfl))) (notFace_of_selects (args := #[]) (mvT hZ (hw _ (List.mem_of_getElem? (i := 38) rfl)))) (mvT hZ (hw _ (List.mem_of_getElem? (i := 38) rfl))) (mvT hZ (hw _ (List.mem_of_getElem? (i := 37) rfl))) (by decide) (backOf (W := 0) (rm5 l Z a0 hw [] s_CUSTOM (5 : Int32) T240.heap n0 sz240 F254) hZ (hw _ (List.mem_of_getElem? (i := 39) rfl)) (hw _ (List.mem_of_getElem? (i := 6) rfl)) (by decide) (by decide)) q256a q256c (g := (mkF m 51 #[.val (.int xc), .val (.int xk), .val (.int v13), .val (.ref s_CUSTOM), .val (.int (1 : Int32)), .val (.int (1 : Int32)), .unset] [(.ref s_CUSTOM)])) rfl (by rw [hml]; rfl) (Steps.refl _) (argsL := []) (rest := []) (lenOf pd_0_1 rfl) rfl (by show 2 * 0 + _ ≤ _; exact Nat.le_of_eq rfl) (hb hby at_51) (fun _ _ => ⟨rfl, hh255, (by decide : 2 + 0 ≤ _), (by decide : 10 + 0 ≤ _)⟩)
          dsimp only [Pt.U, Pt.locs, Pt.cells, Pt.slots] at X256 l256 y256 z256 st256 hQ256
          subst l256 y256 z256
          obtain ⟨rfl, Nq256, hh256⟩ := hQ256
          have N256 := Fr.app N255 Nq256
          refine own_Goes.via (T' := T256) (g' := (mkF m 54 #[.val (.int xc), .val (.int xk), .val (.int v13), .val (.ref s_CUSTOM), .val (.int (1 : Int32)), .val (.int (1 : Int32)), .unset] [(.int (own_f5 (5 : Int32)))])) (fun t_ k_ => st256.trans k_) ?_
          obtain ⟨v257, hv257⟩ : ∃ z : Int32, z = (own_f5 (5 : Int32)) := ⟨_, rfl⟩
          rw [← hv257]
          have cd54_259 : (.ref s_CUSTOM) = own_code s_STRING s_LONG s_INT s_BYTE_ARRAY s_CUSTOM v257 := by rw [hv257]; simp [own_code, own_f5]
          obtain ⟨_, _, ⟨T258, L258, k258, n258⟩, -, X258, ⟨Lc258, hQ258, l258, y258, z258⟩, st258⟩ := Jvm.LawKit.callS X256 hx (y := (⟨"com/example/danaid/danaid/io/ElementType", "forCode", "(I)Lcom/example/danaid/danaid/io/ElementType;"⟩ : MethodName)) hown (mvT hZ (hw _ (List.mem_of_getElem? (i := 8) rfl))) (mvT hZ (hw _ (List.mem_of_getElem? (i := 9) rfl))) (mvT hZ (hw _ (List.mem_of_getElem? (i := 6) rfl))) (mvT hZ (hw _ (List.mem_of_getElem? (i := 10) rfl))) (by decide) (backOf (W := 0) (rm2 l Z a0 hw [] v257 s__VALUES kV s_STRING s_LONG s_INT s_BYTE_ARRAY s_CUSTOM (.ref s_CUSTOM) T240.heap n0 sz240 E248 V249 F250 F251 F252 F253 F254 O242 cd54_259 S__VALUES) hZ (hw _ (List.mem_of_getElem? (i := 10) rfl)) (hw _ (List.mem_of_getElem? (i := 6) rfl)) (by decide) (by decide)) (g := (mkF m 54 #[.val (.int xc), .val (.int xk), .val (.int v13), .val (.ref s_CUSTOM), .val (.int (1 : Int32)), .val (.int (1 : Int32)), .unset] [(.int v257)])) rfl (by rw [hml]; rfl) (argsL := [(.int v257)]) (rest := []) (lenOf pd_0_0 rfl) rfl (by show 2 * 0 + _ ≤ _; exact Nat.le_of_eq rfl) (hb hby at_54) (fun _ _ => ⟨rfl, hh256, (by decide : 2 + 1 ≤ _), (by decide : 10 + 5 ≤ _)⟩)
          dsimp only [Pt.U, Pt.locs, Pt.cells, Pt.slots] at X258 l258 y258 z258 st258 hQ258
          subst l258 y258 z258
          obtain ⟨rfl, Nq258, Kq258⟩ := hQ258
          have N258 := Fr.app N256 Nq258
          have O260 : Old Z n0 T258.heap := O242.keep Kq258 all0
          have E261 : Exa Z T258.heap s_STRING "com/example/danaid/danaid/io/ElementType" := E243.keep Kq258
          have E262 : Exa Z T258.heap s_LONG "com/example/danaid/danaid/io/ElementType" := E244.keep Kq258
          have E263 : Exa Z T258.heap s_INT "com/example/danaid/danaid/io/ElementType" := E245.keep Kq258
          have E264 : Exa Z T258.heap s_BYTE_ARRAY "com/example/danaid/danaid/io/ElementType" := E246.keep Kq258
          have E265 : Exa Z T258.heap s_CUSTOM "com/example/danaid/danaid/io/ElementType" := E247.keep Kq258
          have E266 : Exa Z T258.heap s__VALUES "[Lcom/example/danaid/danaid/io/ElementType;" := E248.keep Kq258
          have V267 : Arv Z T258.heap s__VALUES kV (.object "com/example/danaid/danaid/io/ElementType") (5 : Int32) [(.ref s_STRING), (.ref s_LONG), (.ref s_INT), (.ref s_BYTE_ARRAY), (.ref s_CUSTOM)] .null := V249.keep Kq258 nin0
          have F268 : Fld Z T258.heap s_STRING "com/example/danaid/danaid/io/ElementType" "code" "I" (.int (1 : Int32)) := F250.keep Kq258 nin0
          have F269 : Fld Z T258.heap s_LONG "com/example/danaid/danaid/io/ElementType" "code" "I" (.int (2 : Int32)) := F251.keep Kq258 nin0
          have F270 : Fld Z T258.heap s_INT "com/example/danaid/danaid/io/ElementType" "code" "I" (.int (3 : Int32)) := F252.keep Kq258 nin0
          have F271 : Fld Z T258.heap s_BYTE_ARRAY "com/example/danaid/danaid/io/ElementType" "code" "I" (.int (4 : Int32)) := F253.keep Kq258 nin0
          have F272 : Fld Z T258.heap s_CUSTOM "com/example/danaid/danaid/io/ElementType" "code" "I" (.int (5 : Int32)) := F254.keep Kq258 nin0
          have sz258 : n0 ≤ T258.heap.size := Nat.le_trans sz240 Kq258.1
          have K258 : Keep h0 T258.heap [] := (K240).trans Kq258 all0
          refine own_Goes.via (T' := T258) (g' := (mkF m 57 #[.val (.int xc), .val (.int xk), .val (.int v13), .val (.ref s_CUSTOM), .val (.int (1 : Int32)), .val (.int (1 : Int32)), .unset] [(.ref s_CUSTOM)])) (st258) ?_
          refine own_Goes.via (T' := T258) (g' := (mkF m 58 #[.val (.int xc), .val (.int xk), .val (.int v13), .val (.ref s_CUSTOM), .val (.int (1 : Int32)), .val (.int (1 : Int32)), .unset] [(.ref s_CUSTOM), (.ref s_CUSTOM)])) (fun t_ k_ => XS.aloadN X258.here hx rfl (hb hby at_57) rfl rfl k_) ?_
          refine own_Goes.via (T' := T258) (g' := (mkF m 61 #[.val (.int xc), .val (.int xk), .val (.int v13), .val (.ref s_CUSTOM), .val (.int (1 : Int32)), .val (.int (1 : Int32)), .unset] [])) (fun t_ k_ => Jvm.RoadKit.acmp (g := (mkF m 58 #[.val (.int xc), .val (.int xk), .val (.int v13), .val (.ref s_CUSTOM), .val (.int (1 : Int32)), .val (.int (1 : Int32)), .unset] [(.ref s_CUSTOM), (.ref s_CUSTOM)])) X258 hx rfl rfl rfl (pc0 := 58) (pc' := 61) (same := true) rfl (hb hby at_58) rfl (decide_eq_true rfl) (by decide) (by decide) k_) ?_
          refine own_Goes.via (T' := T258) (g' := (mkF m 62 #[.val (.int xc), .val (.int xk), .val (.int v13), .val (.ref s_CUSTOM), .val (.int (1 : Int32)), .val (.int (1 : Int32)), .unset] [(.int (1 : Int32))])) (fun t_ k_ => XS.iconst X258.here hx rfl (hb hby at_61) k_) ?_
          refine own_Goes.via (T' := T258) (g' := (mkF m 66 #[.val (.int xc), .val (.int xk), .val (.int v13), .val (.ref s_CUSTOM), .val (.int (1 : Int32)), .val (.int (1 : Int32)), .unset] [(.int (1 : Int32))])) (fun t_ k_ => XS.goto X258.here hx rfl (pc0 := 62) (pc' := 66) rfl (hb hby at_62) (by decide) (by decide) k_) ?_
          refine own_Goes.via (T' := T258) (g' := (mkF m 68 #[.val (.int xc), .val (.int xk), .val (.int v13), .val (.ref s_CUSTOM), .val (.int (1 : Int32)), .val (.int (1 : Int32)), .val (.int (1 : Int32))] [])) (fun t_ k_ => XS.istore X258.here hx rfl (hb hby at_66) rfl (l' := #[.val (.int xc), .val (.int xk), .val (.int v13), .val (.ref s_CUSTOM), .val (.int (1 : Int32)), .val (.int (1 : Int32)), .val (.int (1 : Int32))]) rfl k_) ?_
          refine own_Goes.via (T' := T258) (g' := (mkF m 70 #[.val (.int xc), .val (.int xk), .val (.int v13), .val (.ref s_CUSTOM), .val (.int (1 : Int32)), .val (.int (1 : Int32)), .val (.int (1 : Int32))] [(.int (1 : Int32))])) (fun t_ k_ => XS.iload X258.here hx rfl (hb hby at_68) rfl k_) ?_
          refine own_Goes.via (T' := T258) (g' := (mkF m 73 #[.val (.int xc), .val (.int xk), .val (.int v13), .val (.ref s_CUSTOM), .val (.int (1 : Int32)), .val (.int (1 : Int32)), .val (.int (1 : Int32))] [])) (fun t_ k_ => XS.ifNo X258.here hx rfl (hb hby at_70) rfl ((if0 _ _).trans (feq (by decide : ¬ ((1 : Int32) = (0 : Int32)))).1) k_) ?_
          refine own_Goes.via (T' := T258) (g' := (mkF m 75 #[.val (.int xc), .val (.int xk), .val (.int v13), .val (.ref s_CUSTOM), .val (.int (1 : Int32)), .val (.int (1 : Int32)), .val (.int (1 : Int32))] [(.int (1 : Int32))])) (fun t_ k_ => XS.iload X258.here hx rfl (hb hby at_73) rfl k_) ?_
          refine own_Goes.via (T' := T258) (g' := (mkF m 78 #[.val (.int xc), .val (.int xk), .val (.int v13), .val (.ref s_CUSTOM), .val (.int (1 : Int32)), .val (.int (1 : Int32)), .val (.int (1 : Int32))] [])) (fun t_ k_ => XS.ifNo X258.here hx rfl (hb hby at_75) rfl ((if0 _ _).trans (feq (by decide : ¬ ((1 : Int32) = (0 : Int32)))).1) k_) ?_
          refine own_Goes.via (T' := T258) (g' := (mkF m 80 #[.val (.int xc), .val (.int xk), .val (.int v13), .val (.ref s_CUSTOM), .val (.int (1 : Int32)), .val (.int (1 : Int32)), .val (.int (1 : Int32))] [(.int (1 : Int32))])) (fun t_ k_ => XS.iload X258.here hx rfl (hb hby at_78) rfl k_) ?_
          refine own_Goes.via (T' := T258) (g' := (mkF m 83 #[.val (.int xc), .val (.int xk), .val (.int v13), .val (.ref s_CUSTOM), .val (.int (1 : Int32)), .val (.int (1 : Int32)), .val (.int (1 : Int32))] [])) (fun t_ k_ => XS.ifNo X258.here hx rfl (hb hby at_80) rfl ((if0 _ _).trans (feq (by decide : ¬ ((1 : Int32) = (0 : Int32)))).1) k_) ?_
          refine own_Goes.via (T' := T258) (g' := (mkF m 84 #[.val (.int xc), .val (.int xk), .val (.int v13), .val (.ref s_CUSTOM), .val (.int (1 : Int32)), .val (.int (1 : Int32)), .val (.int (1 : Int32))] [(.int (1 : Int32))])) (fun t_ k_ => XS.iconst X258.here hx rfl (hb hby at_83) k_) ?_
          refine own_Goes.via (T' := T258) (g' := (mkF m 88 #[.val (.int xc), .val (.int xk), .val (.int v13), .val (.ref s_CUSTOM), .val (.int (1 : Int32)), .val (.int (1 : Int32)), .val (.int (1 : Int32))] [(.int (1 : Int32))])) (fun t_ k_ => XS.goto X258.here hx rfl (pc0 := 84) (pc' := 88) rfl (hb hby at_84) (by decide) (by decide) k_) ?_
          obtain ⟨fs, hr, hrun, hended, hW, hsame⟩ := X258.leave (v := some (.int 1)) (fun h => by rw [Bd.returns] at h; cases h)
          refine own_Goes.fin (retN X258 hx (t := .boolean) Bd.returns (by simp) (hb hby at_88) hr) hrun hended ?_
          subst hPd
          refine ⟨_, _, rfl, ?_, ⟨_, rfl⟩, hW, hsame.mono (by decide) (by decide)⟩
          show Q0 Z xc xk s__VALUES kV s_STRING s_LONG s_INT s_BYTE_ARRAY s_CUSTOM h0 n0 _ T258.heap _
          exact ⟨rfl, N258⟩
set_option maxRecDepth 65536 in
set_option maxHeartbeats 40000000 in
theorem comes_1 {Post : Tables → Env → Array Value → State → Outcome → State → Prop} (hpost : ∀ tb e args s v u, (limb_1_1.after args s (.returned v) u = true ∧ limb_1_2.after args s (.returned v) u = true ∧ True) → FrameEnd s (.returned v) u (Jvm.fieldLocs frame_1_writes args s ++ Jvm.arrayLocs frame_1_arrays args s ++ Jvm.staticLocs frame_1_statics s) 16 128 → Post tb e args s (.returned v) u) :
    ArmFor flags0 classFile x code maxLocals ret World_1 tables_1 room_1 Calls_1 rest_1 Pre_1 Post := by
  intro l hfl _ _ p e ha hc hk s m args below hf hA hF happ hP
  obtain ⟨hcalls, hrest, hpre⟩ := hP
  obtain ⟨-, -, -, hnamed, -, -, -, hat⟩ := (Spec.applies_iff hf).mp happ
  obtain ⟨hg, hn⟩ := and_e (Cond.before_iff.mp (show (Jvm.Cond.and given_1 narrow_1).before args s = true from hpre))
  obtain ⟨g1, g2⟩ := and_e hg
  obtain ⟨g3, g4⟩ := and_e g2
  obtain ⟨w0, w1, rfl⟩ : ∃ w0 w1 : Value, args = #[w0, w1] := by
    have hs : args.size = 2 := by simpa [Cond.value, given_1] using g1
    obtain ⟨L⟩ := args
    match L, hs with
    | [w0, w1], _ => exact ⟨w0, w1, rfl⟩
  have hw := fun d (hd : d ∈ tables_1) => atoms_spec (ws := Jvm.Cond.code x code maxLocals ret :: tables_1) hat d (List.mem_cons_of_mem _ hd)
  have hfit : Fit s := fun {y c} hc i hi => by
    obtain ⟨ha, rfl⟩ := Array.getElem?_eq_some_iff.mp hc
    have q := List.all_eq_true.mp ((Array.all_eq_true_iff_forall_mem.mp hF) _ (Array.getElem_mem ha)) i (List.mem_range.mpr hi)
    simpa [Array.getElem?_eq_getElem hi] using q
  obtain ⟨i0, ei0⟩ := is_v g3
  obtain rfl : w0 = (.int i0) := Option.some.inj ei0
  obtain ⟨i1, ei1⟩ := is_v g4
  obtain rfl : w1 = (.int i1) := Option.some.inj ei1
  obtain ⟨n1, n2⟩ := and_e hn
  obtain ⟨n3, n4⟩ := and_e n2
  obtain ⟨n5, n6⟩ := and_e n4
  obtain ⟨n7, n8⟩ := and_e n6
  obtain ⟨n9, n10⟩ := and_e n8
  obtain ⟨n11, n12⟩ := and_e n10
  obtain ⟨n13, n14⟩ := and_e n12
  obtain ⟨n15, n16⟩ := and_e n14
  obtain ⟨n17, n18⟩ := and_e n16
  obtain ⟨n19, n20⟩ := and_e n18
  obtain ⟨n21, n22⟩ := and_e n20
  obtain ⟨n23, n24⟩ := and_e n22
  obtain ⟨n25, n26⟩ := and_e n24
  obtain ⟨n27, n28⟩ := and_e n26
  obtain ⟨n29, n30⟩ := and_e n28
  obtain ⟨n31, n32⟩ := and_e n30
  obtain ⟨n33, n34⟩ := and_e n32
  obtain ⟨s_STRING, ev_STRING⟩ := exa_v n1
  have S_STRING : Sta s s.heap "com/example/danaid/danaid/io/ElementType" "STRING" "Lcom/example/danaid/danaid/io/ElementType;" (.ref s_STRING) := Sta.start ev_STRING (Or.inr ⟨(hw _ (List.mem_of_getElem? (i := 6) rfl)), (hw _ (List.mem_of_getElem? (i := 7) rfl))⟩)
  have E_STRING : Exa s s.heap s_STRING "com/example/danaid/danaid/io/ElementType" := Exa.start ev_STRING n1
  have F_STRING_code : Fld s s.heap s_STRING "com/example/danaid/danaid/io/ElementType" "code" "I" (.int (1 : Int32)) := Fld.start ((fld_at ev_STRING).symm.trans (own_eqInt n27))
  obtain ⟨s__VALUES, ev__VALUES⟩ := exa_v n5
  have S__VALUES : Sta s s.heap "com/example/danaid/danaid/io/ElementType" "$VALUES" "[Lcom/example/danaid/danaid/io/ElementType;" (.ref s__VALUES) := Sta.start ev__VALUES (Or.inr ⟨(hw _ (List.mem_of_getElem? (i := 6) rfl)), (hw _ (List.mem_of_getElem? (i := 15) rfl))⟩)
  have E__VALUES : Exa s s.heap s__VALUES "[Lcom/example/danaid/danaid/io/ElementType;" := Exa.start ev__VALUES n5
  obtain ⟨s_LONG, ev_LONG⟩ := exa_v n11
  have S_LONG : Sta s s.heap "com/example/danaid/danaid/io/ElementType" "LONG" "Lcom/example/danaid/danaid/io/ElementType;" (.ref s_LONG) := Sta.start ev_LONG (Or.inr ⟨(hw _ (List.mem_of_getElem? (i := 6) rfl)), (hw _ (List.mem_of_getElem? (i := 23) rfl))⟩)
  have E_LONG : Exa s s.heap s_LONG "com/example/danaid/danaid/io/ElementType" := Exa.start ev_LONG n11
  have F_LONG_code : Fld s s.heap s_LONG "com/example/danaid/danaid/io/ElementType" "code" "I" (.int (2 : Int32)) := Fld.start ((fld_at ev_LONG).symm.trans (own_eqInt n29))
  obtain ⟨s_INT, ev_INT⟩ := exa_v n15
  have S_INT : Sta s s.heap "com/example/danaid/danaid/io/ElementType" "INT" "Lcom/example/danaid/danaid/io/ElementType;" (.ref s_INT) := Sta.start ev_INT (Or.inr ⟨(hw _ (List.mem_of_getElem? (i := 6) rfl)), (hw _ (List.mem_of_getElem? (i := 24) rfl))⟩)
  have E_INT : Exa s s.heap s_INT "com/example/danaid/danaid/io/ElementType" := Exa.start ev_INT n15
  have F_INT_code : Fld s s.heap s_INT "com/example/danaid/danaid/io/ElementType" "code" "I" (.int (3 : Int32)) := Fld.start ((fld_at ev_INT).symm.trans (own_eqInt n31))
  obtain ⟨s_BYTE_ARRAY, ev_BYTE_ARRAY⟩ := exa_v n19
  have S_BYTE_ARRAY : Sta s s.heap "com/example/danaid/danaid/io/ElementType" "BYTE_ARRAY" "Lcom/example/danaid/danaid/io/ElementType;" (.ref s_BYTE_ARRAY) := Sta.start ev_BYTE_ARRAY (Or.inr ⟨(hw _ (List.mem_of_getElem? (i := 6) rfl)), (hw _ (List.mem_of_getElem? (i := 25) rfl))⟩)
  have E_BYTE_ARRAY : Exa s s.heap s_BYTE_ARRAY "com/example/danaid/danaid/io/ElementType" := Exa.start ev_BYTE_ARRAY n19
  have F_BYTE_ARRAY_code : Fld s s.heap s_BYTE_ARRAY "com/example/danaid/danaid/io/ElementType" "code" "I" (.int (4 : Int32)) := Fld.start ((fld_at ev_BYTE_ARRAY).symm.trans (own_eqInt n33))
  obtain ⟨s_CUSTOM, ev_CUSTOM⟩ := exa_v n23
  have S_CUSTOM : Sta s s.heap "com/example/danaid/danaid/io/ElementType" "CUSTOM" "Lcom/example/danaid/danaid/io/ElementType;" (.ref s_CUSTOM) := Sta.start ev_CUSTOM (Or.inr ⟨(hw _ (List.mem_of_getElem? (i := 6) rfl)), (hw _ (List.mem_of_getElem? (i := 26) rfl))⟩)
  have E_CUSTOM : Exa s s.heap s_CUSTOM "com/example/danaid/danaid/io/ElementType" := Exa.start ev_CUSTOM n23
  have F_CUSTOM_code : Fld s s.heap s_CUSTOM "com/example/danaid/danaid/io/ElementType" "code" "I" (.int (5 : Int32)) := Fld.start ((fld_at ev_CUSTOM).symm.trans (own_eqInt n34))
  obtain ⟨cl__VALUES, Ar__VALUES⟩ := Arr.start ev__VALUES n3
  have sz__VALUES := own_len ev__VALUES Ar__VALUES (own_eqInt n7)
  have el__VALUES_0 : cl__VALUES.slots[0]? = some (.ref s_STRING) := (elem_in (own_eqRef n9 ev_STRING) ev__VALUES (Term.int_eval 0) Ar__VALUES.1).2
  have el__VALUES_1 : cl__VALUES.slots[1]? = some (.ref s_LONG) := (elem_in (own_eqRef n13 ev_LONG) ev__VALUES (Term.int_eval 1) Ar__VALUES.1).2
  have el__VALUES_2 : cl__VALUES.slots[2]? = some (.ref s_INT) := (elem_in (own_eqRef n17 ev_INT) ev__VALUES (Term.int_eval 2) Ar__VALUES.1).2
  have el__VALUES_3 : cl__VALUES.slots[3]? = some (.ref s_BYTE_ARRAY) := (elem_in (own_eqRef n21 ev_BYTE_ARRAY) ev__VALUES (Term.int_eval 3) Ar__VALUES.1).2
  have el__VALUES_4 : cl__VALUES.slots[4]? = some (.ref s_CUSTOM) := (elem_in (own_eqRef n25 ev_CUSTOM) ev__VALUES (Term.int_eval 4) Ar__VALUES.1).2
  have A__VALUES : Arv s s.heap s__VALUES cl__VALUES.cls (.object "com/example/danaid/danaid/io/ElementType") (5 : Int32) [(.ref s_STRING), (.ref s_LONG), (.ref s_INT), (.ref s_BYTE_ARRAY), (.ref s_CUSTOM)] .null := Arv.start hfit Ar__VALUES sz__VALUES.1 sz__VALUES.2 (by decide) rfl ⟨el__VALUES_0, el__VALUES_1, el__VALUES_2, el__VALUES_3, el__VALUES_4, trivial⟩
  obtain ⟨n, o, h1, h2, h3, _, L, rfl, ⟨rfl, N⟩, hq⟩ := rm0 l s _ hw tables_1 i0 i1 s__VALUES cl__VALUES.cls s_STRING s_LONG s_INT s_BYTE_ARRAY s_CUSTOM s.heap s.heap.size (Nat.le_refl _) (Old.start s) S_STRING S_LONG S_INT S_BYTE_ARRAY S_CUSTOM S__VALUES E_STRING E_LONG E_INT E_BYTE_ARRAY E_CUSTOM E__VALUES F_STRING_code F_LONG_code F_INT_code F_BYTE_ARRAY_code F_CUSTOM_code A__VALUES p e ha hc hk s m _ below hf ((Spec.applies_iff_loose hf).mp happ).1 ⟨rfl, State.Warmed39.refl s, rfl⟩ trivial
  refine ⟨n, _, h1, h2, h3, hpost _ _ _ _ _ _ ⟨Cond.after_iff.mpr rfl, Cond.after_iff.mpr (eq_i res_at (Term.int_eval (1)) rfl), trivial⟩ ⟨hq.1, hq.2.1, (hq.2.2.sift fun y hy => Or.inr (N y hy)).mono (by decide) (by decide)⟩⟩
theorem main_1_1 : Claimed_1_1 := comes_1 fun _ _ _ _ _ _ h hF => ⟨h.1, hF⟩
theorem main_1_2 : Claimed_1_2 := comes_1 fun _ _ _ _ _ _ h hF => ⟨h.2.1, hF⟩
end Jvm.Pilot.@@N@@
namespace Jvm.Pilot.@@N@@
open Jvm Jvm.ClassFile Sem Op Lib Jvm.Free Jvm.Stand Jvm.Pilot.@@N@@.Jvm.D
/-! MADE BY PROGRAM (witnessworld.py) out of the Statement's table words and the real class files: 13 classes; the members and pool entries that the words name. The judged class is class 1, her method 3. -/
namespace start1
open Jvm.ClassFile
def u (s : String) : CpInfo := .utf8 (stringToUtf16 s)
/-- a pool by its gaps: so many unusable entries, then the entry; so many at the end -/
def gap : Nat → List CpInfo → List CpInfo
  | 0, r => r
  | n + 1, r => .unusable :: gap n r
def poolList (es : List (Nat × CpInfo)) (last : Nat) : List CpInfo := es.foldr (fun e r => gap e.1 (e.2 :: r)) (gap last [])
def pool (es : List (Nat × CpInfo)) (last : Nat) : Array CpInfo := ⟨poolList es last⟩
def fileOf (pool : Array CpInfo) (this : Nat) (attrs : Array Attribute := #[]) (ms : Array MethodInfo := #[]) (fl : Nat := 33) (sup : Nat := 0) (ifs : Array Nat := #[]) (fds : Array FieldInfo := #[]) : ClassFile where
  minorVersion := 0
  majorVersion := 65
  constantPool := pool
  accessFlags := fl
  thisClass := this
  superClass := sup
  interfaces := ifs
  fields := fds
  methods := ms
  attributes := attrs
def plain (name : String) (sup : Option ClassId) : Class where
  name := name
  kind := .ordinary
  loader := none
  accessFlags := 33
  super := sup
  interfaces := #[]
  cf := none
  fields := #[]
  methods := #[]
  instanceTypes := #[]
  staticTypes := #[]
  resolved := #[]
  callSites := []
  init := .initialized
  statics := none
  mirror := none

def pool0 : Array CpInfo := pool [(5, u "<init>"), (0, u "()V"), (1, .class_ 10), (1, u "java/lang/Object"), (85, u "clone"), (0, u "()Ljava/lang/Object;")] 26

def k0m0 : Method := { name := "<init>", desc := "()V", sig := { parameters := [], returnType := none }, accessFlags := 1, code := none }
def k0m1 : Method := { name := "clone", desc := "()Ljava/lang/Object;", sig := { parameters := [], returnType := some (.object "java/lang/Object") }, accessFlags := 260, code := none }
/-- java/lang/Object -/
def k0 : Class := { plain "java/lang/Object" none with
  accessFlags := 33
  interfaces := #[]
  cf := some (fileOf pool0 8 #[] #[{ accessFlags := 1, nameIndex := 5, descriptorIndex := 6, attributes := #[] }, { accessFlags := 260, nameIndex := 96, descriptorIndex := 97, attributes := #[] }] 33 0 #[] #[])
  fields := #[]
  methods := #[k0m0, k0m1]
  instanceTypes := #[]
  staticTypes := #[]
  resolved := Array.replicate 124 none
  statics := none }

def pool1 : Array CpInfo := pool [(2, .class_ 4), (1, u "java/lang/Object"), (0, u "<init>"), (0, u "()V"), (0, .fieldref 8 9), (0, .class_ 10), (0, .nameAndType 11 12), (0, u "com/example/danaid/danaid/io/ElementType"), (0, u "STRING"), (0, u "Lcom/example/danaid/danaid/io/ElementType;"), (0, .fieldref 8 14), (0, .nameAndType 15 12), (0, u "LONG"), (0, .fieldref 8 17), (0, .nameAndType 18 12), (0, u "INT"), (0, .fieldref 8 20), (0, .nameAndType 21 12), (0, u "BYTE_ARRAY"), (0, .fieldref 8 23), (0, .nameAndType 24 12), (0, u "CUSTOM"), (0, .integer 2147483647), (0, .methodref 27 28), (0, .class_ 29), (0, .nameAndType 30 31), (0, u "com/example/danaid/danaid/io/ElementTypeForCodePinLaw"), (0, u "pick"), (0, u "(I)Lcom/example/danaid/danaid/io/ElementType;"), (0, .methodref 8 33), (0, .nameAndType 34 31), (0, u "forCode"), (0, .methodref 27 36), (0, .nameAndType 37 31), (0, u "expected"), (0, .methodref 8 39), (0, .nameAndType 40 41), (0, u "code"), (0, u "()I"), (3, u "law"), (0, u "(II)Z")] 2

def k1m0 : Method := { name := "<init>", desc := "()V", sig := { parameters := [], returnType := none }, accessFlags := 2, code := none }
def k1c1 : Code := { maxStack := 2, maxLocals := 1, code := method_2_code, exceptionTable := #[], attributes := #[] }
def k1m1 : Method := { name := "expected", desc := "(I)Lcom/example/danaid/danaid/io/ElementType;", sig := { parameters := [.int], returnType := some (.object "com/example/danaid/danaid/io/ElementType") }, accessFlags := 10, code := some k1c1 }
def k1c2 : Code := { maxStack := 2, maxLocals := 2, code := method_3_code, exceptionTable := #[], attributes := #[] }
def k1m2 : Method := { name := "pick", desc := "(I)Lcom/example/danaid/danaid/io/ElementType;", sig := { parameters := [.int], returnType := some (.object "com/example/danaid/danaid/io/ElementType") }, accessFlags := 10, code := some k1c2 }
def k1c3 : Code := { maxStack := 2, maxLocals := 7, code := code, exceptionTable := #[], attributes := #[] }
def k1m3 : Method := { name := "law", desc := "(II)Z", sig := { parameters := [.int, .int], returnType := some .boolean }, accessFlags := 9, code := some k1c3 }
/-- com/example/danaid/danaid/io/ElementTypeForCodePinLaw -/
def k1 : Class := { plain "com/example/danaid/danaid/io/ElementTypeForCodePinLaw" (some 0) with
  accessFlags := 49
  interfaces := #[]
  cf := some (fileOf pool1 27 #[] #[{ accessFlags := 2, nameIndex := 5, descriptorIndex := 6, attributes := #[] }, { accessFlags := 10, nameIndex := 37, descriptorIndex := 31, attributes := #[] }, { accessFlags := 10, nameIndex := 30, descriptorIndex := 31, attributes := #[] }, { accessFlags := 9, nameIndex := 45, descriptorIndex := 46, attributes := #[] }] 49 2 #[] #[])
  fields := #[]
  methods := #[k1m0, k1m1, k1m2, k1m3]
  instanceTypes := #[]
  staticTypes := #[]
  resolved := Array.replicate 49 none
  statics := none }

def pool2 : Array CpInfo := pool [(1, .class_ 2), (0, u "java/lang/constant/Constable"), (0, .class_ 4), (0, u "java/lang/Object")] 6

/-- java/lang/constant/Constable -/
def k2 : Class := { plain "java/lang/constant/Constable" (some 0) with
  accessFlags := 1537
  interfaces := #[]
  cf := some (fileOf pool2 1 #[] #[] 1537 3 #[] #[])
  fields := #[]
  methods := #[]
  instanceTypes := #[]
  staticTypes := #[]
  resolved := Array.replicate 11 none
  statics := none }

def pool3 : Array CpInfo := pool [(1, .class_ 2), (0, u "java/lang/Comparable"), (0, .class_ 4), (0, u "java/lang/Object")] 7

/-- java/lang/Comparable -/
def k3 : Class := { plain "java/lang/Comparable" (some 0) with
  accessFlags := 1537
  interfaces := #[]
  cf := some (fileOf pool3 1 #[] #[] 1537 3 #[] #[])
  fields := #[]
  methods := #[]
  instanceTypes := #[]
  staticTypes := #[]
  resolved := Array.replicate 12 none
  statics := none }

def pool4 : Array CpInfo := pool [(1, .class_ 2), (0, u "java/io/Serializable"), (0, .class_ 4), (0, u "java/lang/Object")] 2

/-- java/io/Serializable -/
def k4 : Class := { plain "java/io/Serializable" (some 0) with
  accessFlags := 1537
  interfaces := #[]
  cf := some (fileOf pool4 1 #[] #[] 1537 3 #[] #[])
  fields := #[]
  methods := #[]
  instanceTypes := #[]
  staticTypes := #[]
  resolved := Array.replicate 7 none
  statics := none }

def pool5 : Array CpInfo := pool [(2, .class_ 4), (1, u "java/lang/Enum"), (0, u "name"), (0, u "Ljava/lang/String;"), (2, u "ordinal"), (0, u "I"), (1, .class_ 14), (1, u "java/lang/Object"), (4, u "hash"), (86, .class_ 108), (1, u "java/lang/Enum$EnumDesc"), (2, .class_ 112), (0, u "java/lang/constant/Constable"), (0, .class_ 114), (0, u "java/lang/Comparable"), (0, .class_ 116), (0, u "java/io/Serializable")] 87

/-- java/lang/Enum -/
def k5 : Class := { plain "java/lang/Enum" (some 0) with
  accessFlags := 1057
  interfaces := #[2, 3, 4]
  cf := some (fileOf pool5 2 #[.nestMembers #[106]] #[] 1057 12 #[111, 113, 115] #[{ accessFlags := 18, nameIndex := 5, descriptorIndex := 6, attributes := #[] }, { accessFlags := 18, nameIndex := 9, descriptorIndex := 10, attributes := #[] }, { accessFlags := 2, nameIndex := 19, descriptorIndex := 10, attributes := #[] }])
  fields := #[{ name := "name", type := (.object "java/lang/String"), accessFlags := 18, slot := 0, constantValue := 0 }, { name := "ordinal", type := .int, accessFlags := 18, slot := 1, constantValue := 0 }, { name := "hash", type := .int, accessFlags := 2, slot := 2, constantValue := 0 }]
  methods := #[]
  instanceTypes := #[(.object "java/lang/String"), .int, .int]
  staticTypes := #[]
  resolved := Array.replicate 204 none
  statics := none }

def pool6 : Array CpInfo := pool [(1, .class_ 2), (0, u "com/example/danaid/danaid/io/ElementType"), (2, u "STRING"), (0, u "Lcom/example/danaid/danaid/io/ElementType;"), (2, u "LONG"), (2, u "INT"), (2, u "BYTE_ARRAY"), (2, u "CUSTOM"), (0, .fieldref 1 20), (0, .nameAndType 21 22), (0, u "$VALUES"), (0, u "[Lcom/example/danaid/danaid/io/ElementType;"), (0, .methodref 24 25), (0, .class_ 22), (0, .nameAndType 26 27), (0, u "clone"), (0, u "()Ljava/lang/Object;"), (1, .class_ 31), (1, u "java/lang/Enum"), (6, .fieldref 1 39), (0, .nameAndType 40 41), (0, u "code"), (0, u "I"), (0, .methodref 1 43), (0, .nameAndType 44 45), (0, u "values"), (0, u "()[Lcom/example/danaid/danaid/io/ElementType;"), (17, u "()I"), (0, u "forCode"), (0, u "(I)Lcom/example/danaid/danaid/io/ElementType;")] 6

def k6c0 : Code := { maxStack := 1, maxLocals := 0, code := prog_13_method_1_code, exceptionTable := #[], attributes := #[] }
def k6m0 : Method := { name := "values", desc := "()[Lcom/example/danaid/danaid/io/ElementType;", sig := { parameters := [], returnType := some (.array (.object "com/example/danaid/danaid/io/ElementType")) }, accessFlags := 9, code := some k6c0 }
def k6c1 : Code := { maxStack := 1, maxLocals := 1, code := prog_13_method_4_code, exceptionTable := #[], attributes := #[] }
def k6m1 : Method := { name := "code", desc := "()I", sig := { parameters := [], returnType := some .int }, accessFlags := 1, code := some k6c1 }
def k6c2 : Code := { maxStack := 2, maxLocals := 5, code := prog_13_method_5_code, exceptionTable := #[], attributes := #[] }
def k6m2 : Method := { name := "forCode", desc := "(I)Lcom/example/danaid/danaid/io/ElementType;", sig := { parameters := [.int], returnType := some (.object "com/example/danaid/danaid/io/ElementType") }, accessFlags := 8, code := some k6c2 }
/-- com/example/danaid/danaid/io/ElementType -/
def k6 : Class := { plain "com/example/danaid/danaid/io/ElementType" (some 5) with
  accessFlags := 16433
  interfaces := #[]
  cf := some (fileOf pool6 1 #[] #[{ accessFlags := 9, nameIndex := 44, descriptorIndex := 45, attributes := #[] }, { accessFlags := 1, nameIndex := 40, descriptorIndex := 63, attributes := #[] }, { accessFlags := 8, nameIndex := 64, descriptorIndex := 65, attributes := #[] }] 16433 29 #[] #[{ accessFlags := 16409, nameIndex := 5, descriptorIndex := 6, attributes := #[] }, { accessFlags := 16409, nameIndex := 9, descriptorIndex := 6, attributes := #[] }, { accessFlags := 16409, nameIndex := 12, descriptorIndex := 6, attributes := #[] }, { accessFlags := 16409, nameIndex := 15, descriptorIndex := 6, attributes := #[] }, { accessFlags := 16409, nameIndex := 18, descriptorIndex := 6, attributes := #[] }, { accessFlags := 18, nameIndex := 40, descriptorIndex := 41, attributes := #[] }, { accessFlags := 4122, nameIndex := 21, descriptorIndex := 22, attributes := #[] }])
  fields := #[{ name := "STRING", type := (.object "com/example/danaid/danaid/io/ElementType"), accessFlags := 16409, slot := 0, constantValue := 0 }, { name := "LONG", type := (.object "com/example/danaid/danaid/io/ElementType"), accessFlags := 16409, slot := 1, constantValue := 0 }, { name := "INT", type := (.object "com/example/danaid/danaid/io/ElementType"), accessFlags := 16409, slot := 2, constantValue := 0 }, { name := "BYTE_ARRAY", type := (.object "com/example/danaid/danaid/io/ElementType"), accessFlags := 16409, slot := 3, constantValue := 0 }, { name := "CUSTOM", type := (.object "com/example/danaid/danaid/io/ElementType"), accessFlags := 16409, slot := 4, constantValue := 0 }, { name := "code", type := .int, accessFlags := 18, slot := 3, constantValue := 0 }, { name := "$VALUES", type := (.array (.object "com/example/danaid/danaid/io/ElementType")), accessFlags := 4122, slot := 5, constantValue := 0 }]
  methods := #[k6m0, k6m1, k6m2]
  instanceTypes := #[(.object "java/lang/String"), .int, .int, .int]
  staticTypes := #[(.object "com/example/danaid/danaid/io/ElementType"), (.object "com/example/danaid/danaid/io/ElementType"), (.object "com/example/danaid/danaid/io/ElementType"), (.object "com/example/danaid/danaid/io/ElementType"), (.object "com/example/danaid/danaid/io/ElementType"), (.array (.object "com/example/danaid/danaid/io/ElementType"))]
  resolved := Array.replicate 72 none
  statics := some 0 }

def pool7 : Array CpInfo := pool [(1, .class_ 2), (0, u "java/lang/Cloneable"), (0, .class_ 4), (0, u "java/lang/Object")] 2

/-- java/lang/Cloneable -/
def k7 : Class := { plain "java/lang/Cloneable" (some 0) with
  accessFlags := 1537
  interfaces := #[]
  cf := some (fileOf pool7 1 #[] #[] 1537 3 #[] #[])
  fields := #[]
  methods := #[]
  instanceTypes := #[]
  staticTypes := #[]
  resolved := Array.replicate 7 none
  statics := none }

/-- the primitive byte -/
def k8 : Class := { plain "byte" none with kind := .primitive 'B', accessFlags := 0x411 }
/-- [B -/
def k9 : Class := { plain "[B" (some 0) with kind := .array 8 .byte, interfaces := #[7, 4], accessFlags := 1041 }

/-- the primitive int -/
def k10 : Class := { plain "int" none with kind := .primitive 'I', accessFlags := 0x411 }
/-- [I -/
def k11 : Class := { plain "[I" (some 0) with kind := .array 10 .int, interfaces := #[7, 4], accessFlags := 1041 }

/-- [Lcom/example/danaid/danaid/io/ElementType; -/
def k12 : Class := { plain "[Lcom/example/danaid/danaid/io/ElementType;" (some 0) with kind := .array 6 (.object "com/example/danaid/danaid/io/ElementType"), interfaces := #[7, 4], accessFlags := 1041 }

def heap : Heap := #[{ cls := 6, slots := #[.ref 2, .ref 3, .ref 4, .ref 5, .ref 6, .ref 1], vm := .statics 6 },
  { cls := 12, slots := #[.ref 2, .ref 3, .ref 4, .ref 5, .ref 6], vm := .none },
  { cls := 6, slots := #[.null, .int 0, .int 0, .int 1], vm := .none },
  { cls := 6, slots := #[.null, .int 1, .int 0, .int 2], vm := .none },
  { cls := 6, slots := #[.null, .int 2, .int 0, .int 3], vm := .none },
  { cls := 6, slots := #[.null, .int 3, .int 0, .int 4], vm := .none },
  { cls := 6, slots := #[.null, .int 4, .int 0, .int 5], vm := .none }]
def classes : Array Class := #[k0, k1, k2, k3, k4, k5, k6, k7, k8, k9, k10, k11, k12]
def interned : List (Array UInt16 × Addr) := []
def slotsUsed : Nat := 31
def theMethod : MethodId := ⟨1, 3⟩
def args0 : Array Value := #[.int 5, .int 7]
def aboutOver (below : List Frame) : State where
  vm := { classes := classes, interned := interned.toArray }
  heap := heap
  slotsUsed := slotsUsed
  threads := #[{ frames := .invoking theMethod args0 :: below }]
def below0 : List Frame := [.native { method := ⟨0, 0⟩, args := #[] }]
def about1 : State := aboutOver below0
def p0 : Program := .bare "" "" ""
def e0 : Env := launch0.env 0 0 0
theorem w_frames : about1.frames = Frame.invoking theMethod args0 :: below0 := rfl
set_option maxRecDepth 65536 in
theorem w_args : argsFit about1.vm theMethod args0 = true := by decide +kernel
set_option maxRecDepth 65536 in
theorem w_heap : heapFits about1 = true := by decide +kernel
set_option maxRecDepth 65536 in
theorem w_runnable : about1.curStatus? = some .runnable := by decide +kernel
set_option maxRecDepth 65536 in
theorem w_alone : about1.alone = true := by decide +kernel
set_option maxRecDepth 65536 in
theorem w_named : about1.methodNamed? x = some theMethod := by decide +kernel
set_option maxRecDepth 65536 in
theorem w_hears : about1.hears theMethod below0 = true := by decide +kernel
set_option maxRecDepth 65536 in
theorem w_ripe : about1.ripe theMethod args0 below0 = true := by decide +kernel
theorem w_running : about1.status = .running := rfl
set_option maxRecDepth 65536 in
theorem w_room : about1.hasRoom e0.platform room_1 = true :=
  launch0.hasRoom_least _ room_1 (by decide +kernel) (by decide +kernel) (by decide +kernel) (by decide +kernel) (by decide +kernel) (by decide +kernel)
theorem allAtoms_all (ts : List Jvm.Cond) (a : Array Jvm.Value) (st : Jvm.State) : (allAtoms ts).before a st = ts.all (fun c => c.before a st) := by
  induction ts with
  | nil => rfl
  | cons c t ih =>
    show (Jvm.Cond.and c (allAtoms t)).before a st = _
    rw [Jvm.Cond.before_and, ih, List.all_cons]
def words1 : List Jvm.Cond := Jvm.Cond.code x code maxLocals ret :: tables_1
/-- a 'code' word, met by the world's own term for the bytes: nothing is compared byte by byte -/
theorem code_word {y : MethodName} {bytes : ByteArray} {mx : Nat} {rt : Option FieldType} {a : Array Value} {s : State} {m : MethodId} {meth : Method} {c : Code} (h1 : s.methodNamed? y = some m) (h2 : s.vm.method? m = some meth) (h3 : meth.code = some c) (h4 : c.code = bytes)
    (h5 : (c.maxLocals == mx && c.exceptionTable.isEmpty && decide (c.maxStack ≤ mostOperands) && decide (meth.sig.returnType = rt) && !meth.locks && decide (parseMethodDescriptor y.desc = some meth.sig)) = true) : (Jvm.Cond.code y bytes mx rt).before a s = true := by
  simp only [Bool.and_eq_true, beq_iff_eq, Bool.not_eq_true', decide_eq_true_eq] at h5
  obtain ⟨⟨⟨⟨⟨g1, g2⟩, g3⟩, g4⟩, g5⟩, g6⟩ := h5
  simp [Cond.before, Cond.holds, Cond.value, h1, h2, h3, h4, g1, g2, g3, g4, g5, g6]
def isCode : Jvm.Cond → Bool
  | .code _ _ _ _ => true
  | _ => false
theorem all_split {L : List Jvm.Cond} {P : Jvm.Cond → Bool} (h1 : L.all (fun c => isCode c || P c) = true) (h2 : ∀ c ∈ L.filter isCode, P c = true) : L.all P = true := by
  refine List.all_eq_true.mpr fun c hc => ?_
  have h := List.all_eq_true.mp h1 c hc
  rcases Bool.eq_false_or_eq_true (isCode c) with hi | hi
  · exact h2 c (List.mem_filter.mpr ⟨hc, hi⟩)
  · simpa [hi] using h
set_option maxRecDepth 65536 in
theorem w_c0 : (Jvm.Cond.code x code maxLocals ret).before args0 about1 = true := code_word (m := ⟨1, 3⟩) (meth := k1m3) (c := k1c3) (by decide +kernel) rfl rfl rfl (by decide +kernel)
set_option maxRecDepth 65536 in
theorem w_c1 : (Jvm.Cond.code ({ cls := "com/example/danaid/danaid/io/ElementTypeForCodePinLaw", name := "pick", desc := "(I)Lcom/example/danaid/danaid/io/ElementType;" } : Jvm.MethodName) method_3_code (2 : Nat) (Option.some (Jvm.ClassFile.FieldType.object "com/example/danaid/danaid/io/ElementType"))).before args0 about1 = true := code_word (m := ⟨1, 2⟩) (meth := k1m2) (c := k1c2) (by decide +kernel) rfl rfl rfl (by decide +kernel)
set_option maxRecDepth 65536 in
theorem w_c2 : (Jvm.Cond.code ({ cls := "com/example/danaid/danaid/io/ElementType", name := "forCode", desc := "(I)Lcom/example/danaid/danaid/io/ElementType;" } : Jvm.MethodName) prog_13_method_5_code (5 : Nat) (Option.some (Jvm.ClassFile.FieldType.object "com/example/danaid/danaid/io/ElementType"))).before args0 about1 = true := code_word (m := ⟨6, 2⟩) (meth := k6m2) (c := k6c2) (by decide +kernel) rfl rfl rfl (by decide +kernel)
set_option maxRecDepth 65536 in
theorem w_c3 : (Jvm.Cond.code ({ cls := "com/example/danaid/danaid/io/ElementType", name := "values", desc := "()[Lcom/example/danaid/danaid/io/ElementType;" } : Jvm.MethodName) prog_13_method_1_code (0 : Nat) (Option.some (Jvm.ClassFile.FieldType.array (Jvm.ClassFile.FieldType.object "com/example/danaid/danaid/io/ElementType")))).before args0 about1 = true := code_word (m := ⟨6, 0⟩) (meth := k6m0) (c := k6c0) (by decide +kernel) rfl rfl rfl (by decide +kernel)
set_option maxRecDepth 65536 in
theorem w_c4 : (Jvm.Cond.code ({ cls := "com/example/danaid/danaid/io/ElementTypeForCodePinLaw", name := "expected", desc := "(I)Lcom/example/danaid/danaid/io/ElementType;" } : Jvm.MethodName) method_2_code (1 : Nat) (Option.some (Jvm.ClassFile.FieldType.object "com/example/danaid/danaid/io/ElementType"))).before args0 about1 = true := code_word (m := ⟨1, 1⟩) (meth := k1m1) (c := k1c1) (by decide +kernel) rfl rfl rfl (by decide +kernel)
set_option maxRecDepth 65536 in
theorem w_c5 : (Jvm.Cond.code ({ cls := "com/example/danaid/danaid/io/ElementType", name := "code", desc := "()I" } : Jvm.MethodName) prog_13_method_4_code (1 : Nat) (Option.some Jvm.ClassFile.FieldType.int)).before args0 about1 = true := code_word (m := ⟨6, 1⟩) (meth := k6m1) (c := k6c1) (by decide +kernel) rfl rfl rfl (by decide +kernel)
def codes1 : List Jvm.Cond := [Jvm.Cond.code x code maxLocals ret, Jvm.Cond.code ({ cls := "com/example/danaid/danaid/io/ElementTypeForCodePinLaw", name := "pick", desc := "(I)Lcom/example/danaid/danaid/io/ElementType;" } : Jvm.MethodName) method_3_code (2 : Nat) (Option.some (Jvm.ClassFile.FieldType.object "com/example/danaid/danaid/io/ElementType")), Jvm.Cond.code ({ cls := "com/example/danaid/danaid/io/ElementType", name := "forCode", desc := "(I)Lcom/example/danaid/danaid/io/ElementType;" } : Jvm.MethodName) prog_13_method_5_code (5 : Nat) (Option.some (Jvm.ClassFile.FieldType.object "com/example/danaid/danaid/io/ElementType")), Jvm.Cond.code ({ cls := "com/example/danaid/danaid/io/ElementType", name := "values", desc := "()[Lcom/example/danaid/danaid/io/ElementType;" } : Jvm.MethodName) prog_13_method_1_code (0 : Nat) (Option.some (Jvm.ClassFile.FieldType.array (Jvm.ClassFile.FieldType.object "com/example/danaid/danaid/io/ElementType"))), Jvm.Cond.code ({ cls := "com/example/danaid/danaid/io/ElementTypeForCodePinLaw", name := "expected", desc := "(I)Lcom/example/danaid/danaid/io/ElementType;" } : Jvm.MethodName) method_2_code (1 : Nat) (Option.some (Jvm.ClassFile.FieldType.object "com/example/danaid/danaid/io/ElementType")), Jvm.Cond.code ({ cls := "com/example/danaid/danaid/io/ElementType", name := "code", desc := "()I" } : Jvm.MethodName) prog_13_method_4_code (1 : Nat) (Option.some Jvm.ClassFile.FieldType.int)]
set_option maxRecDepth 65536 in
theorem codes_eq : words1.filter isCode = codes1 := rfl
theorem w_codes : ∀ c ∈ words1.filter isCode, c.before args0 about1 = true := by
  rw [codes_eq]
  intro c hc
  simp only [codes1, List.mem_cons, List.not_mem_nil, or_false] at hc
  rcases hc with rfl | rfl | rfl | rfl | rfl | rfl
  · exact w_c0
  · exact w_c1
  · exact w_c2
  · exact w_c3
  · exact w_c4
  · exact w_c5
set_option maxRecDepth 65536 in
theorem w_t1 : (words1.take 24).all (fun c => isCode c || c.before args0 about1) = true := by decide +kernel
set_option maxRecDepth 65536 in
theorem w_t2 : (words1.drop 24).all (fun c => isCode c || c.before args0 about1) = true := by decide +kernel
theorem w_tables : (allAtoms (Jvm.Cond.code x code maxLocals ret :: tables_1)).before args0 about1 = true := by
  rw [allAtoms_all]
  show words1.all (fun c => c.before args0 about1) = true
  refine all_split ?_ w_codes
  rw [← List.take_append_drop 24 words1, List.all_append, w_t1, w_t2]
  rfl
set_option maxRecDepth 65536 in
theorem w_case : (Jvm.Cond.and given_1 narrow_1).before args0 about1 = true := by decide +kernel
theorem w_applies : (headSpec (Jvm.Cond.code x code maxLocals ret :: tables_1) room_1).applies x e0.platform about1 = true :=
  (Spec.applies_iff w_frames).mpr ⟨w_running, w_runnable, w_alone, w_named, w_hears, w_ripe, w_room, w_tables⟩
theorem atStart : AtStart classFile x code maxLocals ret World_1 tables_1 room_1 Calls_1 rest_1 Pre_1 launch0 p0 e0 about1 theMethod args0 below0 :=
  ⟨lists_1, trivial, launch0.admits_env _ _ _, launch0.least_env, fairChoices_fair.cas, fairChoices_fair.clock, w_frames, w_args, w_heap, w_applies, trivial, trivial, w_case⟩
end start1
theorem witness_1 : WitnessClaimed_1 := ⟨start1.p0, start1.e0, start1.about1, start1.theMethod, start1.args0, start1.below0, start1.atStart⟩
end Jvm.Pilot.@@N@@
