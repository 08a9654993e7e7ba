import JvmDerived
import JvmDerived.Pilot.@@N@@Statement
import JvmDerived.Pilot.@@N@@Code
set_option linter.unusedVariables false
set_option linter.unusedSimpArgs false
@@BLOCK:NumsL.lean.txt@@
namespace Jvm.Pilot.@@N@@
open Jvm Jvm.ClassFile Sem Op Lib Jvm.Free Jvm.Stand Jvm.LawKit Jvm.RoadKit Bundle Jvm.Pilot.@@N@@.Jvm.D
/-- from the state T with the frame g the run comes to an end that P speaks of -/
def own_Goes (tb : Tables) (e : Env) (below : List Frame) (P : Outcome → State → Prop) (T : State) (g : JFrame) : Prop :=
  ∃ s₂ o, Steps tb e below (T.setTop g) s₂ ∧ s₂.status = .running ∧ Ended s₂ below o ∧ P o s₂
theorem own_Goes.via {tb : Tables} {e : Env} {below : List Frame} {P : Outcome → State → Prop} {T T' : State} {g g' : JFrame} (h : ∀ t, Steps tb e below (T'.setTop g') t → Steps tb e below (T.setTop g) t) (k : own_Goes tb e below P T' g') : own_Goes tb e below P T g := by
  obtain ⟨s₂, o, a, b⟩ := k
  exact ⟨s₂, o, h _ a, b⟩
theorem own_Goes.fin {tb : Tables} {e : Env} {below : List Frame} {P : Outcome → State → Prop} {T s₂ : State} {g : JFrame} {o : Outcome} (h1 : Steps tb e below (T.setTop g) s₂) (h2 : s₂.status = .running) (h3 : Ended s₂ below o) (h4 : P o s₂) : own_Goes tb e below P T g := ⟨s₂, o, h1, h2, h3, h4⟩
theorem own_ltT {x y : Int64} (h : x < y) : ifCond.holds .lt (lcmpW x y) = true ∧ ifCond.holds .ge (lcmpW x y) = false := by
  have q : lcmpW x y < 0 := by rw [lcW]; exact (lc_lt x y).mpr h
  exact ⟨(if0 _ _).trans (tlt q).1, (if0 _ _).trans (tlt q).2.1⟩
theorem own_ltF {x y : Int64} (h : ¬ x < y) : ifCond.holds .lt (lcmpW x y) = false ∧ ifCond.holds .ge (lcmpW x y) = true := by
  have q : ¬ lcmpW x y < 0 := by rw [lcW]; exact fun z => h ((lc_lt x y).mp z)
  exact ⟨(if0 _ _).trans (flt q).1, (if0 _ _).trans (flt q).2.1⟩
theorem own_gtT {x y : Int64} (h : y < x) : ifCond.holds .gt (lcmpW x y) = true ∧ ifCond.holds .le (lcmpW x y) = false := by
  have q : 0 < lcmpW x y := by rw [lcW]; exact (lc_gt x y).mpr h
  exact ⟨(if0 _ _).trans (tlt q).2.2.1, (if0 _ _).trans (tlt q).2.2.2⟩
theorem own_gtF {x y : Int64} (h : ¬ y < x) : ifCond.holds .gt (lcmpW x y) = false ∧ ifCond.holds .le (lcmpW x y) = true := by
  have q : ¬ 0 < lcmpW x y := by rw [lcW]; exact fun z => h ((lc_gt x y).mp z)
  exact ⟨(if0 _ _).trans (flt q).2.2.1, (if0 _ _).trans (flt q).2.2.2⟩
theorem own_eqT {x y : Int64} (h : x = y) : ifCond.holds .eq (lcmpW x y) = true ∧ ifCond.holds .ne (lcmpW x y) = false := by
  have q : lcmpW x y = 0 := by rw [lcW]; exact (lc_eq x y).mpr h
  exact ⟨(if0 _ _).trans (teq q).1, (if0 _ _).trans (teq q).2⟩
theorem own_eqF {x y : Int64} (h : ¬ x = y) : ifCond.holds .eq (lcmpW x y) = false ∧ ifCond.holds .ne (lcmpW x y) = true := by
  have q : ¬ lcmpW x y = 0 := by rw [lcW]; exact fun z => h ((lc_eq x y).mp z)
  exact ⟨(if0 _ _).trans (feq q).1, (if0 _ _).trans (feq q).2⟩
theorem own_lrem (x y : Int64) : x - (x / y) * y = x % y := Int64.toInt_inj.mp (by rw [Jvm.Kit.i64_rem, Int64.toInt_mod])
theorem own_wS {Z : State} {a0 : Array Value} (hw : ∀ d ∈ tables_1, d.before a0 Z = true) : ∀ a ∈ Bundle.stringAtoms, a.before a0 Z = true := fun d hd => by
  simp only [Bundle.stringAtoms, List.mem_cons, List.not_mem_nil, or_false] at hd
  rcases hd with rfl | rfl | rfl | rfl | rfl | rfl | rfl
  · exact (hw _ (List.mem_of_getElem? (i := 42) rfl))
  · exact (hw _ (List.mem_of_getElem? (i := 43) rfl))
  · exact (hw _ (List.mem_of_getElem? (i := 0) rfl))
  · exact (hw _ (List.mem_of_getElem? (i := 44) rfl))
  · exact (hw _ (List.mem_of_getElem? (i := 45) rfl))
  · exact (hw _ (List.mem_of_getElem? (i := 46) rfl))
  · exact (hw _ (List.mem_of_getElem? (i := 47) rfl))
theorem own_neg {x : Int32} (h : 0 ≤ x.toInt) : ¬ x < 0 := by
  rw [Int32.lt_iff_toInt_lt]
  have z : (0 : Int32).toInt = 0 := rfl
  omega
theorem own_cap {x : Int32} {n : Nat} (h : x.toInt ≤ n) : x.toNatClampNeg ≤ n := by
  show x.toInt.toNat ≤ n
  omega
theorem own_m31 (x : Int32) : 0 ≤ (x &&& (31 : Int32)).toInt ∧ (x &&& (31 : Int32)).toInt ≤ 31 := by
  have m := Jvm.Kit.i32_mask x (31 : Int32) (k := 5) (by decide) (by decide)
  rw [m]; omega
theorem own_m3 (x : Int32) : 0 ≤ (x &&& (3 : Int32)).toInt ∧ (x &&& (3 : Int32)).toInt ≤ 3 := by
  have m := Jvm.Kit.i32_mask x (3 : Int32) (k := 2) (by decide) (by decide)
  rw [m]; omega
theorem d2_0 : decode prog_19_method_2_code 0 = .ok (.aload_n 0, 1) := by decide +kernel
theorem d2_1 : decode prog_19_method_2_code 1 = .ok (.invokespecial 13, 3) := by decide +kernel
theorem d2_4 : decode prog_19_method_2_code 4 = .ok (.aload_n 0, 1) := by decide +kernel
theorem d2_5 : decode prog_19_method_2_code 5 = .ok (.aload_n 1, 1) := by decide +kernel
theorem d2_6 : decode prog_19_method_2_code 6 = .ok (.putfield 18, 3) := by decide +kernel
theorem d2_9 : decode prog_19_method_2_code 9 = .ok (.aload_n 0, 1) := by decide +kernel
theorem d2_10 : decode prog_19_method_2_code 10 = .ok (.aload_n 2, 1) := by decide +kernel
theorem d2_11 : decode prog_19_method_2_code 11 = .ok (.putfield 21, 3) := by decide +kernel
theorem d2_14 : decode prog_19_method_2_code 14 = .ok (.aload_n 0, 1) := by decide +kernel
theorem d2_15 : decode prog_19_method_2_code 15 = .ok (.aload_n 3, 1) := by decide +kernel
theorem d2_16 : decode prog_19_method_2_code 16 = .ok (.putfield 24, 3) := by decide +kernel
theorem d2_19 : decode prog_19_method_2_code 19 = .ok (.aload_n 0, 1) := by decide +kernel
theorem d2_20 : decode prog_19_method_2_code 20 = .ok (.aload 4, 2) := by decide +kernel
theorem d2_22 : decode prog_19_method_2_code 22 = .ok (.putfield 27, 3) := by decide +kernel
theorem d2_25 : decode prog_19_method_2_code 25 = .ok (.aload_n 0, 1) := by decide +kernel
theorem d2_26 : decode prog_19_method_2_code 26 = .ok (.lload 5, 2) := by decide +kernel
theorem d2_28 : decode prog_19_method_2_code 28 = .ok (.putfield 30, 3) := by decide +kernel
theorem d2_31 : decode prog_19_method_2_code 31 = .ok (.aload_n 0, 1) := by decide +kernel
theorem d2_32 : decode prog_19_method_2_code 32 = .ok (.iload 7, 2) := by decide +kernel
theorem d2_34 : decode prog_19_method_2_code 34 = .ok (.putfield 34, 3) := by decide +kernel
theorem d2_37 : decode prog_19_method_2_code 37 = .ok (.return_, 1) := by decide +kernel
theorem pn_2 : plainName "com/example/keysweep/keysweep/Key" = true := by first | (simp [plainName, overriddenIn]; done) | decide +kernel
theorem ef_2 (m : MethodId) (ao : Addr) (ar : Addr) (af : Addr) (aq : Addr) (av : Addr) (xt : Int64) (xd : Int32) : entryFrame m #[(.ref ao), (.ref ar), (.ref af), (.ref aq), (.ref av), (.long xt), (.int xd)] 8 = mkF m 0 #[.val (.ref ao), .val (.ref ar), .val (.ref af), .val (.ref aq), .val (.ref av), .val (.long xt), .second, .val (.int xd)] [] := by first | (simp [entryFrame, mkF, argsToLocals, Value.category]; done) | rfl
def Q2 (Z : State) (ao : Addr) (ar : Addr) (af : Addr) (aq : Addr) (av : Addr) (xt : Int64) (xd : Int32) (h0 : Heap) (n0 : Nat) (v : Option Value) (h : Heap) (L : List Loc) : Prop := v = none ∧ Fr n0 L ∧ Keep h0 h [ao] ∧ Exa Z h ao "com/example/keysweep/keysweep/Key" ∧ Fld Z h ao "com/example/keysweep/keysweep/Key" "row" "[B" (.ref ar) ∧ Fld Z h ao "com/example/keysweep/keysweep/Key" "family" "[B" (.ref af) ∧ Fld Z h ao "com/example/keysweep/keysweep/Key" "qualifier" "[B" (.ref aq) ∧ Fld Z h ao "com/example/keysweep/keysweep/Key" "visibility" "[B" (.ref av) ∧ Fld Z h ao "com/example/keysweep/keysweep/Key" "timestamp" "J" (.long xt) ∧ Fld Z h ao "com/example/keysweep/keysweep/Key" "deleteMarker" "Z" (.int (nar .boolean xd))
set_option maxRecDepth 65536 in
set_option maxHeartbeats 40000000 in
theorem rm2 (l : Launch) (Z : State) (a0 : Array Value) (hw : ∀ d ∈ tables_1, d.before a0 Z = true) (ws : List Jvm.Cond) (ao : Addr) (ar : Addr) (af : Addr) (aq : Addr) (av : Addr) (xt : Int64) (xd : Int32) (h0 : Heap) (n0 : Nat) (Z0 : n0 ≤ h0.size) (PF0 : Exa Z h0 ao "com/example/keysweep/keysweep/Key") (PF1 : Fld Z h0 ao "com/example/keysweep/keysweep/Key" "row" "[B" .null) (PF2 : Fld Z h0 ao "com/example/keysweep/keysweep/Key" "family" "[B" .null) (PF3 : Fld Z h0 ao "com/example/keysweep/keysweep/Key" "qualifier" "[B" .null) (PF4 : Fld Z h0 ao "com/example/keysweep/keysweep/Key" "visibility" "[B" .null) (PF5 : Fld Z h0 ao "com/example/keysweep/keysweep/Key" "timestamp" "J" (.long (0 : Int64))) (PF6 : Fld Z h0 ao "com/example/keysweep/keysweep/Key" "deleteMarker" "Z" (.int (0 : Int32))) (ge_ao : n0 ≤ ao) :
    MetFree l (⟨"com/example/keysweep/keysweep/Key", "<init>", "([B[B[B[BJZ)V"⟩ : MethodName) (head1 (Jvm.Cond.code (⟨"com/example/keysweep/keysweep/Key", "<init>", "([B[B[B[BJZ)V"⟩ : MethodName) prog_19_method_2_code 8 none :: ws) ({ frames := 1, cells := 0, slots := 0, locals := 12 } : Room)) (fun a U => a = #[(.ref ao), (.ref ar), (.ref af), (.ref aq), (.ref av), (.long xt), (.int xd)] ∧ Z.Warmed39 U.vm ∧ U.heap = h0) (fun _ _ _ _ _ => True) (fun _ U o U' => ∃ v L, o = .returned v ∧ Q2 Z ao ar af aq av xt xd h0 n0 v U'.heap L ∧ FrameEnd U o U' L ({ frames := 1, cells := 0, slots := 0, locals := 12 } : Room).cells ({ frames := 1, cells := 0, slots := 0, locals := 12 } : Room).slots) := by
  refine MetFree.of_bodySF (plainFor_of_name pn_2) hisR ?_
  intro p e s m args below meth c s₁ Bd hml0 hP hK
  obtain ⟨rfl, hZ, hh⟩ := hP
  have hx := Bd.exec
  have hby := Bd.bytes
  have hml : c.maxLocals = 8 := hml0
  have hown : s.vm.findClass "com/example/keysweep/keysweep/Key" = some m.cls := findClass_of_methodNamed Bd.named
  have hnm := (name_of_methodNamed Bd.named Bd.method).1
  have X0 : Stand p l e ({ frames := 1, cells := 0, slots := 0, locals := 12 } : Room) s m #[(.ref ao), (.ref ar), (.ref af), (.ref aq), (.ref av), (.long xt), (.int xd)] below meth c s₁ [] 0 0 := Stand.of_body Bd
  have e0 : s₁.heap = h0 := by rw [← hh, Bd.state]; rfl
  have N0 := Fr.nil n0
  suffices G : own_Goes p.tables e below (fun o U' => ∃ v L, o = .returned v ∧ Q2 Z ao ar af aq av xt xd h0 n0 v U'.heap L ∧ FrameEnd s o U' L ({ frames := 1, cells := 0, slots := 0, locals := 12 } : Room).cells ({ frames := 1, cells := 0, slots := 0, locals := 12 } : Room).slots) s₁ (mkF m 0 #[.val (.ref ao), .val (.ref ar), .val (.ref af), .val (.ref aq), .val (.ref av), .val (.long xt), .second, .val (.int xd)] []) by
    obtain ⟨t2_, o2_, z1_, z2_, z3_, z4_⟩ := G
    exact ⟨t2_, o2_, castTop (ef_2 m ao ar af aq av xt xd) z1_, z2_, z3_, z4_⟩
  generalize hPd : (fun (o : Outcome) (U' : State) => ∃ v L, o = .returned v ∧ Q2 Z ao ar af aq av xt xd h0 n0 v U'.heap L ∧ FrameEnd s o U' L ({ frames := 1, cells := 0, slots := 0, locals := 12 } : Room).cells ({ frames := 1, cells := 0, slots := 0, locals := 12 } : Room).slots) = P
  refine own_Goes.via (T' := s₁) (g' := (mkF m 1 #[.val (.ref ao), .val (.ref ar), .val (.ref af), .val (.ref aq), .val (.ref av), .val (.long xt), .second, .val (.int xd)] [(.ref ao)])) (fun t_ k_ => XS.aloadN X0.here hx rfl (hb hby d2_0) rfl rfl k_) ?_
  obtain ⟨T1, X1, e1, st1⟩ := initO X0 hx hZ hown (hw _ (List.mem_of_getElem? (i := 19) rfl)) (hw _ (List.mem_of_getElem? (i := 20) rfl)) (hw _ (List.mem_of_getElem? (i := 21) rfl)) e0 (g := (mkF m 1 #[.val (.ref ao), .val (.ref ar), .val (.ref af), .val (.ref aq), .val (.ref av), .val (.long xt), .second, .val (.int xd)] [(.ref ao)])) rfl (by rw [hml]; rfl) rfl (hb hby d2_1) (by decide) (W := 0) (by show 2 * 0 + _ ≤ _; exact Nat.le_of_eq rfl) (by decide)
  refine own_Goes.via (T' := T1) (g' := (mkF m 4 #[.val (.ref ao), .val (.ref ar), .val (.ref af), .val (.ref aq), .val (.ref av), .val (.long xt), .second, .val (.int xd)] [])) (st1) ?_
  refine own_Goes.via (T' := T1) (g' := (mkF m 5 #[.val (.ref ao), .val (.ref ar), .val (.ref af), .val (.ref aq), .val (.ref av), .val (.long xt), .second, .val (.int xd)] [(.ref ao)])) (fun t_ k_ => XS.aloadN X1.here hx rfl (hb hby d2_4) rfl rfl k_) ?_
  refine own_Goes.via (T' := T1) (g' := (mkF m 6 #[.val (.ref ao), .val (.ref ar), .val (.ref af), .val (.ref aq), .val (.ref av), .val (.long xt), .second, .val (.int xd)] [(.ref ar), (.ref ao)])) (fun t_ k_ => XS.aloadN X1.here hx rfl (hb hby d2_5) rfl rfl k_) ?_
  obtain ⟨T2, h2, X2, e2, W2, st2⟩ := putF X1 hx hZ hown (host := "") (Or.inl (hw _ (List.mem_of_getElem? (i := 22) rfl))) Via.refl e1 PF1 PF0 (Or.inr ⟨(hw _ (List.mem_of_getElem? (i := 23) rfl)), rfl, hnm⟩) (hw _ (List.mem_of_getElem? (i := 2) rfl)) (ty := (.array .byte)) (by decide) rfl rfl (g := (mkF m 6 #[.val (.ref ao), .val (.ref ar), .val (.ref af), .val (.ref aq), .val (.ref av), .val (.long xt), .second, .val (.int xd)] [(.ref ar), (.ref ao)])) rfl rfl (hb hby d2_6)
  have E3 : Exa Z h2 ao "com/example/keysweep/keysweep/Key" := PF0.wr W2
  have F4 : Fld Z h2 ao "com/example/keysweep/keysweep/Key" "family" "[B" .null := PF2.other W2 (Or.inr (slot_ne (Or.inr (hw _ (List.mem_of_getElem? (i := 25) rfl))) (Or.inr (hw _ (List.mem_of_getElem? (i := 23) rfl))) (by decide) (t := (.array .byte)) (t' := (.array .byte)) (by decide) (by decide)))
  have F5 : Fld Z h2 ao "com/example/keysweep/keysweep/Key" "qualifier" "[B" .null := PF3.other W2 (Or.inr (slot_ne (Or.inr (hw _ (List.mem_of_getElem? (i := 27) rfl))) (Or.inr (hw _ (List.mem_of_getElem? (i := 23) rfl))) (by decide) (t := (.array .byte)) (t' := (.array .byte)) (by decide) (by decide)))
  have F6 : Fld Z h2 ao "com/example/keysweep/keysweep/Key" "visibility" "[B" .null := PF4.other W2 (Or.inr (slot_ne (Or.inr (hw _ (List.mem_of_getElem? (i := 29) rfl))) (Or.inr (hw _ (List.mem_of_getElem? (i := 23) rfl))) (by decide) (t := (.array .byte)) (t' := (.array .byte)) (by decide) (by decide)))
  have F7 : Fld Z h2 ao "com/example/keysweep/keysweep/Key" "timestamp" "J" (.long (0 : Int64)) := PF5.other W2 (Or.inr (slot_ne (Or.inr (hw _ (List.mem_of_getElem? (i := 31) rfl))) (Or.inr (hw _ (List.mem_of_getElem? (i := 23) rfl))) (by decide) (t := .long) (t' := (.array .byte)) (by decide) (by decide)))
  have F8 : Fld Z h2 ao "com/example/keysweep/keysweep/Key" "deleteMarker" "Z" (.int (0 : Int32)) := PF6.other W2 (Or.inr (slot_ne (Or.inr (hw _ (List.mem_of_getElem? (i := 33) rfl))) (Or.inr (hw _ (List.mem_of_getElem? (i := 23) rfl))) (by decide) (t := .boolean) (t' := (.array .byte)) (by decide) (by decide)))
  have F9 : Fld Z h2 ao "com/example/keysweep/keysweep/Key" "row" "[B" (.ref ar) := PF1.same W2
  have N2 := Fr.snoc X2 N0 ge_ao
  have sz2 : n0 ≤ h2.size := Nat.le_trans Z0 (Keep.of_wr W2).1
  have K2 : Keep h0 h2 [ao] := ((Keep.refl h0 [ao])).wr W2 (Or.inl (List.mem_of_getElem? (i := 0) rfl))
  refine own_Goes.via (T' := T2) (g' := (mkF m 9 #[.val (.ref ao), .val (.ref ar), .val (.ref af), .val (.ref aq), .val (.ref av), .val (.long xt), .second, .val (.int xd)] [])) (st2) ?_
  refine own_Goes.via (T' := T2) (g' := (mkF m 10 #[.val (.ref ao), .val (.ref ar), .val (.ref af), .val (.ref aq), .val (.ref av), .val (.long xt), .second, .val (.int xd)] [(.ref ao)])) (fun t_ k_ => XS.aloadN X2.here hx rfl (hb hby d2_9) rfl rfl k_) ?_
  refine own_Goes.via (T' := T2) (g' := (mkF m 11 #[.val (.ref ao), .val (.ref ar), .val (.ref af), .val (.ref aq), .val (.ref av), .val (.long xt), .second, .val (.int xd)] [(.ref af), (.ref ao)])) (fun t_ k_ => XS.aloadN X2.here hx rfl (hb hby d2_10) rfl rfl k_) ?_
  obtain ⟨T10, h10, X10, e10, W10, st10⟩ := putF X2 hx hZ hown (host := "") (Or.inl (hw _ (List.mem_of_getElem? (i := 24) rfl))) Via.refl e2 F4 E3 (Or.inr ⟨(hw _ (List.mem_of_getElem? (i := 25) rfl)), rfl, hnm⟩) (hw _ (List.mem_of_getElem? (i := 2) rfl)) (ty := (.array .byte)) (by decide) rfl rfl (g := (mkF m 11 #[.val (.ref ao), .val (.ref ar), .val (.ref af), .val (.ref aq), .val (.ref av), .val (.long xt), .second, .val (.int xd)] [(.ref af), (.ref ao)])) rfl rfl (hb hby d2_11)
  have E11 : Exa Z h10 ao "com/example/keysweep/keysweep/Key" := E3.wr W10
  have F12 : Fld Z h10 ao "com/example/keysweep/keysweep/Key" "qualifier" "[B" .null := F5.other W10 (Or.inr (slot_ne (Or.inr (hw _ (List.mem_of_getElem? (i := 27) rfl))) (Or.inr (hw _ (List.mem_of_getElem? (i := 25) rfl))) (by decide) (t := (.array .byte)) (t' := (.array .byte)) (by decide) (by decide)))
  have F13 : Fld Z h10 ao "com/example/keysweep/keysweep/Key" "visibility" "[B" .null := F6.other W10 (Or.inr (slot_ne (Or.inr (hw _ (List.mem_of_getElem? (i := 29) rfl))) (Or.inr (hw _ (List.mem_of_getElem? (i := 25) rfl))) (by decide) (t := (.array .byte)) (t' := (.array .byte)) (by decide) (by decide)))
  have F14 : Fld Z h10 ao "com/example/keysweep/keysweep/Key" "timestamp" "J" (.long (0 : Int64)) := F7.other W10 (Or.inr (slot_ne (Or.inr (hw _ (List.mem_of_getElem? (i := 31) rfl))) (Or.inr (hw _ (List.mem_of_getElem? (i := 25) rfl))) (by decide) (t := .long) (t' := (.array .byte)) (by decide) (by decide)))
  have F15 : Fld Z h10 ao "com/example/keysweep/keysweep/Key" "deleteMarker" "Z" (.int (0 : Int32)) := F8.other W10 (Or.inr (slot_ne (Or.inr (hw _ (List.mem_of_getElem? (i := 33) rfl))) (Or.inr (hw _ (List.mem_of_getElem? (i := 25) rfl))) (by decide) (t := .boolean) (t' := (.array .byte)) (by decide) (by decide)))
  have F16 : Fld Z h10 ao "com/example/keysweep/keysweep/Key" "row" "[B" (.ref ar) := F9.other W10 (Or.inr (slot_ne (Or.inr (hw _ (List.mem_of_getElem? (i := 23) rfl))) (Or.inr (hw _ (List.mem_of_getElem? (i := 25) rfl))) (by decide) (t := (.array .byte)) (t' := (.array .byte)) (by decide) (by decide)))
  have F17 : Fld Z h10 ao "com/example/keysweep/keysweep/Key" "family" "[B" (.ref af) := F4.same W10
  have N10 := Fr.snoc X10 N2 ge_ao
  have sz10 : n0 ≤ h10.size := Nat.le_trans sz2 (Keep.of_wr W10).1
  have K10 : Keep h0 h10 [ao] := (K2).wr W10 (Or.inl (List.mem_of_getElem? (i := 0) rfl))
  refine own_Goes.via (T' := T10) (g' := (mkF m 14 #[.val (.ref ao), .val (.ref ar), .val (.ref af), .val (.ref aq), .val (.ref av), .val (.long xt), .second, .val (.int xd)] [])) (st10) ?_
  refine own_Goes.via (T' := T10) (g' := (mkF m 15 #[.val (.ref ao), .val (.ref ar), .val (.ref af), .val (.ref aq), .val (.ref av), .val (.long xt), .second, .val (.int xd)] [(.ref ao)])) (fun t_ k_ => XS.aloadN X10.here hx rfl (hb hby d2_14) rfl rfl k_) ?_
  refine own_Goes.via (T' := T10) (g' := (mkF m 16 #[.val (.ref ao), .val (.ref ar), .val (.ref af), .val (.ref aq), .val (.ref av), .val (.long xt), .second, .val (.int xd)] [(.ref aq), (.ref ao)])) (fun t_ k_ => XS.aloadN X10.here hx rfl (hb hby d2_15) rfl rfl k_) ?_
  obtain ⟨T18, h18, X18, e18, W18, st18⟩ := putF X10 hx hZ hown (host := "") (Or.inl (hw _ (List.mem_of_getElem? (i := 26) rfl))) Via.refl e10 F12 E11 (Or.inr ⟨(hw _ (List.mem_of_getElem? (i := 27) rfl)), rfl, hnm⟩) (hw _ (List.mem_of_getElem? (i := 2) rfl)) (ty := (.array .byte)) (by decide) rfl rfl (g := (mkF m 16 #[.val (.ref ao), .val (.ref ar), .val (.ref af), .val (.ref aq), .val (.ref av), .val (.long xt), .second, .val (.int xd)] [(.ref aq), (.ref ao)])) rfl rfl (hb hby d2_16)
  have E19 : Exa Z h18 ao "com/example/keysweep/keysweep/Key" := E11.wr W18
  have F20 : Fld Z h18 ao "com/example/keysweep/keysweep/Key" "visibility" "[B" .null := F13.other W18 (Or.inr (slot_ne (Or.inr (hw _ (List.mem_of_getElem? (i := 29) rfl))) (Or.inr (hw _ (List.mem_of_getElem? (i := 27) rfl))) (by decide) (t := (.array .byte)) (t' := (.array .byte)) (by decide) (by decide)))
  have F21 : Fld Z h18 ao "com/example/keysweep/keysweep/Key" "timestamp" "J" (.long (0 : Int64)) := F14.other W18 (Or.inr (slot_ne (Or.inr (hw _ (List.mem_of_getElem? (i := 31) rfl))) (Or.inr (hw _ (List.mem_of_getElem? (i := 27) rfl))) (by decide) (t := .long) (t' := (.array .byte)) (by decide) (by decide)))
  have F22 : Fld Z h18 ao "com/example/keysweep/keysweep/Key" "deleteMarker" "Z" (.int (0 : Int32)) := F15.other W18 (Or.inr (slot_ne (Or.inr (hw _ (List.mem_of_getElem? (i := 33) rfl))) (Or.inr (hw _ (List.mem_of_getElem? (i := 27) rfl))) (by decide) (t := .boolean) (t' := (.array .byte)) (by decide) (by decide)))
  have F23 : Fld Z h18 ao "com/example/keysweep/keysweep/Key" "row" "[B" (.ref ar) := F16.other W18 (Or.inr (slot_ne (Or.inr (hw _ (List.mem_of_getElem? (i := 23) rfl))) (Or.inr (hw _ (List.mem_of_getElem? (i := 27) rfl))) (by decide) (t := (.array .byte)) (t' := (.array .byte)) (by decide) (by decide)))
  have F24 : Fld Z h18 ao "com/example/keysweep/keysweep/Key" "family" "[B" (.ref af) := F17.other W18 (Or.inr (slot_ne (Or.inr (hw _ (List.mem_of_getElem? (i := 25) rfl))) (Or.inr (hw _ (List.mem_of_getElem? (i := 27) rfl))) (by decide) (t := (.array .byte)) (t' := (.array .byte)) (by decide) (by decide)))
  have F25 : Fld Z h18 ao "com/example/keysweep/keysweep/Key" "qualifier" "[B" (.ref aq) := F12.same W18
  have N18 := Fr.snoc X18 N10 ge_ao
  have sz18 : n0 ≤ h18.size := Nat.le_trans sz10 (Keep.of_wr W18).1
  have K18 : Keep h0 h18 [ao] := (K10).wr W18 (Or.inl (List.mem_of_getElem? (i := 0) rfl))
  refine own_Goes.via (T' := T18) (g' := (mkF m 19 #[.val (.ref ao), .val (.ref ar), .val (.ref af), .val (.ref aq), .val (.ref av), .val (.long xt), .second, .val (.int xd)] [])) (st18) ?_
  refine own_Goes.via (T' := T18) (g' := (mkF m 20 #[.val (.ref ao), .val (.ref ar), .val (.ref af), .val (.ref aq), .val (.ref av), .val (.long xt), .second, .val (.int xd)] [(.ref ao)])) (fun t_ k_ => XS.aloadN X18.here hx rfl (hb hby d2_19) rfl rfl k_) ?_
  refine own_Goes.via (T' := T18) (g' := (mkF m 22 #[.val (.ref ao), .val (.ref ar), .val (.ref af), .val (.ref aq), .val (.ref av), .val (.long xt), .second, .val (.int xd)] [(.ref av), (.ref ao)])) (fun t_ k_ => XS.aload X18.here hx rfl (hb hby d2_20) rfl rfl k_) ?_
  obtain ⟨T26, h26, X26, e26, W26, st26⟩ := putF X18 hx hZ hown (host := "") (Or.inl (hw _ (List.mem_of_getElem? (i := 28) rfl))) Via.refl e18 F20 E19 (Or.inr ⟨(hw _ (List.mem_of_getElem? (i := 29) rfl)), rfl, hnm⟩) (hw _ (List.mem_of_getElem? (i := 2) rfl)) (ty := (.array .byte)) (by decide) rfl rfl (g := (mkF m 22 #[.val (.ref ao), .val (.ref ar), .val (.ref af), .val (.ref aq), .val (.ref av), .val (.long xt), .second, .val (.int xd)] [(.ref av), (.ref ao)])) rfl rfl (hb hby d2_22)
  have E27 : Exa Z h26 ao "com/example/keysweep/keysweep/Key" := E19.wr W26
  have F28 : Fld Z h26 ao "com/example/keysweep/keysweep/Key" "timestamp" "J" (.long (0 : Int64)) := F21.other W26 (Or.inr (slot_ne (Or.inr (hw _ (List.mem_of_getElem? (i := 31) rfl))) (Or.inr (hw _ (List.mem_of_getElem? (i := 29) rfl))) (by decide) (t := .long) (t' := (.array .byte)) (by decide) (by decide)))
  have F29 : Fld Z h26 ao "com/example/keysweep/keysweep/Key" "deleteMarker" "Z" (.int (0 : Int32)) := F22.other W26 (Or.inr (slot_ne (Or.inr (hw _ (List.mem_of_getElem? (i := 33) rfl))) (Or.inr (hw _ (List.mem_of_getElem? (i := 29) rfl))) (by decide) (t := .boolean) (t' := (.array .byte)) (by decide) (by decide)))
  have F30 : Fld Z h26 ao "com/example/keysweep/keysweep/Key" "row" "[B" (.ref ar) := F23.other W26 (Or.inr (slot_ne (Or.inr (hw _ (List.mem_of_getElem? (i := 23) rfl))) (Or.inr (hw _ (List.mem_of_getElem? (i := 29) rfl))) (by decide) (t := (.array .byte)) (t' := (.array .byte)) (by decide) (by decide)))
  have F31 : Fld Z h26 ao "com/example/keysweep/keysweep/Key" "family" "[B" (.ref af) := F24.other W26 (Or.inr (slot_ne (Or.inr (hw _ (List.mem_of_getElem? (i := 25) rfl))) (Or.inr (hw _ (List.mem_of_getElem? (i := 29) rfl))) (by decide) (t := (.array .byte)) (t' := (.array .byte)) (by decide) (by decide)))
  have F32 : Fld Z h26 ao "com/example/keysweep/keysweep/Key" "qualifier" "[B" (.ref aq) := F25.other W26 (Or.inr (slot_ne (Or.inr (hw _ (List.mem_of_getElem? (i := 27) rfl))) (Or.inr (hw _ (List.mem_of_getElem? (i := 29) rfl))) (by decide) (t := (.array .byte)) (t' := (.array .byte)) (by decide) (by decide)))
  have F33 : Fld Z h26 ao "com/example/keysweep/keysweep/Key" "visibility" "[B" (.ref av) := F20.same W26
  have N26 := Fr.snoc X26 N18 ge_ao
  have sz26 : n0 ≤ h26.size := Nat.le_trans sz18 (Keep.of_wr W26).1
  have K26 : Keep h0 h26 [ao] := (K18).wr W26 (Or.inl (List.mem_of_getElem? (i := 0) rfl))
  refine own_Goes.via (T' := T26) (g' := (mkF m 25 #[.val (.ref ao), .val (.ref ar), .val (.ref af), .val (.ref aq), .val (.ref av), .val (.long xt), .second, .val (.int xd)] [])) (st26) ?_
  refine own_Goes.via (T' := T26) (g' := (mkF m 26 #[.val (.ref ao), .val (.ref ar), .val (.ref af), .val (.ref aq), .val (.ref av), .val (.long xt), .second, .val (.int xd)] [(.ref ao)])) (fun t_ k_ => XS.aloadN X26.here hx rfl (hb hby d2_25) rfl rfl k_) ?_
  refine own_Goes.via (T' := T26) (g' := (mkF m 28 #[.val (.ref ao), .val (.ref ar), .val (.ref af), .val (.ref aq), .val (.ref av), .val (.long xt), .second, .val (.int xd)] [(.long xt), (.ref ao)])) (fun t_ k_ => XS.lload X26.here hx rfl (hb hby d2_26) rfl k_) ?_
  obtain ⟨T34, h34, X34, e34, W34, st34⟩ := putF X26 hx hZ hown (host := "") (Or.inl (hw _ (List.mem_of_getElem? (i := 30) rfl))) Via.refl e26 F28 E27 (Or.inr ⟨(hw _ (List.mem_of_getElem? (i := 31) rfl)), rfl, hnm⟩) (hw _ (List.mem_of_getElem? (i := 2) rfl)) (ty := .long) (by decide) rfl rfl (g := (mkF m 28 #[.val (.ref ao), .val (.ref ar), .val (.ref af), .val (.ref aq), .val (.ref av), .val (.long xt), .second, .val (.int xd)] [(.long xt), (.ref ao)])) rfl rfl (hb hby d2_28)
  have E35 : Exa Z h34 ao "com/example/keysweep/keysweep/Key" := E27.wr W34
  have F36 : Fld Z h34 ao "com/example/keysweep/keysweep/Key" "deleteMarker" "Z" (.int (0 : Int32)) := F29.other W34 (Or.inr (slot_ne (Or.inr (hw _ (List.mem_of_getElem? (i := 33) rfl))) (Or.inr (hw _ (List.mem_of_getElem? (i := 31) rfl))) (by decide) (t := .boolean) (t' := .long) (by decide) (by decide)))
  have F37 : Fld Z h34 ao "com/example/keysweep/keysweep/Key" "row" "[B" (.ref ar) := F30.other W34 (Or.inr (slot_ne (Or.inr (hw _ (List.mem_of_getElem? (i := 23) rfl))) (Or.inr (hw _ (List.mem_of_getElem? (i := 31) rfl))) (by decide) (t := (.array .byte)) (t' := .long) (by decide) (by decide)))
  have F38 : Fld Z h34 ao "com/example/keysweep/keysweep/Key" "family" "[B" (.ref af) := F31.other W34 (Or.inr (slot_ne (Or.inr (hw _ (List.mem_of_getElem? (i := 25) rfl))) (Or.inr (hw _ (List.mem_of_getElem? (i := 31) rfl))) (by decide) (t := (.array .byte)) (t' := .long) (by decide) (by decide)))
  have F39 : Fld Z h34 ao "com/example/keysweep/keysweep/Key" "qualifier" "[B" (.ref aq) := F32.other W34 (Or.inr (slot_ne (Or.inr (hw _ (List.mem_of_getElem? (i := 27) rfl))) (Or.inr (hw _ (List.mem_of_getElem? (i := 31) rfl))) (by decide) (t := (.array .byte)) (t' := .long) (by decide) (by decide)))
  have F40 : Fld Z h34 ao "com/example/keysweep/keysweep/Key" "visibility" "[B" (.ref av) := F33.other W34 (Or.inr (slot_ne (Or.inr (hw _ (List.mem_of_getElem? (i := 29) rfl))) (Or.inr (hw _ (List.mem_of_getElem? (i := 31) rfl))) (by decide) (t := (.array .byte)) (t' := .long) (by decide) (by decide)))
  have F41 : Fld Z h34 ao "com/example/keysweep/keysweep/Key" "timestamp" "J" (.long xt) := F28.same W34
  have N34 := Fr.snoc X34 N26 ge_ao
  have sz34 : n0 ≤ h34.size := Nat.le_trans sz26 (Keep.of_wr W34).1
  have K34 : Keep h0 h34 [ao] := (K26).wr W34 (Or.inl (List.mem_of_getElem? (i := 0) rfl))
  refine own_Goes.via (T' := T34) (g' := (mkF m 31 #[.val (.ref ao), .val (.ref ar), .val (.ref af), .val (.ref aq), .val (.ref av), .val (.long xt), .second, .val (.int xd)] [])) (st34) ?_
  refine own_Goes.via (T' := T34) (g' := (mkF m 32 #[.val (.ref ao), .val (.ref ar), .val (.ref af), .val (.ref aq), .val (.ref av), .val (.long xt), .second, .val (.int xd)] [(.ref ao)])) (fun t_ k_ => XS.aloadN X34.here hx rfl (hb hby d2_31) rfl rfl k_) ?_
  refine own_Goes.via (T' := T34) (g' := (mkF m 34 #[.val (.ref ao), .val (.ref ar), .val (.ref af), .val (.ref aq), .val (.ref av), .val (.long xt), .second, .val (.int xd)] [(.int xd), (.ref ao)])) (fun t_ k_ => XS.iload X34.here hx rfl (hb hby d2_32) rfl k_) ?_
  obtain ⟨T42, h42, X42, e42, W42, st42⟩ := putFN X34 hx hZ hown (hw _ (List.mem_of_getElem? (i := 32) rfl)) Via.refl e34 F36 E35 (Or.inr ⟨(hw _ (List.mem_of_getElem? (i := 33) rfl)), rfl, hnm⟩) (hw _ (List.mem_of_getElem? (i := 2) rfl)) (ty := .boolean) (v' := (.int (nar .boolean xd))) (by decide) rfl (fits_nar_bool _) (g := (mkF m 34 #[.val (.ref ao), .val (.ref ar), .val (.ref af), .val (.ref aq), .val (.ref av), .val (.long xt), .second, .val (.int xd)] [(.int xd), (.ref ao)])) rfl rfl (hb hby d2_34)
  have E43 : Exa Z h42 ao "com/example/keysweep/keysweep/Key" := E35.wr W42
  have F44 : Fld Z h42 ao "com/example/keysweep/keysweep/Key" "row" "[B" (.ref ar) := F37.other W42 (Or.inr (slot_ne (Or.inr (hw _ (List.mem_of_getElem? (i := 23) rfl))) (Or.inr (hw _ (List.mem_of_getElem? (i := 33) rfl))) (by decide) (t := (.array .byte)) (t' := .boolean) (by decide) (by decide)))
  have F45 : Fld Z h42 ao "com/example/keysweep/keysweep/Key" "family" "[B" (.ref af) := F38.other W42 (Or.inr (slot_ne (Or.inr (hw _ (List.mem_of_getElem? (i := 25) rfl))) (Or.inr (hw _ (List.mem_of_getElem? (i := 33) rfl))) (by decide) (t := (.array .byte)) (t' := .boolean) (by decide) (by decide)))
  have F46 : Fld Z h42 ao "com/example/keysweep/keysweep/Key" "qualifier" "[B" (.ref aq) := F39.other W42 (Or.inr (slot_ne (Or.inr (hw _ (List.mem_of_getElem? (i := 27) rfl))) (Or.inr (hw _ (List.mem_of_getElem? (i := 33) rfl))) (by decide) (t := (.array .byte)) (t' := .boolean) (by decide) (by decide)))
  have F47 : Fld Z h42 ao "com/example/keysweep/keysweep/Key" "visibility" "[B" (.ref av) := F40.other W42 (Or.inr (slot_ne (Or.inr (hw _ (List.mem_of_getElem? (i := 29) rfl))) (Or.inr (hw _ (List.mem_of_getElem? (i := 33) rfl))) (by decide) (t := (.array .byte)) (t' := .boolean) (by decide) (by decide)))
  have F48 : Fld Z h42 ao "com/example/keysweep/keysweep/Key" "timestamp" "J" (.long xt) := F41.other W42 (Or.inr (slot_ne (Or.inr (hw _ (List.mem_of_getElem? (i := 31) rfl))) (Or.inr (hw _ (List.mem_of_getElem? (i := 33) rfl))) (by decide) (t := .long) (t' := .boolean) (by decide) (by decide)))
  have F49 : Fld Z h42 ao "com/example/keysweep/keysweep/Key" "deleteMarker" "Z" (.int (nar .boolean xd)) := F36.same W42
  have N42 := Fr.snoc X42 N34 ge_ao
  have sz42 : n0 ≤ h42.size := Nat.le_trans sz34 (Keep.of_wr W42).1
  have K42 : Keep h0 h42 [ao] := (K34).wr W42 (Or.inl (List.mem_of_getElem? (i := 0) rfl))
  refine own_Goes.via (T' := T42) (g' := (mkF m 37 #[.val (.ref ao), .val (.ref ar), .val (.ref af), .val (.ref aq), .val (.ref av), .val (.long xt), .second, .val (.int xd)] [])) (st42) ?_
  obtain ⟨fs, hr, hrun, hended, hW, hsame⟩ := X42.leave (v := none) (fun _ => rfl)
  refine own_Goes.fin (X42.returnOut hx Bd.returns (hb hby d2_37) hr) hrun hended ?_
  subst hPd
  refine ⟨_, _, rfl, ?_, ⟨_, rfl⟩, hW, hsame.mono (by decide) (by decide)⟩
  show Q2 Z ao ar af aq av xt xd h0 n0 _ T42.heap _
  rw [e42]
  exact ⟨rfl, N42, K42, E43, F44, F45, F46, F47, F48, F49⟩
theorem d1_0 : decode prog_19_method_1_code 0 = .ok (.aload_n 0, 1) := by decide +kernel
theorem d1_1 : decode prog_19_method_1_code 1 = .ok (.aload_n 1, 1) := by decide +kernel
theorem d1_2 : decode prog_19_method_1_code 2 = .ok (.invokevirtual 1, 3) := by decide +kernel
theorem d1_5 : decode prog_19_method_1_code 5 = .ok (.checkcast 2, 3) := by decide +kernel
theorem d1_8 : decode prog_19_method_1_code 8 = .ok (.aload_n 2, 1) := by decide +kernel
theorem d1_9 : decode prog_19_method_1_code 9 = .ok (.invokevirtual 1, 3) := by decide +kernel
theorem d1_12 : decode prog_19_method_1_code 12 = .ok (.checkcast 2, 3) := by decide +kernel
theorem d1_15 : decode prog_19_method_1_code 15 = .ok (.aload_n 3, 1) := by decide +kernel
theorem d1_16 : decode prog_19_method_1_code 16 = .ok (.invokevirtual 1, 3) := by decide +kernel
theorem d1_19 : decode prog_19_method_1_code 19 = .ok (.checkcast 2, 3) := by decide +kernel
theorem d1_22 : decode prog_19_method_1_code 22 = .ok (.aload 4, 2) := by decide +kernel
theorem d1_24 : decode prog_19_method_1_code 24 = .ok (.invokevirtual 1, 3) := by decide +kernel
theorem d1_27 : decode prog_19_method_1_code 27 = .ok (.checkcast 2, 3) := by decide +kernel
theorem d1_30 : decode prog_19_method_1_code 30 = .ok (.lload 5, 2) := by decide +kernel
theorem d1_32 : decode prog_19_method_1_code 32 = .ok (.iconst 0, 1) := by decide +kernel
theorem d1_33 : decode prog_19_method_1_code 33 = .ok (.invokespecial 7, 3) := by decide +kernel
theorem d1_36 : decode prog_19_method_1_code 36 = .ok (.return_, 1) := by decide +kernel
theorem pn_1 : plainName "com/example/keysweep/keysweep/Key" = true := by first | (simp [plainName, overriddenIn]; done) | decide +kernel
theorem pd_1_0 : parseMethodDescriptor "([B[B[B[BJZ)V" = some ⟨[(.array .byte), (.array .byte), (.array .byte), (.array .byte), .long, .boolean], none⟩ := by decide +kernel
theorem ef_1 (m : MethodId) (ao : Addr) (ar : Addr) (af : Addr) (aq : Addr) (av : Addr) (xt : Int64) : entryFrame m #[(.ref ao), (.ref ar), (.ref af), (.ref aq), (.ref av), (.long xt)] 7 = mkF m 0 #[.val (.ref ao), .val (.ref ar), .val (.ref af), .val (.ref aq), .val (.ref av), .val (.long xt), .second] [] := by first | (simp [entryFrame, mkF, argsToLocals, Value.category]; done) | rfl
def Q1 (Z : State) (ao : Addr) (ar : Addr) (af : Addr) (aq : Addr) (av : Addr) (xt : Int64) (kr : ClassId) (xlr : Int32) (kf : ClassId) (xlf : Int32) (kq : ClassId) (xlq : Int32) (kv : ClassId) (xlv : Int32) (h0 : Heap) (n0 : Nat) (v : Option Value) (h : Heap) (L : List Loc) : Prop := ∃ (br : Addr) (bf : Addr) (bq : Addr) (bv : Addr), v = none ∧ Fr n0 L ∧ Keep h0 h [ao] ∧ (h0.size ≤ br ∧ n0 ≤ br) ∧ (h0.size ≤ bf ∧ n0 ≤ bf) ∧ (h0.size ≤ bq ∧ n0 ≤ bq) ∧ (h0.size ≤ bv ∧ n0 ≤ bv) ∧ br ≠ bf ∧ br ≠ bq ∧ br ≠ bv ∧ bf ≠ bq ∧ bf ≠ bv ∧ bq ≠ bv ∧ Exa Z h ao "com/example/keysweep/keysweep/Key" ∧ Fld Z h ao "com/example/keysweep/keysweep/Key" "row" "[B" (.ref br) ∧ Fld Z h ao "com/example/keysweep/keysweep/Key" "family" "[B" (.ref bf) ∧ Fld Z h ao "com/example/keysweep/keysweep/Key" "qualifier" "[B" (.ref bq) ∧ Fld Z h ao "com/example/keysweep/keysweep/Key" "visibility" "[B" (.ref bv) ∧ Fld Z h ao "com/example/keysweep/keysweep/Key" "timestamp" "J" (.long xt) ∧ Fld Z h ao "com/example/keysweep/keysweep/Key" "deleteMarker" "Z" (.int (nar .boolean (0 : Int32))) ∧ Exa Z h br "[B" ∧ Arv Z h br kr .byte xlr [] (.int (0 : Int32)) ∧ Exa Z h bf "[B" ∧ Arv Z h bf kf .byte xlf [] (.int (0 : Int32)) ∧ Exa Z h bq "[B" ∧ Arv Z h bq kq .byte xlq [] (.int (0 : Int32)) ∧ Exa Z h bv "[B" ∧ Arv Z h bv kv .byte xlv [] (.int (0 : Int32))
set_option maxRecDepth 65536 in
set_option maxHeartbeats 40000000 in
theorem rm1 (l : Launch) (Z : State) (a0 : Array Value) (hw : ∀ d ∈ tables_1, d.before a0 Z = true) (ws : List Jvm.Cond) (ao : Addr) (ar : Addr) (af : Addr) (aq : Addr) (av : Addr) (xt : Int64) (kr : ClassId) (xlr : Int32) (kf : ClassId) (xlf : Int32) (kq : ClassId) (xlq : Int32) (kv : ClassId) (xlv : Int32) (h0 : Heap) (n0 : Nat) (Z0 : n0 ≤ h0.size) (PF0 : Exa Z h0 ao "com/example/keysweep/keysweep/Key") (PF1 : Fld Z h0 ao "com/example/keysweep/keysweep/Key" "row" "[B" .null) (PF2 : Fld Z h0 ao "com/example/keysweep/keysweep/Key" "family" "[B" .null) (PF3 : Fld Z h0 ao "com/example/keysweep/keysweep/Key" "qualifier" "[B" .null) (PF4 : Fld Z h0 ao "com/example/keysweep/keysweep/Key" "visibility" "[B" .null) (PF5 : Fld Z h0 ao "com/example/keysweep/keysweep/Key" "timestamp" "J" (.long (0 : Int64))) (PF6 : Fld Z h0 ao "com/example/keysweep/keysweep/Key" "deleteMarker" "Z" (.int (0 : Int32))) (PF7 : Exa Z h0 ar "[B") (PF8 : Arv Z h0 ar kr .byte xlr [] (.int (0 : Int32))) (PF9 : Exa Z h0 af "[B") (PF10 : Arv Z h0 af kf .byte xlf [] (.int (0 : Int32))) (PF11 : Exa Z h0 aq "[B") (PF12 : Arv Z h0 aq kq .byte xlq [] (.int (0 : Int32))) (PF13 : Exa Z h0 av "[B") (PF14 : Arv Z h0 av kv .byte xlv [] (.int (0 : Int32))) (PN0 : ao ≠ ar) (PN1 : ao ≠ af) (PN2 : ao ≠ aq) (PN3 : ao ≠ av) (ge_ao : n0 ≤ ao) (hc0 : xlr.toNatClampNeg ≤ 31) (hc1 : xlf.toNatClampNeg ≤ 31) (hc2 : xlq.toNatClampNeg ≤ 31) (hc3 : xlv.toNatClampNeg ≤ 31) :
    MetFree l (⟨"com/example/keysweep/keysweep/Key", "<init>", "([B[B[B[BJ)V"⟩ : MethodName) (head1 (Jvm.Cond.code (⟨"com/example/keysweep/keysweep/Key", "<init>", "([B[B[B[BJ)V"⟩ : MethodName) prog_19_method_1_code 7 none :: ws) ({ frames := 2, cells := 4, slots := 124, locals := 31 } : Room)) (fun a U => a = #[(.ref ao), (.ref ar), (.ref af), (.ref aq), (.ref av), (.long xt)] ∧ Z.Warmed39 U.vm ∧ U.heap = h0) (fun _ _ _ _ _ => True) (fun _ U o U' => ∃ v L, o = .returned v ∧ Q1 Z ao ar af aq av xt kr xlr kf xlf kq xlq kv xlv h0 n0 v U'.heap L ∧ FrameEnd U o U' L ({ frames := 2, cells := 4, slots := 124, locals := 31 } : Room).cells ({ frames := 2, cells := 4, slots := 124, locals := 31 } : Room).slots) := by
  refine MetFree.of_bodySF (plainFor_of_name pn_1) hisR ?_
  intro p e s m args below meth c s₁ Bd hml0 hP hK
  obtain ⟨rfl, hZ, hh⟩ := hP
  have hx := Bd.exec
  have hby := Bd.bytes
  have hml : c.maxLocals = 7 := hml0
  have hown : s.vm.findClass "com/example/keysweep/keysweep/Key" = some m.cls := findClass_of_methodNamed Bd.named
  have hnm := (name_of_methodNamed Bd.named Bd.method).1
  have X0 : Stand p l e ({ frames := 2, cells := 4, slots := 124, locals := 31 } : Room) s m #[(.ref ao), (.ref ar), (.ref af), (.ref aq), (.ref av), (.long xt)] below meth c s₁ [] 0 0 := Stand.of_body Bd
  have e0 : s₁.heap = h0 := by rw [← hh, Bd.state]; rfl
  have N0 := Fr.nil n0
  suffices G : own_Goes p.tables e below (fun o U' => ∃ v L, o = .returned v ∧ Q1 Z ao ar af aq av xt kr xlr kf xlf kq xlq kv xlv h0 n0 v U'.heap L ∧ FrameEnd s o U' L ({ frames := 2, cells := 4, slots := 124, locals := 31 } : Room).cells ({ frames := 2, cells := 4, slots := 124, locals := 31 } : Room).slots) s₁ (mkF m 0 #[.val (.ref ao), .val (.ref ar), .val (.ref af), .val (.ref aq), .val (.ref av), .val (.long xt), .second] []) by
    obtain ⟨t2_, o2_, z1_, z2_, z3_, z4_⟩ := G
    exact ⟨t2_, o2_, castTop (ef_1 m ao ar af aq av xt) z1_, z2_, z3_, z4_⟩
  generalize hPd : (fun (o : Outcome) (U' : State) => ∃ v L, o = .returned v ∧ Q1 Z ao ar af aq av xt kr xlr kf xlf kq xlq kv xlv h0 n0 v U'.heap L ∧ FrameEnd s o U' L ({ frames := 2, cells := 4, slots := 124, locals := 31 } : Room).cells ({ frames := 2, cells := 4, slots := 124, locals := 31 } : Room).slots) = P
  refine own_Goes.via (T' := s₁) (g' := (mkF m 1 #[.val (.ref ao), .val (.ref ar), .val (.ref af), .val (.ref aq), .val (.ref av), .val (.long xt), .second] [(.ref ao)])) (fun t_ k_ => XS.aloadN X0.here hx rfl (hb hby d1_0) rfl rfl k_) ?_
  refine own_Goes.via (T' := s₁) (g' := (mkF m 2 #[.val (.ref ao), .val (.ref ar), .val (.ref af), .val (.ref aq), .val (.ref av), .val (.long xt), .second] [(.ref ar), (.ref ao)])) (fun t_ k_ => XS.aloadN X0.here hx rfl (hb hby d1_1) rfl rfl k_) ?_
  have hcap2_2 : xlr.toNatClampNeg ≤ 31 := by first | assumption | decide
  obtain ⟨T1, h1, X1, e1, E1, A1, Ea1, st1⟩ := cloneH X0 hx hZ hown (hw _ (List.mem_of_getElem? (i := 7) rfl)) (hw _ (List.mem_of_getElem? (i := 8) rfl)) (hw _ (List.mem_of_getElem? (i := 12) rfl)) (hw _ (List.mem_of_getElem? (i := 10) rfl)) (hw _ (List.mem_of_getElem? (i := 11) rfl)) (hw _ (List.mem_of_getElem? (i := 13) rfl)) e0 PF8.arh PF7 (g := (mkF m 2 #[.val (.ref ao), .val (.ref ar), .val (.ref af), .val (.ref aq), .val (.ref av), .val (.long xt), .second] [(.ref ar), (.ref ao)])) rfl (by rw [hml]; rfl) rfl (hb hby d1_2) (by decide) (W := 1) (cap := 31) (by show 2 * 0 + _ ≤ _; exact Nat.le_of_eq rfl) (by decide) hcap2_2 (by decide) (by decide)
  obtain ⟨b1, g1⟩ : ∃ z, z = h0.size := ⟨_, rfl⟩
  rw [← g1] at A1 Ea1 st1
  have ne_ao_b1 : ao ≠ b1 := Nat.ne_of_lt (Nat.lt_of_lt_of_le PF0.lt (Nat.le_of_eq g1.symm))
  have ne_ar_b1 : ar ≠ b1 := Nat.ne_of_lt (Nat.lt_of_lt_of_le PF7.lt (Nat.le_of_eq g1.symm))
  have ne_af_b1 : af ≠ b1 := Nat.ne_of_lt (Nat.lt_of_lt_of_le PF9.lt (Nat.le_of_eq g1.symm))
  have ne_aq_b1 : aq ≠ b1 := Nat.ne_of_lt (Nat.lt_of_lt_of_le PF11.lt (Nat.le_of_eq g1.symm))
  have ne_av_b1 : av ≠ b1 := Nat.ne_of_lt (Nat.lt_of_lt_of_le PF13.lt (Nat.le_of_eq g1.symm))
  have E3 : Exa Z h1 ao "com/example/keysweep/keysweep/Key" := PF0.ext E1
  have F4 : Fld Z h1 ao "com/example/keysweep/keysweep/Key" "row" "[B" .null := PF1.ext E1
  have F5 : Fld Z h1 ao "com/example/keysweep/keysweep/Key" "family" "[B" .null := PF2.ext E1
  have F6 : Fld Z h1 ao "com/example/keysweep/keysweep/Key" "qualifier" "[B" .null := PF3.ext E1
  have F7 : Fld Z h1 ao "com/example/keysweep/keysweep/Key" "visibility" "[B" .null := PF4.ext E1
  have F8 : Fld Z h1 ao "com/example/keysweep/keysweep/Key" "timestamp" "J" (.long (0 : Int64)) := PF5.ext E1
  have F9 : Fld Z h1 ao "com/example/keysweep/keysweep/Key" "deleteMarker" "Z" (.int (0 : Int32)) := PF6.ext E1
  have E10 : Exa Z h1 ar "[B" := PF7.ext E1
  have V11 : Arv Z h1 ar kr .byte xlr [] (.int (0 : Int32)) := PF8.ext E1
  have E12 : Exa Z h1 af "[B" := PF9.ext E1
  have V13 : Arv Z h1 af kf .byte xlf [] (.int (0 : Int32)) := PF10.ext E1
  have E14 : Exa Z h1 aq "[B" := PF11.ext E1
  have V15 : Arv Z h1 aq kq .byte xlq [] (.int (0 : Int32)) := PF12.ext E1
  have E16 : Exa Z h1 av "[B" := PF13.ext E1
  have V17 : Arv Z h1 av kv .byte xlv [] (.int (0 : Int32)) := PF14.ext E1
  have ge_b1 : n0 ≤ b1 := Nat.le_trans Z0 (Nat.le_of_eq g1.symm)
  have sz_b1 : h0.size ≤ b1 := Nat.le_trans ((Keep.refl h0 [ao])).1 (Nat.le_of_eq g1.symm)
  have sz1 : n0 ≤ h1.size := Nat.le_trans Z0 E1.1
  have K1 : Keep h0 h1 [ao] := ((Keep.refl h0 [ao])).ext E1
  have E18 : Exa Z h1 b1 "[B" := Ea1
  have V19 : Arv Z h1 b1 kr .byte xlr [] (.int (0 : Int32)) := A1
  refine own_Goes.via (T' := T1) (g' := (mkF m 5 #[.val (.ref ao), .val (.ref ar), .val (.ref af), .val (.ref aq), .val (.ref av), .val (.long xt), .second] [(.ref b1), (.ref ao)])) (st1) ?_
  obtain ⟨T20, X20, e20, st20⟩ := castY X1 hx hZ hown (hw _ (List.mem_of_getElem? (i := 14) rfl)) e1 (Ins.self E18) (g := (mkF m 5 #[.val (.ref ao), .val (.ref ar), .val (.ref af), .val (.ref aq), .val (.ref av), .val (.long xt), .second] [(.ref b1), (.ref ao)])) rfl rfl (hb hby d1_5)
  refine own_Goes.via (T' := T20) (g' := (mkF m 8 #[.val (.ref ao), .val (.ref ar), .val (.ref af), .val (.ref aq), .val (.ref av), .val (.long xt), .second] [(.ref b1), (.ref ao)])) (st20) ?_
  refine own_Goes.via (T' := T20) (g' := (mkF m 9 #[.val (.ref ao), .val (.ref ar), .val (.ref af), .val (.ref aq), .val (.ref av), .val (.long xt), .second] [(.ref af), (.ref b1), (.ref ao)])) (fun t_ k_ => XS.aloadN X20.here hx rfl (hb hby d1_8) rfl rfl k_) ?_
  have hcap9_22 : xlf.toNatClampNeg ≤ 31 := by first | assumption | decide
  obtain ⟨T21, h21, X21, e21, E21, A21, Ea21, st21⟩ := cloneH X20 hx hZ hown (hw _ (List.mem_of_getElem? (i := 7) rfl)) (hw _ (List.mem_of_getElem? (i := 8) rfl)) (hw _ (List.mem_of_getElem? (i := 12) rfl)) (hw _ (List.mem_of_getElem? (i := 10) rfl)) (hw _ (List.mem_of_getElem? (i := 11) rfl)) (hw _ (List.mem_of_getElem? (i := 13) rfl)) e20 V13.arh E12 (g := (mkF m 9 #[.val (.ref ao), .val (.ref ar), .val (.ref af), .val (.ref aq), .val (.ref av), .val (.long xt), .second] [(.ref af), (.ref b1), (.ref ao)])) rfl (by rw [hml]; rfl) rfl (hb hby d1_9) (by decide) (W := 2) (cap := 31) (by show 2 * 0 + _ ≤ _; exact Nat.le_of_eq rfl) (by decide) hcap9_22 (by decide) (by decide)
  obtain ⟨b21, g21⟩ : ∃ z, z = h1.size := ⟨_, rfl⟩
  rw [← g21] at A21 Ea21 st21
  have ne_ao_b21 : ao ≠ b21 := Nat.ne_of_lt (Nat.lt_of_lt_of_le E3.lt (Nat.le_of_eq g21.symm))
  have ne_ar_b21 : ar ≠ b21 := Nat.ne_of_lt (Nat.lt_of_lt_of_le E10.lt (Nat.le_of_eq g21.symm))
  have ne_af_b21 : af ≠ b21 := Nat.ne_of_lt (Nat.lt_of_lt_of_le E12.lt (Nat.le_of_eq g21.symm))
  have ne_aq_b21 : aq ≠ b21 := Nat.ne_of_lt (Nat.lt_of_lt_of_le E14.lt (Nat.le_of_eq g21.symm))
  have ne_av_b21 : av ≠ b21 := Nat.ne_of_lt (Nat.lt_of_lt_of_le E16.lt (Nat.le_of_eq g21.symm))
  have ne_b1_b21 : b1 ≠ b21 := Nat.ne_of_lt (Nat.lt_of_lt_of_le E18.lt (Nat.le_of_eq g21.symm))
  have E23 : Exa Z h21 ao "com/example/keysweep/keysweep/Key" := E3.ext E21
  have F24 : Fld Z h21 ao "com/example/keysweep/keysweep/Key" "row" "[B" .null := F4.ext E21
  have F25 : Fld Z h21 ao "com/example/keysweep/keysweep/Key" "family" "[B" .null := F5.ext E21
  have F26 : Fld Z h21 ao "com/example/keysweep/keysweep/Key" "qualifier" "[B" .null := F6.ext E21
  have F27 : Fld Z h21 ao "com/example/keysweep/keysweep/Key" "visibility" "[B" .null := F7.ext E21
  have F28 : Fld Z h21 ao "com/example/keysweep/keysweep/Key" "timestamp" "J" (.long (0 : Int64)) := F8.ext E21
  have F29 : Fld Z h21 ao "com/example/keysweep/keysweep/Key" "deleteMarker" "Z" (.int (0 : Int32)) := F9.ext E21
  have E30 : Exa Z h21 ar "[B" := E10.ext E21
  have V31 : Arv Z h21 ar kr .byte xlr [] (.int (0 : Int32)) := V11.ext E21
  have E32 : Exa Z h21 af "[B" := E12.ext E21
  have V33 : Arv Z h21 af kf .byte xlf [] (.int (0 : Int32)) := V13.ext E21
  have E34 : Exa Z h21 aq "[B" := E14.ext E21
  have V35 : Arv Z h21 aq kq .byte xlq [] (.int (0 : Int32)) := V15.ext E21
  have E36 : Exa Z h21 av "[B" := E16.ext E21
  have V37 : Arv Z h21 av kv .byte xlv [] (.int (0 : Int32)) := V17.ext E21
  have E38 : Exa Z h21 b1 "[B" := E18.ext E21
  have V39 : Arv Z h21 b1 kr .byte xlr [] (.int (0 : Int32)) := V19.ext E21
  have ge_b21 : n0 ≤ b21 := Nat.le_trans sz1 (Nat.le_of_eq g21.symm)
  have sz_b21 : h0.size ≤ b21 := Nat.le_trans (K1).1 (Nat.le_of_eq g21.symm)
  have sz21 : n0 ≤ h21.size := Nat.le_trans sz1 E21.1
  have K21 : Keep h0 h21 [ao] := (K1).ext E21
  have E40 : Exa Z h21 b21 "[B" := Ea21
  have V41 : Arv Z h21 b21 kf .byte xlf [] (.int (0 : Int32)) := A21
  refine own_Goes.via (T' := T21) (g' := (mkF m 12 #[.val (.ref ao), .val (.ref ar), .val (.ref af), .val (.ref aq), .val (.ref av), .val (.long xt), .second] [(.ref b21), (.ref b1), (.ref ao)])) (st21) ?_
  obtain ⟨T42, X42, e42, st42⟩ := castY X21 hx hZ hown (hw _ (List.mem_of_getElem? (i := 14) rfl)) e21 (Ins.self E40) (g := (mkF m 12 #[.val (.ref ao), .val (.ref ar), .val (.ref af), .val (.ref aq), .val (.ref av), .val (.long xt), .second] [(.ref b21), (.ref b1), (.ref ao)])) rfl rfl (hb hby d1_12)
  refine own_Goes.via (T' := T42) (g' := (mkF m 15 #[.val (.ref ao), .val (.ref ar), .val (.ref af), .val (.ref aq), .val (.ref av), .val (.long xt), .second] [(.ref b21), (.ref b1), (.ref ao)])) (st42) ?_
  refine own_Goes.via (T' := T42) (g' := (mkF m 16 #[.val (.ref ao), .val (.ref ar), .val (.ref af), .val (.ref aq), .val (.ref av), .val (.long xt), .second] [(.ref aq), (.ref b21), (.ref b1), (.ref ao)])) (fun t_ k_ => XS.aloadN X42.here hx rfl (hb hby d1_15) rfl rfl k_) ?_
  have hcap16_44 : xlq.toNatClampNeg ≤ 31 := by first | assumption | decide
  obtain ⟨T43, h43, X43, e43, E43, A43, Ea43, st43⟩ := cloneH X42 hx hZ hown (hw _ (List.mem_of_getElem? (i := 7) rfl)) (hw _ (List.mem_of_getElem? (i := 8) rfl)) (hw _ (List.mem_of_getElem? (i := 12) rfl)) (hw _ (List.mem_of_getElem? (i := 10) rfl)) (hw _ (List.mem_of_getElem? (i := 11) rfl)) (hw _ (List.mem_of_getElem? (i := 13) rfl)) e42 V35.arh E34 (g := (mkF m 16 #[.val (.ref ao), .val (.ref ar), .val (.ref af), .val (.ref aq), .val (.ref av), .val (.long xt), .second] [(.ref aq), (.ref b21), (.ref b1), (.ref ao)])) rfl (by rw [hml]; rfl) rfl (hb hby d1_16) (by decide) (W := 3) (cap := 31) (by show 2 * 0 + _ ≤ _; exact Nat.le_of_eq rfl) (by decide) hcap16_44 (by decide) (by decide)
  obtain ⟨b43, g43⟩ : ∃ z, z = h21.size := ⟨_, rfl⟩
  rw [← g43] at A43 Ea43 st43
  have ne_ao_b43 : ao ≠ b43 := Nat.ne_of_lt (Nat.lt_of_lt_of_le E23.lt (Nat.le_of_eq g43.symm))
  have ne_ar_b43 : ar ≠ b43 := Nat.ne_of_lt (Nat.lt_of_lt_of_le E30.lt (Nat.le_of_eq g43.symm))
  have ne_af_b43 : af ≠ b43 := Nat.ne_of_lt (Nat.lt_of_lt_of_le E32.lt (Nat.le_of_eq g43.symm))
  have ne_aq_b43 : aq ≠ b43 := Nat.ne_of_lt (Nat.lt_of_lt_of_le E34.lt (Nat.le_of_eq g43.symm))
  have ne_av_b43 : av ≠ b43 := Nat.ne_of_lt (Nat.lt_of_lt_of_le E36.lt (Nat.le_of_eq g43.symm))
  have ne_b1_b43 : b1 ≠ b43 := Nat.ne_of_lt (Nat.lt_of_lt_of_le E38.lt (Nat.le_of_eq g43.symm))
  have ne_b21_b43 : b21 ≠ b43 := Nat.ne_of_lt (Nat.lt_of_lt_of_le E40.lt (Nat.le_of_eq g43.symm))
  have E45 : Exa Z h43 ao "com/example/keysweep/keysweep/Key" := E23.ext E43
  have F46 : Fld Z h43 ao "com/example/keysweep/keysweep/Key" "row" "[B" .null := F24.ext E43
  have F47 : Fld Z h43 ao "com/example/keysweep/keysweep/Key" "family" "[B" .null := F25.ext E43
  have F48 : Fld Z h43 ao "com/example/keysweep/keysweep/Key" "qualifier" "[B" .null := F26.ext E43
  have F49 : Fld Z h43 ao "com/example/keysweep/keysweep/Key" "visibility" "[B" .null := F27.ext E43
  have F50 : Fld Z h43 ao "com/example/keysweep/keysweep/Key" "timestamp" "J" (.long (0 : Int64)) := F28.ext E43
  have F51 : Fld Z h43 ao "com/example/keysweep/keysweep/Key" "deleteMarker" "Z" (.int (0 : Int32)) := F29.ext E43
  have E52 : Exa Z h43 ar "[B" := E30.ext E43
  have V53 : Arv Z h43 ar kr .byte xlr [] (.int (0 : Int32)) := V31.ext E43
  have E54 : Exa Z h43 af "[B" := E32.ext E43
  have V55 : Arv Z h43 af kf .byte xlf [] (.int (0 : Int32)) := V33.ext E43
  have E56 : Exa Z h43 aq "[B" := E34.ext E43
  have V57 : Arv Z h43 aq kq .byte xlq [] (.int (0 : Int32)) := V35.ext E43
  have E58 : Exa Z h43 av "[B" := E36.ext E43
  have V59 : Arv Z h43 av kv .byte xlv [] (.int (0 : Int32)) := V37.ext E43
  have E60 : Exa Z h43 b1 "[B" := E38.ext E43
  have V61 : Arv Z h43 b1 kr .byte xlr [] (.int (0 : Int32)) := V39.ext E43
  have E62 : Exa Z h43 b21 "[B" := E40.ext E43
  have V63 : Arv Z h43 b21 kf .byte xlf [] (.int (0 : Int32)) := V41.ext E43
  have ge_b43 : n0 ≤ b43 := Nat.le_trans sz21 (Nat.le_of_eq g43.symm)
  have sz_b43 : h0.size ≤ b43 := Nat.le_trans (K21).1 (Nat.le_of_eq g43.symm)
  have sz43 : n0 ≤ h43.size := Nat.le_trans sz21 E43.1
  have K43 : Keep h0 h43 [ao] := (K21).ext E43
  have E64 : Exa Z h43 b43 "[B" := Ea43
  have V65 : Arv Z h43 b43 kq .byte xlq [] (.int (0 : Int32)) := A43
  refine own_Goes.via (T' := T43) (g' := (mkF m 19 #[.val (.ref ao), .val (.ref ar), .val (.ref af), .val (.ref aq), .val (.ref av), .val (.long xt), .second] [(.ref b43), (.ref b21), (.ref b1), (.ref ao)])) (st43) ?_
  obtain ⟨T66, X66, e66, st66⟩ := castY X43 hx hZ hown (hw _ (List.mem_of_getElem? (i := 14) rfl)) e43 (Ins.self E64) (g := (mkF m 19 #[.val (.ref ao), .val (.ref ar), .val (.ref af), .val (.ref aq), .val (.ref av), .val (.long xt), .second] [(.ref b43), (.ref b21), (.ref b1), (.ref ao)])) rfl rfl (hb hby d1_19)
  refine own_Goes.via (T' := T66) (g' := (mkF m 22 #[.val (.ref ao), .val (.ref ar), .val (.ref af), .val (.ref aq), .val (.ref av), .val (.long xt), .second] [(.ref b43), (.ref b21), (.ref b1), (.ref ao)])) (st66) ?_
  refine own_Goes.via (T' := T66) (g' := (mkF m 24 #[.val (.ref ao), .val (.ref ar), .val (.ref af), .val (.ref aq), .val (.ref av), .val (.long xt), .second] [(.ref av), (.ref b43), (.ref b21), (.ref b1), (.ref ao)])) (fun t_ k_ => XS.aload X66.here hx rfl (hb hby d1_22) rfl rfl k_) ?_
  have hcap24_68 : xlv.toNatClampNeg ≤ 31 := by first | assumption | decide
  obtain ⟨T67, h67, X67, e67, E67, A67, Ea67, st67⟩ := cloneH X66 hx hZ hown (hw _ (List.mem_of_getElem? (i := 7) rfl)) (hw _ (List.mem_of_getElem? (i := 8) rfl)) (hw _ (List.mem_of_getElem? (i := 12) rfl)) (hw _ (List.mem_of_getElem? (i := 10) rfl)) (hw _ (List.mem_of_getElem? (i := 11) rfl)) (hw _ (List.mem_of_getElem? (i := 13) rfl)) e66 V59.arh E58 (g := (mkF m 24 #[.val (.ref ao), .val (.ref ar), .val (.ref af), .val (.ref aq), .val (.ref av), .val (.long xt), .second] [(.ref av), (.ref b43), (.ref b21), (.ref b1), (.ref ao)])) rfl (by rw [hml]; rfl) rfl (hb hby d1_24) (by decide) (W := 4) (cap := 31) (by show 2 * 0 + _ ≤ _; exact Nat.le_of_eq rfl) (by decide) hcap24_68 (by decide) (by decide)
  obtain ⟨b67, g67⟩ : ∃ z, z = h43.size := ⟨_, rfl⟩
  rw [← g67] at A67 Ea67 st67
  have ne_ao_b67 : ao ≠ b67 := Nat.ne_of_lt (Nat.lt_of_lt_of_le E45.lt (Nat.le_of_eq g67.symm))
  have ne_ar_b67 : ar ≠ b67 := Nat.ne_of_lt (Nat.lt_of_lt_of_le E52.lt (Nat.le_of_eq g67.symm))
  have ne_af_b67 : af ≠ b67 := Nat.ne_of_lt (Nat.lt_of_lt_of_le E54.lt (Nat.le_of_eq g67.symm))
  have ne_aq_b67 : aq ≠ b67 := Nat.ne_of_lt (Nat.lt_of_lt_of_le E56.lt (Nat.le_of_eq g67.symm))
  have ne_av_b67 : av ≠ b67 := Nat.ne_of_lt (Nat.lt_of_lt_of_le E58.lt (Nat.le_of_eq g67.symm))
  have ne_b1_b67 : b1 ≠ b67 := Nat.ne_of_lt (Nat.lt_of_lt_of_le E60.lt (Nat.le_of_eq g67.symm))
  have ne_b21_b67 : b21 ≠ b67 := Nat.ne_of_lt (Nat.lt_of_lt_of_le E62.lt (Nat.le_of_eq g67.symm))
  have ne_b43_b67 : b43 ≠ b67 := Nat.ne_of_lt (Nat.lt_of_lt_of_le E64.lt (Nat.le_of_eq g67.symm))
  have E69 : Exa Z h67 ao "com/example/keysweep/keysweep/Key" := E45.ext E67
  have F70 : Fld Z h67 ao "com/example/keysweep/keysweep/Key" "row" "[B" .null := F46.ext E67
  have F71 : Fld Z h67 ao "com/example/keysweep/keysweep/Key" "family" "[B" .null := F47.ext E67
  have F72 : Fld Z h67 ao "com/example/keysweep/keysweep/Key" "qualifier" "[B" .null := F48.ext E67
  have F73 : Fld Z h67 ao "com/example/keysweep/keysweep/Key" "visibility" "[B" .null := F49.ext E67
  have F74 : Fld Z h67 ao "com/example/keysweep/keysweep/Key" "timestamp" "J" (.long (0 : Int64)) := F50.ext E67
  have F75 : Fld Z h67 ao "com/example/keysweep/keysweep/Key" "deleteMarker" "Z" (.int (0 : Int32)) := F51.ext E67
  have E76 : Exa Z h67 ar "[B" := E52.ext E67
  have V77 : Arv Z h67 ar kr .byte xlr [] (.int (0 : Int32)) := V53.ext E67
  have E78 : Exa Z h67 af "[B" := E54.ext E67
  have V79 : Arv Z h67 af kf .byte xlf [] (.int (0 : Int32)) := V55.ext E67
  have E80 : Exa Z h67 aq "[B" := E56.ext E67
  have V81 : Arv Z h67 aq kq .byte xlq [] (.int (0 : Int32)) := V57.ext E67
  have E82 : Exa Z h67 av "[B" := E58.ext E67
  have V83 : Arv Z h67 av kv .byte xlv [] (.int (0 : Int32)) := V59.ext E67
  have E84 : Exa Z h67 b1 "[B" := E60.ext E67
  have V85 : Arv Z h67 b1 kr .byte xlr [] (.int (0 : Int32)) := V61.ext E67
  have E86 : Exa Z h67 b21 "[B" := E62.ext E67
  have V87 : Arv Z h67 b21 kf .byte xlf [] (.int (0 : Int32)) := V63.ext E67
  have E88 : Exa Z h67 b43 "[B" := E64.ext E67
  have V89 : Arv Z h67 b43 kq .byte xlq [] (.int (0 : Int32)) := V65.ext E67
  have ge_b67 : n0 ≤ b67 := Nat.le_trans sz43 (Nat.le_of_eq g67.symm)
  have sz_b67 : h0.size ≤ b67 := Nat.le_trans (K43).1 (Nat.le_of_eq g67.symm)
  have sz67 : n0 ≤ h67.size := Nat.le_trans sz43 E67.1
  have K67 : Keep h0 h67 [ao] := (K43).ext E67
  have E90 : Exa Z h67 b67 "[B" := Ea67
  have V91 : Arv Z h67 b67 kv .byte xlv [] (.int (0 : Int32)) := A67
  refine own_Goes.via (T' := T67) (g' := (mkF m 27 #[.val (.ref ao), .val (.ref ar), .val (.ref af), .val (.ref aq), .val (.ref av), .val (.long xt), .second] [(.ref b67), (.ref b43), (.ref b21), (.ref b1), (.ref ao)])) (st67) ?_
  obtain ⟨T92, X92, e92, st92⟩ := castY X67 hx hZ hown (hw _ (List.mem_of_getElem? (i := 14) rfl)) e67 (Ins.self E90) (g := (mkF m 27 #[.val (.ref ao), .val (.ref ar), .val (.ref af), .val (.ref aq), .val (.ref av), .val (.long xt), .second] [(.ref b67), (.ref b43), (.ref b21), (.ref b1), (.ref ao)])) rfl rfl (hb hby d1_27)
  refine own_Goes.via (T' := T92) (g' := (mkF m 30 #[.val (.ref ao), .val (.ref ar), .val (.ref af), .val (.ref aq), .val (.ref av), .val (.long xt), .second] [(.ref b67), (.ref b43), (.ref b21), (.ref b1), (.ref ao)])) (st92) ?_
  refine own_Goes.via (T' := T92) (g' := (mkF m 32 #[.val (.ref ao), .val (.ref ar), .val (.ref af), .val (.ref aq), .val (.ref av), .val (.long xt), .second] [(.long xt), (.ref b67), (.ref b43), (.ref b21), (.ref b1), (.ref ao)])) (fun t_ k_ => XS.lload X92.here hx rfl (hb hby d1_30) rfl k_) ?_
  refine own_Goes.via (T' := T92) (g' := (mkF m 33 #[.val (.ref ao), .val (.ref ar), .val (.ref af), .val (.ref aq), .val (.ref av), .val (.long xt), .second] [(.int (0 : Int32)), (.long xt), (.ref b67), (.ref b43), (.ref b21), (.ref b1), (.ref ao)])) (fun t_ k_ => XS.iconst X92.here hx rfl (hb hby d1_32) k_) ?_
  obtain ⟨_, _, ⟨T93, L93, k93, n93⟩, -, X93, ⟨Lc93, hQ93, l93, y93, z93⟩, st93⟩ := X92.specialBack hx (y := (⟨"com/example/keysweep/keysweep/Key", "<init>", "([B[B[B[BJZ)V"⟩ : MethodName)) rfl hown (mvT hZ (hw _ (List.mem_of_getElem? (i := 16) rfl))) (mvT hZ (hw _ (List.mem_of_getElem? (i := 17) rfl))) (mvT hZ (hw _ (List.mem_of_getElem? (i := 18) rfl))) (by decide) (backOf (W := 0) (rm2 l Z a0 hw [] ao b1 b21 b43 b67 xt (0 : Int32) h67 n0 sz67 E69 F70 F71 F72 F73 F74 F75 ge_ao) hZ (hw _ (List.mem_of_getElem? (i := 18) rfl)) (hw _ (List.mem_of_getElem? (i := 3) rfl)) (by decide) (by decide)) (g := (mkF m 33 #[.val (.ref ao), .val (.ref ar), .val (.ref af), .val (.ref aq), .val (.ref av), .val (.long xt), .second] [(.int (0 : Int32)), (.long xt), (.ref b67), (.ref b43), (.ref b21), (.ref b1), (.ref ao)])) rfl (by rw [hml]; rfl) (Steps.refl _) (a := ao) (argsL := [(.ref b1), (.ref b21), (.ref b43), (.ref b67), (.long xt), (.int (0 : Int32))]) (rest := []) (lenOf pd_1_0 rfl) rfl (by show 2 * 0 + _ ≤ _; exact Nat.le_of_eq rfl) (hb hby d1_33) (fun _ _ => ⟨rfl, e92, (by decide : 4 + 0 ≤ _), (by decide : 124 + 0 ≤ _)⟩)
  dsimp only [Pt.U, Pt.locs, Pt.cells, Pt.slots] at X93 l93 y93 z93 st93 hQ93
  subst l93 y93 z93
  obtain ⟨rfl, Nq93, Kq93, pf93_0, pf93_1, pf93_2, pf93_3, pf93_4, pf93_5, pf93_6⟩ := hQ93
  have N93 := Fr.app N0 Nq93
  have E94 : Exa Z T93.heap ao "com/example/keysweep/keysweep/Key" := E69.keep Kq93
  have E95 : Exa Z T93.heap ar "[B" := E76.keep Kq93
  have V96 : Arv Z T93.heap ar kr .byte xlr [] (.int (0 : Int32)) := V77.keep Kq93 (ninS (Ne.symm PN0) nin0)
  have E97 : Exa Z T93.heap af "[B" := E78.keep Kq93
  have V98 : Arv Z T93.heap af kf .byte xlf [] (.int (0 : Int32)) := V79.keep Kq93 (ninS (Ne.symm PN1) nin0)
  have E99 : Exa Z T93.heap aq "[B" := E80.keep Kq93
  have V100 : Arv Z T93.heap aq kq .byte xlq [] (.int (0 : Int32)) := V81.keep Kq93 (ninS (Ne.symm PN2) nin0)
  have E101 : Exa Z T93.heap av "[B" := E82.keep Kq93
  have V102 : Arv Z T93.heap av kv .byte xlv [] (.int (0 : Int32)) := V83.keep Kq93 (ninS (Ne.symm PN3) nin0)
  have E103 : Exa Z T93.heap b1 "[B" := E84.keep Kq93
  have V104 : Arv Z T93.heap b1 kr .byte xlr [] (.int (0 : Int32)) := V85.keep Kq93 (ninS (Ne.symm ne_ao_b1) nin0)
  have E105 : Exa Z T93.heap b21 "[B" := E86.keep Kq93
  have V106 : Arv Z T93.heap b21 kf .byte xlf [] (.int (0 : Int32)) := V87.keep Kq93 (ninS (Ne.symm ne_ao_b21) nin0)
  have E107 : Exa Z T93.heap b43 "[B" := E88.keep Kq93
  have V108 : Arv Z T93.heap b43 kq .byte xlq [] (.int (0 : Int32)) := V89.keep Kq93 (ninS (Ne.symm ne_ao_b43) nin0)
  have E109 : Exa Z T93.heap b67 "[B" := E90.keep Kq93
  have V110 : Arv Z T93.heap b67 kv .byte xlv [] (.int (0 : Int32)) := V91.keep Kq93 (ninS (Ne.symm ne_ao_b67) nin0)
  have sz93 : n0 ≤ T93.heap.size := Nat.le_trans sz67 Kq93.1
  have K93 : Keep h0 T93.heap [ao] := (K67).trans Kq93 (allS (Or.inl (List.mem_of_getElem? (i := 0) rfl)) all0)
  refine own_Goes.via (T' := T93) (g' := (mkF m 36 #[.val (.ref ao), .val (.ref ar), .val (.ref af), .val (.ref aq), .val (.ref av), .val (.long xt), .second] [])) (fun t_ k_ => st93.trans k_) ?_
  obtain ⟨fs, hr, hrun, hended, hW, hsame⟩ := X93.leave (v := none) (fun _ => rfl)
  refine own_Goes.fin (X93.returnOut hx Bd.returns (hb hby d1_36) hr) hrun hended ?_
  subst hPd
  refine ⟨_, _, rfl, ?_, ⟨_, rfl⟩, hW, hsame.mono (by decide) (by decide)⟩
  show Q1 Z ao ar af aq av xt kr xlr kf xlf kq xlq kv xlv h0 n0 _ T93.heap _
  exact ⟨b1, b21, b43, b67, rfl, N93, K93, ⟨sz_b1, ge_b1⟩, ⟨sz_b21, ge_b21⟩, ⟨sz_b43, ge_b43⟩, ⟨sz_b67, ge_b67⟩, ne_b1_b21, ne_b1_b43, ne_b1_b67, ne_b21_b43, ne_b21_b67, ne_b43_b67, pf93_0, pf93_1, pf93_2, pf93_3, pf93_4, pf93_5, pf93_6, E103, V104, E105, V106, E107, V108, E109, V110⟩
theorem d5_0 : decode jdk_31_method_11_code 0 = .ok (.aload_n 0, 1) := by decide +kernel
theorem d5_1 : decode jdk_31_method_11_code 1 = .ok (.ifnonnull 12, 3) := by decide +kernel
theorem d5_13 : decode jdk_31_method_11_code 13 = .ok (.aload_n 0, 1) := by decide +kernel
theorem d5_14 : decode jdk_31_method_11_code 14 = .ok (.areturn, 1) := by decide +kernel
theorem pn_5 : plainName "java/util/Objects" = true := by first | (simp [plainName, overriddenIn]; done) | decide +kernel
theorem ef_5 (m : MethodId) (ao : Addr) (az : Addr) : entryFrame m #[(.ref ao), (.ref az)] 2 = mkF m 0 #[.val (.ref ao), .val (.ref az)] [] := by first | (simp [entryFrame, mkF, argsToLocals, Value.category]; done) | rfl
def Q5 (Z : State) (ao : Addr) (az : Addr) (h0 : Heap) (n0 : Nat) (v : Option Value) (h : Heap) (L : List Loc) : Prop := v = some (.ref ao) ∧ Fr n0 L ∧ h = h0
set_option maxRecDepth 65536 in
set_option maxHeartbeats 40000000 in
theorem rm5 (l : Launch) (Z : State) (a0 : Array Value) (hw : ∀ d ∈ tables_1, d.before a0 Z = true) (ws : List Jvm.Cond) (ao : Addr) (az : Addr) (h0 : Heap) (n0 : Nat) (Z0 : n0 ≤ h0.size) :
    MetFree l (⟨"java/util/Objects", "requireNonNull", "(Ljava/lang/Object;Ljava/lang/String;)Ljava/lang/Object;"⟩ : MethodName) (head1 (Jvm.Cond.code (⟨"java/util/Objects", "requireNonNull", "(Ljava/lang/Object;Ljava/lang/String;)Ljava/lang/Object;"⟩ : MethodName) jdk_31_method_11_code 2 (some (.object "java/lang/Object")) :: ws) ({ frames := 0, cells := 0, slots := 0, locals := 0 } : Room)) (fun a U => a = #[(.ref ao), (.ref az)] ∧ Z.Warmed39 U.vm ∧ U.heap = h0) (fun _ _ _ _ _ => True) (fun _ U o U' => ∃ v L, o = .returned v ∧ Q5 Z ao az h0 n0 v U'.heap L ∧ FrameEnd U o U' L ({ frames := 0, cells := 0, slots := 0, locals := 0 } : Room).cells ({ frames := 0, cells := 0, slots := 0, locals := 0 } : Room).slots) := by
  refine MetFree.of_bodySF (plainFor_of_name pn_5) hisR ?_
  intro p e s m args below meth c s₁ Bd hml0 hP hK
  obtain ⟨rfl, hZ, hh⟩ := hP
  have hx := Bd.exec
  have hby := Bd.bytes
  have hml : c.maxLocals = 2 := hml0
  have hown : s.vm.findClass "java/util/Objects" = some m.cls := findClass_of_methodNamed Bd.named
  have hnm := (name_of_methodNamed Bd.named Bd.method).1
  have X0 : Stand p l e ({ frames := 0, cells := 0, slots := 0, locals := 0 } : Room) s m #[(.ref ao), (.ref az)] below meth c s₁ [] 0 0 := Stand.of_body Bd
  have e0 : s₁.heap = h0 := by rw [← hh, Bd.state]; rfl
  have N0 := Fr.nil n0
  suffices G : own_Goes p.tables e below (fun o U' => ∃ v L, o = .returned v ∧ Q5 Z ao az h0 n0 v U'.heap L ∧ FrameEnd s o U' L ({ frames := 0, cells := 0, slots := 0, locals := 0 } : Room).cells ({ frames := 0, cells := 0, slots := 0, locals := 0 } : Room).slots) s₁ (mkF m 0 #[.val (.ref ao), .val (.ref az)] []) by
    obtain ⟨t2_, o2_, z1_, z2_, z3_, z4_⟩ := G
    exact ⟨t2_, o2_, castTop (ef_5 m ao az) z1_, z2_, z3_, z4_⟩
  generalize hPd : (fun (o : Outcome) (U' : State) => ∃ v L, o = .returned v ∧ Q5 Z ao az h0 n0 v U'.heap L ∧ FrameEnd s o U' L ({ frames := 0, cells := 0, slots := 0, locals := 0 } : Room).cells ({ frames := 0, cells := 0, slots := 0, locals := 0 } : Room).slots) = P
  refine own_Goes.via (T' := s₁) (g' := (mkF m 1 #[.val (.ref ao), .val (.ref az)] [(.ref ao)])) (fun t_ k_ => XS.aloadN X0.here hx rfl (hb hby d5_0) rfl rfl k_) ?_
  refine own_Goes.via (T' := s₁) (g' := (mkF m 13 #[.val (.ref ao), .val (.ref az)] [])) (fun t_ k_ => XS.ifnonnullYes X0.here hx rfl (pc0 := 1) (pc' := 13) rfl (hb hby d5_1) rfl (by decide) (by decide) k_) ?_
  refine own_Goes.via (T' := s₁) (g' := (mkF m 14 #[.val (.ref ao), .val (.ref az)] [(.ref ao)])) (fun t_ k_ => XS.aloadN X0.here hx rfl (hb hby d5_13) rfl rfl k_) ?_
  obtain ⟨fs, hr, hrun, hended, hW, hsame⟩ := X0.leave (v := some (.ref ao)) (fun h => by rw [Bd.returns] at h; cases h)
  refine own_Goes.fin (retOut X0 hx Bd.returns rfl (Or.inr (Or.inr (Or.inr (Or.inr ⟨rfl, rfl, rfl⟩)))) (hb hby d5_14) hr) hrun hended ?_
  subst hPd
  refine ⟨_, _, rfl, ?_, ⟨_, rfl⟩, hW, hsame.mono (by decide) (by decide)⟩
  show Q5 Z ao az h0 n0 _ s₁.heap _
  rw [e0]
  exact ⟨(by first | rfl | (simp only [])), N0, rfl⟩
theorem d4_0 : decode prog_6_method_1_code 0 = .ok (.aload_n 0, 1) := by decide +kernel
theorem d4_1 : decode prog_6_method_1_code 1 = .ok (.invokespecial 1, 3) := by decide +kernel
theorem d4_4 : decode prog_6_method_1_code 4 = .ok (.aload_n 0, 1) := by decide +kernel
theorem d4_5 : decode prog_6_method_1_code 5 = .ok (.aload_n 1, 1) := by decide +kernel
theorem d4_6 : decode prog_6_method_1_code 6 = .ok (.ldc 7, 2) := by decide +kernel
theorem d4_8 : decode prog_6_method_1_code 8 = .ok (.invokestatic 9, 3) := by decide +kernel
theorem d4_11 : decode prog_6_method_1_code 11 = .ok (.checkcast 15, 3) := by decide +kernel
theorem d4_14 : decode prog_6_method_1_code 14 = .ok (.putfield 17, 3) := by decide +kernel
theorem d4_17 : decode prog_6_method_1_code 17 = .ok (.aload_n 0, 1) := by decide +kernel
theorem d4_18 : decode prog_6_method_1_code 18 = .ok (.aload_n 2, 1) := by decide +kernel
theorem d4_19 : decode prog_6_method_1_code 19 = .ok (.invokevirtual 22, 3) := by decide +kernel
theorem d4_22 : decode prog_6_method_1_code 22 = .ok (.checkcast 23, 3) := by decide +kernel
theorem d4_25 : decode prog_6_method_1_code 25 = .ok (.putfield 28, 3) := by decide +kernel
theorem d4_28 : decode prog_6_method_1_code 28 = .ok (.return_, 1) := by decide +kernel
theorem pn_4 : plainName "com/example/keysweep/keysweep/Entry" = true := by first | (simp [plainName, overriddenIn]; done) | decide +kernel
theorem pd_4_0 : parseMethodDescriptor "(Ljava/lang/Object;Ljava/lang/String;)Ljava/lang/Object;" = some ⟨[(.object "java/lang/Object"), (.object "java/lang/String")], some (.object "java/lang/Object")⟩ := by decide +kernel
theorem ef_4 (m : MethodId) (ao : Addr) (ak : Addr) (av : Addr) : entryFrame m #[(.ref ao), (.ref ak), (.ref av)] 3 = mkF m 0 #[.val (.ref ao), .val (.ref ak), .val (.ref av)] [] := by first | (simp [entryFrame, mkF, argsToLocals, Value.category]; done) | rfl
def Q4 (Z : State) (ao : Addr) (ak : Addr) (av : Addr) (kv : ClassId) (xlv : Int32) (h0 : Heap) (n0 : Nat) (v : Option Value) (h : Heap) (L : List Loc) : Prop := ∃ (bv : Addr), v = none ∧ Fr n0 L ∧ Keep h0 h [ao] ∧ (h0.size ≤ bv ∧ n0 ≤ bv) ∧ Exa Z h ao "com/example/keysweep/keysweep/Entry" ∧ Fld Z h ao "com/example/keysweep/keysweep/Entry" "key" "Lcom/example/keysweep/keysweep/Key;" (.ref ak) ∧ Fld Z h ao "com/example/keysweep/keysweep/Entry" "value" "[B" (.ref bv) ∧ Exa Z h bv "[B" ∧ Arv Z h bv kv .byte xlv [] (.int (0 : Int32))
set_option maxRecDepth 65536 in
set_option maxHeartbeats 40000000 in
theorem rm4 (l : Launch) (Z : State) (a0 : Array Value) (hw : ∀ d ∈ tables_1, d.before a0 Z = true) (ws : List Jvm.Cond) (ao : Addr) (ak : Addr) (av : Addr) (kv : ClassId) (xlv : Int32) (h0 : Heap) (n0 : Nat) (Z0 : n0 ≤ h0.size) (PF0 : Exa Z h0 ao "com/example/keysweep/keysweep/Entry") (PF1 : Fld Z h0 ao "com/example/keysweep/keysweep/Entry" "key" "Lcom/example/keysweep/keysweep/Key;" .null) (PF2 : Fld Z h0 ao "com/example/keysweep/keysweep/Entry" "value" "[B" .null) (PF3 : Exa Z h0 ak "com/example/keysweep/keysweep/Key") (PF4 : Exa Z h0 av "[B") (PF5 : Arv Z h0 av kv .byte xlv [] (.int (0 : Int32))) (PN0 : ao ≠ ak) (PN1 : ao ≠ av) (ge_ao : n0 ≤ ao) (hc : xlv.toNatClampNeg ≤ 31) :
    MetFree l (⟨"com/example/keysweep/keysweep/Entry", "<init>", "(Lcom/example/keysweep/keysweep/Key;[B)V"⟩ : MethodName) (head1 (Jvm.Cond.code (⟨"com/example/keysweep/keysweep/Entry", "<init>", "(Lcom/example/keysweep/keysweep/Key;[B)V"⟩ : MethodName) prog_6_method_1_code 3 none :: ws) ({ frames := 1, cells := 3, slots := 47, locals := 15 } : Room)) (fun a U => a = #[(.ref ao), (.ref ak), (.ref av)] ∧ Z.Warmed39 U.vm ∧ U.heap = h0) (fun _ _ _ _ _ => True) (fun _ U o U' => ∃ v L, o = .returned v ∧ Q4 Z ao ak av kv xlv h0 n0 v U'.heap L ∧ ReturnedEndW U o U' L ({ frames := 1, cells := 3, slots := 47, locals := 15 } : Room).cells ({ frames := 1, cells := 3, slots := 47, locals := 15 } : Room).slots) := by
  refine MetFree.of_bodySF (plainFor_of_name pn_4) hisR ?_
  intro p e s m args below meth c s₁ Bd hml0 hP hK
  obtain ⟨rfl, hZ, hh⟩ := hP
  have hx := Bd.exec
  have hby := Bd.bytes
  have hml : c.maxLocals = 3 := hml0
  have hown : s.vm.findClass "com/example/keysweep/keysweep/Entry" = some m.cls := findClass_of_methodNamed Bd.named
  have hnm := (name_of_methodNamed Bd.named Bd.method).1
  have X0 : Stand p l e ({ frames := 1, cells := 3, slots := 47, locals := 15 } : Room) (s.setVm s.vm) m #[(.ref ao), (.ref ak), (.ref av)] below meth c s₁ [] 0 0 := Stand.of_body Bd
  have e0 : s₁.heap = h0 := by rw [← hh, Bd.state]; rfl
  have N0 := Fr.nil n0
  suffices G : own_Goes p.tables e below (fun o U' => ∃ v L, o = .returned v ∧ Q4 Z ao ak av kv xlv h0 n0 v U'.heap L ∧ ReturnedEndW s o U' L ({ frames := 1, cells := 3, slots := 47, locals := 15 } : Room).cells ({ frames := 1, cells := 3, slots := 47, locals := 15 } : Room).slots) s₁ (mkF m 0 #[.val (.ref ao), .val (.ref ak), .val (.ref av)] []) by
    obtain ⟨t2_, o2_, z1_, z2_, z3_, z4_⟩ := G
    exact ⟨t2_, o2_, castTop (ef_4 m ao ak av) z1_, z2_, z3_, z4_⟩
  generalize hPd : (fun (o : Outcome) (U' : State) => ∃ v L, o = .returned v ∧ Q4 Z ao ak av kv xlv h0 n0 v U'.heap L ∧ ReturnedEndW s o U' L ({ frames := 1, cells := 3, slots := 47, locals := 15 } : Room).cells ({ frames := 1, cells := 3, slots := 47, locals := 15 } : Room).slots) = P
  have hS : s.Since s.vm 0 := (State.WarmedH.refl s).since 0
  have hk : 0 ≤ h0.size := Nat.zero_le _
  refine own_Goes.via (T' := s₁) (g' := (mkF m 1 #[.val (.ref ao), .val (.ref ak), .val (.ref av)] [(.ref ao)])) (fun t_ k_ => XS.aloadN X0.here hx rfl (hb hby d4_0) rfl rfl k_) ?_
  obtain ⟨T1, X1, e1, st1⟩ := initO X0 hx hZ hown (hw _ (List.mem_of_getElem? (i := 40) rfl)) (hw _ (List.mem_of_getElem? (i := 20) rfl)) (hw _ (List.mem_of_getElem? (i := 21) rfl)) e0 (g := (mkF m 1 #[.val (.ref ao), .val (.ref ak), .val (.ref av)] [(.ref ao)])) rfl (by rw [hml]; rfl) rfl (hb hby d4_1) (by decide) (W := 0) (by show 2 * 0 + _ ≤ _; exact Nat.le_of_eq rfl) (by decide)
  refine own_Goes.via (T' := T1) (g' := (mkF m 4 #[.val (.ref ao), .val (.ref ak), .val (.ref av)] [])) (st1) ?_
  refine own_Goes.via (T' := T1) (g' := (mkF m 5 #[.val (.ref ao), .val (.ref ak), .val (.ref av)] [(.ref ao)])) (fun t_ k_ => XS.aloadN X1.here hx rfl (hb hby d4_4) rfl rfl k_) ?_
  refine own_Goes.via (T' := T1) (g' := (mkF m 6 #[.val (.ref ao), .val (.ref ak), .val (.ref av)] [(.ref ak), (.ref ao)])) (fun t_ k_ => XS.aloadN X1.here hx rfl (hb hby d4_5) rfl rfl k_) ?_
  obtain ⟨a2, T2, h2, k2, X2, e2, E2, hS, hk, hZ, hown, st2⟩ := ldcS X1 hx hZ hown (hw _ (List.mem_of_getElem? (i := 41) rfl)) (own_wS hw) e1 hS hk (g := (mkF m 6 #[.val (.ref ao), .val (.ref ak), .val (.ref av)] [(.ref ak), (.ref ao)])) rfl (hb hby d4_6) (n := 12) (by decide) (by decide) (by decide) (by decide)
  have E3 : Exa Z h2 ao "com/example/keysweep/keysweep/Entry" := PF0.ext E2
  have F4 : Fld Z h2 ao "com/example/keysweep/keysweep/Entry" "key" "Lcom/example/keysweep/keysweep/Key;" .null := PF1.ext E2
  have F5 : Fld Z h2 ao "com/example/keysweep/keysweep/Entry" "value" "[B" .null := PF2.ext E2
  have E6 : Exa Z h2 ak "com/example/keysweep/keysweep/Key" := PF3.ext E2
  have E7 : Exa Z h2 av "[B" := PF4.ext E2
  have V8 : Arv Z h2 av kv .byte xlv [] (.int (0 : Int32)) := PF5.ext E2
  have sz2 : n0 ≤ h2.size := Nat.le_trans Z0 E2.1
  have K2 : Keep h0 h2 [ao] := ((Keep.refl h0 [ao])).ext E2
  refine own_Goes.via (T' := T2) (g' := (mkF m 8 #[.val (.ref ao), .val (.ref ak), .val (.ref av)] [(.ref a2), (.ref ak), (.ref ao)])) (st2) ?_
  obtain ⟨_, _, ⟨T9, L9, k9, n9⟩, -, X9, ⟨Lc9, hQ9, l9, y9, z9⟩, st9⟩ := Jvm.LawKit.callS X2 hx (y := (⟨"java/util/Objects", "requireNonNull", "(Ljava/lang/Object;Ljava/lang/String;)Ljava/lang/Object;"⟩ : MethodName)) hown (mvT hZ (hw _ (List.mem_of_getElem? (i := 48) rfl))) (mvT hZ (hw _ (List.mem_of_getElem? (i := 49) rfl))) (mvT hZ (hw _ (List.mem_of_getElem? (i := 50) rfl))) (mvT hZ (hw _ (List.mem_of_getElem? (i := 51) rfl))) (by decide) (backOf (W := 1) (rm5 l Z a0 hw [] ak a2 h2 n0 sz2 ) hZ (hw _ (List.mem_of_getElem? (i := 51) rfl)) (hw _ (List.mem_of_getElem? (i := 50) rfl)) (by decide) (by decide)) (g := (mkF m 8 #[.val (.ref ao), .val (.ref ak), .val (.ref av)] [(.ref a2), (.ref ak), (.ref ao)])) rfl (by rw [hml]; rfl) (argsL := [(.ref ak), (.ref a2)]) (rest := [(.ref ao)]) (lenOf pd_4_0 rfl) rfl (by show 2 * 0 + _ ≤ _; exact Nat.le_of_eq rfl) (hb hby d4_8) (fun _ _ => ⟨rfl, e2, (by decide : 2 + 0 ≤ _), (by decide : 16 + 0 ≤ _)⟩)
  dsimp only [Pt.U, Pt.locs, Pt.cells, Pt.slots] at X9 l9 y9 z9 st9 hQ9
  subst l9 y9 z9
  obtain ⟨rfl, Nq9, hh9⟩ := hQ9
  have N9 := Fr.app N0 Nq9
  refine own_Goes.via (T' := T9) (g' := (mkF m 11 #[.val (.ref ao), .val (.ref ak), .val (.ref av)] [(.ref ak), (.ref ao)])) (st9) ?_
  obtain ⟨T10, X10, e10, st10⟩ := castY X9 hx hZ hown (hw _ (List.mem_of_getElem? (i := 52) rfl)) hh9 (Ins.self E6) (g := (mkF m 11 #[.val (.ref ao), .val (.ref ak), .val (.ref av)] [(.ref ak), (.ref ao)])) rfl rfl (hb hby d4_11)
  refine own_Goes.via (T' := T10) (g' := (mkF m 14 #[.val (.ref ao), .val (.ref ak), .val (.ref av)] [(.ref ak), (.ref ao)])) (st10) ?_
  obtain ⟨T11, h11, X11, e11, W11, st11⟩ := putF X10 hx hZ hown (host := "") (Or.inl (hw _ (List.mem_of_getElem? (i := 54) rfl))) Via.refl e10 F4 E3 (Or.inr ⟨(hw _ (List.mem_of_getElem? (i := 55) rfl)), rfl, hnm⟩) (hw _ (List.mem_of_getElem? (i := 35) rfl)) (ty := (.object "com/example/keysweep/keysweep/Key")) (by decide) rfl rfl (g := (mkF m 14 #[.val (.ref ao), .val (.ref ak), .val (.ref av)] [(.ref ak), (.ref ao)])) rfl rfl (hb hby d4_14)
  have E12 : Exa Z h11 ao "com/example/keysweep/keysweep/Entry" := E3.wr W11
  have F13 : Fld Z h11 ao "com/example/keysweep/keysweep/Entry" "value" "[B" .null := F5.other W11 (Or.inr (slot_ne (Or.inr (hw _ (List.mem_of_getElem? (i := 59) rfl))) (Or.inr (hw _ (List.mem_of_getElem? (i := 55) rfl))) (by decide) (t := (.array .byte)) (t' := (.object "com/example/keysweep/keysweep/Key")) (by decide) (by decide)))
  have E14 : Exa Z h11 ak "com/example/keysweep/keysweep/Key" := E6.wr W11
  have E15 : Exa Z h11 av "[B" := E7.wr W11
  have V16 : Arv Z h11 av kv .byte xlv [] (.int (0 : Int32)) := V8.other W11 (Ne.symm PN1)
  have F17 : Fld Z h11 ao "com/example/keysweep/keysweep/Entry" "key" "Lcom/example/keysweep/keysweep/Key;" (.ref ak) := F4.same W11
  have N11 := Fr.snoc X11 N9 ge_ao
  have sz11 : n0 ≤ h11.size := Nat.le_trans sz2 (Keep.of_wr W11).1
  have hk := Nat.le_trans hk (Keep.of_wr W11).1
  have K11 : Keep h0 h11 [ao] := (K2).wr W11 (Or.inl (List.mem_of_getElem? (i := 0) rfl))
  refine own_Goes.via (T' := T11) (g' := (mkF m 17 #[.val (.ref ao), .val (.ref ak), .val (.ref av)] [])) (st11) ?_
  refine own_Goes.via (T' := T11) (g' := (mkF m 18 #[.val (.ref ao), .val (.ref ak), .val (.ref av)] [(.ref ao)])) (fun t_ k_ => XS.aloadN X11.here hx rfl (hb hby d4_17) rfl rfl k_) ?_
  refine own_Goes.via (T' := T11) (g' := (mkF m 19 #[.val (.ref ao), .val (.ref ak), .val (.ref av)] [(.ref av), (.ref ao)])) (fun t_ k_ => XS.aloadN X11.here hx rfl (hb hby d4_18) rfl rfl k_) ?_
  have hcap19_19 : xlv.toNatClampNeg ≤ 31 := by first | assumption | decide
  obtain ⟨T18, h18, X18, e18, E18, A18, Ea18, st18⟩ := cloneH X11 hx hZ hown (hw _ (List.mem_of_getElem? (i := 56) rfl)) (hw _ (List.mem_of_getElem? (i := 8) rfl)) (hw _ (List.mem_of_getElem? (i := 12) rfl)) (hw _ (List.mem_of_getElem? (i := 10) rfl)) (hw _ (List.mem_of_getElem? (i := 11) rfl)) (hw _ (List.mem_of_getElem? (i := 13) rfl)) e11 V16.arh E15 (g := (mkF m 19 #[.val (.ref ao), .val (.ref ak), .val (.ref av)] [(.ref av), (.ref ao)])) rfl (by rw [hml]; rfl) rfl (hb hby d4_19) (by decide) (W := 1) (cap := 31) (by show 2 * 0 + _ ≤ _; exact Nat.le_of_eq rfl) (by decide) hcap19_19 (by decide) (by decide)
  obtain ⟨b18, g18⟩ : ∃ z, z = h11.size := ⟨_, rfl⟩
  rw [← g18] at A18 Ea18 st18
  have ne_ao_b18 : ao ≠ b18 := Nat.ne_of_lt (Nat.lt_of_lt_of_le E12.lt (Nat.le_of_eq g18.symm))
  have ne_ak_b18 : ak ≠ b18 := Nat.ne_of_lt (Nat.lt_of_lt_of_le E14.lt (Nat.le_of_eq g18.symm))
  have ne_av_b18 : av ≠ b18 := Nat.ne_of_lt (Nat.lt_of_lt_of_le E15.lt (Nat.le_of_eq g18.symm))
  have E20 : Exa Z h18 ao "com/example/keysweep/keysweep/Entry" := E12.ext E18
  have F21 : Fld Z h18 ao "com/example/keysweep/keysweep/Entry" "value" "[B" .null := F13.ext E18
  have E22 : Exa Z h18 ak "com/example/keysweep/keysweep/Key" := E14.ext E18
  have E23 : Exa Z h18 av "[B" := E15.ext E18
  have V24 : Arv Z h18 av kv .byte xlv [] (.int (0 : Int32)) := V16.ext E18
  have F25 : Fld Z h18 ao "com/example/keysweep/keysweep/Entry" "key" "Lcom/example/keysweep/keysweep/Key;" (.ref ak) := F17.ext E18
  have ge_b18 : n0 ≤ b18 := Nat.le_trans sz11 (Nat.le_of_eq g18.symm)
  have sz_b18 : h0.size ≤ b18 := Nat.le_trans (K11).1 (Nat.le_of_eq g18.symm)
  have sz18 : n0 ≤ h18.size := Nat.le_trans sz11 E18.1
  have hk := Nat.le_trans hk E18.1
  have K18 : Keep h0 h18 [ao] := (K11).ext E18
  have E26 : Exa Z h18 b18 "[B" := Ea18
  have V27 : Arv Z h18 b18 kv .byte xlv [] (.int (0 : Int32)) := A18
  refine own_Goes.via (T' := T18) (g' := (mkF m 22 #[.val (.ref ao), .val (.ref ak), .val (.ref av)] [(.ref b18), (.ref ao)])) (st18) ?_
  obtain ⟨T28, X28, e28, st28⟩ := castY X18 hx hZ hown (hw _ (List.mem_of_getElem? (i := 57) rfl)) e18 (Ins.self E26) (g := (mkF m 22 #[.val (.ref ao), .val (.ref ak), .val (.ref av)] [(.ref b18), (.ref ao)])) rfl rfl (hb hby d4_22)
  refine own_Goes.via (T' := T28) (g' := (mkF m 25 #[.val (.ref ao), .val (.ref ak), .val (.ref av)] [(.ref b18), (.ref ao)])) (st28) ?_
  obtain ⟨T29, h29, X29, e29, W29, st29⟩ := putF X28 hx hZ hown (host := "") (Or.inl (hw _ (List.mem_of_getElem? (i := 58) rfl))) Via.refl e28 F21 E20 (Or.inr ⟨(hw _ (List.mem_of_getElem? (i := 59) rfl)), rfl, hnm⟩) (hw _ (List.mem_of_getElem? (i := 35) rfl)) (ty := (.array .byte)) (by decide) rfl rfl (g := (mkF m 25 #[.val (.ref ao), .val (.ref ak), .val (.ref av)] [(.ref b18), (.ref ao)])) rfl rfl (hb hby d4_25)
  have E30 : Exa Z h29 ao "com/example/keysweep/keysweep/Entry" := E20.wr W29
  have E31 : Exa Z h29 ak "com/example/keysweep/keysweep/Key" := E22.wr W29
  have E32 : Exa Z h29 av "[B" := E23.wr W29
  have V33 : Arv Z h29 av kv .byte xlv [] (.int (0 : Int32)) := V24.other W29 (Ne.symm PN1)
  have F34 : Fld Z h29 ao "com/example/keysweep/keysweep/Entry" "key" "Lcom/example/keysweep/keysweep/Key;" (.ref ak) := F25.other W29 (Or.inr (slot_ne (Or.inr (hw _ (List.mem_of_getElem? (i := 55) rfl))) (Or.inr (hw _ (List.mem_of_getElem? (i := 59) rfl))) (by decide) (t := (.object "com/example/keysweep/keysweep/Key")) (t' := (.array .byte)) (by decide) (by decide)))
  have E35 : Exa Z h29 b18 "[B" := E26.wr W29
  have V36 : Arv Z h29 b18 kv .byte xlv [] (.int (0 : Int32)) := V27.other W29 (Ne.symm ne_ao_b18)
  have F37 : Fld Z h29 ao "com/example/keysweep/keysweep/Entry" "value" "[B" (.ref b18) := F21.same W29
  have N29 := Fr.snoc X29 N11 ge_ao
  have sz29 : n0 ≤ h29.size := Nat.le_trans sz18 (Keep.of_wr W29).1
  have hk := Nat.le_trans hk (Keep.of_wr W29).1
  have K29 : Keep h0 h29 [ao] := (K18).wr W29 (Or.inl (List.mem_of_getElem? (i := 0) rfl))
  refine own_Goes.via (T' := T29) (g' := (mkF m 28 #[.val (.ref ao), .val (.ref ak), .val (.ref av)] [])) (st29) ?_
  obtain ⟨fs, hr, hrun, hended, hE⟩ := leaveW X29 hS (by rw [e29]; exact hk) (v := none) (fun _ => rfl)
  refine own_Goes.fin (X29.returnOut hx Bd.returns (hb hby d4_28) hr) hrun hended ?_
  subst hPd
  refine ⟨_, _, rfl, ?_, hE.1, hE.2.1, hE.2.2.1, hE.2.2.2.mono (by decide) (by decide)⟩
  show Q4 Z ao ak av kv xlv h0 n0 _ T29.heap _
  rw [e29]
  exact ⟨b18, rfl, N29, K29, ⟨sz_b18, ge_b18⟩, E30, F34, F37, E35, V36⟩
theorem d6_0 : decode prog_6_method_4_code 0 = .ok (.aload_n 0, 1) := by decide +kernel
theorem d6_1 : decode prog_6_method_4_code 1 = .ok (.getfield 17, 3) := by decide +kernel
theorem d6_4 : decode prog_6_method_4_code 4 = .ok (.getfield 31, 3) := by decide +kernel
theorem d6_7 : decode prog_6_method_4_code 7 = .ok (.arraylength, 1) := by decide +kernel
theorem d6_8 : decode prog_6_method_4_code 8 = .ok (.i2l, 1) := by decide +kernel
theorem d6_9 : decode prog_6_method_4_code 9 = .ok (.aload_n 0, 1) := by decide +kernel
theorem d6_10 : decode prog_6_method_4_code 10 = .ok (.getfield 17, 3) := by decide +kernel
theorem d6_13 : decode prog_6_method_4_code 13 = .ok (.getfield 34, 3) := by decide +kernel
theorem d6_16 : decode prog_6_method_4_code 16 = .ok (.arraylength, 1) := by decide +kernel
theorem d6_17 : decode prog_6_method_4_code 17 = .ok (.i2l, 1) := by decide +kernel
theorem d6_18 : decode prog_6_method_4_code 18 = .ok (.ladd, 1) := by decide +kernel
theorem d6_19 : decode prog_6_method_4_code 19 = .ok (.aload_n 0, 1) := by decide +kernel
theorem d6_20 : decode prog_6_method_4_code 20 = .ok (.getfield 17, 3) := by decide +kernel
theorem d6_23 : decode prog_6_method_4_code 23 = .ok (.getfield 37, 3) := by decide +kernel
theorem d6_26 : decode prog_6_method_4_code 26 = .ok (.arraylength, 1) := by decide +kernel
theorem d6_27 : decode prog_6_method_4_code 27 = .ok (.i2l, 1) := by decide +kernel
theorem d6_28 : decode prog_6_method_4_code 28 = .ok (.ladd, 1) := by decide +kernel
theorem d6_29 : decode prog_6_method_4_code 29 = .ok (.aload_n 0, 1) := by decide +kernel
theorem d6_30 : decode prog_6_method_4_code 30 = .ok (.getfield 17, 3) := by decide +kernel
theorem d6_33 : decode prog_6_method_4_code 33 = .ok (.getfield 40, 3) := by decide +kernel
theorem d6_36 : decode prog_6_method_4_code 36 = .ok (.arraylength, 1) := by decide +kernel
theorem d6_37 : decode prog_6_method_4_code 37 = .ok (.i2l, 1) := by decide +kernel
theorem d6_38 : decode prog_6_method_4_code 38 = .ok (.ladd, 1) := by decide +kernel
theorem d6_39 : decode prog_6_method_4_code 39 = .ok (.ldc2_w 45, 3) := by decide +kernel
theorem d6_42 : decode prog_6_method_4_code 42 = .ok (.ladd, 1) := by decide +kernel
theorem d6_43 : decode prog_6_method_4_code 43 = .ok (.aload_n 0, 1) := by decide +kernel
theorem d6_44 : decode prog_6_method_4_code 44 = .ok (.getfield 28, 3) := by decide +kernel
theorem d6_47 : decode prog_6_method_4_code 47 = .ok (.arraylength, 1) := by decide +kernel
theorem d6_48 : decode prog_6_method_4_code 48 = .ok (.i2l, 1) := by decide +kernel
theorem d6_49 : decode prog_6_method_4_code 49 = .ok (.ladd, 1) := by decide +kernel
theorem d6_50 : decode prog_6_method_4_code 50 = .ok (.lreturn, 1) := by decide +kernel
theorem pn_6 : plainName "com/example/keysweep/keysweep/Entry" = true := by first | (simp [plainName, overriddenIn]; done) | decide +kernel
theorem ef_6 (m : MethodId) (ao : Addr) : entryFrame m #[(.ref ao)] 1 = mkF m 0 #[.val (.ref ao)] [] := by first | (simp [entryFrame, mkF, argsToLocals, Value.category]; done) | rfl
def own_f6 (xlr : Int32) (xlf : Int32) (xlq : Int32) (xlv : Int32) (xlb : Int32) : Int64 := ((((((xlr.toInt64) + (xlf.toInt64)) + (xlq.toInt64)) + (xlv.toInt64)) + (8 : Int64)) + (xlb.toInt64))
def Q6 (Z : State) (ao : Addr) (ak : Addr) (ab : Addr) (ar : Addr) (kr : ClassId) (xlr : Int32) (af : Addr) (kf : ClassId) (xlf : Int32) (aq : Addr) (kq : ClassId) (xlq : Int32) (av : Addr) (kv : ClassId) (xlv : Int32) (kb : ClassId) (xlb : Int32) (h0 : Heap) (n0 : Nat) (v : Option Value) (h : Heap) (L : List Loc) : Prop := v = some (.long (own_f6 xlr xlf xlq xlv xlb)) ∧ Fr n0 L ∧ h = h0
set_option maxRecDepth 65536 in
set_option maxHeartbeats 40000000 in
theorem rm6 (l : Launch) (Z : State) (a0 : Array Value) (hw : ∀ d ∈ tables_1, d.before a0 Z = true) (ws : List Jvm.Cond) (ao : Addr) (ak : Addr) (ab : Addr) (ar : Addr) (kr : ClassId) (xlr : Int32) (af : Addr) (kf : ClassId) (xlf : Int32) (aq : Addr) (kq : ClassId) (xlq : Int32) (av : Addr) (kv : ClassId) (xlv : Int32) (kb : ClassId) (xlb : Int32) (h0 : Heap) (n0 : Nat) (Z0 : n0 ≤ h0.size) (PF0 : Fld Z h0 ao "com/example/keysweep/keysweep/Entry" "key" "Lcom/example/keysweep/keysweep/Key;" (.ref ak)) (PF1 : Fld Z h0 ao "com/example/keysweep/keysweep/Entry" "value" "[B" (.ref ab)) (PF2 : Fld Z h0 ak "com/example/keysweep/keysweep/Key" "row" "[B" (.ref ar)) (PF3 : Fld Z h0 ak "com/example/keysweep/keysweep/Key" "family" "[B" (.ref af)) (PF4 : Fld Z h0 ak "com/example/keysweep/keysweep/Key" "qualifier" "[B" (.ref aq)) (PF5 : Fld Z h0 ak "com/example/keysweep/keysweep/Key" "visibility" "[B" (.ref av)) (PF6 : Arv Z h0 ar kr .byte xlr [] (.int (0 : Int32))) (PF7 : Arv Z h0 af kf .byte xlf [] (.int (0 : Int32))) (PF8 : Arv Z h0 aq kq .byte xlq [] (.int (0 : Int32))) (PF9 : Arv Z h0 av kv .byte xlv [] (.int (0 : Int32))) (PF10 : Arv Z h0 ab kb .byte xlb [] (.int (0 : Int32))) :
    MetFree l (⟨"com/example/keysweep/keysweep/Entry", "size", "()J"⟩ : MethodName) (head1 (Jvm.Cond.code (⟨"com/example/keysweep/keysweep/Entry", "size", "()J"⟩ : MethodName) prog_6_method_4_code 1 (some .long) :: ws) ({ frames := 0, cells := 0, slots := 0, locals := 0 } : Room)) (fun a U => a = #[(.ref ao)] ∧ Z.Warmed39 U.vm ∧ U.heap = h0) (fun _ _ _ _ _ => True) (fun _ U o U' => ∃ v L, o = .returned v ∧ Q6 Z ao ak ab ar kr xlr af kf xlf aq kq xlq av kv xlv kb xlb h0 n0 v U'.heap L ∧ FrameEnd U o U' L ({ frames := 0, cells := 0, slots := 0, locals := 0 } : Room).cells ({ frames := 0, cells := 0, slots := 0, locals := 0 } : Room).slots) := by
  refine MetFree.of_bodySF (plainFor_of_name pn_6) hisR ?_
  intro p e s m args below meth c s₁ Bd hml0 hP hK
  obtain ⟨rfl, hZ, hh⟩ := hP
  have hx := Bd.exec
  have hby := Bd.bytes
  have hml : c.maxLocals = 1 := hml0
  have hown : s.vm.findClass "com/example/keysweep/keysweep/Entry" = some m.cls := findClass_of_methodNamed Bd.named
  have hnm := (name_of_methodNamed Bd.named Bd.method).1
  have X0 : Stand p l e ({ frames := 0, cells := 0, slots := 0, locals := 0 } : Room) s m #[(.ref ao)] below meth c s₁ [] 0 0 := Stand.of_body Bd
  have e0 : s₁.heap = h0 := by rw [← hh, Bd.state]; rfl
  have N0 := Fr.nil n0
  suffices G : own_Goes p.tables e below (fun o U' => ∃ v L, o = .returned v ∧ Q6 Z ao ak ab ar kr xlr af kf xlf aq kq xlq av kv xlv kb xlb h0 n0 v U'.heap L ∧ FrameEnd s o U' L ({ frames := 0, cells := 0, slots := 0, locals := 0 } : Room).cells ({ frames := 0, cells := 0, slots := 0, locals := 0 } : Room).slots) s₁ (mkF m 0 #[.val (.ref ao)] []) by
    obtain ⟨t2_, o2_, z1_, z2_, z3_, z4_⟩ := G
    exact ⟨t2_, o2_, castTop (ef_6 m ao) z1_, z2_, z3_, z4_⟩
  generalize hPd : (fun (o : Outcome) (U' : State) => ∃ v L, o = .returned v ∧ Q6 Z ao ak ab ar kr xlr af kf xlf aq kq xlq av kv xlv kb xlb h0 n0 v U'.heap L ∧ FrameEnd s o U' L ({ frames := 0, cells := 0, slots := 0, locals := 0 } : Room).cells ({ frames := 0, cells := 0, slots := 0, locals := 0 } : Room).slots) = P
  refine own_Goes.via (T' := s₁) (g' := (mkF m 1 #[.val (.ref ao)] [(.ref ao)])) (fun t_ k_ => XS.aloadN X0.here hx rfl (hb hby d6_0) rfl rfl k_) ?_
  obtain ⟨T1, X1, e1, st1⟩ := getF X0 hx hZ hown (host := "") (Or.inl (hw _ (List.mem_of_getElem? (i := 54) rfl))) Via.refl e0 PF0 (g := (mkF m 1 #[.val (.ref ao)] [(.ref ao)])) rfl rfl (hb hby d6_1)
  refine own_Goes.via (T' := T1) (g' := (mkF m 4 #[.val (.ref ao)] [(.ref ak)])) (st1) ?_
  obtain ⟨T2, X2, e2, st2⟩ := getF X1 hx hZ hown (host := "") (Or.inl (hw _ (List.mem_of_getElem? (i := 66) rfl))) Via.refl e1 PF2 (g := (mkF m 4 #[.val (.ref ao)] [(.ref ak)])) rfl rfl (hb hby d6_4)
  refine own_Goes.via (T' := T2) (g' := (mkF m 7 #[.val (.ref ao)] [(.ref ar)])) (st2) ?_
  obtain ⟨cl3, Ar3, -, Sl3, Ng3, -, -⟩ := PF6
  refine own_Goes.via (T' := T2) (g' := (mkF m 8 #[.val (.ref ao)] [(.int xlr)])) (fun t_ k_ => X2.arraylength hx (by rw [e2]; exact Ar3.1) (State.isArrayOf_alike hZ.alike Ar3.2.1) (g := (mkF m 7 #[.val (.ref ao)] [(.ref ar)])) rfl rfl (hb hby d6_7) _ (by rw [len_of Sl3 Ng3]; exact k_)) ?_
  refine own_Goes.via (T' := T2) (g' := (mkF m 9 #[.val (.ref ao)] [(.long (xlr.toInt64))])) (fun t_ k_ => XS.i2l X2.here hx rfl (hb hby d6_8) rfl k_) ?_
  refine own_Goes.via (T' := T2) (g' := (mkF m 10 #[.val (.ref ao)] [(.ref ao), (.long (xlr.toInt64))])) (fun t_ k_ => XS.aloadN X2.here hx rfl (hb hby d6_9) rfl rfl k_) ?_
  obtain ⟨T4, X4, e4, st4⟩ := getF X2 hx hZ hown (host := "") (Or.inl (hw _ (List.mem_of_getElem? (i := 54) rfl))) Via.refl e2 PF0 (g := (mkF m 10 #[.val (.ref ao)] [(.ref ao), (.long (xlr.toInt64))])) rfl rfl (hb hby d6_10)
  refine own_Goes.via (T' := T4) (g' := (mkF m 13 #[.val (.ref ao)] [(.ref ak), (.long (xlr.toInt64))])) (st4) ?_
  obtain ⟨T5, X5, e5, st5⟩ := getF X4 hx hZ hown (host := "") (Or.inl (hw _ (List.mem_of_getElem? (i := 67) rfl))) Via.refl e4 PF3 (g := (mkF m 13 #[.val (.ref ao)] [(.ref ak), (.long (xlr.toInt64))])) rfl rfl (hb hby d6_13)
  refine own_Goes.via (T' := T5) (g' := (mkF m 16 #[.val (.ref ao)] [(.ref af), (.long (xlr.toInt64))])) (st5) ?_
  obtain ⟨cl6, Ar6, -, Sl6, Ng6, -, -⟩ := PF7
  refine own_Goes.via (T' := T5) (g' := (mkF m 17 #[.val (.ref ao)] [(.int xlf), (.long (xlr.toInt64))])) (fun t_ k_ => X5.arraylength hx (by rw [e5]; exact Ar6.1) (State.isArrayOf_alike hZ.alike Ar6.2.1) (g := (mkF m 16 #[.val (.ref ao)] [(.ref af), (.long (xlr.toInt64))])) rfl rfl (hb hby d6_16) _ (by rw [len_of Sl6 Ng6]; exact k_)) ?_
  refine own_Goes.via (T' := T5) (g' := (mkF m 18 #[.val (.ref ao)] [(.long (xlf.toInt64)), (.long (xlr.toInt64))])) (fun t_ k_ => XS.i2l X5.here hx rfl (hb hby d6_17) rfl k_) ?_
  refine own_Goes.via (T' := T5) (g' := (mkF m 19 #[.val (.ref ao)] [(.long ((xlr.toInt64) + (xlf.toInt64)))])) (fun t_ k_ => XS.ladd X5.here hx rfl (hb hby d6_18) rfl k_) ?_
  refine own_Goes.via (T' := T5) (g' := (mkF m 20 #[.val (.ref ao)] [(.ref ao), (.long ((xlr.toInt64) + (xlf.toInt64)))])) (fun t_ k_ => XS.aloadN X5.here hx rfl (hb hby d6_19) rfl rfl k_) ?_
  obtain ⟨T7, X7, e7, st7⟩ := getF X5 hx hZ hown (host := "") (Or.inl (hw _ (List.mem_of_getElem? (i := 54) rfl))) Via.refl e5 PF0 (g := (mkF m 20 #[.val (.ref ao)] [(.ref ao), (.long ((xlr.toInt64) + (xlf.toInt64)))])) rfl rfl (hb hby d6_20)
  refine own_Goes.via (T' := T7) (g' := (mkF m 23 #[.val (.ref ao)] [(.ref ak), (.long ((xlr.toInt64) + (xlf.toInt64)))])) (st7) ?_
  obtain ⟨T8, X8, e8, st8⟩ := getF X7 hx hZ hown (host := "") (Or.inl (hw _ (List.mem_of_getElem? (i := 68) rfl))) Via.refl e7 PF4 (g := (mkF m 23 #[.val (.ref ao)] [(.ref ak), (.long ((xlr.toInt64) + (xlf.toInt64)))])) rfl rfl (hb hby d6_23)
  refine own_Goes.via (T' := T8) (g' := (mkF m 26 #[.val (.ref ao)] [(.ref aq), (.long ((xlr.toInt64) + (xlf.toInt64)))])) (st8) ?_
  obtain ⟨cl9, Ar9, -, Sl9, Ng9, -, -⟩ := PF8
  refine own_Goes.via (T' := T8) (g' := (mkF m 27 #[.val (.ref ao)] [(.int xlq), (.long ((xlr.toInt64) + (xlf.toInt64)))])) (fun t_ k_ => X8.arraylength hx (by rw [e8]; exact Ar9.1) (State.isArrayOf_alike hZ.alike Ar9.2.1) (g := (mkF m 26 #[.val (.ref ao)] [(.ref aq), (.long ((xlr.toInt64) + (xlf.toInt64)))])) rfl rfl (hb hby d6_26) _ (by rw [len_of Sl9 Ng9]; exact k_)) ?_
  refine own_Goes.via (T' := T8) (g' := (mkF m 28 #[.val (.ref ao)] [(.long (xlq.toInt64)), (.long ((xlr.toInt64) + (xlf.toInt64)))])) (fun t_ k_ => XS.i2l X8.here hx rfl (hb hby d6_27) rfl k_) ?_
  refine own_Goes.via (T' := T8) (g' := (mkF m 29 #[.val (.ref ao)] [(.long (((xlr.toInt64) + (xlf.toInt64)) + (xlq.toInt64)))])) (fun t_ k_ => XS.ladd X8.here hx rfl (hb hby d6_28) rfl k_) ?_
  refine own_Goes.via (T' := T8) (g' := (mkF m 30 #[.val (.ref ao)] [(.ref ao), (.long (((xlr.toInt64) + (xlf.toInt64)) + (xlq.toInt64)))])) (fun t_ k_ => XS.aloadN X8.here hx rfl (hb hby d6_29) rfl rfl k_) ?_
  obtain ⟨T10, X10, e10, st10⟩ := getF X8 hx hZ hown (host := "") (Or.inl (hw _ (List.mem_of_getElem? (i := 54) rfl))) Via.refl e8 PF0 (g := (mkF m 30 #[.val (.ref ao)] [(.ref ao), (.long (((xlr.toInt64) + (xlf.toInt64)) + (xlq.toInt64)))])) rfl rfl (hb hby d6_30)
  refine own_Goes.via (T' := T10) (g' := (mkF m 33 #[.val (.ref ao)] [(.ref ak), (.long (((xlr.toInt64) + (xlf.toInt64)) + (xlq.toInt64)))])) (st10) ?_
  obtain ⟨T11, X11, e11, st11⟩ := getF X10 hx hZ hown (host := "") (Or.inl (hw _ (List.mem_of_getElem? (i := 69) rfl))) Via.refl e10 PF5 (g := (mkF m 33 #[.val (.ref ao)] [(.ref ak), (.long (((xlr.toInt64) + (xlf.toInt64)) + (xlq.toInt64)))])) rfl rfl (hb hby d6_33)
  refine own_Goes.via (T' := T11) (g' := (mkF m 36 #[.val (.ref ao)] [(.ref av), (.long (((xlr.toInt64) + (xlf.toInt64)) + (xlq.toInt64)))])) (st11) ?_
  obtain ⟨cl12, Ar12, -, Sl12, Ng12, -, -⟩ := PF9
  refine own_Goes.via (T' := T11) (g' := (mkF m 37 #[.val (.ref ao)] [(.int xlv), (.long (((xlr.toInt64) + (xlf.toInt64)) + (xlq.toInt64)))])) (fun t_ k_ => X11.arraylength hx (by rw [e11]; exact Ar12.1) (State.isArrayOf_alike hZ.alike Ar12.2.1) (g := (mkF m 36 #[.val (.ref ao)] [(.ref av), (.long (((xlr.toInt64) + (xlf.toInt64)) + (xlq.toInt64)))])) rfl rfl (hb hby d6_36) _ (by rw [len_of Sl12 Ng12]; exact k_)) ?_
  refine own_Goes.via (T' := T11) (g' := (mkF m 38 #[.val (.ref ao)] [(.long (xlv.toInt64)), (.long (((xlr.toInt64) + (xlf.toInt64)) + (xlq.toInt64)))])) (fun t_ k_ => XS.i2l X11.here hx rfl (hb hby d6_37) rfl k_) ?_
  refine own_Goes.via (T' := T11) (g' := (mkF m 39 #[.val (.ref ao)] [(.long ((((xlr.toInt64) + (xlf.toInt64)) + (xlq.toInt64)) + (xlv.toInt64)))])) (fun t_ k_ => XS.ladd X11.here hx rfl (hb hby d6_38) rfl k_) ?_
  refine own_Goes.via (T' := T11) (g' := (mkF m 42 #[.val (.ref ao)] [(.long (8 : Int64)), (.long ((((xlr.toInt64) + (xlf.toInt64)) + (xlq.toInt64)) + (xlv.toInt64)))])) (X11.ldc2Long hx hown (mvT hZ (hw _ (List.mem_of_getElem? (i := 70) rfl))) (g := (mkF m 39 #[.val (.ref ao)] [(.long ((((xlr.toInt64) + (xlf.toInt64)) + (xlq.toInt64)) + (xlv.toInt64)))])) rfl (hb hby d6_39)) ?_
  refine own_Goes.via (T' := T11) (g' := (mkF m 43 #[.val (.ref ao)] [(.long (((((xlr.toInt64) + (xlf.toInt64)) + (xlq.toInt64)) + (xlv.toInt64)) + (8 : Int64)))])) (fun t_ k_ => XS.ladd X11.here hx rfl (hb hby d6_42) rfl k_) ?_
  refine own_Goes.via (T' := T11) (g' := (mkF m 44 #[.val (.ref ao)] [(.ref ao), (.long (((((xlr.toInt64) + (xlf.toInt64)) + (xlq.toInt64)) + (xlv.toInt64)) + (8 : Int64)))])) (fun t_ k_ => XS.aloadN X11.here hx rfl (hb hby d6_43) rfl rfl k_) ?_
  obtain ⟨T13, X13, e13, st13⟩ := getF X11 hx hZ hown (host := "") (Or.inl (hw _ (List.mem_of_getElem? (i := 58) rfl))) Via.refl e11 PF1 (g := (mkF m 44 #[.val (.ref ao)] [(.ref ao), (.long (((((xlr.toInt64) + (xlf.toInt64)) + (xlq.toInt64)) + (xlv.toInt64)) + (8 : Int64)))])) rfl rfl (hb hby d6_44)
  refine own_Goes.via (T' := T13) (g' := (mkF m 47 #[.val (.ref ao)] [(.ref ab), (.long (((((xlr.toInt64) + (xlf.toInt64)) + (xlq.toInt64)) + (xlv.toInt64)) + (8 : Int64)))])) (st13) ?_
  obtain ⟨cl14, Ar14, -, Sl14, Ng14, -, -⟩ := PF10
  refine own_Goes.via (T' := T13) (g' := (mkF m 48 #[.val (.ref ao)] [(.int xlb), (.long (((((xlr.toInt64) + (xlf.toInt64)) + (xlq.toInt64)) + (xlv.toInt64)) + (8 : Int64)))])) (fun t_ k_ => X13.arraylength hx (by rw [e13]; exact Ar14.1) (State.isArrayOf_alike hZ.alike Ar14.2.1) (g := (mkF m 47 #[.val (.ref ao)] [(.ref ab), (.long (((((xlr.toInt64) + (xlf.toInt64)) + (xlq.toInt64)) + (xlv.toInt64)) + (8 : Int64)))])) rfl rfl (hb hby d6_47) _ (by rw [len_of Sl14 Ng14]; exact k_)) ?_
  refine own_Goes.via (T' := T13) (g' := (mkF m 49 #[.val (.ref ao)] [(.long (xlb.toInt64)), (.long (((((xlr.toInt64) + (xlf.toInt64)) + (xlq.toInt64)) + (xlv.toInt64)) + (8 : Int64)))])) (fun t_ k_ => XS.i2l X13.here hx rfl (hb hby d6_48) rfl k_) ?_
  refine own_Goes.via (T' := T13) (g' := (mkF m 50 #[.val (.ref ao)] [(.long ((((((xlr.toInt64) + (xlf.toInt64)) + (xlq.toInt64)) + (xlv.toInt64)) + (8 : Int64)) + (xlb.toInt64)))])) (fun t_ k_ => XS.ladd X13.here hx rfl (hb hby d6_49) rfl k_) ?_
  obtain ⟨fs, hr, hrun, hended, hW, hsame⟩ := X13.leave (v := some (.long ((((((xlr.toInt64) + (xlf.toInt64)) + (xlq.toInt64)) + (xlv.toInt64)) + (8 : Int64)) + (xlb.toInt64)))) (fun h => by rw [Bd.returns] at h; cases h)
  refine own_Goes.fin (retOut X13 hx Bd.returns rfl (Or.inr (Or.inl ⟨rfl, rfl, _, rfl⟩)) (hb hby d6_50) hr) hrun hended ?_
  subst hPd
  refine ⟨_, _, rfl, ?_, ⟨_, rfl⟩, hW, hsame.mono (by decide) (by decide)⟩
  show Q6 Z ao ak ab ar kr xlr af kf xlf aq kq xlq av kv xlv kb xlb h0 n0 _ T13.heap _
  rw [e13]
  exact ⟨(by first | rfl | (simp only [own_f6])), N0, rfl⟩
theorem pn_0 : plainName "com/example/keysweep/keysweep/EntrySizePinLaw" = true := by first | (simp [plainName, overriddenIn]; done) | decide +kernel
theorem pd_0_0 : parseMethodDescriptor "([B[B[B[BJ)V" = some ⟨[(.array .byte), (.array .byte), (.array .byte), (.array .byte), .long], none⟩ := by decide +kernel
theorem pd_0_1 : parseMethodDescriptor "(Lcom/example/keysweep/keysweep/Key;[B)V" = some ⟨[(.object "com/example/keysweep/keysweep/Key"), (.array .byte)], none⟩ := by decide +kernel
theorem pd_0_2 : parseMethodDescriptor "()J" = some ⟨[], some .long⟩ := by decide +kernel
theorem ef_0 (m : MethodId) (xr : Int32) (xf : Int32) (xq : Int32) (xv : Int32) (xx : Int32) (xt : Int64) : entryFrame m #[(.int xr), (.int xf), (.int xq), (.int xv), (.int xx), (.long xt)] maxLocals = mkF m 0 #[.val (.int xr), .val (.int xf), .val (.int xq), .val (.int xv), .val (.int xx), .val (.long xt), .second, .unset, .unset, .unset, .unset, .unset, .unset, .unset, .unset, .unset, .unset, .unset, .unset, .unset, .unset] [] := by first | (simp [entryFrame, mkF, argsToLocals, Value.category, maxLocals]; done) | rfl
def Q0 (Z : State) (xr : Int32) (xf : Int32) (xq : Int32) (xv : Int32) (xx : Int32) (xt : Int64) (h0 : Heap) (n0 : Nat) (v : Option Value) (h : Heap) (L : List Loc) : Prop := v = some (.int 1) ∧ Fr n0 L
set_option maxRecDepth 65536 in
theorem own_pl0_0 {xr : Int32} {xf : Int32} {xq : Int32} {xv : Int32} {xx : Int32} {v1 : Int32} {v2 : Int32} {v3 : Int32} {v4 : Int32} {v5 : Int32} (hv1 : v1 = (xr &&& (31 : Int32))) (hv2 : v2 = (xf &&& (31 : Int32))) (hv3 : v3 = (xq &&& (31 : Int32))) (hv4 : v4 = (xv &&& (31 : Int32))) (hv5 : v5 = (xx &&& (31 : Int32))) : ¬ v1 < 0 := by
  subst_vars
  exact own_neg (own_m31 _).1
set_option maxRecDepth 65536 in
theorem own_pl0_1 {xr : Int32} {xf : Int32} {xq : Int32} {xv : Int32} {xx : Int32} {v1 : Int32} {v2 : Int32} {v3 : Int32} {v4 : Int32} {v5 : Int32} (hv1 : v1 = (xr &&& (31 : Int32))) (hv2 : v2 = (xf &&& (31 : Int32))) (hv3 : v3 = (xq &&& (31 : Int32))) (hv4 : v4 = (xv &&& (31 : Int32))) (hv5 : v5 = (xx &&& (31 : Int32))) (neg33_7 : ¬ v1 < 0) : v1.toNatClampNeg ≤ 31 := by
  subst_vars
  exact own_cap (own_m31 _).2
set_option maxRecDepth 65536 in
theorem own_pl0_2 {xr : Int32} {xf : Int32} {xq : Int32} {xv : Int32} {xx : Int32} {v1 : Int32} {v2 : Int32} {v3 : Int32} {v4 : Int32} {v5 : Int32} (hv1 : v1 = (xr &&& (31 : Int32))) (hv2 : v2 = (xf &&& (31 : Int32))) (hv3 : v3 = (xq &&& (31 : Int32))) (hv4 : v4 = (xv &&& (31 : Int32))) (hv5 : v5 = (xx &&& (31 : Int32))) (neg33_7 : ¬ v1 < 0) (hcap33_8 : v1.toNatClampNeg ≤ 31) : ¬ v2 < 0 := by
  subst_vars
  exact own_neg (own_m31 _).1
set_option maxRecDepth 65536 in
theorem own_pl0_3 {xr : Int32} {xf : Int32} {xq : Int32} {xv : Int32} {xx : Int32} {v1 : Int32} {v2 : Int32} {v3 : Int32} {v4 : Int32} {v5 : Int32} (hv1 : v1 = (xr &&& (31 : Int32))) (hv2 : v2 = (xf &&& (31 : Int32))) (hv3 : v3 = (xq &&& (31 : Int32))) (hv4 : v4 = (xv &&& (31 : Int32))) (hv5 : v5 = (xx &&& (31 : Int32))) (neg33_7 : ¬ v1 < 0) (hcap33_8 : v1.toNatClampNeg ≤ 31) (neg39_12 : ¬ v2 < 0) : v2.toNatClampNeg ≤ 31 := by
  subst_vars
  exact own_cap (own_m31 _).2
set_option maxRecDepth 65536 in
theorem own_pl0_4 {xr : Int32} {xf : Int32} {xq : Int32} {xv : Int32} {xx : Int32} {v1 : Int32} {v2 : Int32} {v3 : Int32} {v4 : Int32} {v5 : Int32} (hv1 : v1 = (xr &&& (31 : Int32))) (hv2 : v2 = (xf &&& (31 : Int32))) (hv3 : v3 = (xq &&& (31 : Int32))) (hv4 : v4 = (xv &&& (31 : Int32))) (hv5 : v5 = (xx &&& (31 : Int32))) (neg33_7 : ¬ v1 < 0) (hcap33_8 : v1.toNatClampNeg ≤ 31) (neg39_12 : ¬ v2 < 0) (hcap39_13 : v2.toNatClampNeg ≤ 31) : ¬ v3 < 0 := by
  subst_vars
  exact own_neg (own_m31 _).1
set_option maxRecDepth 65536 in
theorem own_pl0_5 {xr : Int32} {xf : Int32} {xq : Int32} {xv : Int32} {xx : Int32} {v1 : Int32} {v2 : Int32} {v3 : Int32} {v4 : Int32} {v5 : Int32} (hv1 : v1 = (xr &&& (31 : Int32))) (hv2 : v2 = (xf &&& (31 : Int32))) (hv3 : v3 = (xq &&& (31 : Int32))) (hv4 : v4 = (xv &&& (31 : Int32))) (hv5 : v5 = (xx &&& (31 : Int32))) (neg33_7 : ¬ v1 < 0) (hcap33_8 : v1.toNatClampNeg ≤ 31) (neg39_12 : ¬ v2 < 0) (hcap39_13 : v2.toNatClampNeg ≤ 31) (neg45_19 : ¬ v3 < 0) : v3.toNatClampNeg ≤ 31 := by
  subst_vars
  exact own_cap (own_m31 _).2
set_option maxRecDepth 65536 in
theorem own_pl0_6 {xr : Int32} {xf : Int32} {xq : Int32} {xv : Int32} {xx : Int32} {v1 : Int32} {v2 : Int32} {v3 : Int32} {v4 : Int32} {v5 : Int32} (hv1 : v1 = (xr &&& (31 : Int32))) (hv2 : v2 = (xf &&& (31 : Int32))) (hv3 : v3 = (xq &&& (31 : Int32))) (hv4 : v4 = (xv &&& (31 : Int32))) (hv5 : v5 = (xx &&& (31 : Int32))) (neg33_7 : ¬ v1 < 0) (hcap33_8 : v1.toNatClampNeg ≤ 31) (neg39_12 : ¬ v2 < 0) (hcap39_13 : v2.toNatClampNeg ≤ 31) (neg45_19 : ¬ v3 < 0) (hcap45_20 : v3.toNatClampNeg ≤ 31) : ¬ v4 < 0 := by
  subst_vars
  exact own_neg (own_m31 _).1
set_option maxRecDepth 65536 in
theorem own_pl0_7 {xr : Int32} {xf : Int32} {xq : Int32} {xv : Int32} {xx : Int32} {v1 : Int32} {v2 : Int32} {v3 : Int32} {v4 : Int32} {v5 : Int32} (hv1 : v1 = (xr &&& (31 : Int32))) (hv2 : v2 = (xf &&& (31 : Int32))) (hv3 : v3 = (xq &&& (31 : Int32))) (hv4 : v4 = (xv &&& (31 : Int32))) (hv5 : v5 = (xx &&& (31 : Int32))) (neg33_7 : ¬ v1 < 0) (hcap33_8 : v1.toNatClampNeg ≤ 31) (neg39_12 : ¬ v2 < 0) (hcap39_13 : v2.toNatClampNeg ≤ 31) (neg45_19 : ¬ v3 < 0) (hcap45_20 : v3.toNatClampNeg ≤ 31) (neg51_28 : ¬ v4 < 0) : v4.toNatClampNeg ≤ 31 := by
  subst_vars
  exact own_cap (own_m31 _).2
set_option maxRecDepth 65536 in
theorem own_pl0_8 {xr : Int32} {xf : Int32} {xq : Int32} {xv : Int32} {xx : Int32} {v1 : Int32} {v2 : Int32} {v3 : Int32} {v4 : Int32} {v5 : Int32} (hv1 : v1 = (xr &&& (31 : Int32))) (hv2 : v2 = (xf &&& (31 : Int32))) (hv3 : v3 = (xq &&& (31 : Int32))) (hv4 : v4 = (xv &&& (31 : Int32))) (hv5 : v5 = (xx &&& (31 : Int32))) (neg33_7 : ¬ v1 < 0) (hcap33_8 : v1.toNatClampNeg ≤ 31) (neg39_12 : ¬ v2 < 0) (hcap39_13 : v2.toNatClampNeg ≤ 31) (neg45_19 : ¬ v3 < 0) (hcap45_20 : v3.toNatClampNeg ≤ 31) (neg51_28 : ¬ v4 < 0) (hcap51_29 : v4.toNatClampNeg ≤ 31) : ¬ v5 < 0 := by
  subst_vars
  exact own_neg (own_m31 _).1
set_option maxRecDepth 65536 in
theorem own_pl0_9 {xr : Int32} {xf : Int32} {xq : Int32} {xv : Int32} {xx : Int32} {v1 : Int32} {v2 : Int32} {v3 : Int32} {v4 : Int32} {v5 : Int32} (hv1 : v1 = (xr &&& (31 : Int32))) (hv2 : v2 = (xf &&& (31 : Int32))) (hv3 : v3 = (xq &&& (31 : Int32))) (hv4 : v4 = (xv &&& (31 : Int32))) (hv5 : v5 = (xx &&& (31 : Int32))) (neg33_7 : ¬ v1 < 0) (hcap33_8 : v1.toNatClampNeg ≤ 31) (neg39_12 : ¬ v2 < 0) (hcap39_13 : v2.toNatClampNeg ≤ 31) (neg45_19 : ¬ v3 < 0) (hcap45_20 : v3.toNatClampNeg ≤ 31) (neg51_28 : ¬ v4 < 0) (hcap51_29 : v4.toNatClampNeg ≤ 31) (neg57_39 : ¬ v5 < 0) : v5.toNatClampNeg ≤ 31 := by
  subst_vars
  exact own_cap (own_m31 _).2
set_option maxRecDepth 65536 in
theorem own_pl0_10 {xr : Int32} {xf : Int32} {xq : Int32} {xv : Int32} {xx : Int32} {v1 : Int32} {v2 : Int32} {v3 : Int32} {v4 : Int32} {v5 : Int32} {v142 : Int64} {v144 : Int64} {v134_146 : Int32} (hv1 : v1 = (xr &&& (31 : Int32))) (hv2 : v2 = (xf &&& (31 : Int32))) (hv3 : v3 = (xq &&& (31 : Int32))) (hv4 : v4 = (xv &&& (31 : Int32))) (hv5 : v5 = (xx &&& (31 : Int32))) (hv142 : v142 = ((((((8 : Int64) + (v1.toInt64)) + (v2.toInt64)) + (v3.toInt64)) + (v4.toInt64)) + (v5.toInt64))) (hv144 : v144 = (own_f6 v1 v2 v3 v4 v5)) (hv134_146 : v134_146 = (if v144 = v142 then (1 : Int32) else (0 : Int32))) (neg33_7 : ¬ v1 < 0) (hcap33_8 : v1.toNatClampNeg ≤ 31) (neg39_12 : ¬ v2 < 0) (hcap39_13 : v2.toNatClampNeg ≤ 31) (neg45_19 : ¬ v3 < 0) (hcap45_20 : v3.toNatClampNeg ≤ 31) (neg51_28 : ¬ v4 < 0) (hcap51_29 : v4.toNatClampNeg ≤ 31) (neg57_39 : ¬ v5 < 0) (hcap57_40 : v5.toNatClampNeg ≤ 31) (cd75_70 : v1.toNatClampNeg ≤ 31) (cd75_71 : v2.toNatClampNeg ≤ 31) (cd75_72 : v3.toNatClampNeg ≤ 31) (cd75_73 : v4.toNatClampNeg ≤ 31) (cd88_115 : v5.toNatClampNeg ≤ 31) : v134_146 = 1 := by
  rw [hv134_146, hv142, if_pos]
  have q : own_f6 v1 v2 v3 v4 v5 = ((((((8 : Int64) + (v1.toInt64)) + (v2.toInt64)) + (v3.toInt64)) + (v4.toInt64)) + (v5.toInt64)) := by
    unfold own_f6
    ac_rfl
  subst_vars
  exact q
set_option maxRecDepth 65536 in
set_option maxHeartbeats 40000000 in
theorem rm0 (l : Launch) (Z : State) (a0 : Array Value) (hw : ∀ d ∈ tables_1, d.before a0 Z = true) (ws : List Jvm.Cond) (xr : Int32) (xf : Int32) (xq : Int32) (xv : Int32) (xx : Int32) (xt : Int64) (h0 : Heap) (n0 : Nat) (Z0 : n0 ≤ h0.size) :
    MetFree l x (head1 (Jvm.Cond.code x code maxLocals ret :: ws) room_1) (fun a U => a = #[(.int xr), (.int xf), (.int xq), (.int xv), (.int xx), (.long xt)] ∧ Z.Warmed39 U.vm ∧ U.heap = h0) (fun _ _ _ _ _ => True) (fun _ U o U' => ∃ v L, o = .returned v ∧ Q0 Z xr xf xq xv xx xt h0 n0 v U'.heap L ∧ ReturnedEndW U o U' L 14 334) := by
  refine MetFree.of_bodySF (plainFor_of_name pn_0) hisR ?_
  intro p e s m args below meth c s₁ Bd hml0 hP hK
  obtain ⟨rfl, hZ, hh⟩ := hP
  have hx := Bd.exec
  have hby := Bd.bytes
  have hml : c.maxLocals = 21 := hml0
  have hown : s.vm.findClass "com/example/keysweep/keysweep/EntrySizePinLaw" = some m.cls := findClass_of_methodNamed Bd.named
  have hnm := (name_of_methodNamed Bd.named Bd.method).1
  have X0 : Stand p l e room_1 (s.setVm s.vm) m #[(.int xr), (.int xf), (.int xq), (.int xv), (.int xx), (.long xt)] below meth c s₁ [] 0 0 := Stand.of_body Bd
  have e0 : s₁.heap = h0 := by rw [← hh, Bd.state]; rfl
  have N0 := Fr.nil n0
  suffices G : own_Goes p.tables e below (fun o U' => ∃ v L, o = .returned v ∧ Q0 Z xr xf xq xv xx xt h0 n0 v U'.heap L ∧ ReturnedEndW s o U' L 14 334) s₁ (mkF m 0 #[.val (.int xr), .val (.int xf), .val (.int xq), .val (.int xv), .val (.int xx), .val (.long xt), .second, .unset, .unset, .unset, .unset, .unset, .unset, .unset, .unset, .unset, .unset, .unset, .unset, .unset, .unset] []) by
    obtain ⟨t2_, o2_, z1_, z2_, z3_, z4_⟩ := G
    exact ⟨t2_, o2_, castTop (ef_0 m xr xf xq xv xx xt) z1_, z2_, z3_, z4_⟩
  generalize hPd : (fun (o : Outcome) (U' : State) => ∃ v L, o = .returned v ∧ Q0 Z xr xf xq xv xx xt h0 n0 v U'.heap L ∧ ReturnedEndW s o U' L 14 334) = P
  have hS : s.Since s.vm 0 := (State.WarmedH.refl s).since 0
  have hk : 0 ≤ h0.size := Nat.zero_le _
  refine own_Goes.via (T' := s₁) (g' := (mkF m 1 #[.val (.int xr), .val (.int xf), .val (.int xq), .val (.int xv), .val (.int xx), .val (.long xt), .second, .unset, .unset, .unset, .unset, .unset, .unset, .unset, .unset, .unset, .unset, .unset, .unset, .unset, .unset] [(.int xr)])) (fun t_ k_ => XS.iloadN X0.here hx rfl (hb hby at_0) rfl k_) ?_
  refine own_Goes.via (T' := s₁) (g' := (mkF m 3 #[.val (.int xr), .val (.int xf), .val (.int xq), .val (.int xv), .val (.int xx), .val (.long xt), .second, .unset, .unset, .unset, .unset, .unset, .unset, .unset, .unset, .unset, .unset, .unset, .unset, .unset, .unset] [(.int (31 : Int32)), (.int xr)])) (fun t_ k_ => XS.bipush X0.here hx rfl (hb hby at_1) k_) ?_
  refine own_Goes.via (T' := s₁) (g' := (mkF m 4 #[.val (.int xr), .val (.int xf), .val (.int xq), .val (.int xv), .val (.int xx), .val (.long xt), .second, .unset, .unset, .unset, .unset, .unset, .unset, .unset, .unset, .unset, .unset, .unset, .unset, .unset, .unset] [(.int (xr &&& (31 : Int32)))])) (fun t_ k_ => XS.iand X0.here hx rfl (hb hby at_3) rfl k_) ?_
  refine own_Goes.via (T' := s₁) (g' := (mkF m 6 #[.val (.int xr), .val (.int xf), .val (.int xq), .val (.int xv), .val (.int xx), .val (.long xt), .second, .val (.int (xr &&& (31 : Int32))), .unset, .unset, .unset, .unset, .unset, .unset, .unset, .unset, .unset, .unset, .unset, .unset, .unset] [])) (fun t_ k_ => XS.istore X0.here hx rfl (hb hby at_4) rfl (l' := #[.val (.int xr), .val (.int xf), .val (.int xq), .val (.int xv), .val (.int xx), .val (.long xt), .second, .val (.int (xr &&& (31 : Int32))), .unset, .unset, .unset, .unset, .unset, .unset, .unset, .unset, .unset, .unset, .unset, .unset, .unset]) rfl k_) ?_
  obtain ⟨v1, hv1⟩ : ∃ z : Int32, z = (xr &&& (31 : Int32)) := ⟨_, rfl⟩
  rw [← hv1]
  refine own_Goes.via (T' := s₁) (g' := (mkF m 7 #[.val (.int xr), .val (.int xf), .val (.int xq), .val (.int xv), .val (.int xx), .val (.long xt), .second, .val (.int v1), .unset, .unset, .unset, .unset, .unset, .unset, .unset, .unset, .unset, .unset, .unset, .unset, .unset] [(.int xf)])) (fun t_ k_ => XS.iloadN X0.here hx rfl (hb hby at_6) rfl k_) ?_
  refine own_Goes.via (T' := s₁) (g' := (mkF m 9 #[.val (.int xr), .val (.int xf), .val (.int xq), .val (.int xv), .val (.int xx), .val (.long xt), .second, .val (.int v1), .unset, .unset, .unset, .unset, .unset, .unset, .unset, .unset, .unset, .unset, .unset, .unset, .unset] [(.int (31 : Int32)), (.int xf)])) (fun t_ k_ => XS.bipush X0.here hx rfl (hb hby at_7) k_) ?_
  refine own_Goes.via (T' := s₁) (g' := (mkF m 10 #[.val (.int xr), .val (.int xf), .val (.int xq), .val (.int xv), .val (.int xx), .val (.long xt), .second, .val (.int v1), .unset, .unset, .unset, .unset, .unset, .unset, .unset, .unset, .unset, .unset, .unset, .unset, .unset] [(.int (xf &&& (31 : Int32)))])) (fun t_ k_ => XS.iand X0.here hx rfl (hb hby at_9) rfl k_) ?_
  refine own_Goes.via (T' := s₁) (g' := (mkF m 12 #[.val (.int xr), .val (.int xf), .val (.int xq), .val (.int xv), .val (.int xx), .val (.long xt), .second, .val (.int v1), .val (.int (xf &&& (31 : Int32))), .unset, .unset, .unset, .unset, .unset, .unset, .unset, .unset, .unset, .unset, .unset, .unset] [])) (fun t_ k_ => XS.istore X0.here hx rfl (hb hby at_10) rfl (l' := #[.val (.int xr), .val (.int xf), .val (.int xq), .val (.int xv), .val (.int xx), .val (.long xt), .second, .val (.int v1), .val (.int (xf &&& (31 : Int32))), .unset, .unset, .unset, .unset, .unset, .unset, .unset, .unset, .unset, .unset, .unset, .unset]) rfl k_) ?_
  obtain ⟨v2, hv2⟩ : ∃ z : Int32, z = (xf &&& (31 : Int32)) := ⟨_, rfl⟩
  rw [← hv2]
  refine own_Goes.via (T' := s₁) (g' := (mkF m 13 #[.val (.int xr), .val (.int xf), .val (.int xq), .val (.int xv), .val (.int xx), .val (.long xt), .second, .val (.int v1), .val (.int v2), .unset, .unset, .unset, .unset, .unset, .unset, .unset, .unset, .unset, .unset, .unset, .unset] [(.int xq)])) (fun t_ k_ => XS.iloadN X0.here hx rfl (hb hby at_12) rfl k_) ?_
  refine own_Goes.via (T' := s₁) (g' := (mkF m 15 #[.val (.int xr), .val (.int xf), .val (.int xq), .val (.int xv), .val (.int xx), .val (.long xt), .second, .val (.int v1), .val (.int v2), .unset, .unset, .unset, .unset, .unset, .unset, .unset, .unset, .unset, .unset, .unset, .unset] [(.int (31 : Int32)), (.int xq)])) (fun t_ k_ => XS.bipush X0.here hx rfl (hb hby at_13) k_) ?_
  refine own_Goes.via (T' := s₁) (g' := (mkF m 16 #[.val (.int xr), .val (.int xf), .val (.int xq), .val (.int xv), .val (.int xx), .val (.long xt), .second, .val (.int v1), .val (.int v2), .unset, .unset, .unset, .unset, .unset, .unset, .unset, .unset, .unset, .unset, .unset, .unset] [(.int (xq &&& (31 : Int32)))])) (fun t_ k_ => XS.iand X0.here hx rfl (hb hby at_15) rfl k_) ?_
  refine own_Goes.via (T' := s₁) (g' := (mkF m 18 #[.val (.int xr), .val (.int xf), .val (.int xq), .val (.int xv), .val (.int xx), .val (.long xt), .second, .val (.int v1), .val (.int v2), .val (.int (xq &&& (31 : Int32))), .unset, .unset, .unset, .unset, .unset, .unset, .unset, .unset, .unset, .unset, .unset] [])) (fun t_ k_ => XS.istore X0.here hx rfl (hb hby at_16) rfl (l' := #[.val (.int xr), .val (.int xf), .val (.int xq), .val (.int xv), .val (.int xx), .val (.long xt), .second, .val (.int v1), .val (.int v2), .val (.int (xq &&& (31 : Int32))), .unset, .unset, .unset, .unset, .unset, .unset, .unset, .unset, .unset, .unset, .unset]) rfl k_) ?_
  obtain ⟨v3, hv3⟩ : ∃ z : Int32, z = (xq &&& (31 : Int32)) := ⟨_, rfl⟩
  rw [← hv3]
  refine own_Goes.via (T' := s₁) (g' := (mkF m 19 #[.val (.int xr), .val (.int xf), .val (.int xq), .val (.int xv), .val (.int xx), .val (.long xt), .second, .val (.int v1), .val (.int v2), .val (.int v3), .unset, .unset, .unset, .unset, .unset, .unset, .unset, .unset, .unset, .unset, .unset] [(.int xv)])) (fun t_ k_ => XS.iloadN X0.here hx rfl (hb hby at_18) rfl k_) ?_
  refine own_Goes.via (T' := s₁) (g' := (mkF m 21 #[.val (.int xr), .val (.int xf), .val (.int xq), .val (.int xv), .val (.int xx), .val (.long xt), .second, .val (.int v1), .val (.int v2), .val (.int v3), .unset, .unset, .unset, .unset, .unset, .unset, .unset, .unset, .unset, .unset, .unset] [(.int (31 : Int32)), (.int xv)])) (fun t_ k_ => XS.bipush X0.here hx rfl (hb hby at_19) k_) ?_
  refine own_Goes.via (T' := s₁) (g' := (mkF m 22 #[.val (.int xr), .val (.int xf), .val (.int xq), .val (.int xv), .val (.int xx), .val (.long xt), .second, .val (.int v1), .val (.int v2), .val (.int v3), .unset, .unset, .unset, .unset, .unset, .unset, .unset, .unset, .unset, .unset, .unset] [(.int (xv &&& (31 : Int32)))])) (fun t_ k_ => XS.iand X0.here hx rfl (hb hby at_21) rfl k_) ?_
  refine own_Goes.via (T' := s₁) (g' := (mkF m 24 #[.val (.int xr), .val (.int xf), .val (.int xq), .val (.int xv), .val (.int xx), .val (.long xt), .second, .val (.int v1), .val (.int v2), .val (.int v3), .val (.int (xv &&& (31 : Int32))), .unset, .unset, .unset, .unset, .unset, .unset, .unset, .unset, .unset, .unset] [])) (fun t_ k_ => XS.istore X0.here hx rfl (hb hby at_22) rfl (l' := #[.val (.int xr), .val (.int xf), .val (.int xq), .val (.int xv), .val (.int xx), .val (.long xt), .second, .val (.int v1), .val (.int v2), .val (.int v3), .val (.int (xv &&& (31 : Int32))), .unset, .unset, .unset, .unset, .unset, .unset, .unset, .unset, .unset, .unset]) rfl k_) ?_
  obtain ⟨v4, hv4⟩ : ∃ z : Int32, z = (xv &&& (31 : Int32)) := ⟨_, rfl⟩
  rw [← hv4]
  refine own_Goes.via (T' := s₁) (g' := (mkF m 26 #[.val (.int xr), .val (.int xf), .val (.int xq), .val (.int xv), .val (.int xx), .val (.long xt), .second, .val (.int v1), .val (.int v2), .val (.int v3), .val (.int v4), .unset, .unset, .unset, .unset, .unset, .unset, .unset, .unset, .unset, .unset] [(.int xx)])) (fun t_ k_ => XS.iload X0.here hx rfl (hb hby at_24) rfl k_) ?_
  refine own_Goes.via (T' := s₁) (g' := (mkF m 28 #[.val (.int xr), .val (.int xf), .val (.int xq), .val (.int xv), .val (.int xx), .val (.long xt), .second, .val (.int v1), .val (.int v2), .val (.int v3), .val (.int v4), .unset, .unset, .unset, .unset, .unset, .unset, .unset, .unset, .unset, .unset] [(.int (31 : Int32)), (.int xx)])) (fun t_ k_ => XS.bipush X0.here hx rfl (hb hby at_26) k_) ?_
  refine own_Goes.via (T' := s₁) (g' := (mkF m 29 #[.val (.int xr), .val (.int xf), .val (.int xq), .val (.int xv), .val (.int xx), .val (.long xt), .second, .val (.int v1), .val (.int v2), .val (.int v3), .val (.int v4), .unset, .unset, .unset, .unset, .unset, .unset, .unset, .unset, .unset, .unset] [(.int (xx &&& (31 : Int32)))])) (fun t_ k_ => XS.iand X0.here hx rfl (hb hby at_28) rfl k_) ?_
  refine own_Goes.via (T' := s₁) (g' := (mkF m 31 #[.val (.int xr), .val (.int xf), .val (.int xq), .val (.int xv), .val (.int xx), .val (.long xt), .second, .val (.int v1), .val (.int v2), .val (.int v3), .val (.int v4), .val (.int (xx &&& (31 : Int32))), .unset, .unset, .unset, .unset, .unset, .unset, .unset, .unset, .unset] [])) (fun t_ k_ => XS.istore X0.here hx rfl (hb hby at_29) rfl (l' := #[.val (.int xr), .val (.int xf), .val (.int xq), .val (.int xv), .val (.int xx), .val (.long xt), .second, .val (.int v1), .val (.int v2), .val (.int v3), .val (.int v4), .val (.int (xx &&& (31 : Int32))), .unset, .unset, .unset, .unset, .unset, .unset, .unset, .unset, .unset]) rfl k_) ?_
  obtain ⟨v5, hv5⟩ : ∃ z : Int32, z = (xx &&& (31 : Int32)) := ⟨_, rfl⟩
  rw [← hv5]
  refine own_Goes.via (T' := s₁) (g' := (mkF m 33 #[.val (.int xr), .val (.int xf), .val (.int xq), .val (.int xv), .val (.int xx), .val (.long xt), .second, .val (.int v1), .val (.int v2), .val (.int v3), .val (.int v4), .val (.int v5), .unset, .unset, .unset, .unset, .unset, .unset, .unset, .unset, .unset] [(.int v1)])) (fun t_ k_ => XS.iload X0.here hx rfl (hb hby at_31) rfl k_) ?_
  have neg33_7 : ¬ v1 < 0 := own_pl0_0 hv1 hv2 hv3 hv4 hv5
  have hcap33_8 : v1.toNatClampNeg ≤ 31 := own_pl0_1 hv1 hv2 hv3 hv4 hv5 neg33_7
  obtain ⟨T6, h6, k6, X6, e6, E6, A6, Ea6, st6⟩ := newPE X0 hx hZ (hw _ (List.mem_of_getElem? (i := 0) rfl)) e0 (g := (mkF m 33 #[.val (.int xr), .val (.int xf), .val (.int xq), .val (.int xv), .val (.int xx), .val (.long xt), .second, .val (.int v1), .val (.int v2), .val (.int v3), .val (.int v4), .val (.int v5), .unset, .unset, .unset, .unset, .unset, .unset, .unset, .unset, .unset] [(.int v1)])) rfl (hb hby at_33) rfl neg33_7 (cap := 31) hcap33_8 (by decide) (by decide) (by decide) (ad := "[B") (by decide)
  obtain ⟨b6, g6⟩ : ∃ z, z = h0.size := ⟨_, rfl⟩
  rw [← g6] at A6 Ea6 st6
  have ge_b6 : n0 ≤ b6 := Nat.le_trans Z0 (Nat.le_of_eq g6.symm)
  have sz_b6 : h0.size ≤ b6 := Nat.le_trans ((Keep.refl h0 [])).1 (Nat.le_of_eq g6.symm)
  have sz6 : n0 ≤ h6.size := Nat.le_trans Z0 E6.1
  have hk := Nat.le_trans hk E6.1
  have K6 : Keep h0 h6 [] := ((Keep.refl h0 [])).ext E6
  have E9 : Exa Z h6 b6 "[B" := Ea6
  have V10 : Arv Z h6 b6 k6 .byte v1 [] (.int (0 : Int32)) := Arv.new A6 neg33_7
  refine own_Goes.via (T' := T6) (g' := (mkF m 35 #[.val (.int xr), .val (.int xf), .val (.int xq), .val (.int xv), .val (.int xx), .val (.long xt), .second, .val (.int v1), .val (.int v2), .val (.int v3), .val (.int v4), .val (.int v5), .unset, .unset, .unset, .unset, .unset, .unset, .unset, .unset, .unset] [(.ref b6)])) (st6) ?_
  refine own_Goes.via (T' := T6) (g' := (mkF m 37 #[.val (.int xr), .val (.int xf), .val (.int xq), .val (.int xv), .val (.int xx), .val (.long xt), .second, .val (.int v1), .val (.int v2), .val (.int v3), .val (.int v4), .val (.int v5), .val (.ref b6), .unset, .unset, .unset, .unset, .unset, .unset, .unset, .unset] [])) (fun t_ k_ => XS.astore X6.here hx rfl (hb hby at_35) rfl rfl (l' := #[.val (.int xr), .val (.int xf), .val (.int xq), .val (.int xv), .val (.int xx), .val (.long xt), .second, .val (.int v1), .val (.int v2), .val (.int v3), .val (.int v4), .val (.int v5), .val (.ref b6), .unset, .unset, .unset, .unset, .unset, .unset, .unset, .unset]) rfl k_) ?_
  refine own_Goes.via (T' := T6) (g' := (mkF m 39 #[.val (.int xr), .val (.int xf), .val (.int xq), .val (.int xv), .val (.int xx), .val (.long xt), .second, .val (.int v1), .val (.int v2), .val (.int v3), .val (.int v4), .val (.int v5), .val (.ref b6), .unset, .unset, .unset, .unset, .unset, .unset, .unset, .unset] [(.int v2)])) (fun t_ k_ => XS.iload X6.here hx rfl (hb hby at_37) rfl k_) ?_
  have neg39_12 : ¬ v2 < 0 := own_pl0_2 hv1 hv2 hv3 hv4 hv5 neg33_7 hcap33_8
  have hcap39_13 : v2.toNatClampNeg ≤ 31 := own_pl0_3 hv1 hv2 hv3 hv4 hv5 neg33_7 hcap33_8 neg39_12
  obtain ⟨T11, h11, k11, X11, e11, E11, A11, Ea11, st11⟩ := newPE X6 hx hZ (hw _ (List.mem_of_getElem? (i := 0) rfl)) e6 (g := (mkF m 39 #[.val (.int xr), .val (.int xf), .val (.int xq), .val (.int xv), .val (.int xx), .val (.long xt), .second, .val (.int v1), .val (.int v2), .val (.int v3), .val (.int v4), .val (.int v5), .val (.ref b6), .unset, .unset, .unset, .unset, .unset, .unset, .unset, .unset] [(.int v2)])) rfl (hb hby at_39) rfl neg39_12 (cap := 31) hcap39_13 (by decide) (by decide) (by decide) (ad := "[B") (by decide)
  obtain ⟨b11, g11⟩ : ∃ z, z = h6.size := ⟨_, rfl⟩
  rw [← g11] at A11 Ea11 st11
  have ne_b6_b11 : b6 ≠ b11 := Nat.ne_of_lt (Nat.lt_of_lt_of_le E9.lt (Nat.le_of_eq g11.symm))
  have E14 : Exa Z h11 b6 "[B" := E9.ext E11
  have V15 : Arv Z h11 b6 k6 .byte v1 [] (.int (0 : Int32)) := V10.ext E11
  have ge_b11 : n0 ≤ b11 := Nat.le_trans sz6 (Nat.le_of_eq g11.symm)
  have sz_b11 : h0.size ≤ b11 := Nat.le_trans (K6).1 (Nat.le_of_eq g11.symm)
  have sz11 : n0 ≤ h11.size := Nat.le_trans sz6 E11.1
  have hk := Nat.le_trans hk E11.1
  have K11 : Keep h0 h11 [] := (K6).ext E11
  have E16 : Exa Z h11 b11 "[B" := Ea11
  have V17 : Arv Z h11 b11 k11 .byte v2 [] (.int (0 : Int32)) := Arv.new A11 neg39_12
  refine own_Goes.via (T' := T11) (g' := (mkF m 41 #[.val (.int xr), .val (.int xf), .val (.int xq), .val (.int xv), .val (.int xx), .val (.long xt), .second, .val (.int v1), .val (.int v2), .val (.int v3), .val (.int v4), .val (.int v5), .val (.ref b6), .unset, .unset, .unset, .unset, .unset, .unset, .unset, .unset] [(.ref b11)])) (st11) ?_
  refine own_Goes.via (T' := T11) (g' := (mkF m 43 #[.val (.int xr), .val (.int xf), .val (.int xq), .val (.int xv), .val (.int xx), .val (.long xt), .second, .val (.int v1), .val (.int v2), .val (.int v3), .val (.int v4), .val (.int v5), .val (.ref b6), .val (.ref b11), .unset, .unset, .unset, .unset, .unset, .unset, .unset] [])) (fun t_ k_ => XS.astore X11.here hx rfl (hb hby at_41) rfl rfl (l' := #[.val (.int xr), .val (.int xf), .val (.int xq), .val (.int xv), .val (.int xx), .val (.long xt), .second, .val (.int v1), .val (.int v2), .val (.int v3), .val (.int v4), .val (.int v5), .val (.ref b6), .val (.ref b11), .unset, .unset, .unset, .unset, .unset, .unset, .unset]) rfl k_) ?_
  refine own_Goes.via (T' := T11) (g' := (mkF m 45 #[.val (.int xr), .val (.int xf), .val (.int xq), .val (.int xv), .val (.int xx), .val (.long xt), .second, .val (.int v1), .val (.int v2), .val (.int v3), .val (.int v4), .val (.int v5), .val (.ref b6), .val (.ref b11), .unset, .unset, .unset, .unset, .unset, .unset, .unset] [(.int v3)])) (fun t_ k_ => XS.iload X11.here hx rfl (hb hby at_43) rfl k_) ?_
  have neg45_19 : ¬ v3 < 0 := own_pl0_4 hv1 hv2 hv3 hv4 hv5 neg33_7 hcap33_8 neg39_12 hcap39_13
  have hcap45_20 : v3.toNatClampNeg ≤ 31 := own_pl0_5 hv1 hv2 hv3 hv4 hv5 neg33_7 hcap33_8 neg39_12 hcap39_13 neg45_19
  obtain ⟨T18, h18, k18, X18, e18, E18, A18, Ea18, st18⟩ := newPE X11 hx hZ (hw _ (List.mem_of_getElem? (i := 0) rfl)) e11 (g := (mkF m 45 #[.val (.int xr), .val (.int xf), .val (.int xq), .val (.int xv), .val (.int xx), .val (.long xt), .second, .val (.int v1), .val (.int v2), .val (.int v3), .val (.int v4), .val (.int v5), .val (.ref b6), .val (.ref b11), .unset, .unset, .unset, .unset, .unset, .unset, .unset] [(.int v3)])) rfl (hb hby at_45) rfl neg45_19 (cap := 31) hcap45_20 (by decide) (by decide) (by decide) (ad := "[B") (by decide)
  obtain ⟨b18, g18⟩ : ∃ z, z = h11.size := ⟨_, rfl⟩
  rw [← g18] at A18 Ea18 st18
  have ne_b6_b18 : b6 ≠ b18 := Nat.ne_of_lt (Nat.lt_of_lt_of_le E14.lt (Nat.le_of_eq g18.symm))
  have ne_b11_b18 : b11 ≠ b18 := Nat.ne_of_lt (Nat.lt_of_lt_of_le E16.lt (Nat.le_of_eq g18.symm))
  have E21 : Exa Z h18 b6 "[B" := E14.ext E18
  have V22 : Arv Z h18 b6 k6 .byte v1 [] (.int (0 : Int32)) := V15.ext E18
  have E23 : Exa Z h18 b11 "[B" := E16.ext E18
  have V24 : Arv Z h18 b11 k11 .byte v2 [] (.int (0 : Int32)) := V17.ext E18
  have ge_b18 : n0 ≤ b18 := Nat.le_trans sz11 (Nat.le_of_eq g18.symm)
  have sz_b18 : h0.size ≤ b18 := Nat.le_trans (K11).1 (Nat.le_of_eq g18.symm)
  have sz18 : n0 ≤ h18.size := Nat.le_trans sz11 E18.1
  have hk := Nat.le_trans hk E18.1
  have K18 : Keep h0 h18 [] := (K11).ext E18
  have E25 : Exa Z h18 b18 "[B" := Ea18
  have V26 : Arv Z h18 b18 k18 .byte v3 [] (.int (0 : Int32)) := Arv.new A18 neg45_19
  refine own_Goes.via (T' := T18) (g' := (mkF m 47 #[.val (.int xr), .val (.int xf), .val (.int xq), .val (.int xv), .val (.int xx), .val (.long xt), .second, .val (.int v1), .val (.int v2), .val (.int v3), .val (.int v4), .val (.int v5), .val (.ref b6), .val (.ref b11), .unset, .unset, .unset, .unset, .unset, .unset, .unset] [(.ref b18)])) (st18) ?_
  refine own_Goes.via (T' := T18) (g' := (mkF m 49 #[.val (.int xr), .val (.int xf), .val (.int xq), .val (.int xv), .val (.int xx), .val (.long xt), .second, .val (.int v1), .val (.int v2), .val (.int v3), .val (.int v4), .val (.int v5), .val (.ref b6), .val (.ref b11), .val (.ref b18), .unset, .unset, .unset, .unset, .unset, .unset] [])) (fun t_ k_ => XS.astore X18.here hx rfl (hb hby at_47) rfl rfl (l' := #[.val (.int xr), .val (.int xf), .val (.int xq), .val (.int xv), .val (.int xx), .val (.long xt), .second, .val (.int v1), .val (.int v2), .val (.int v3), .val (.int v4), .val (.int v5), .val (.ref b6), .val (.ref b11), .val (.ref b18), .unset, .unset, .unset, .unset, .unset, .unset]) rfl k_) ?_
  refine own_Goes.via (T' := T18) (g' := (mkF m 51 #[.val (.int xr), .val (.int xf), .val (.int xq), .val (.int xv), .val (.int xx), .val (.long xt), .second, .val (.int v1), .val (.int v2), .val (.int v3), .val (.int v4), .val (.int v5), .val (.ref b6), .val (.ref b11), .val (.ref b18), .unset, .unset, .unset, .unset, .unset, .unset] [(.int v4)])) (fun t_ k_ => XS.iload X18.here hx rfl (hb hby at_49) rfl k_) ?_
  have neg51_28 : ¬ v4 < 0 := own_pl0_6 hv1 hv2 hv3 hv4 hv5 neg33_7 hcap33_8 neg39_12 hcap39_13 neg45_19 hcap45_20
  have hcap51_29 : v4.toNatClampNeg ≤ 31 := own_pl0_7 hv1 hv2 hv3 hv4 hv5 neg33_7 hcap33_8 neg39_12 hcap39_13 neg45_19 hcap45_20 neg51_28
  obtain ⟨T27, h27, k27, X27, e27, E27, A27, Ea27, st27⟩ := newPE X18 hx hZ (hw _ (List.mem_of_getElem? (i := 0) rfl)) e18 (g := (mkF m 51 #[.val (.int xr), .val (.int xf), .val (.int xq), .val (.int xv), .val (.int xx), .val (.long xt), .second, .val (.int v1), .val (.int v2), .val (.int v3), .val (.int v4), .val (.int v5), .val (.ref b6), .val (.ref b11), .val (.ref b18), .unset, .unset, .unset, .unset, .unset, .unset] [(.int v4)])) rfl (hb hby at_51) rfl neg51_28 (cap := 31) hcap51_29 (by decide) (by decide) (by decide) (ad := "[B") (by decide)
  obtain ⟨b27, g27⟩ : ∃ z, z = h18.size := ⟨_, rfl⟩
  rw [← g27] at A27 Ea27 st27
  have ne_b6_b27 : b6 ≠ b27 := Nat.ne_of_lt (Nat.lt_of_lt_of_le E21.lt (Nat.le_of_eq g27.symm))
  have ne_b11_b27 : b11 ≠ b27 := Nat.ne_of_lt (Nat.lt_of_lt_of_le E23.lt (Nat.le_of_eq g27.symm))
  have ne_b18_b27 : b18 ≠ b27 := Nat.ne_of_lt (Nat.lt_of_lt_of_le E25.lt (Nat.le_of_eq g27.symm))
  have E30 : Exa Z h27 b6 "[B" := E21.ext E27
  have V31 : Arv Z h27 b6 k6 .byte v1 [] (.int (0 : Int32)) := V22.ext E27
  have E32 : Exa Z h27 b11 "[B" := E23.ext E27
  have V33 : Arv Z h27 b11 k11 .byte v2 [] (.int (0 : Int32)) := V24.ext E27
  have E34 : Exa Z h27 b18 "[B" := E25.ext E27
  have V35 : Arv Z h27 b18 k18 .byte v3 [] (.int (0 : Int32)) := V26.ext E27
  have ge_b27 : n0 ≤ b27 := Nat.le_trans sz18 (Nat.le_of_eq g27.symm)
  have sz_b27 : h0.size ≤ b27 := Nat.le_trans (K18).1 (Nat.le_of_eq g27.symm)
  have sz27 : n0 ≤ h27.size := Nat.le_trans sz18 E27.1
  have hk := Nat.le_trans hk E27.1
  have K27 : Keep h0 h27 [] := (K18).ext E27
  have E36 : Exa Z h27 b27 "[B" := Ea27
  have V37 : Arv Z h27 b27 k27 .byte v4 [] (.int (0 : Int32)) := Arv.new A27 neg51_28
  refine own_Goes.via (T' := T27) (g' := (mkF m 53 #[.val (.int xr), .val (.int xf), .val (.int xq), .val (.int xv), .val (.int xx), .val (.long xt), .second, .val (.int v1), .val (.int v2), .val (.int v3), .val (.int v4), .val (.int v5), .val (.ref b6), .val (.ref b11), .val (.ref b18), .unset, .unset, .unset, .unset, .unset, .unset] [(.ref b27)])) (st27) ?_
  refine own_Goes.via (T' := T27) (g' := (mkF m 55 #[.val (.int xr), .val (.int xf), .val (.int xq), .val (.int xv), .val (.int xx), .val (.long xt), .second, .val (.int v1), .val (.int v2), .val (.int v3), .val (.int v4), .val (.int v5), .val (.ref b6), .val (.ref b11), .val (.ref b18), .val (.ref b27), .unset, .unset, .unset, .unset, .unset] [])) (fun t_ k_ => XS.astore X27.here hx rfl (hb hby at_53) rfl rfl (l' := #[.val (.int xr), .val (.int xf), .val (.int xq), .val (.int xv), .val (.int xx), .val (.long xt), .second, .val (.int v1), .val (.int v2), .val (.int v3), .val (.int v4), .val (.int v5), .val (.ref b6), .val (.ref b11), .val (.ref b18), .val (.ref b27), .unset, .unset, .unset, .unset, .unset]) rfl k_) ?_
  refine own_Goes.via (T' := T27) (g' := (mkF m 57 #[.val (.int xr), .val (.int xf), .val (.int xq), .val (.int xv), .val (.int xx), .val (.long xt), .second, .val (.int v1), .val (.int v2), .val (.int v3), .val (.int v4), .val (.int v5), .val (.ref b6), .val (.ref b11), .val (.ref b18), .val (.ref b27), .unset, .unset, .unset, .unset, .unset] [(.int v5)])) (fun t_ k_ => XS.iload X27.here hx rfl (hb hby at_55) rfl k_) ?_
  have neg57_39 : ¬ v5 < 0 := own_pl0_8 hv1 hv2 hv3 hv4 hv5 neg33_7 hcap33_8 neg39_12 hcap39_13 neg45_19 hcap45_20 neg51_28 hcap51_29
  have hcap57_40 : v5.toNatClampNeg ≤ 31 := own_pl0_9 hv1 hv2 hv3 hv4 hv5 neg33_7 hcap33_8 neg39_12 hcap39_13 neg45_19 hcap45_20 neg51_28 hcap51_29 neg57_39
  obtain ⟨T38, h38, k38, X38, e38, E38, A38, Ea38, st38⟩ := newPE X27 hx hZ (hw _ (List.mem_of_getElem? (i := 0) rfl)) e27 (g := (mkF m 57 #[.val (.int xr), .val (.int xf), .val (.int xq), .val (.int xv), .val (.int xx), .val (.long xt), .second, .val (.int v1), .val (.int v2), .val (.int v3), .val (.int v4), .val (.int v5), .val (.ref b6), .val (.ref b11), .val (.ref b18), .val (.ref b27), .unset, .unset, .unset, .unset, .unset] [(.int v5)])) rfl (hb hby at_57) rfl neg57_39 (cap := 31) hcap57_40 (by decide) (by decide) (by decide) (ad := "[B") (by decide)
  obtain ⟨b38, g38⟩ : ∃ z, z = h27.size := ⟨_, rfl⟩
  rw [← g38] at A38 Ea38 st38
  have ne_b6_b38 : b6 ≠ b38 := Nat.ne_of_lt (Nat.lt_of_lt_of_le E30.lt (Nat.le_of_eq g38.symm))
  have ne_b11_b38 : b11 ≠ b38 := Nat.ne_of_lt (Nat.lt_of_lt_of_le E32.lt (Nat.le_of_eq g38.symm))
  have ne_b18_b38 : b18 ≠ b38 := Nat.ne_of_lt (Nat.lt_of_lt_of_le E34.lt (Nat.le_of_eq g38.symm))
  have ne_b27_b38 : b27 ≠ b38 := Nat.ne_of_lt (Nat.lt_of_lt_of_le E36.lt (Nat.le_of_eq g38.symm))
  have E41 : Exa Z h38 b6 "[B" := E30.ext E38
  have V42 : Arv Z h38 b6 k6 .byte v1 [] (.int (0 : Int32)) := V31.ext E38
  have E43 : Exa Z h38 b11 "[B" := E32.ext E38
  have V44 : Arv Z h38 b11 k11 .byte v2 [] (.int (0 : Int32)) := V33.ext E38
  have E45 : Exa Z h38 b18 "[B" := E34.ext E38
  have V46 : Arv Z h38 b18 k18 .byte v3 [] (.int (0 : Int32)) := V35.ext E38
  have E47 : Exa Z h38 b27 "[B" := E36.ext E38
  have V48 : Arv Z h38 b27 k27 .byte v4 [] (.int (0 : Int32)) := V37.ext E38
  have ge_b38 : n0 ≤ b38 := Nat.le_trans sz27 (Nat.le_of_eq g38.symm)
  have sz_b38 : h0.size ≤ b38 := Nat.le_trans (K27).1 (Nat.le_of_eq g38.symm)
  have sz38 : n0 ≤ h38.size := Nat.le_trans sz27 E38.1
  have hk := Nat.le_trans hk E38.1
  have K38 : Keep h0 h38 [] := (K27).ext E38
  have E49 : Exa Z h38 b38 "[B" := Ea38
  have V50 : Arv Z h38 b38 k38 .byte v5 [] (.int (0 : Int32)) := Arv.new A38 neg57_39
  refine own_Goes.via (T' := T38) (g' := (mkF m 59 #[.val (.int xr), .val (.int xf), .val (.int xq), .val (.int xv), .val (.int xx), .val (.long xt), .second, .val (.int v1), .val (.int v2), .val (.int v3), .val (.int v4), .val (.int v5), .val (.ref b6), .val (.ref b11), .val (.ref b18), .val (.ref b27), .unset, .unset, .unset, .unset, .unset] [(.ref b38)])) (st38) ?_
  refine own_Goes.via (T' := T38) (g' := (mkF m 61 #[.val (.int xr), .val (.int xf), .val (.int xq), .val (.int xv), .val (.int xx), .val (.long xt), .second, .val (.int v1), .val (.int v2), .val (.int v3), .val (.int v4), .val (.int v5), .val (.ref b6), .val (.ref b11), .val (.ref b18), .val (.ref b27), .val (.ref b38), .unset, .unset, .unset, .unset] [])) (fun t_ k_ => XS.astore X38.here hx rfl (hb hby at_59) rfl rfl (l' := #[.val (.int xr), .val (.int xf), .val (.int xq), .val (.int xv), .val (.int xx), .val (.long xt), .second, .val (.int v1), .val (.int v2), .val (.int v3), .val (.int v4), .val (.int v5), .val (.ref b6), .val (.ref b11), .val (.ref b18), .val (.ref b27), .val (.ref b38), .unset, .unset, .unset, .unset]) rfl k_) ?_
  obtain ⟨T51, h51, X51, e51, E51, A51, D51, -, st51⟩ := newO X38 hx hZ hown (hw _ (List.mem_of_getElem? (i := 1) rfl)) (hw _ (List.mem_of_getElem? (i := 2) rfl)) (hw _ (List.mem_of_getElem? (i := 3) rfl)) e38 (g := (mkF m 61 #[.val (.int xr), .val (.int xf), .val (.int xq), .val (.int xv), .val (.int xx), .val (.long xt), .second, .val (.int v1), .val (.int v2), .val (.int v3), .val (.int v4), .val (.int v5), .val (.ref b6), .val (.ref b11), .val (.ref b18), .val (.ref b27), .val (.ref b38), .unset, .unset, .unset, .unset] [])) rfl (hb hby at_61) (by decide) (by decide)
  obtain ⟨b51, g51⟩ : ∃ z, z = h38.size := ⟨_, rfl⟩
  rw [← g51] at A51 D51 st51
  have ne_b6_b51 : b6 ≠ b51 := Nat.ne_of_lt (Nat.lt_of_lt_of_le E41.lt (Nat.le_of_eq g51.symm))
  have ne_b11_b51 : b11 ≠ b51 := Nat.ne_of_lt (Nat.lt_of_lt_of_le E43.lt (Nat.le_of_eq g51.symm))
  have ne_b18_b51 : b18 ≠ b51 := Nat.ne_of_lt (Nat.lt_of_lt_of_le E45.lt (Nat.le_of_eq g51.symm))
  have ne_b27_b51 : b27 ≠ b51 := Nat.ne_of_lt (Nat.lt_of_lt_of_le E47.lt (Nat.le_of_eq g51.symm))
  have ne_b38_b51 : b38 ≠ b51 := Nat.ne_of_lt (Nat.lt_of_lt_of_le E49.lt (Nat.le_of_eq g51.symm))
  have E52 : Exa Z h51 b6 "[B" := E41.ext E51
  have V53 : Arv Z h51 b6 k6 .byte v1 [] (.int (0 : Int32)) := V42.ext E51
  have E54 : Exa Z h51 b11 "[B" := E43.ext E51
  have V55 : Arv Z h51 b11 k11 .byte v2 [] (.int (0 : Int32)) := V44.ext E51
  have E56 : Exa Z h51 b18 "[B" := E45.ext E51
  have V57 : Arv Z h51 b18 k18 .byte v3 [] (.int (0 : Int32)) := V46.ext E51
  have E58 : Exa Z h51 b27 "[B" := E47.ext E51
  have V59 : Arv Z h51 b27 k27 .byte v4 [] (.int (0 : Int32)) := V48.ext E51
  have E60 : Exa Z h51 b38 "[B" := E49.ext E51
  have V61 : Arv Z h51 b38 k38 .byte v5 [] (.int (0 : Int32)) := V50.ext E51
  have ge_b51 : n0 ≤ b51 := Nat.le_trans sz38 (Nat.le_of_eq g51.symm)
  have sz_b51 : h0.size ≤ b51 := Nat.le_trans (K38).1 (Nat.le_of_eq g51.symm)
  have sz51 : n0 ≤ h51.size := Nat.le_trans sz38 E51.1
  have hk := Nat.le_trans hk E51.1
  have K51 : Keep h0 h51 [] := (K38).ext E51
  have E62 : Exa Z h51 b51 "com/example/keysweep/keysweep/Key" := A51
  have F63 : Fld Z h51 b51 "com/example/keysweep/keysweep/Key" "row" "[B" .null := D51 (Or.inr (hw _ (List.mem_of_getElem? (i := 23) rfl))) (ty := (.array .byte)) (by decide)
  have F64 : Fld Z h51 b51 "com/example/keysweep/keysweep/Key" "family" "[B" .null := D51 (Or.inr (hw _ (List.mem_of_getElem? (i := 25) rfl))) (ty := (.array .byte)) (by decide)
  have F65 : Fld Z h51 b51 "com/example/keysweep/keysweep/Key" "qualifier" "[B" .null := D51 (Or.inr (hw _ (List.mem_of_getElem? (i := 27) rfl))) (ty := (.array .byte)) (by decide)
  have F66 : Fld Z h51 b51 "com/example/keysweep/keysweep/Key" "visibility" "[B" .null := D51 (Or.inr (hw _ (List.mem_of_getElem? (i := 29) rfl))) (ty := (.array .byte)) (by decide)
  have F67 : Fld Z h51 b51 "com/example/keysweep/keysweep/Key" "timestamp" "J" (.long (0 : Int64)) := D51 (Or.inr (hw _ (List.mem_of_getElem? (i := 31) rfl))) (ty := .long) (by decide)
  have F68 : Fld Z h51 b51 "com/example/keysweep/keysweep/Key" "deleteMarker" "Z" (.int (0 : Int32)) := D51 (Or.inr (hw _ (List.mem_of_getElem? (i := 33) rfl))) (ty := .boolean) (by decide)
  refine own_Goes.via (T' := T51) (g' := (mkF m 64 #[.val (.int xr), .val (.int xf), .val (.int xq), .val (.int xv), .val (.int xx), .val (.long xt), .second, .val (.int v1), .val (.int v2), .val (.int v3), .val (.int v4), .val (.int v5), .val (.ref b6), .val (.ref b11), .val (.ref b18), .val (.ref b27), .val (.ref b38), .unset, .unset, .unset, .unset] [(.ref b51)])) (st51) ?_
  refine own_Goes.via (T' := T51) (g' := (mkF m 65 #[.val (.int xr), .val (.int xf), .val (.int xq), .val (.int xv), .val (.int xx), .val (.long xt), .second, .val (.int v1), .val (.int v2), .val (.int v3), .val (.int v4), .val (.int v5), .val (.ref b6), .val (.ref b11), .val (.ref b18), .val (.ref b27), .val (.ref b38), .unset, .unset, .unset, .unset] [(.ref b51), (.ref b51)])) (fun t_ k_ => XS.dup X51.here hx rfl (hb hby at_64) rfl rfl k_) ?_
  refine own_Goes.via (T' := T51) (g' := (mkF m 67 #[.val (.int xr), .val (.int xf), .val (.int xq), .val (.int xv), .val (.int xx), .val (.long xt), .second, .val (.int v1), .val (.int v2), .val (.int v3), .val (.int v4), .val (.int v5), .val (.ref b6), .val (.ref b11), .val (.ref b18), .val (.ref b27), .val (.ref b38), .unset, .unset, .unset, .unset] [(.ref b6), (.ref b51), (.ref b51)])) (fun t_ k_ => XS.aload X51.here hx rfl (hb hby at_65) rfl rfl k_) ?_
  refine own_Goes.via (T' := T51) (g' := (mkF m 69 #[.val (.int xr), .val (.int xf), .val (.int xq), .val (.int xv), .val (.int xx), .val (.long xt), .second, .val (.int v1), .val (.int v2), .val (.int v3), .val (.int v4), .val (.int v5), .val (.ref b6), .val (.ref b11), .val (.ref b18), .val (.ref b27), .val (.ref b38), .unset, .unset, .unset, .unset] [(.ref b11), (.ref b6), (.ref b51), (.ref b51)])) (fun t_ k_ => XS.aload X51.here hx rfl (hb hby at_67) rfl rfl k_) ?_
  refine own_Goes.via (T' := T51) (g' := (mkF m 71 #[.val (.int xr), .val (.int xf), .val (.int xq), .val (.int xv), .val (.int xx), .val (.long xt), .second, .val (.int v1), .val (.int v2), .val (.int v3), .val (.int v4), .val (.int v5), .val (.ref b6), .val (.ref b11), .val (.ref b18), .val (.ref b27), .val (.ref b38), .unset, .unset, .unset, .unset] [(.ref b18), (.ref b11), (.ref b6), (.ref b51), (.ref b51)])) (fun t_ k_ => XS.aload X51.here hx rfl (hb hby at_69) rfl rfl k_) ?_
  refine own_Goes.via (T' := T51) (g' := (mkF m 73 #[.val (.int xr), .val (.int xf), .val (.int xq), .val (.int xv), .val (.int xx), .val (.long xt), .second, .val (.int v1), .val (.int v2), .val (.int v3), .val (.int v4), .val (.int v5), .val (.ref b6), .val (.ref b11), .val (.ref b18), .val (.ref b27), .val (.ref b38), .unset, .unset, .unset, .unset] [(.ref b27), (.ref b18), (.ref b11), (.ref b6), (.ref b51), (.ref b51)])) (fun t_ k_ => XS.aload X51.here hx rfl (hb hby at_71) rfl rfl k_) ?_
  refine own_Goes.via (T' := T51) (g' := (mkF m 75 #[.val (.int xr), .val (.int xf), .val (.int xq), .val (.int xv), .val (.int xx), .val (.long xt), .second, .val (.int v1), .val (.int v2), .val (.int v3), .val (.int v4), .val (.int v5), .val (.ref b6), .val (.ref b11), .val (.ref b18), .val (.ref b27), .val (.ref b38), .unset, .unset, .unset, .unset] [(.long xt), (.ref b27), (.ref b18), (.ref b11), (.ref b6), (.ref b51), (.ref b51)])) (fun t_ k_ => XS.lload X51.here hx rfl (hb hby at_73) rfl k_) ?_
  have cd75_70 : v1.toNatClampNeg ≤ 31 := by assumption
  have cd75_71 : v2.toNatClampNeg ≤ 31 := by assumption
  have cd75_72 : v3.toNatClampNeg ≤ 31 := by assumption
  have cd75_73 : v4.toNatClampNeg ≤ 31 := by assumption
  obtain ⟨_, _, ⟨T69, L69, k69, n69⟩, -, X69, ⟨Lc69, hQ69, l69, y69, z69⟩, st69⟩ := X51.specialBack hx (y := (⟨"com/example/keysweep/keysweep/Key", "<init>", "([B[B[B[BJ)V"⟩ : MethodName)) rfl hown (mvT hZ (hw _ (List.mem_of_getElem? (i := 4) rfl))) (mvT hZ (hw _ (List.mem_of_getElem? (i := 5) rfl))) (mvT hZ (hw _ (List.mem_of_getElem? (i := 6) rfl))) (by decide) (backOf (W := 1) (rm1 l Z a0 hw [] b51 b6 b11 b18 b27 xt k6 v1 k11 v2 k18 v3 k27 v4 h51 n0 sz51 E62 F63 F64 F65 F66 F67 F68 E52 V53 E54 V55 E56 V57 E58 V59 (Ne.symm ne_b6_b51) (Ne.symm ne_b11_b51) (Ne.symm ne_b18_b51) (Ne.symm ne_b27_b51) ge_b51 cd75_70 cd75_71 cd75_72 cd75_73) hZ (hw _ (List.mem_of_getElem? (i := 6) rfl)) (hw _ (List.mem_of_getElem? (i := 3) rfl)) (by decide) (by decide)) (g := (mkF m 75 #[.val (.int xr), .val (.int xf), .val (.int xq), .val (.int xv), .val (.int xx), .val (.long xt), .second, .val (.int v1), .val (.int v2), .val (.int v3), .val (.int v4), .val (.int v5), .val (.ref b6), .val (.ref b11), .val (.ref b18), .val (.ref b27), .val (.ref b38), .unset, .unset, .unset, .unset] [(.long xt), (.ref b27), (.ref b18), (.ref b11), (.ref b6), (.ref b51), (.ref b51)])) rfl (by rw [hml]; rfl) (Steps.refl _) (a := b51) (argsL := [(.ref b6), (.ref b11), (.ref b18), (.ref b27), (.long xt)]) (rest := [(.ref b51)]) (lenOf pd_0_0 rfl) rfl (by show 2 * 0 + _ ≤ _; exact Nat.le_of_eq rfl) (hb hby at_75) (fun _ _ => ⟨rfl, e51, (by decide : 6 + 4 ≤ _), (by decide : 161 + 124 ≤ _)⟩)
  dsimp only [Pt.U, Pt.locs, Pt.cells, Pt.slots] at X69 l69 y69 z69 st69 hQ69
  subst l69 y69 z69
  obtain ⟨br_69, bf_69, bq_69, bv_69, rfl, Nq69, Kq69, ⟨sq_br_69, ge_br_69⟩, ⟨sq_bf_69, ge_bf_69⟩, ⟨sq_bq_69, ge_bq_69⟩, ⟨sq_bv_69, ge_bv_69⟩, nq69_0, nq69_1, nq69_2, nq69_3, nq69_4, nq69_5, pf69_0, pf69_1, pf69_2, pf69_3, pf69_4, pf69_5, pf69_6, pf69_7, pf69_8, pf69_9, pf69_10, pf69_11, pf69_12, pf69_13, pf69_14⟩ := hQ69
  have N69 := Fr.app N0 Nq69
  have sz_br_69 : h0.size ≤ br_69 := Nat.le_trans (K51).1 sq_br_69
  have ne_b6_br_69 : b6 ≠ br_69 := Nat.ne_of_lt (Nat.lt_of_lt_of_le E52.lt sq_br_69)
  have ne_b11_br_69 : b11 ≠ br_69 := Nat.ne_of_lt (Nat.lt_of_lt_of_le E54.lt sq_br_69)
  have ne_b18_br_69 : b18 ≠ br_69 := Nat.ne_of_lt (Nat.lt_of_lt_of_le E56.lt sq_br_69)
  have ne_b27_br_69 : b27 ≠ br_69 := Nat.ne_of_lt (Nat.lt_of_lt_of_le E58.lt sq_br_69)
  have ne_b38_br_69 : b38 ≠ br_69 := Nat.ne_of_lt (Nat.lt_of_lt_of_le E60.lt sq_br_69)
  have ne_b51_br_69 : b51 ≠ br_69 := Nat.ne_of_lt (Nat.lt_of_lt_of_le E62.lt sq_br_69)
  have sz_bf_69 : h0.size ≤ bf_69 := Nat.le_trans (K51).1 sq_bf_69
  have ne_b6_bf_69 : b6 ≠ bf_69 := Nat.ne_of_lt (Nat.lt_of_lt_of_le E52.lt sq_bf_69)
  have ne_b11_bf_69 : b11 ≠ bf_69 := Nat.ne_of_lt (Nat.lt_of_lt_of_le E54.lt sq_bf_69)
  have ne_b18_bf_69 : b18 ≠ bf_69 := Nat.ne_of_lt (Nat.lt_of_lt_of_le E56.lt sq_bf_69)
  have ne_b27_bf_69 : b27 ≠ bf_69 := Nat.ne_of_lt (Nat.lt_of_lt_of_le E58.lt sq_bf_69)
  have ne_b38_bf_69 : b38 ≠ bf_69 := Nat.ne_of_lt (Nat.lt_of_lt_of_le E60.lt sq_bf_69)
  have ne_b51_bf_69 : b51 ≠ bf_69 := Nat.ne_of_lt (Nat.lt_of_lt_of_le E62.lt sq_bf_69)
  have sz_bq_69 : h0.size ≤ bq_69 := Nat.le_trans (K51).1 sq_bq_69
  have ne_b6_bq_69 : b6 ≠ bq_69 := Nat.ne_of_lt (Nat.lt_of_lt_of_le E52.lt sq_bq_69)
  have ne_b11_bq_69 : b11 ≠ bq_69 := Nat.ne_of_lt (Nat.lt_of_lt_of_le E54.lt sq_bq_69)
  have ne_b18_bq_69 : b18 ≠ bq_69 := Nat.ne_of_lt (Nat.lt_of_lt_of_le E56.lt sq_bq_69)
  have ne_b27_bq_69 : b27 ≠ bq_69 := Nat.ne_of_lt (Nat.lt_of_lt_of_le E58.lt sq_bq_69)
  have ne_b38_bq_69 : b38 ≠ bq_69 := Nat.ne_of_lt (Nat.lt_of_lt_of_le E60.lt sq_bq_69)
  have ne_b51_bq_69 : b51 ≠ bq_69 := Nat.ne_of_lt (Nat.lt_of_lt_of_le E62.lt sq_bq_69)
  have sz_bv_69 : h0.size ≤ bv_69 := Nat.le_trans (K51).1 sq_bv_69
  have ne_b6_bv_69 : b6 ≠ bv_69 := Nat.ne_of_lt (Nat.lt_of_lt_of_le E52.lt sq_bv_69)
  have ne_b11_bv_69 : b11 ≠ bv_69 := Nat.ne_of_lt (Nat.lt_of_lt_of_le E54.lt sq_bv_69)
  have ne_b18_bv_69 : b18 ≠ bv_69 := Nat.ne_of_lt (Nat.lt_of_lt_of_le E56.lt sq_bv_69)
  have ne_b27_bv_69 : b27 ≠ bv_69 := Nat.ne_of_lt (Nat.lt_of_lt_of_le E58.lt sq_bv_69)
  have ne_b38_bv_69 : b38 ≠ bv_69 := Nat.ne_of_lt (Nat.lt_of_lt_of_le E60.lt sq_bv_69)
  have ne_b51_bv_69 : b51 ≠ bv_69 := Nat.ne_of_lt (Nat.lt_of_lt_of_le E62.lt sq_bv_69)
  have E74 : Exa Z T69.heap b6 "[B" := E52.keep Kq69
  have V75 : Arv Z T69.heap b6 k6 .byte v1 [] (.int (0 : Int32)) := V53.keep Kq69 (ninS ne_b6_b51 nin0)
  have E76 : Exa Z T69.heap b11 "[B" := E54.keep Kq69
  have V77 : Arv Z T69.heap b11 k11 .byte v2 [] (.int (0 : Int32)) := V55.keep Kq69 (ninS ne_b11_b51 nin0)
  have E78 : Exa Z T69.heap b18 "[B" := E56.keep Kq69
  have V79 : Arv Z T69.heap b18 k18 .byte v3 [] (.int (0 : Int32)) := V57.keep Kq69 (ninS ne_b18_b51 nin0)
  have E80 : Exa Z T69.heap b27 "[B" := E58.keep Kq69
  have V81 : Arv Z T69.heap b27 k27 .byte v4 [] (.int (0 : Int32)) := V59.keep Kq69 (ninS ne_b27_b51 nin0)
  have E82 : Exa Z T69.heap b38 "[B" := E60.keep Kq69
  have V83 : Arv Z T69.heap b38 k38 .byte v5 [] (.int (0 : Int32)) := V61.keep Kq69 (ninS ne_b38_b51 nin0)
  have E84 : Exa Z T69.heap b51 "com/example/keysweep/keysweep/Key" := E62.keep Kq69
  have sz69 : n0 ≤ T69.heap.size := Nat.le_trans sz51 Kq69.1
  have hk := Nat.le_trans hk Kq69.1
  have K69 : Keep h0 T69.heap [] := (K51).trans Kq69 (allS (Or.inr sz_b51) all0)
  refine own_Goes.via (T' := T69) (g' := (mkF m 78 #[.val (.int xr), .val (.int xf), .val (.int xq), .val (.int xv), .val (.int xx), .val (.long xt), .second, .val (.int v1), .val (.int v2), .val (.int v3), .val (.int v4), .val (.int v5), .val (.ref b6), .val (.ref b11), .val (.ref b18), .val (.ref b27), .val (.ref b38), .unset, .unset, .unset, .unset] [(.ref b51)])) (fun t_ k_ => st69.trans k_) ?_
  refine own_Goes.via (T' := T69) (g' := (mkF m 80 #[.val (.int xr), .val (.int xf), .val (.int xq), .val (.int xv), .val (.int xx), .val (.long xt), .second, .val (.int v1), .val (.int v2), .val (.int v3), .val (.int v4), .val (.int v5), .val (.ref b6), .val (.ref b11), .val (.ref b18), .val (.ref b27), .val (.ref b38), .val (.ref b51), .unset, .unset, .unset] [])) (fun t_ k_ => XS.astore X69.here hx rfl (hb hby at_78) rfl rfl (l' := #[.val (.int xr), .val (.int xf), .val (.int xq), .val (.int xv), .val (.int xx), .val (.long xt), .second, .val (.int v1), .val (.int v2), .val (.int v3), .val (.int v4), .val (.int v5), .val (.ref b6), .val (.ref b11), .val (.ref b18), .val (.ref b27), .val (.ref b38), .val (.ref b51), .unset, .unset, .unset]) rfl k_) ?_
  obtain ⟨T85, h85, X85, e85, E85, A85, D85, -, st85⟩ := newO X69 hx hZ hown (hw _ (List.mem_of_getElem? (i := 34) rfl)) (hw _ (List.mem_of_getElem? (i := 35) rfl)) (hw _ (List.mem_of_getElem? (i := 36) rfl)) rfl (g := (mkF m 80 #[.val (.int xr), .val (.int xf), .val (.int xq), .val (.int xv), .val (.int xx), .val (.long xt), .second, .val (.int v1), .val (.int v2), .val (.int v3), .val (.int v4), .val (.int v5), .val (.ref b6), .val (.ref b11), .val (.ref b18), .val (.ref b27), .val (.ref b38), .val (.ref b51), .unset, .unset, .unset] [])) rfl (hb hby at_80) (by decide) (by decide)
  obtain ⟨b85, g85⟩ : ∃ z, z = T69.heap.size := ⟨_, rfl⟩
  rw [← g85] at A85 D85 st85
  have ne_b6_b85 : b6 ≠ b85 := Nat.ne_of_lt (Nat.lt_of_lt_of_le E74.lt (Nat.le_of_eq g85.symm))
  have ne_b11_b85 : b11 ≠ b85 := Nat.ne_of_lt (Nat.lt_of_lt_of_le E76.lt (Nat.le_of_eq g85.symm))
  have ne_b18_b85 : b18 ≠ b85 := Nat.ne_of_lt (Nat.lt_of_lt_of_le E78.lt (Nat.le_of_eq g85.symm))
  have ne_b27_b85 : b27 ≠ b85 := Nat.ne_of_lt (Nat.lt_of_lt_of_le E80.lt (Nat.le_of_eq g85.symm))
  have ne_b38_b85 : b38 ≠ b85 := Nat.ne_of_lt (Nat.lt_of_lt_of_le E82.lt (Nat.le_of_eq g85.symm))
  have ne_b51_b85 : b51 ≠ b85 := Nat.ne_of_lt (Nat.lt_of_lt_of_le pf69_0.lt (Nat.le_of_eq g85.symm))
  have ne_br_69_b85 : br_69 ≠ b85 := Nat.ne_of_lt (Nat.lt_of_lt_of_le pf69_7.lt (Nat.le_of_eq g85.symm))
  have ne_bf_69_b85 : bf_69 ≠ b85 := Nat.ne_of_lt (Nat.lt_of_lt_of_le pf69_9.lt (Nat.le_of_eq g85.symm))
  have ne_bq_69_b85 : bq_69 ≠ b85 := Nat.ne_of_lt (Nat.lt_of_lt_of_le pf69_11.lt (Nat.le_of_eq g85.symm))
  have ne_bv_69_b85 : bv_69 ≠ b85 := Nat.ne_of_lt (Nat.lt_of_lt_of_le pf69_13.lt (Nat.le_of_eq g85.symm))
  have E86 : Exa Z h85 b6 "[B" := E74.ext E85
  have V87 : Arv Z h85 b6 k6 .byte v1 [] (.int (0 : Int32)) := V75.ext E85
  have E88 : Exa Z h85 b11 "[B" := E76.ext E85
  have V89 : Arv Z h85 b11 k11 .byte v2 [] (.int (0 : Int32)) := V77.ext E85
  have E90 : Exa Z h85 b18 "[B" := E78.ext E85
  have V91 : Arv Z h85 b18 k18 .byte v3 [] (.int (0 : Int32)) := V79.ext E85
  have E92 : Exa Z h85 b27 "[B" := E80.ext E85
  have V93 : Arv Z h85 b27 k27 .byte v4 [] (.int (0 : Int32)) := V81.ext E85
  have E94 : Exa Z h85 b38 "[B" := E82.ext E85
  have V95 : Arv Z h85 b38 k38 .byte v5 [] (.int (0 : Int32)) := V83.ext E85
  have E96 : Exa Z h85 b51 "com/example/keysweep/keysweep/Key" := pf69_0.ext E85
  have F97 : Fld Z h85 b51 "com/example/keysweep/keysweep/Key" "row" "[B" (.ref br_69) := pf69_1.ext E85
  have F98 : Fld Z h85 b51 "com/example/keysweep/keysweep/Key" "family" "[B" (.ref bf_69) := pf69_2.ext E85
  have F99 : Fld Z h85 b51 "com/example/keysweep/keysweep/Key" "qualifier" "[B" (.ref bq_69) := pf69_3.ext E85
  have F100 : Fld Z h85 b51 "com/example/keysweep/keysweep/Key" "visibility" "[B" (.ref bv_69) := pf69_4.ext E85
  have F101 : Fld Z h85 b51 "com/example/keysweep/keysweep/Key" "timestamp" "J" (.long xt) := pf69_5.ext E85
  have F102 : Fld Z h85 b51 "com/example/keysweep/keysweep/Key" "deleteMarker" "Z" (.int (nar .boolean (0 : Int32))) := pf69_6.ext E85
  have E103 : Exa Z h85 br_69 "[B" := pf69_7.ext E85
  have V104 : Arv Z h85 br_69 k6 .byte v1 [] (.int (0 : Int32)) := pf69_8.ext E85
  have E105 : Exa Z h85 bf_69 "[B" := pf69_9.ext E85
  have V106 : Arv Z h85 bf_69 k11 .byte v2 [] (.int (0 : Int32)) := pf69_10.ext E85
  have E107 : Exa Z h85 bq_69 "[B" := pf69_11.ext E85
  have V108 : Arv Z h85 bq_69 k18 .byte v3 [] (.int (0 : Int32)) := pf69_12.ext E85
  have E109 : Exa Z h85 bv_69 "[B" := pf69_13.ext E85
  have V110 : Arv Z h85 bv_69 k27 .byte v4 [] (.int (0 : Int32)) := pf69_14.ext E85
  have ge_b85 : n0 ≤ b85 := Nat.le_trans sz69 (Nat.le_of_eq g85.symm)
  have sz_b85 : h0.size ≤ b85 := Nat.le_trans (K69).1 (Nat.le_of_eq g85.symm)
  have sz85 : n0 ≤ h85.size := Nat.le_trans sz69 E85.1
  have hk := Nat.le_trans hk E85.1
  have K85 : Keep h0 h85 [] := (K69).ext E85
  have E111 : Exa Z h85 b85 "com/example/keysweep/keysweep/Entry" := A85
  have F112 : Fld Z h85 b85 "com/example/keysweep/keysweep/Entry" "key" "Lcom/example/keysweep/keysweep/Key;" .null := D85 (Or.inr (hw _ (List.mem_of_getElem? (i := 55) rfl))) (ty := (.object "com/example/keysweep/keysweep/Key")) (by decide)
  have F113 : Fld Z h85 b85 "com/example/keysweep/keysweep/Entry" "value" "[B" .null := D85 (Or.inr (hw _ (List.mem_of_getElem? (i := 59) rfl))) (ty := (.array .byte)) (by decide)
  refine own_Goes.via (T' := T85) (g' := (mkF m 83 #[.val (.int xr), .val (.int xf), .val (.int xq), .val (.int xv), .val (.int xx), .val (.long xt), .second, .val (.int v1), .val (.int v2), .val (.int v3), .val (.int v4), .val (.int v5), .val (.ref b6), .val (.ref b11), .val (.ref b18), .val (.ref b27), .val (.ref b38), .val (.ref b51), .unset, .unset, .unset] [(.ref b85)])) (st85) ?_
  refine own_Goes.via (T' := T85) (g' := (mkF m 84 #[.val (.int xr), .val (.int xf), .val (.int xq), .val (.int xv), .val (.int xx), .val (.long xt), .second, .val (.int v1), .val (.int v2), .val (.int v3), .val (.int v4), .val (.int v5), .val (.ref b6), .val (.ref b11), .val (.ref b18), .val (.ref b27), .val (.ref b38), .val (.ref b51), .unset, .unset, .unset] [(.ref b85), (.ref b85)])) (fun t_ k_ => XS.dup X85.here hx rfl (hb hby at_83) rfl rfl k_) ?_
  refine own_Goes.via (T' := T85) (g' := (mkF m 86 #[.val (.int xr), .val (.int xf), .val (.int xq), .val (.int xv), .val (.int xx), .val (.long xt), .second, .val (.int v1), .val (.int v2), .val (.int v3), .val (.int v4), .val (.int v5), .val (.ref b6), .val (.ref b11), .val (.ref b18), .val (.ref b27), .val (.ref b38), .val (.ref b51), .unset, .unset, .unset] [(.ref b51), (.ref b85), (.ref b85)])) (fun t_ k_ => XS.aload X85.here hx rfl (hb hby at_84) rfl rfl k_) ?_
  refine own_Goes.via (T' := T85) (g' := (mkF m 88 #[.val (.int xr), .val (.int xf), .val (.int xq), .val (.int xv), .val (.int xx), .val (.long xt), .second, .val (.int v1), .val (.int v2), .val (.int v3), .val (.int v4), .val (.int v5), .val (.ref b6), .val (.ref b11), .val (.ref b18), .val (.ref b27), .val (.ref b38), .val (.ref b51), .unset, .unset, .unset] [(.ref b38), (.ref b51), (.ref b85), (.ref b85)])) (fun t_ k_ => XS.aload X85.here hx rfl (hb hby at_86) rfl rfl k_) ?_
  have cd88_115 : v5.toNatClampNeg ≤ 31 := by assumption
  obtain ⟨_, _, ⟨T114, L114, k114, n114⟩, -, X114, hs114, hg114, ⟨Lc114, hQ114, l114, y114, z114⟩, st114⟩ := X85.specialBackS hx (y := (⟨"com/example/keysweep/keysweep/Entry", "<init>", "(Lcom/example/keysweep/keysweep/Key;[B)V"⟩ : MethodName)) rfl hown (mvT hZ (hw _ (List.mem_of_getElem? (i := 37) rfl))) (mvT hZ (hw _ (List.mem_of_getElem? (i := 38) rfl))) (mvT hZ (hw _ (List.mem_of_getElem? (i := 39) rfl))) (by decide) (backOfS (W := 1) (rm4 l Z a0 hw [] b85 b51 b38 k38 v5 h85 n0 sz85 E111 F112 F113 E96 E94 V95 (Ne.symm ne_b51_b85) (Ne.symm ne_b38_b85) ge_b85 cd88_115) hZ (hw _ (List.mem_of_getElem? (i := 39) rfl)) (hw _ (List.mem_of_getElem? (i := 36) rfl)) (by decide) (by decide)) (g := (mkF m 88 #[.val (.int xr), .val (.int xf), .val (.int xq), .val (.int xv), .val (.int xx), .val (.long xt), .second, .val (.int v1), .val (.int v2), .val (.int v3), .val (.int v4), .val (.int v5), .val (.ref b6), .val (.ref b11), .val (.ref b18), .val (.ref b27), .val (.ref b38), .val (.ref b51), .unset, .unset, .unset] [(.ref b38), (.ref b51), (.ref b85), (.ref b85)])) rfl (by rw [hml]; rfl) (Steps.refl _) (a := b85) (argsL := [(.ref b51), (.ref b38)]) (rest := [(.ref b85)]) (lenOf pd_0_1 rfl) rfl (by show 2 * 0 + _ ≤ _; exact Nat.le_of_eq rfl) (hb hby at_88) (fun _ _ => ⟨rfl, e85, (by decide : 11 + 3 ≤ _), (by decide : 287 + 47 ≤ _)⟩)
  dsimp only [Pt.U, Pt.locs, Pt.cells, Pt.slots] at X114 l114 y114 z114 st114 hQ114 hs114 hg114
  obtain ⟨X114, hS, hZ, hown⟩ := rebS hS (n1 := T85.heap.size) (by rw [e85]; exact hk) X114 hs114 hg114 hZ hown
  have hk := Nat.le_refl T114.heap.size
  subst l114 y114 z114
  obtain ⟨bv_114, rfl, Nq114, Kq114, ⟨sq_bv_114, ge_bv_114⟩, pf114_0, pf114_1, pf114_2, pf114_3, pf114_4⟩ := hQ114
  have N114 := Fr.app N69 Nq114
  have sz_bv_114 : h0.size ≤ bv_114 := Nat.le_trans (K85).1 sq_bv_114
  have ne_b6_bv_114 : b6 ≠ bv_114 := Nat.ne_of_lt (Nat.lt_of_lt_of_le E86.lt sq_bv_114)
  have ne_b11_bv_114 : b11 ≠ bv_114 := Nat.ne_of_lt (Nat.lt_of_lt_of_le E88.lt sq_bv_114)
  have ne_b18_bv_114 : b18 ≠ bv_114 := Nat.ne_of_lt (Nat.lt_of_lt_of_le E90.lt sq_bv_114)
  have ne_b27_bv_114 : b27 ≠ bv_114 := Nat.ne_of_lt (Nat.lt_of_lt_of_le E92.lt sq_bv_114)
  have ne_b38_bv_114 : b38 ≠ bv_114 := Nat.ne_of_lt (Nat.lt_of_lt_of_le E94.lt sq_bv_114)
  have ne_b51_bv_114 : b51 ≠ bv_114 := Nat.ne_of_lt (Nat.lt_of_lt_of_le E96.lt sq_bv_114)
  have ne_br_69_bv_114 : br_69 ≠ bv_114 := Nat.ne_of_lt (Nat.lt_of_lt_of_le E103.lt sq_bv_114)
  have ne_bf_69_bv_114 : bf_69 ≠ bv_114 := Nat.ne_of_lt (Nat.lt_of_lt_of_le E105.lt sq_bv_114)
  have ne_bq_69_bv_114 : bq_69 ≠ bv_114 := Nat.ne_of_lt (Nat.lt_of_lt_of_le E107.lt sq_bv_114)
  have ne_bv_69_bv_114 : bv_69 ≠ bv_114 := Nat.ne_of_lt (Nat.lt_of_lt_of_le E109.lt sq_bv_114)
  have ne_b85_bv_114 : b85 ≠ bv_114 := Nat.ne_of_lt (Nat.lt_of_lt_of_le E111.lt sq_bv_114)
  have E116 : Exa Z T114.heap b6 "[B" := E86.keep Kq114
  have V117 : Arv Z T114.heap b6 k6 .byte v1 [] (.int (0 : Int32)) := V87.keep Kq114 (ninS ne_b6_b85 nin0)
  have E118 : Exa Z T114.heap b11 "[B" := E88.keep Kq114
  have V119 : Arv Z T114.heap b11 k11 .byte v2 [] (.int (0 : Int32)) := V89.keep Kq114 (ninS ne_b11_b85 nin0)
  have E120 : Exa Z T114.heap b18 "[B" := E90.keep Kq114
  have V121 : Arv Z T114.heap b18 k18 .byte v3 [] (.int (0 : Int32)) := V91.keep Kq114 (ninS ne_b18_b85 nin0)
  have E122 : Exa Z T114.heap b27 "[B" := E92.keep Kq114
  have V123 : Arv Z T114.heap b27 k27 .byte v4 [] (.int (0 : Int32)) := V93.keep Kq114 (ninS ne_b27_b85 nin0)
  have E124 : Exa Z T114.heap b38 "[B" := E94.keep Kq114
  have V125 : Arv Z T114.heap b38 k38 .byte v5 [] (.int (0 : Int32)) := V95.keep Kq114 (ninS ne_b38_b85 nin0)
  have E126 : Exa Z T114.heap b51 "com/example/keysweep/keysweep/Key" := E96.keep Kq114
  have F127 : Fld Z T114.heap b51 "com/example/keysweep/keysweep/Key" "row" "[B" (.ref br_69) := F97.keep Kq114 (ninS ne_b51_b85 nin0)
  have F128 : Fld Z T114.heap b51 "com/example/keysweep/keysweep/Key" "family" "[B" (.ref bf_69) := F98.keep Kq114 (ninS ne_b51_b85 nin0)
  have F129 : Fld Z T114.heap b51 "com/example/keysweep/keysweep/Key" "qualifier" "[B" (.ref bq_69) := F99.keep Kq114 (ninS ne_b51_b85 nin0)
  have F130 : Fld Z T114.heap b51 "com/example/keysweep/keysweep/Key" "visibility" "[B" (.ref bv_69) := F100.keep Kq114 (ninS ne_b51_b85 nin0)
  have F131 : Fld Z T114.heap b51 "com/example/keysweep/keysweep/Key" "timestamp" "J" (.long xt) := F101.keep Kq114 (ninS ne_b51_b85 nin0)
  have F132 : Fld Z T114.heap b51 "com/example/keysweep/keysweep/Key" "deleteMarker" "Z" (.int (nar .boolean (0 : Int32))) := F102.keep Kq114 (ninS ne_b51_b85 nin0)
  have E133 : Exa Z T114.heap br_69 "[B" := E103.keep Kq114
  have V134 : Arv Z T114.heap br_69 k6 .byte v1 [] (.int (0 : Int32)) := V104.keep Kq114 (ninS ne_br_69_b85 nin0)
  have E135 : Exa Z T114.heap bf_69 "[B" := E105.keep Kq114
  have V136 : Arv Z T114.heap bf_69 k11 .byte v2 [] (.int (0 : Int32)) := V106.keep Kq114 (ninS ne_bf_69_b85 nin0)
  have E137 : Exa Z T114.heap bq_69 "[B" := E107.keep Kq114
  have V138 : Arv Z T114.heap bq_69 k18 .byte v3 [] (.int (0 : Int32)) := V108.keep Kq114 (ninS ne_bq_69_b85 nin0)
  have E139 : Exa Z T114.heap bv_69 "[B" := E109.keep Kq114
  have V140 : Arv Z T114.heap bv_69 k27 .byte v4 [] (.int (0 : Int32)) := V110.keep Kq114 (ninS ne_bv_69_b85 nin0)
  have E141 : Exa Z T114.heap b85 "com/example/keysweep/keysweep/Entry" := E111.keep Kq114
  have sz114 : n0 ≤ T114.heap.size := Nat.le_trans sz85 Kq114.1
  have K114 : Keep h0 T114.heap [] := (K85).trans Kq114 (allS (Or.inr sz_b85) all0)
  refine own_Goes.via (T' := T114) (g' := (mkF m 91 #[.val (.int xr), .val (.int xf), .val (.int xq), .val (.int xv), .val (.int xx), .val (.long xt), .second, .val (.int v1), .val (.int v2), .val (.int v3), .val (.int v4), .val (.int v5), .val (.ref b6), .val (.ref b11), .val (.ref b18), .val (.ref b27), .val (.ref b38), .val (.ref b51), .unset, .unset, .unset] [(.ref b85)])) (fun t_ k_ => st114.trans k_) ?_
  refine own_Goes.via (T' := T114) (g' := (mkF m 93 #[.val (.int xr), .val (.int xf), .val (.int xq), .val (.int xv), .val (.int xx), .val (.long xt), .second, .val (.int v1), .val (.int v2), .val (.int v3), .val (.int v4), .val (.int v5), .val (.ref b6), .val (.ref b11), .val (.ref b18), .val (.ref b27), .val (.ref b38), .val (.ref b51), .val (.ref b85), .unset, .unset] [])) (fun t_ k_ => XS.astore X114.here hx rfl (hb hby at_91) rfl rfl (l' := #[.val (.int xr), .val (.int xf), .val (.int xq), .val (.int xv), .val (.int xx), .val (.long xt), .second, .val (.int v1), .val (.int v2), .val (.int v3), .val (.int v4), .val (.int v5), .val (.ref b6), .val (.ref b11), .val (.ref b18), .val (.ref b27), .val (.ref b38), .val (.ref b51), .val (.ref b85), .unset, .unset]) rfl k_) ?_
  refine own_Goes.via (T' := T114) (g' := (mkF m 96 #[.val (.int xr), .val (.int xf), .val (.int xq), .val (.int xv), .val (.int xx), .val (.long xt), .second, .val (.int v1), .val (.int v2), .val (.int v3), .val (.int v4), .val (.int v5), .val (.ref b6), .val (.ref b11), .val (.ref b18), .val (.ref b27), .val (.ref b38), .val (.ref b51), .val (.ref b85), .unset, .unset] [(.long (8 : Int64))])) (X114.ldc2Long hx hown (mvT hZ (hw _ (List.mem_of_getElem? (i := 60) rfl))) (g := (mkF m 93 #[.val (.int xr), .val (.int xf), .val (.int xq), .val (.int xv), .val (.int xx), .val (.long xt), .second, .val (.int v1), .val (.int v2), .val (.int v3), .val (.int v4), .val (.int v5), .val (.ref b6), .val (.ref b11), .val (.ref b18), .val (.ref b27), .val (.ref b38), .val (.ref b51), .val (.ref b85), .unset, .unset] [])) rfl (hb hby at_93)) ?_
  refine own_Goes.via (T' := T114) (g' := (mkF m 98 #[.val (.int xr), .val (.int xf), .val (.int xq), .val (.int xv), .val (.int xx), .val (.long xt), .second, .val (.int v1), .val (.int v2), .val (.int v3), .val (.int v4), .val (.int v5), .val (.ref b6), .val (.ref b11), .val (.ref b18), .val (.ref b27), .val (.ref b38), .val (.ref b51), .val (.ref b85), .unset, .unset] [(.int v1), (.long (8 : Int64))])) (fun t_ k_ => XS.iload X114.here hx rfl (hb hby at_96) rfl k_) ?_
  refine own_Goes.via (T' := T114) (g' := (mkF m 99 #[.val (.int xr), .val (.int xf), .val (.int xq), .val (.int xv), .val (.int xx), .val (.long xt), .second, .val (.int v1), .val (.int v2), .val (.int v3), .val (.int v4), .val (.int v5), .val (.ref b6), .val (.ref b11), .val (.ref b18), .val (.ref b27), .val (.ref b38), .val (.ref b51), .val (.ref b85), .unset, .unset] [(.long (v1.toInt64)), (.long (8 : Int64))])) (fun t_ k_ => XS.i2l X114.here hx rfl (hb hby at_98) rfl k_) ?_
  refine own_Goes.via (T' := T114) (g' := (mkF m 100 #[.val (.int xr), .val (.int xf), .val (.int xq), .val (.int xv), .val (.int xx), .val (.long xt), .second, .val (.int v1), .val (.int v2), .val (.int v3), .val (.int v4), .val (.int v5), .val (.ref b6), .val (.ref b11), .val (.ref b18), .val (.ref b27), .val (.ref b38), .val (.ref b51), .val (.ref b85), .unset, .unset] [(.long ((8 : Int64) + (v1.toInt64)))])) (fun t_ k_ => XS.ladd X114.here hx rfl (hb hby at_99) rfl k_) ?_
  refine own_Goes.via (T' := T114) (g' := (mkF m 102 #[.val (.int xr), .val (.int xf), .val (.int xq), .val (.int xv), .val (.int xx), .val (.long xt), .second, .val (.int v1), .val (.int v2), .val (.int v3), .val (.int v4), .val (.int v5), .val (.ref b6), .val (.ref b11), .val (.ref b18), .val (.ref b27), .val (.ref b38), .val (.ref b51), .val (.ref b85), .unset, .unset] [(.int v2), (.long ((8 : Int64) + (v1.toInt64)))])) (fun t_ k_ => XS.iload X114.here hx rfl (hb hby at_100) rfl k_) ?_
  refine own_Goes.via (T' := T114) (g' := (mkF m 103 #[.val (.int xr), .val (.int xf), .val (.int xq), .val (.int xv), .val (.int xx), .val (.long xt), .second, .val (.int v1), .val (.int v2), .val (.int v3), .val (.int v4), .val (.int v5), .val (.ref b6), .val (.ref b11), .val (.ref b18), .val (.ref b27), .val (.ref b38), .val (.ref b51), .val (.ref b85), .unset, .unset] [(.long (v2.toInt64)), (.long ((8 : Int64) + (v1.toInt64)))])) (fun t_ k_ => XS.i2l X114.here hx rfl (hb hby at_102) rfl k_) ?_
  refine own_Goes.via (T' := T114) (g' := (mkF m 104 #[.val (.int xr), .val (.int xf), .val (.int xq), .val (.int xv), .val (.int xx), .val (.long xt), .second, .val (.int v1), .val (.int v2), .val (.int v3), .val (.int v4), .val (.int v5), .val (.ref b6), .val (.ref b11), .val (.ref b18), .val (.ref b27), .val (.ref b38), .val (.ref b51), .val (.ref b85), .unset, .unset] [(.long (((8 : Int64) + (v1.toInt64)) + (v2.toInt64)))])) (fun t_ k_ => XS.ladd X114.here hx rfl (hb hby at_103) rfl k_) ?_
  refine own_Goes.via (T' := T114) (g' := (mkF m 106 #[.val (.int xr), .val (.int xf), .val (.int xq), .val (.int xv), .val (.int xx), .val (.long xt), .second, .val (.int v1), .val (.int v2), .val (.int v3), .val (.int v4), .val (.int v5), .val (.ref b6), .val (.ref b11), .val (.ref b18), .val (.ref b27), .val (.ref b38), .val (.ref b51), .val (.ref b85), .unset, .unset] [(.int v3), (.long (((8 : Int64) + (v1.toInt64)) + (v2.toInt64)))])) (fun t_ k_ => XS.iload X114.here hx rfl (hb hby at_104) rfl k_) ?_
  refine own_Goes.via (T' := T114) (g' := (mkF m 107 #[.val (.int xr), .val (.int xf), .val (.int xq), .val (.int xv), .val (.int xx), .val (.long xt), .second, .val (.int v1), .val (.int v2), .val (.int v3), .val (.int v4), .val (.int v5), .val (.ref b6), .val (.ref b11), .val (.ref b18), .val (.ref b27), .val (.ref b38), .val (.ref b51), .val (.ref b85), .unset, .unset] [(.long (v3.toInt64)), (.long (((8 : Int64) + (v1.toInt64)) + (v2.toInt64)))])) (fun t_ k_ => XS.i2l X114.here hx rfl (hb hby at_106) rfl k_) ?_
  refine own_Goes.via (T' := T114) (g' := (mkF m 108 #[.val (.int xr), .val (.int xf), .val (.int xq), .val (.int xv), .val (.int xx), .val (.long xt), .second, .val (.int v1), .val (.int v2), .val (.int v3), .val (.int v4), .val (.int v5), .val (.ref b6), .val (.ref b11), .val (.ref b18), .val (.ref b27), .val (.ref b38), .val (.ref b51), .val (.ref b85), .unset, .unset] [(.long ((((8 : Int64) + (v1.toInt64)) + (v2.toInt64)) + (v3.toInt64)))])) (fun t_ k_ => XS.ladd X114.here hx rfl (hb hby at_107) rfl k_) ?_
  refine own_Goes.via (T' := T114) (g' := (mkF m 110 #[.val (.int xr), .val (.int xf), .val (.int xq), .val (.int xv), .val (.int xx), .val (.long xt), .second, .val (.int v1), .val (.int v2), .val (.int v3), .val (.int v4), .val (.int v5), .val (.ref b6), .val (.ref b11), .val (.ref b18), .val (.ref b27), .val (.ref b38), .val (.ref b51), .val (.ref b85), .unset, .unset] [(.int v4), (.long ((((8 : Int64) + (v1.toInt64)) + (v2.toInt64)) + (v3.toInt64)))])) (fun t_ k_ => XS.iload X114.here hx rfl (hb hby at_108) rfl k_) ?_
  refine own_Goes.via (T' := T114) (g' := (mkF m 111 #[.val (.int xr), .val (.int xf), .val (.int xq), .val (.int xv), .val (.int xx), .val (.long xt), .second, .val (.int v1), .val (.int v2), .val (.int v3), .val (.int v4), .val (.int v5), .val (.ref b6), .val (.ref b11), .val (.ref b18), .val (.ref b27), .val (.ref b38), .val (.ref b51), .val (.ref b85), .unset, .unset] [(.long (v4.toInt64)), (.long ((((8 : Int64) + (v1.toInt64)) + (v2.toInt64)) + (v3.toInt64)))])) (fun t_ k_ => XS.i2l X114.here hx rfl (hb hby at_110) rfl k_) ?_
  refine own_Goes.via (T' := T114) (g' := (mkF m 112 #[.val (.int xr), .val (.int xf), .val (.int xq), .val (.int xv), .val (.int xx), .val (.long xt), .second, .val (.int v1), .val (.int v2), .val (.int v3), .val (.int v4), .val (.int v5), .val (.ref b6), .val (.ref b11), .val (.ref b18), .val (.ref b27), .val (.ref b38), .val (.ref b51), .val (.ref b85), .unset, .unset] [(.long (((((8 : Int64) + (v1.toInt64)) + (v2.toInt64)) + (v3.toInt64)) + (v4.toInt64)))])) (fun t_ k_ => XS.ladd X114.here hx rfl (hb hby at_111) rfl k_) ?_
  refine own_Goes.via (T' := T114) (g' := (mkF m 114 #[.val (.int xr), .val (.int xf), .val (.int xq), .val (.int xv), .val (.int xx), .val (.long xt), .second, .val (.int v1), .val (.int v2), .val (.int v3), .val (.int v4), .val (.int v5), .val (.ref b6), .val (.ref b11), .val (.ref b18), .val (.ref b27), .val (.ref b38), .val (.ref b51), .val (.ref b85), .unset, .unset] [(.int v5), (.long (((((8 : Int64) + (v1.toInt64)) + (v2.toInt64)) + (v3.toInt64)) + (v4.toInt64)))])) (fun t_ k_ => XS.iload X114.here hx rfl (hb hby at_112) rfl k_) ?_
  refine own_Goes.via (T' := T114) (g' := (mkF m 115 #[.val (.int xr), .val (.int xf), .val (.int xq), .val (.int xv), .val (.int xx), .val (.long xt), .second, .val (.int v1), .val (.int v2), .val (.int v3), .val (.int v4), .val (.int v5), .val (.ref b6), .val (.ref b11), .val (.ref b18), .val (.ref b27), .val (.ref b38), .val (.ref b51), .val (.ref b85), .unset, .unset] [(.long (v5.toInt64)), (.long (((((8 : Int64) + (v1.toInt64)) + (v2.toInt64)) + (v3.toInt64)) + (v4.toInt64)))])) (fun t_ k_ => XS.i2l X114.here hx rfl (hb hby at_114) rfl k_) ?_
  refine own_Goes.via (T' := T114) (g' := (mkF m 116 #[.val (.int xr), .val (.int xf), .val (.int xq), .val (.int xv), .val (.int xx), .val (.long xt), .second, .val (.int v1), .val (.int v2), .val (.int v3), .val (.int v4), .val (.int v5), .val (.ref b6), .val (.ref b11), .val (.ref b18), .val (.ref b27), .val (.ref b38), .val (.ref b51), .val (.ref b85), .unset, .unset] [(.long ((((((8 : Int64) + (v1.toInt64)) + (v2.toInt64)) + (v3.toInt64)) + (v4.toInt64)) + (v5.toInt64)))])) (fun t_ k_ => XS.ladd X114.here hx rfl (hb hby at_115) rfl k_) ?_
  refine own_Goes.via (T' := T114) (g' := (mkF m 118 #[.val (.int xr), .val (.int xf), .val (.int xq), .val (.int xv), .val (.int xx), .val (.long xt), .second, .val (.int v1), .val (.int v2), .val (.int v3), .val (.int v4), .val (.int v5), .val (.ref b6), .val (.ref b11), .val (.ref b18), .val (.ref b27), .val (.ref b38), .val (.ref b51), .val (.ref b85), .val (.long ((((((8 : Int64) + (v1.toInt64)) + (v2.toInt64)) + (v3.toInt64)) + (v4.toInt64)) + (v5.toInt64))), .second] [])) (fun t_ k_ => XS.lstore X114.here hx rfl (hb hby at_116) rfl (l' := #[.val (.int xr), .val (.int xf), .val (.int xq), .val (.int xv), .val (.int xx), .val (.long xt), .second, .val (.int v1), .val (.int v2), .val (.int v3), .val (.int v4), .val (.int v5), .val (.ref b6), .val (.ref b11), .val (.ref b18), .val (.ref b27), .val (.ref b38), .val (.ref b51), .val (.ref b85), .val (.long ((((((8 : Int64) + (v1.toInt64)) + (v2.toInt64)) + (v3.toInt64)) + (v4.toInt64)) + (v5.toInt64))), .second]) rfl k_) ?_
  obtain ⟨v142, hv142⟩ : ∃ z : Int64, z = ((((((8 : Int64) + (v1.toInt64)) + (v2.toInt64)) + (v3.toInt64)) + (v4.toInt64)) + (v5.toInt64)) := ⟨_, rfl⟩
  rw [← hv142]
  refine own_Goes.via (T' := T114) (g' := (mkF m 120 #[.val (.int xr), .val (.int xf), .val (.int xq), .val (.int xv), .val (.int xx), .val (.long xt), .second, .val (.int v1), .val (.int v2), .val (.int v3), .val (.int v4), .val (.int v5), .val (.ref b6), .val (.ref b11), .val (.ref b18), .val (.ref b27), .val (.ref b38), .val (.ref b51), .val (.ref b85), .val (.long v142), .second] [(.ref b85)])) (fun t_ k_ => XS.aload X114.here hx rfl (hb hby at_118) rfl rfl k_) ?_
  obtain ⟨cq143, kq143, q143a, q143b, q143c⟩ := isOf hZ rfl pf114_0
  obtain ⟨_, _, ⟨T143, L143, k143, n143⟩, -, X143, ⟨Lc143, hQ143, l143, y143, z143⟩, st143⟩ := X114.virtualBack hx (y := (⟨"com/example/keysweep/keysweep/Entry", "size", "()J"⟩ : MethodName)) (z := (⟨"com/example/keysweep/keysweep/Entry", "size", "()J"⟩ : MethodName)) hown (mvT hZ (hw _ (List.mem_of_getElem? (i := 61) rfl))) (mvT hZ (hw _ (List.mem_of_getElem? (i := 62) rfl))) (notFace_of_selects (args := #[]) (mvT hZ (hw _ (List.mem_of_getElem? (i := 64) rfl)))) (mvT hZ (hw _ (List.mem_of_getElem? (i := 64) rfl))) (mvT hZ (hw _ (List.mem_of_getElem? (i := 63) rfl))) (by decide) (backOf (W := 0) (rm6 l Z a0 hw [] b85 b51 bv_114 br_69 k6 v1 bf_69 k11 v2 bq_69 k18 v3 bv_69 k27 v4 k38 v5 T114.heap n0 sz114 pf114_1 pf114_2 F127 F128 F129 F130 V134 V136 V138 V140 pf114_4) hZ (hw _ (List.mem_of_getElem? (i := 65) rfl)) (hw _ (List.mem_of_getElem? (i := 36) rfl)) (by decide) (by decide)) q143a q143c (g := (mkF m 120 #[.val (.int xr), .val (.int xf), .val (.int xq), .val (.int xv), .val (.int xx), .val (.long xt), .second, .val (.int v1), .val (.int v2), .val (.int v3), .val (.int v4), .val (.int v5), .val (.ref b6), .val (.ref b11), .val (.ref b18), .val (.ref b27), .val (.ref b38), .val (.ref b51), .val (.ref b85), .val (.long v142), .second] [(.ref b85)])) rfl (by rw [hml]; rfl) (Steps.refl _) (argsL := []) (rest := []) (lenOf pd_0_2 rfl) rfl (by show 2 * 0 + _ ≤ _; exact Nat.le_of_eq rfl) (hb hby at_120) (fun _ _ => ⟨rfl, rfl, (by decide : 14 + 0 ≤ _), (by decide : 334 + 0 ≤ _)⟩)
  dsimp only [Pt.U, Pt.locs, Pt.cells, Pt.slots] at X143 l143 y143 z143 st143 hQ143
  subst l143 y143 z143
  obtain ⟨rfl, Nq143, hh143⟩ := hQ143
  have N143 := Fr.app N114 Nq143
  refine own_Goes.via (T' := T143) (g' := (mkF m 123 #[.val (.int xr), .val (.int xf), .val (.int xq), .val (.int xv), .val (.int xx), .val (.long xt), .second, .val (.int v1), .val (.int v2), .val (.int v3), .val (.int v4), .val (.int v5), .val (.ref b6), .val (.ref b11), .val (.ref b18), .val (.ref b27), .val (.ref b38), .val (.ref b51), .val (.ref b85), .val (.long v142), .second] [(.long (own_f6 v1 v2 v3 v4 v5))])) (fun t_ k_ => st143.trans k_) ?_
  obtain ⟨v144, hv144⟩ : ∃ z : Int64, z = (own_f6 v1 v2 v3 v4 v5) := ⟨_, rfl⟩
  rw [← hv144]
  refine own_Goes.via (T' := T143) (g' := (mkF m 125 #[.val (.int xr), .val (.int xf), .val (.int xq), .val (.int xv), .val (.int xx), .val (.long xt), .second, .val (.int v1), .val (.int v2), .val (.int v3), .val (.int v4), .val (.int v5), .val (.ref b6), .val (.ref b11), .val (.ref b18), .val (.ref b27), .val (.ref b38), .val (.ref b51), .val (.ref b85), .val (.long v142), .second] [(.long v142), (.long v144)])) (fun t_ k_ => XS.lload X143.here hx rfl (hb hby at_123) rfl k_) ?_
  refine own_Goes.via (T' := T143) (g' := (mkF m 126 #[.val (.int xr), .val (.int xf), .val (.int xq), .val (.int xv), .val (.int xx), .val (.long xt), .second, .val (.int v1), .val (.int v2), .val (.int v3), .val (.int v4), .val (.int v5), .val (.ref b6), .val (.ref b11), .val (.ref b18), .val (.ref b27), .val (.ref b38), .val (.ref b51), .val (.ref b85), .val (.long v142), .second] [(.int (lcmpW v144 v142))])) (fun t_ k_ => XS.lcmp X143.here hx rfl (hb hby at_125) rfl k_) ?_
  suffices J134_148 : ∀ (v134_146 : Int32) (hv134_146 : v134_146 = (if v144 = v142 then (1 : Int32) else (0 : Int32))), own_Goes p.tables e below P T143 (mkF m 134 #[.val (.int xr), .val (.int xf), .val (.int xq), .val (.int xv), .val (.int xx), .val (.long xt), .second, .val (.int v1), .val (.int v2), .val (.int v3), .val (.int v4), .val (.int v5), .val (.ref b6), .val (.ref b11), .val (.ref b18), .val (.ref b27), .val (.ref b38), .val (.ref b51), .val (.ref b85), .val (.long v142), .second] [(.int v134_146)]) by
    by_cases hc126_145 : v144 = v142
    · refine own_Goes.via (T' := T143) (g' := (mkF m 129 #[.val (.int xr), .val (.int xf), .val (.int xq), .val (.int xv), .val (.int xx), .val (.long xt), .second, .val (.int v1), .val (.int v2), .val (.int v3), .val (.int v4), .val (.int v5), .val (.ref b6), .val (.ref b11), .val (.ref b18), .val (.ref b27), .val (.ref b38), .val (.ref b51), .val (.ref b85), .val (.long v142), .second] [])) (fun t_ k_ => XS.ifNo X143.here hx rfl (hb hby at_126) rfl (own_eqT hc126_145).2 k_) ?_
      refine own_Goes.via (T' := T143) (g' := (mkF m 130 #[.val (.int xr), .val (.int xf), .val (.int xq), .val (.int xv), .val (.int xx), .val (.long xt), .second, .val (.int v1), .val (.int v2), .val (.int v3), .val (.int v4), .val (.int v5), .val (.ref b6), .val (.ref b11), .val (.ref b18), .val (.ref b27), .val (.ref b38), .val (.ref b51), .val (.ref b85), .val (.long v142), .second] [(.int (1 : Int32))])) (fun t_ k_ => XS.iconst X143.here hx rfl (hb hby at_129) k_) ?_
      refine own_Goes.via (T' := T143) (g' := (mkF m 134 #[.val (.int xr), .val (.int xf), .val (.int xq), .val (.int xv), .val (.int xx), .val (.long xt), .second, .val (.int v1), .val (.int v2), .val (.int v3), .val (.int v4), .val (.int v5), .val (.ref b6), .val (.ref b11), .val (.ref b18), .val (.ref b27), .val (.ref b38), .val (.ref b51), .val (.ref b85), .val (.long v142), .second] [(.int (1 : Int32))])) (fun t_ k_ => XS.goto X143.here hx rfl (pc0 := 130) (pc' := 134) rfl (hb hby at_130) (by decide) (by decide) k_) ?_
      exact J134_148 (1 : Int32) ((if_pos hc126_145)).symm
    · refine own_Goes.via (T' := T143) (g' := (mkF m 133 #[.val (.int xr), .val (.int xf), .val (.int xq), .val (.int xv), .val (.int xx), .val (.long xt), .second, .val (.int v1), .val (.int v2), .val (.int v3), .val (.int v4), .val (.int v5), .val (.ref b6), .val (.ref b11), .val (.ref b18), .val (.ref b27), .val (.ref b38), .val (.ref b51), .val (.ref b85), .val (.long v142), .second] [])) (fun t_ k_ => XS.ifYes X143.here hx rfl (pc0 := 126) (pc' := 133) rfl (hb hby at_126) rfl (own_eqF hc126_145).2 (by decide) (by decide) k_) ?_
      refine own_Goes.via (T' := T143) (g' := (mkF m 134 #[.val (.int xr), .val (.int xf), .val (.int xq), .val (.int xv), .val (.int xx), .val (.long xt), .second, .val (.int v1), .val (.int v2), .val (.int v3), .val (.int v4), .val (.int v5), .val (.ref b6), .val (.ref b11), .val (.ref b18), .val (.ref b27), .val (.ref b38), .val (.ref b51), .val (.ref b85), .val (.long v142), .second] [(.int (0 : Int32))])) (fun t_ k_ => XS.iconst X143.here hx rfl (hb hby at_133) k_) ?_
      exact J134_148 (0 : Int32) ((if_neg hc126_145)).symm
  intro v134_146 hv134_146
  have hfin : v134_146 = 1 := own_pl0_10 hv1 hv2 hv3 hv4 hv5 hv142 hv144 hv134_146 neg33_7 hcap33_8 neg39_12 hcap39_13 neg45_19 hcap45_20 neg51_28 hcap51_29 neg57_39 hcap57_40 cd75_70 cd75_71 cd75_72 cd75_73 cd88_115
  rw [hfin]
  obtain ⟨fs, hr, hrun, hended, hE⟩ := leaveW X143 hS (by rw [hh143]; exact hk) (v := some (.int 1)) (fun h => by rw [Bd.returns] at h; cases h)
  refine own_Goes.fin (retN X143 hx (t := .boolean) Bd.returns (by simp) (hb hby at_134) hr) hrun hended ?_
  subst hPd
  refine ⟨_, _, rfl, ?_, hE.1, hE.2.1, hE.2.2.1, hE.2.2.2.mono (by decide) (by decide)⟩
  show Q0 Z xr xf xq xv xx xt h0 n0 _ T143.heap _
  rw [hh143]
  exact ⟨rfl, N143⟩
set_option maxRecDepth 65536 in
set_option maxHeartbeats 40000000 in
theorem comes_1 {Post : Tables → Env → Array Value → State → Outcome → State → Prop} (hpost : ∀ tb e args s v u, (limb_1_1.after args s (.returned v) u = true ∧ limb_1_2.after args s (.returned v) u = true ∧ True) → ReturnedEndW s (.returned v) u (Jvm.fieldLocs frame_1_writes args s ++ Jvm.arrayLocs frame_1_arrays args s ++ Jvm.staticLocs frame_1_statics s) 40 1664 → Post tb e args s (.returned v) u) :
    ArmFor flags0 classFile x code maxLocals ret World_1 tables_1 room_1 Calls_1 rest_1 Pre_1 Post := by
  intro l hfl _ _ p e ha hc hk s m args below hf hA hF happ hP
  obtain ⟨hcalls, hrest, hpre⟩ := hP
  obtain ⟨-, -, -, hnamed, -, -, -, hat⟩ := (Spec.applies_iff hf).mp happ
  obtain ⟨hg, hn⟩ := and_e (Cond.before_iff.mp (show (Jvm.Cond.and given_1 narrow_1).before args s = true from hpre))
  obtain ⟨g1, g2⟩ := and_e hg
  obtain ⟨g3, g4⟩ := and_e g2
  obtain ⟨g5, g6⟩ := and_e g4
  obtain ⟨g7, g8⟩ := and_e g6
  obtain ⟨g9, g10⟩ := and_e g8
  obtain ⟨g11, g12⟩ := and_e g10
  obtain ⟨w0, w1, w2, w3, w4, w5, rfl⟩ : ∃ w0 w1 w2 w3 w4 w5 : Value, args = #[w0, w1, w2, w3, w4, w5] := by
    have hs : args.size = 6 := by simpa [Cond.value, given_1] using g1
    obtain ⟨L⟩ := args
    match L, hs with
    | [w0, w1, w2, w3, w4, w5], _ => exact ⟨w0, w1, w2, w3, w4, w5, rfl⟩
  have hw := fun d (hd : d ∈ tables_1) => atoms_spec (ws := Jvm.Cond.code x code maxLocals ret :: tables_1) hat d (List.mem_cons_of_mem _ hd)
  have hfit : Fit s := fun {y c} hc i hi => by
    obtain ⟨ha, rfl⟩ := Array.getElem?_eq_some_iff.mp hc
    have q := List.all_eq_true.mp ((Array.all_eq_true_iff_forall_mem.mp hF) _ (Array.getElem_mem ha)) i (List.mem_range.mpr hi)
    simpa [Array.getElem?_eq_getElem hi] using q
  obtain ⟨i0, ei0⟩ := is_v g3
  obtain rfl : w0 = (.int i0) := Option.some.inj ei0
  obtain ⟨i1, ei1⟩ := is_v g5
  obtain rfl : w1 = (.int i1) := Option.some.inj ei1
  obtain ⟨i2, ei2⟩ := is_v g7
  obtain rfl : w2 = (.int i2) := Option.some.inj ei2
  obtain ⟨i3, ei3⟩ := is_v g9
  obtain rfl : w3 = (.int i3) := Option.some.inj ei3
  obtain ⟨i4, ei4⟩ := is_v g11
  obtain rfl : w4 = (.int i4) := Option.some.inj ei4
  obtain ⟨i5, ei5⟩ := isL_v g12
  obtain rfl : w5 = (.long i5) := Option.some.inj ei5
  obtain ⟨n, o, h1, h2, h3, _, L, rfl, ⟨rfl, N⟩, hq⟩ := rm0 l s _ hw tables_1 i0 i1 i2 i3 i4 i5  s.heap s.heap.size (Nat.le_refl _)  p e ha hc hk s m _ below hf ((Spec.applies_iff_loose hf).mp happ).1 ⟨rfl, State.Warmed39.refl s, rfl⟩ trivial
  refine ⟨n, _, h1, h2, h3, hpost _ _ _ _ _ _ ⟨Cond.after_iff.mpr rfl, Cond.after_iff.mpr (eq_i res_at (Term.int_eval (1)) rfl), trivial⟩ ⟨hq.1, hq.2.1, hq.2.2.1, (hq.2.2.2.sift fun y hy => Or.inr (N y hy)).mono (by decide) (by decide)⟩⟩
theorem main_1_1 : Claimed_1_1 := comes_1 fun _ _ _ _ _ _ h hF => ⟨h.1, hF⟩
theorem main_1_2 : Claimed_1_2 := comes_1 fun _ _ _ _ _ _ h hF => ⟨h.2.1, hF⟩
end Jvm.Pilot.@@N@@
namespace Jvm.Pilot.@@N@@
open Jvm Jvm.ClassFile Sem Op Lib Jvm.Free Jvm.Stand Jvm.Pilot.@@N@@.Jvm.D
/-! MADE BY PROGRAM (witnessworld.py) out of the Statement's table words and the real class files: 16 classes; the members and pool entries that the words name. The judged class is class 1, her method 1. -/
namespace start1
open Jvm.ClassFile
def u (s : String) : CpInfo := .utf8 (stringToUtf16 s)
/-- a pool by its gaps: so many unusable entries, then the entry; so many at the end -/
def gap : Nat → List CpInfo → List CpInfo
  | 0, r => r
  | n + 1, r => .unusable :: gap n r
def poolList (es : List (Nat × CpInfo)) (last : Nat) : List CpInfo := es.foldr (fun e r => gap e.1 (e.2 :: r)) (gap last [])
def pool (es : List (Nat × CpInfo)) (last : Nat) : Array CpInfo := ⟨poolList es last⟩
def fileOf (pool : Array CpInfo) (this : Nat) (attrs : Array Attribute := #[]) (ms : Array MethodInfo := #[]) (fl : Nat := 33) (sup : Nat := 0) (ifs : Array Nat := #[]) (fds : Array FieldInfo := #[]) : ClassFile where
  minorVersion := 0
  majorVersion := 65
  constantPool := pool
  accessFlags := fl
  thisClass := this
  superClass := sup
  interfaces := ifs
  fields := fds
  methods := ms
  attributes := attrs
def plain (name : String) (sup : Option ClassId) : Class where
  name := name
  kind := .ordinary
  loader := none
  accessFlags := 33
  super := sup
  interfaces := #[]
  cf := none
  fields := #[]
  methods := #[]
  instanceTypes := #[]
  staticTypes := #[]
  resolved := #[]
  callSites := []
  init := .initialized
  statics := none
  mirror := none

def pool0 : Array CpInfo := pool [(5, u "<init>"), (0, u "()V"), (1, .class_ 10), (1, u "java/lang/Object"), (85, u "clone"), (0, u "()Ljava/lang/Object;")] 26

def k0c0 : Code := { maxStack := 0, maxLocals := 1, code := object_method_1_code, exceptionTable := #[], attributes := #[] }
def k0m0 : Method := { name := "<init>", desc := "()V", sig := { parameters := [], returnType := none }, accessFlags := 1, code := some k0c0 }
def k0m1 : Method := { name := "clone", desc := "()Ljava/lang/Object;", sig := { parameters := [], returnType := some (.object "java/lang/Object") }, accessFlags := 260, code := none }
/-- java/lang/Object -/
def k0 : Class := { plain "java/lang/Object" none with
  accessFlags := 33
  interfaces := #[]
  cf := some (fileOf pool0 8 #[] #[{ accessFlags := 1, nameIndex := 5, descriptorIndex := 6, attributes := #[] }, { accessFlags := 260, nameIndex := 96, descriptorIndex := 97, attributes := #[] }] 33 0 #[] #[])
  fields := #[]
  methods := #[k0m0, k0m1]
  instanceTypes := #[]
  staticTypes := #[]
  resolved := Array.replicate 124 none
  statics := none }

def pool1 : Array CpInfo := pool [(2, .class_ 4), (1, u "java/lang/Object"), (0, u "<init>"), (0, u "()V"), (0, .class_ 8), (0, u "com/example/keysweep/keysweep/Key"), (0, .methodref 7 10), (0, .nameAndType 5 11), (0, u "([B[B[B[BJ)V"), (0, .class_ 13), (0, u "com/example/keysweep/keysweep/Entry"), (0, .methodref 12 15), (0, .nameAndType 5 16), (0, u "(Lcom/example/keysweep/keysweep/Key;[B)V"), (0, .long 8), (1, .methodref 12 20), (0, .nameAndType 21 22), (0, u "size"), (0, u "()J"), (0, .class_ 24), (0, u "com/example/keysweep/keysweep/EntrySizePinLaw"), (2, u "law"), (0, u "(IIIIIJ)Z")] 5

def k1m0 : Method := { name := "<init>", desc := "()V", sig := { parameters := [], returnType := none }, accessFlags := 1, code := none }
def k1c1 : Code := { maxStack := 8, maxLocals := 21, code := code, exceptionTable := #[], attributes := #[] }
def k1m1 : Method := { name := "law", desc := "(IIIIIJ)Z", sig := { parameters := [.int, .int, .int, .int, .int, .long], returnType := some .boolean }, accessFlags := 9, code := some k1c1 }
/-- com/example/keysweep/keysweep/EntrySizePinLaw -/
def k1 : Class := { plain "com/example/keysweep/keysweep/EntrySizePinLaw" (some 0) with
  accessFlags := 49
  interfaces := #[]
  cf := some (fileOf pool1 23 #[] #[{ accessFlags := 1, nameIndex := 5, descriptorIndex := 6, attributes := #[] }, { accessFlags := 9, nameIndex := 27, descriptorIndex := 28, attributes := #[] }] 49 2 #[] #[])
  fields := #[]
  methods := #[k1m0, k1m1]
  instanceTypes := #[]
  staticTypes := #[]
  resolved := Array.replicate 34 none
  statics := none }

def pool2 : Array CpInfo := pool [(1, .class_ 2), (0, u "java/lang/Comparable"), (0, .class_ 4), (0, u "java/lang/Object")] 7

/-- java/lang/Comparable -/
def k2 : Class := { plain "java/lang/Comparable" (some 0) with
  accessFlags := 1537
  interfaces := #[]
  cf := some (fileOf pool2 1 #[] #[] 1537 3 #[] #[])
  fields := #[]
  methods := #[]
  instanceTypes := #[]
  staticTypes := #[]
  resolved := Array.replicate 12 none
  statics := none }

def pool3 : Array CpInfo := pool [(1, .methodref 2 3), (0, .class_ 4), (0, .nameAndType 5 6), (0, u "[B"), (0, u "clone"), (0, u "()Ljava/lang/Object;"), (0, .methodref 8 9), (0, .class_ 10), (0, .nameAndType 11 12), (0, u "com/example/keysweep/keysweep/Key"), (0, u "<init>"), (0, u "([B[B[B[BJZ)V"), (0, .methodref 14 15), (0, .class_ 16), (0, .nameAndType 11 17), (0, u "java/lang/Object"), (0, u "()V"), (0, .fieldref 8 19), (0, .nameAndType 20 4), (0, u "row"), (0, .fieldref 8 22), (0, .nameAndType 23 4), (0, u "family"), (0, .fieldref 8 25), (0, .nameAndType 26 4), (0, u "qualifier"), (0, .fieldref 8 28), (0, .nameAndType 29 4), (0, u "visibility"), (0, .fieldref 8 31), (0, .nameAndType 32 33), (0, u "timestamp"), (0, u "J"), (0, .fieldref 8 35), (0, .nameAndType 36 37), (0, u "deleteMarker"), (0, u "Z"), (55, u "EMPTY"), (24, .class_ 119), (0, u "java/lang/Comparable"), (0, u "([B[B[B[BJ)V")] 24

def k3c0 : Code := { maxStack := 8, maxLocals := 7, code := prog_19_method_1_code, exceptionTable := #[], attributes := #[] }
def k3m0 : Method := { name := "<init>", desc := "([B[B[B[BJ)V", sig := { parameters := [(.array .byte), (.array .byte), (.array .byte), (.array .byte), .long], returnType := none }, accessFlags := 1, code := some k3c0 }
def k3c1 : Code := { maxStack := 3, maxLocals := 8, code := prog_19_method_2_code, exceptionTable := #[], attributes := #[] }
def k3m1 : Method := { name := "<init>", desc := "([B[B[B[BJZ)V", sig := { parameters := [(.array .byte), (.array .byte), (.array .byte), (.array .byte), .long, .boolean], returnType := none }, accessFlags := 2, code := some k3c1 }
/-- com/example/keysweep/keysweep/Key -/
def k3 : Class := { plain "com/example/keysweep/keysweep/Key" (some 0) with
  accessFlags := 49
  interfaces := #[2]
  cf := some (fileOf pool3 8 #[] #[{ accessFlags := 1, nameIndex := 11, descriptorIndex := 120, attributes := #[] }, { accessFlags := 2, nameIndex := 11, descriptorIndex := 12, attributes := #[] }] 49 14 #[118] #[{ accessFlags := 26, nameIndex := 93, descriptorIndex := 4, attributes := #[] }, { accessFlags := 16, nameIndex := 20, descriptorIndex := 4, attributes := #[] }, { accessFlags := 16, nameIndex := 23, descriptorIndex := 4, attributes := #[] }, { accessFlags := 16, nameIndex := 26, descriptorIndex := 4, attributes := #[] }, { accessFlags := 16, nameIndex := 29, descriptorIndex := 4, attributes := #[] }, { accessFlags := 16, nameIndex := 32, descriptorIndex := 33, attributes := #[] }, { accessFlags := 18, nameIndex := 36, descriptorIndex := 37, attributes := #[] }])
  fields := #[{ name := "EMPTY", type := (.array .byte), accessFlags := 26, slot := 0, constantValue := 0 }, { name := "row", type := (.array .byte), accessFlags := 16, slot := 0, constantValue := 0 }, { name := "family", type := (.array .byte), accessFlags := 16, slot := 1, constantValue := 0 }, { name := "qualifier", type := (.array .byte), accessFlags := 16, slot := 2, constantValue := 0 }, { name := "visibility", type := (.array .byte), accessFlags := 16, slot := 3, constantValue := 0 }, { name := "timestamp", type := .long, accessFlags := 16, slot := 4, constantValue := 0 }, { name := "deleteMarker", type := .boolean, accessFlags := 18, slot := 5, constantValue := 0 }]
  methods := #[k3m0, k3m1]
  instanceTypes := #[(.array .byte), (.array .byte), (.array .byte), (.array .byte), .long, .boolean]
  staticTypes := #[(.array .byte)]
  resolved := Array.replicate 145 none
  statics := none }

def pool4 : Array CpInfo := pool [(1, .class_ 2), (0, u "java/lang/Cloneable"), (0, .class_ 4), (0, u "java/lang/Object")] 2

/-- java/lang/Cloneable -/
def k4 : Class := { plain "java/lang/Cloneable" (some 0) with
  accessFlags := 1537
  interfaces := #[]
  cf := some (fileOf pool4 1 #[] #[] 1537 3 #[] #[])
  fields := #[]
  methods := #[]
  instanceTypes := #[]
  staticTypes := #[]
  resolved := Array.replicate 7 none
  statics := none }

def pool5 : Array CpInfo := pool [(1, .methodref 2 3), (0, .class_ 4), (0, .nameAndType 5 6), (0, u "java/lang/Object"), (0, u "<init>"), (0, u "()V"), (0, .string 8), (0, u "key"), (0, .methodref 10 11), (0, .class_ 12), (0, .nameAndType 13 14), (0, u "java/util/Objects"), (0, u "requireNonNull"), (0, u "(Ljava/lang/Object;Ljava/lang/String;)Ljava/lang/Object;"), (0, .class_ 16), (0, u "com/example/keysweep/keysweep/Key"), (0, .fieldref 18 19), (0, .class_ 20), (0, .nameAndType 8 21), (0, u "com/example/keysweep/keysweep/Entry"), (0, u "Lcom/example/keysweep/keysweep/Key;"), (0, .methodref 23 24), (0, .class_ 25), (0, .nameAndType 26 27), (0, u "[B"), (0, u "clone"), (0, u "()Ljava/lang/Object;"), (0, .fieldref 18 29), (0, .nameAndType 30 25), (0, u "value"), (0, .fieldref 15 32), (0, .nameAndType 33 25), (0, u "row"), (0, .fieldref 15 35), (0, .nameAndType 36 25), (0, u "family"), (0, .fieldref 15 38), (0, .nameAndType 39 25), (0, u "qualifier"), (0, .fieldref 15 41), (0, .nameAndType 42 25), (0, u "visibility"), (2, .long 8), (33, u "(Lcom/example/keysweep/keysweep/Key;[B)V"), (4, u "size"), (0, u "()J")] 20

def k5c0 : Code := { maxStack := 3, maxLocals := 3, code := prog_6_method_1_code, exceptionTable := #[], attributes := #[] }
def k5m0 : Method := { name := "<init>", desc := "(Lcom/example/keysweep/keysweep/Key;[B)V", sig := { parameters := [(.object "com/example/keysweep/keysweep/Key"), (.array .byte)], returnType := none }, accessFlags := 1, code := some k5c0 }
def k5c1 : Code := { maxStack := 4, maxLocals := 1, code := prog_6_method_4_code, exceptionTable := #[], attributes := #[] }
def k5m1 : Method := { name := "size", desc := "()J", sig := { parameters := [], returnType := some .long }, accessFlags := 1, code := some k5c1 }
/-- com/example/keysweep/keysweep/Entry -/
def k5 : Class := { plain "com/example/keysweep/keysweep/Entry" (some 0) with
  accessFlags := 49
  interfaces := #[]
  cf := some (fileOf pool5 18 #[] #[{ accessFlags := 1, nameIndex := 5, descriptorIndex := 79, attributes := #[] }, { accessFlags := 1, nameIndex := 84, descriptorIndex := 85, attributes := #[] }] 49 2 #[] #[{ accessFlags := 18, nameIndex := 8, descriptorIndex := 21, attributes := #[] }, { accessFlags := 16, nameIndex := 30, descriptorIndex := 25, attributes := #[] }])
  fields := #[{ name := "key", type := (.object "com/example/keysweep/keysweep/Key"), accessFlags := 18, slot := 0, constantValue := 0 }, { name := "value", type := (.array .byte), accessFlags := 16, slot := 1, constantValue := 0 }]
  methods := #[k5m0, k5m1]
  instanceTypes := #[(.object "com/example/keysweep/keysweep/Key"), (.array .byte)]
  staticTypes := #[]
  resolved := Array.replicate 106 none
  statics := none }

def pool6 : Array CpInfo := pool [(1, .class_ 2), (0, u "java/io/Serializable"), (0, .class_ 4), (0, u "java/lang/Object")] 2

/-- java/io/Serializable -/
def k6 : Class := { plain "java/io/Serializable" (some 0) with
  accessFlags := 1537
  interfaces := #[]
  cf := some (fileOf pool6 1 #[] #[] 1537 3 #[] #[])
  fields := #[]
  methods := #[]
  instanceTypes := #[]
  staticTypes := #[]
  resolved := Array.replicate 7 none
  statics := none }

def pool7 : Array CpInfo := pool [(2, .class_ 4), (1, u "java/lang/CharSequence"), (42, .class_ 48), (0, u "java/lang/CharSequence$1CodePointIterator"), (10, .class_ 60), (0, u "java/lang/CharSequence$1CharIterator"), (5, .class_ 67), (0, u "java/lang/Object")] 63

/-- java/lang/CharSequence -/
def k7 : Class := { plain "java/lang/CharSequence" (some 0) with
  accessFlags := 1537
  interfaces := #[]
  cf := some (fileOf pool7 2 #[.nestMembers #[47, 59]] #[] 1537 66 #[] #[])
  fields := #[]
  methods := #[]
  instanceTypes := #[]
  staticTypes := #[]
  resolved := Array.replicate 131 none
  statics := none }

def pool8 : Array CpInfo := pool [(1, .class_ 2), (0, u "java/lang/constant/Constable"), (0, .class_ 4), (0, u "java/lang/Object")] 6

/-- java/lang/constant/Constable -/
def k8 : Class := { plain "java/lang/constant/Constable" (some 0) with
  accessFlags := 1537
  interfaces := #[]
  cf := some (fileOf pool8 1 #[] #[] 1537 3 #[] #[])
  fields := #[]
  methods := #[]
  instanceTypes := #[]
  staticTypes := #[]
  resolved := Array.replicate 11 none
  statics := none }

def pool9 : Array CpInfo := pool [(1, .class_ 2), (0, u "java/lang/constant/ConstantDesc"), (0, .class_ 4), (0, u "java/lang/Object")] 32

/-- java/lang/constant/ConstantDesc -/
def k9 : Class := { plain "java/lang/constant/ConstantDesc" (some 0) with
  accessFlags := 1537
  interfaces := #[]
  cf := some (fileOf pool9 1 #[] #[] 1537 3 #[] #[])
  fields := #[]
  methods := #[]
  instanceTypes := #[]
  staticTypes := #[]
  resolved := Array.replicate 37 none
  statics := none }

def pool10 : Array CpInfo := pool [(2, .class_ 4), (1, u "java/lang/Object"), (0, u "<init>"), (0, u "()V"), (3, .class_ 12), (1, u "java/lang/String"), (0, u "value"), (0, u "[B"), (2, u "coder"), (0, u "B"), (2, u "hash"), (0, u "I"), (2, u "hashIsZero"), (0, u "Z"), (13, u "COMPACT_STRINGS"), (534, .class_ 576), (0, u "java/lang/CharSequence"), (22, u "CASE_INSENSITIVE_ORDER"), (0, u "Ljava/util/Comparator;"), (500, u "serialPersistentFields"), (0, u "[Ljava/io/ObjectStreamField;"), (0, .class_ 1104), (0, u "java/lang/String$CaseInsensitiveComparator"), (1, .class_ 1107), (0, u "java/io/Serializable"), (0, .class_ 1109), (0, u "java/lang/Comparable"), (0, .class_ 1111), (0, u "java/lang/constant/Constable"), (0, .class_ 1113), (0, u "java/lang/constant/ConstantDesc"), (2, u "serialVersionUID"), (0, u "J"), (3, u "REPL"), (0, u "C"), (2, u "LATIN1"), (1, u "UTF16")] 323

def k10m0 : Method := { name := "<init>", desc := "()V", sig := { parameters := [], returnType := none }, accessFlags := 1, code := none }
/-- java/lang/String -/
def k10 : Class := { plain "java/lang/String" (some 0) with
  accessFlags := 49
  interfaces := #[6, 2, 7, 8, 9]
  cf := some (fileOf pool10 10 #[.nestMembers #[1103]] #[{ accessFlags := 1, nameIndex := 5, descriptorIndex := 6, attributes := #[] }] 49 2 #[1106, 1108, 575, 1110, 1112] #[{ accessFlags := 18, nameIndex := 13, descriptorIndex := 14, attributes := #[] }, { accessFlags := 18, nameIndex := 17, descriptorIndex := 18, attributes := #[] }, { accessFlags := 2, nameIndex := 21, descriptorIndex := 22, attributes := #[] }, { accessFlags := 2, nameIndex := 25, descriptorIndex := 26, attributes := #[] }, { accessFlags := 26, nameIndex := 1116, descriptorIndex := 1117, attributes := #[] }, { accessFlags := 24, nameIndex := 40, descriptorIndex := 26, attributes := #[] }, { accessFlags := 26, nameIndex := 1101, descriptorIndex := 1102, attributes := #[] }, { accessFlags := 26, nameIndex := 1121, descriptorIndex := 1122, attributes := #[] }, { accessFlags := 25, nameIndex := 599, descriptorIndex := 600, attributes := #[] }, { accessFlags := 24, nameIndex := 1125, descriptorIndex := 18, attributes := #[] }, { accessFlags := 24, nameIndex := 1127, descriptorIndex := 18, attributes := #[] }])
  fields := #[{ name := "value", type := (.array .byte), accessFlags := 18, slot := 0, constantValue := 0 }, { name := "coder", type := .byte, accessFlags := 18, slot := 1, constantValue := 0 }, { name := "hash", type := .int, accessFlags := 2, slot := 2, constantValue := 0 }, { name := "hashIsZero", type := .boolean, accessFlags := 2, slot := 3, constantValue := 0 }, { name := "serialVersionUID", type := .long, accessFlags := 26, slot := 0, constantValue := 0 }, { name := "COMPACT_STRINGS", type := .boolean, accessFlags := 24, slot := 1, constantValue := 0 }, { name := "serialPersistentFields", type := (.array (.object "java/io/ObjectStreamField")), accessFlags := 26, slot := 2, constantValue := 0 }, { name := "REPL", type := .char, accessFlags := 26, slot := 3, constantValue := 0 }, { name := "CASE_INSENSITIVE_ORDER", type := (.object "java/util/Comparator"), accessFlags := 25, slot := 4, constantValue := 0 }, { name := "LATIN1", type := .byte, accessFlags := 24, slot := 5, constantValue := 0 }, { name := "UTF16", type := .byte, accessFlags := 24, slot := 6, constantValue := 0 }]
  methods := #[k10m0]
  instanceTypes := #[(.array .byte), .byte, .int, .boolean]
  staticTypes := #[.long, .boolean, (.array (.object "java/io/ObjectStreamField")), .char, (.object "java/util/Comparator"), .byte, .byte]
  resolved := Array.replicate 1451 none
  statics := none }

def pool11 : Array CpInfo := pool [(2, .class_ 4), (1, u "java/lang/Object"), (0, u "<init>"), (0, u "()V"), (35, .class_ 44), (1, u "java/util/Objects"), (0, u "requireNonNull"), (48, u "(Ljava/lang/Object;Ljava/lang/String;)Ljava/lang/Object;")] 89

def k11m0 : Method := { name := "<init>", desc := "()V", sig := { parameters := [], returnType := none }, accessFlags := 2, code := none }
def k11c1 : Code := { maxStack := 3, maxLocals := 2, code := jdk_31_method_11_code, exceptionTable := #[], attributes := #[] }
def k11m1 : Method := { name := "requireNonNull", desc := "(Ljava/lang/Object;Ljava/lang/String;)Ljava/lang/Object;", sig := { parameters := [(.object "java/lang/Object"), (.object "java/lang/String")], returnType := some (.object "java/lang/Object") }, accessFlags := 9, code := some k11c1 }
/-- java/util/Objects -/
def k11 : Class := { plain "java/util/Objects" (some 0) with
  accessFlags := 49
  interfaces := #[]
  cf := some (fileOf pool11 42 #[] #[{ accessFlags := 2, nameIndex := 5, descriptorIndex := 6, attributes := #[] }, { accessFlags := 9, nameIndex := 45, descriptorIndex := 94, attributes := #[] }] 49 2 #[] #[])
  fields := #[]
  methods := #[k11m0, k11m1]
  instanceTypes := #[]
  staticTypes := #[]
  resolved := Array.replicate 184 none
  statics := none }

/-- the primitive byte -/
def k12 : Class := { plain "byte" none with kind := .primitive 'B', accessFlags := 0x411 }
/-- [B -/
def k13 : Class := { plain "[B" (some 0) with kind := .array 12 .byte, interfaces := #[4, 6], accessFlags := 1041 }

/-- the primitive int -/
def k14 : Class := { plain "int" none with kind := .primitive 'I', accessFlags := 0x411 }
/-- [I -/
def k15 : Class := { plain "[I" (some 0) with kind := .array 14 .int, interfaces := #[4, 6], accessFlags := 1041 }

def heap : Heap := #[]
def classes : Array Class := #[k0, k1, k2, k3, k4, k5, k6, k7, k8, k9, k10, k11, k12, k13, k14, k15]
def interned : List (Array UInt16 × Addr) := []
def slotsUsed : Nat := 0
def theMethod : MethodId := ⟨1, 1⟩
def args0 : Array Value := #[.int 5, .int 7, .int 9, .int 1, .int 1, .long 1]
def aboutOver (below : List Frame) : State where
  vm := { classes := classes, interned := interned.toArray }
  heap := heap
  slotsUsed := slotsUsed
  threads := #[{ frames := .invoking theMethod args0 :: below }]
def below0 : List Frame := [.native { method := ⟨0, 0⟩, args := #[] }]
def about1 : State := aboutOver below0
def p0 : Program := .bare "" "" ""
def e0 : Env := launch0.env 0 0 0
theorem w_frames : about1.frames = Frame.invoking theMethod args0 :: below0 := rfl
set_option maxRecDepth 65536 in
theorem w_args : argsFit about1.vm theMethod args0 = true := by decide +kernel
set_option maxRecDepth 65536 in
theorem w_heap : heapFits about1 = true := by decide +kernel
set_option maxRecDepth 65536 in
theorem w_runnable : about1.curStatus? = some .runnable := by decide +kernel
set_option maxRecDepth 65536 in
theorem w_alone : about1.alone = true := by decide +kernel
set_option maxRecDepth 65536 in
theorem w_named : about1.methodNamed? x = some theMethod := by decide +kernel
set_option maxRecDepth 65536 in
theorem w_hears : about1.hears theMethod below0 = true := by decide +kernel
set_option maxRecDepth 65536 in
theorem w_ripe : about1.ripe theMethod args0 below0 = true := by decide +kernel
theorem w_running : about1.status = .running := rfl
set_option maxRecDepth 65536 in
theorem w_room : about1.hasRoom e0.platform room_1 = true :=
  launch0.hasRoom_least _ room_1 (by decide +kernel) (by decide +kernel) (by decide +kernel) (by decide +kernel) (by decide +kernel) (by decide +kernel)
theorem allAtoms_all (ts : List Jvm.Cond) (a : Array Jvm.Value) (st : Jvm.State) : (allAtoms ts).before a st = ts.all (fun c => c.before a st) := by
  induction ts with
  | nil => rfl
  | cons c t ih =>
    show (Jvm.Cond.and c (allAtoms t)).before a st = _
    rw [Jvm.Cond.before_and, ih, List.all_cons]
def words1 : List Jvm.Cond := Jvm.Cond.code x code maxLocals ret :: tables_1
/-- a 'code' word, met by the world's own term for the bytes: nothing is compared byte by byte -/
theorem code_word {y : MethodName} {bytes : ByteArray} {mx : Nat} {rt : Option FieldType} {a : Array Value} {s : State} {m : MethodId} {meth : Method} {c : Code} (h1 : s.methodNamed? y = some m) (h2 : s.vm.method? m = some meth) (h3 : meth.code = some c) (h4 : c.code = bytes)
    (h5 : (c.maxLocals == mx && c.exceptionTable.isEmpty && decide (c.maxStack ≤ mostOperands) && decide (meth.sig.returnType = rt) && !meth.locks && decide (parseMethodDescriptor y.desc = some meth.sig)) = true) : (Jvm.Cond.code y bytes mx rt).before a s = true := by
  simp only [Bool.and_eq_true, beq_iff_eq, Bool.not_eq_true', decide_eq_true_eq] at h5
  obtain ⟨⟨⟨⟨⟨g1, g2⟩, g3⟩, g4⟩, g5⟩, g6⟩ := h5
  simp [Cond.before, Cond.holds, Cond.value, h1, h2, h3, h4, g1, g2, g3, g4, g5, g6]
def isCode : Jvm.Cond → Bool
  | .code _ _ _ _ => true
  | _ => false
theorem all_split {L : List Jvm.Cond} {P : Jvm.Cond → Bool} (h1 : L.all (fun c => isCode c || P c) = true) (h2 : ∀ c ∈ L.filter isCode, P c = true) : L.all P = true := by
  refine List.all_eq_true.mpr fun c hc => ?_
  have h := List.all_eq_true.mp h1 c hc
  rcases Bool.eq_false_or_eq_true (isCode c) with hi | hi
  · exact h2 c (List.mem_filter.mpr ⟨hc, hi⟩)
  · simpa [hi] using h
set_option maxRecDepth 65536 in
theorem w_c0 : (Jvm.Cond.code x code maxLocals ret).before args0 about1 = true := code_word (m := ⟨1, 1⟩) (meth := k1m1) (c := k1c1) (by decide +kernel) rfl rfl rfl (by decide +kernel)
set_option maxRecDepth 65536 in
theorem w_c1 : (Jvm.Cond.code ({ cls := "com/example/keysweep/keysweep/Key", name := "<init>", desc := "([B[B[B[BJ)V" } : Jvm.MethodName) prog_19_method_1_code (7 : Nat) (Option.none : Option Jvm.ClassFile.FieldType)).before args0 about1 = true := code_word (m := ⟨3, 0⟩) (meth := k3m0) (c := k3c0) (by decide +kernel) rfl rfl rfl (by decide +kernel)
set_option maxRecDepth 65536 in
theorem w_c2 : (Jvm.Cond.code ({ cls := "com/example/keysweep/keysweep/Key", name := "<init>", desc := "([B[B[B[BJZ)V" } : Jvm.MethodName) prog_19_method_2_code (8 : Nat) (Option.none : Option Jvm.ClassFile.FieldType)).before args0 about1 = true := code_word (m := ⟨3, 1⟩) (meth := k3m1) (c := k3c1) (by decide +kernel) rfl rfl rfl (by decide +kernel)
set_option maxRecDepth 65536 in
theorem w_c3 : (Jvm.Cond.code ({ cls := "java/lang/Object", name := "<init>", desc := "()V" } : Jvm.MethodName) object_method_1_code (1 : Nat) (Option.none : Option Jvm.ClassFile.FieldType)).before args0 about1 = true := code_word (m := ⟨0, 0⟩) (meth := k0m0) (c := k0c0) (by decide +kernel) rfl rfl rfl (by decide +kernel)
set_option maxRecDepth 65536 in
theorem w_c4 : (Jvm.Cond.code ({ cls := "com/example/keysweep/keysweep/Entry", name := "<init>", desc := "(Lcom/example/keysweep/keysweep/Key;[B)V" } : Jvm.MethodName) prog_6_method_1_code (3 : Nat) (Option.none : Option Jvm.ClassFile.FieldType)).before args0 about1 = true := code_word (m := ⟨5, 0⟩) (meth := k5m0) (c := k5c0) (by decide +kernel) rfl rfl rfl (by decide +kernel)
set_option maxRecDepth 65536 in
theorem w_c5 : (Jvm.Cond.code ({ cls := "java/util/Objects", name := "requireNonNull", desc := "(Ljava/lang/Object;Ljava/lang/String;)Ljava/lang/Object;" } : Jvm.MethodName) jdk_31_method_11_code (2 : Nat) (Option.some (Jvm.ClassFile.FieldType.object "java/lang/Object"))).before args0 about1 = true := code_word (m := ⟨11, 1⟩) (meth := k11m1) (c := k11c1) (by decide +kernel) rfl rfl rfl (by decide +kernel)
set_option maxRecDepth 65536 in
theorem w_c6 : (Jvm.Cond.code ({ cls := "com/example/keysweep/keysweep/Entry", name := "size", desc := "()J" } : Jvm.MethodName) prog_6_method_4_code (1 : Nat) (Option.some Jvm.ClassFile.FieldType.long)).before args0 about1 = true := code_word (m := ⟨5, 1⟩) (meth := k5m1) (c := k5c1) (by decide +kernel) rfl rfl rfl (by decide +kernel)
def codes1 : List Jvm.Cond := [Jvm.Cond.code x code maxLocals ret, Jvm.Cond.code ({ cls := "com/example/keysweep/keysweep/Key", name := "<init>", desc := "([B[B[B[BJ)V" } : Jvm.MethodName) prog_19_method_1_code (7 : Nat) (Option.none : Option Jvm.ClassFile.FieldType), Jvm.Cond.code ({ cls := "com/example/keysweep/keysweep/Key", name := "<init>", desc := "([B[B[B[BJZ)V" } : Jvm.MethodName) prog_19_method_2_code (8 : Nat) (Option.none : Option Jvm.ClassFile.FieldType), Jvm.Cond.code ({ cls := "java/lang/Object", name := "<init>", desc := "()V" } : Jvm.MethodName) object_method_1_code (1 : Nat) (Option.none : Option Jvm.ClassFile.FieldType), Jvm.Cond.code ({ cls := "com/example/keysweep/keysweep/Entry", name := "<init>", desc := "(Lcom/example/keysweep/keysweep/Key;[B)V" } : Jvm.MethodName) prog_6_method_1_code (3 : Nat) (Option.none : Option Jvm.ClassFile.FieldType), Jvm.Cond.code ({ cls := "java/util/Objects", name := "requireNonNull", desc := "(Ljava/lang/Object;Ljava/lang/String;)Ljava/lang/Object;" } : Jvm.MethodName) jdk_31_method_11_code (2 : Nat) (Option.some (Jvm.ClassFile.FieldType.object "java/lang/Object")), Jvm.Cond.code ({ cls := "com/example/keysweep/keysweep/Entry", name := "size", desc := "()J" } : Jvm.MethodName) prog_6_method_4_code (1 : Nat) (Option.some Jvm.ClassFile.FieldType.long)]
set_option maxRecDepth 65536 in
theorem codes_eq : words1.filter isCode = codes1 := rfl
theorem w_codes : ∀ c ∈ words1.filter isCode, c.before args0 about1 = true := by
  rw [codes_eq]
  intro c hc
  simp only [codes1, List.mem_cons, List.not_mem_nil, or_false] at hc
  rcases hc with rfl | rfl | rfl | rfl | rfl | rfl | rfl
  · exact w_c0
  · exact w_c1
  · exact w_c2
  · exact w_c3
  · exact w_c4
  · exact w_c5
  · exact w_c6
set_option maxRecDepth 65536 in
theorem w_t1 : (words1.take 24).all (fun c => isCode c || c.before args0 about1) = true := by decide +kernel
set_option maxRecDepth 65536 in
theorem w_t2 : ((words1.drop 24).take 24).all (fun c => isCode c || c.before args0 about1) = true := by decide +kernel
set_option maxRecDepth 65536 in
theorem w_t3 : ((words1.drop 24).drop 24).all (fun c => isCode c || c.before args0 about1) = true := by decide +kernel
theorem w_tables : (allAtoms (Jvm.Cond.code x code maxLocals ret :: tables_1)).before args0 about1 = true := by
  rw [allAtoms_all]
  show words1.all (fun c => c.before args0 about1) = true
  refine all_split ?_ w_codes
  rw [← List.take_append_drop 24 words1, List.all_append, w_t1, ← List.take_append_drop 24 (words1.drop 24), List.all_append, w_t2, w_t3]
  rfl
set_option maxRecDepth 65536 in
theorem w_case : (Jvm.Cond.and given_1 narrow_1).before args0 about1 = true := by decide +kernel
theorem w_applies : (headSpec (Jvm.Cond.code x code maxLocals ret :: tables_1) room_1).applies x e0.platform about1 = true :=
  (Spec.applies_iff w_frames).mpr ⟨w_running, w_runnable, w_alone, w_named, w_hears, w_ripe, w_room, w_tables⟩
theorem atStart : AtStart classFile x code maxLocals ret World_1 tables_1 room_1 Calls_1 rest_1 Pre_1 launch0 p0 e0 about1 theMethod args0 below0 :=
  ⟨lists_1, trivial, launch0.admits_env _ _ _, launch0.least_env, fairChoices_fair.cas, fairChoices_fair.clock, w_frames, w_args, w_heap, w_applies, trivial, trivial, w_case⟩
end start1
theorem witness_1 : WitnessClaimed_1 := ⟨start1.p0, start1.e0, start1.about1, start1.theMethod, start1.args0, start1.below0, start1.atStart⟩
end Jvm.Pilot.@@N@@
