import JvmDerived
import JvmDerived.Pilot.@@N@@Statement
import JvmDerived.Pilot.@@N@@Code
set_option linter.unusedVariables false
set_option linter.unusedSimpArgs false
@@BLOCK:NumsL.lean.txt@@
namespace Jvm.Pilot.@@N@@
open Jvm Jvm.ClassFile Sem Op Lib Jvm.Free Jvm.Stand Jvm.LawKit Jvm.RoadKit Bundle Jvm.Pilot.@@N@@.Jvm.D
/-- from the state T with the frame g the run comes to an end that P speaks of -/
def own_Goes (tb : Tables) (e : Env) (below : List Frame) (P : Outcome → State → Prop) (T : State) (g : JFrame) : Prop :=
  ∃ s₂ o, Steps tb e below (T.setTop g) s₂ ∧ s₂.status = .running ∧ Ended s₂ below o ∧ P o s₂
theorem own_Goes.via {tb : Tables} {e : Env} {below : List Frame} {P : Outcome → State → Prop} {T T' : State} {g g' : JFrame} (h : ∀ t, Steps tb e below (T'.setTop g') t → Steps tb e below (T.setTop g) t) (k : own_Goes tb e below P T' g') : own_Goes tb e below P T g := by
  obtain ⟨s₂, o, a, b⟩ := k
  exact ⟨s₂, o, h _ a, b⟩
theorem own_Goes.fin {tb : Tables} {e : Env} {below : List Frame} {P : Outcome → State → Prop} {T s₂ : State} {g : JFrame} {o : Outcome} (h1 : Steps tb e below (T.setTop g) s₂) (h2 : s₂.status = .running) (h3 : Ended s₂ below o) (h4 : P o s₂) : own_Goes tb e below P T g := ⟨s₂, o, h1, h2, h3, h4⟩
theorem own_ltT {x y : Int64} (h : x < y) : ifCond.holds .lt (lcmpW x y) = true ∧ ifCond.holds .ge (lcmpW x y) = false := by
  have q : lcmpW x y < 0 := by rw [lcW]; exact (lc_lt x y).mpr h
  exact ⟨(if0 _ _).trans (tlt q).1, (if0 _ _).trans (tlt q).2.1⟩
theorem own_ltF {x y : Int64} (h : ¬ x < y) : ifCond.holds .lt (lcmpW x y) = false ∧ ifCond.holds .ge (lcmpW x y) = true := by
  have q : ¬ lcmpW x y < 0 := by rw [lcW]; exact fun z => h ((lc_lt x y).mp z)
  exact ⟨(if0 _ _).trans (flt q).1, (if0 _ _).trans (flt q).2.1⟩
theorem own_gtT {x y : Int64} (h : y < x) : ifCond.holds .gt (lcmpW x y) = true ∧ ifCond.holds .le (lcmpW x y) = false := by
  have q : 0 < lcmpW x y := by rw [lcW]; exact (lc_gt x y).mpr h
  exact ⟨(if0 _ _).trans (tlt q).2.2.1, (if0 _ _).trans (tlt q).2.2.2⟩
theorem own_gtF {x y : Int64} (h : ¬ y < x) : ifCond.holds .gt (lcmpW x y) = false ∧ ifCond.holds .le (lcmpW x y) = true := by
  have q : ¬ 0 < lcmpW x y := by rw [lcW]; exact fun z => h ((lc_gt x y).mp z)
  exact ⟨(if0 _ _).trans (flt q).2.2.1, (if0 _ _).trans (flt q).2.2.2⟩
theorem own_eqT {x y : Int64} (h : x = y) : ifCond.holds .eq (lcmpW x y) = true ∧ ifCond.holds .ne (lcmpW x y) = false := by
  have q : lcmpW x y = 0 := by rw [lcW]; exact (lc_eq x y).mpr h
  exact ⟨(if0 _ _).trans (teq q).1, (if0 _ _).trans (teq q).2⟩
theorem own_eqF {x y : Int64} (h : ¬ x = y) : ifCond.holds .eq (lcmpW x y) = false ∧ ifCond.holds .ne (lcmpW x y) = true := by
  have q : ¬ lcmpW x y = 0 := by rw [lcW]; exact fun z => h ((lc_eq x y).mp z)
  exact ⟨(if0 _ _).trans (feq q).1, (if0 _ _).trans (feq q).2⟩
theorem own_lrem (x y : Int64) : x - (x / y) * y = x % y := Int64.toInt_inj.mp (by rw [Jvm.Kit.i64_rem, Int64.toInt_mod])
theorem own_eqInt {args : Array Value} {s : State} {t : Term} {k : Int32} (h : (Cond.eq t (.int k)).value args s none s [] = some true) : t.eval args s none [] s = some (.int k) := by
  simp only [Cond.value, Term.eval] at h
  cases ht : t.eval args s none [] s with
  | none => simp [ht] at h
  | some x => cases x <;> simp [ht] at h ⊢ <;> exact h
theorem own_eqRef {args : Array Value} {s : State} {t u : Term} {x : Addr} (h : (Cond.eq t u).value args s none s [] = some true) (hu : u.eval args s none [] s = some (.ref x)) : t.eval args s none [] s = some (.ref x) := by
  simp only [Cond.value, hu] at h
  cases ht : t.eval args s none [] s with
  | none => simp [ht] at h
  | some y => cases y <;> simp [ht] at h ⊢ <;> exact h
theorem own_len {args : Array Value} {s : State} {t : Term} {x : Addr} {cl : Cell} {ty : FieldType} {n : Int32} (ht : t.eval args s none [] s = some (.ref x)) (A : Arr s s.heap x cl ty) (h : (Term.length t).eval args s none [] s = some (.int n)) : cl.slots.size < 2 ^ 31 ∧ cl.slots.size.toInt32 = n := by
  have q := A.fin (Vm.Alike.refl _)
  simp only [Term.eval, ht, Option.bind_eq_bind, Option.bind_some, q] at h
  by_cases g : cl.slots.size < 2 ^ 31
  · simp [g] at h
    exact ⟨g, h⟩
  · simp [g] at h
theorem own_neg {x : Int32} (h : 0 ≤ x.toInt) : ¬ x < 0 := by
  rw [Int32.lt_iff_toInt_lt]
  have z : (0 : Int32).toInt = 0 := rfl
  omega
theorem own_cap {x : Int32} {n : Nat} (h : x.toInt ≤ n) : x.toNatClampNeg ≤ n := by
  show x.toInt.toNat ≤ n
  omega
theorem own_m31 (x : Int32) : 0 ≤ (x &&& (31 : Int32)).toInt ∧ (x &&& (31 : Int32)).toInt ≤ 31 := by
  have m := Jvm.Kit.i32_mask x (31 : Int32) (k := 5) (by decide) (by decide)
  rw [m]; omega
theorem own_m3 (x : Int32) : 0 ≤ (x &&& (3 : Int32)).toInt ∧ (x &&& (3 : Int32)).toInt ≤ 3 := by
  have m := Jvm.Kit.i32_mask x (3 : Int32) (k := 2) (by decide) (by decide)
  rw [m]; omega
theorem d1_0 : decode method_2_code 0 = .ok (.iload_n 1, 1) := by decide +kernel
theorem d1_1 : decode method_2_code 1 = .ok (.newarray .byte, 2) := by decide +kernel
theorem d1_3 : decode method_2_code 3 = .ok (.astore_n 2, 1) := by decide +kernel
theorem d1_4 : decode method_2_code 4 = .ok (.iload_n 1, 1) := by decide +kernel
theorem d1_5 : decode method_2_code 5 = .ok (.ifCond .le 8, 3) := by decide +kernel
theorem d1_8 : decode method_2_code 8 = .ok (.aload_n 2, 1) := by decide +kernel
theorem d1_9 : decode method_2_code 9 = .ok (.iconst 0, 1) := by decide +kernel
theorem d1_10 : decode method_2_code 10 = .ok (.iload_n 0, 1) := by decide +kernel
theorem d1_11 : decode method_2_code 11 = .ok (.i2b, 1) := by decide +kernel
theorem d1_12 : decode method_2_code 12 = .ok (.bastore, 1) := by decide +kernel
theorem d1_13 : decode method_2_code 13 = .ok (.iload_n 1, 1) := by decide +kernel
theorem d1_14 : decode method_2_code 14 = .ok (.iconst 1, 1) := by decide +kernel
theorem d1_15 : decode method_2_code 15 = .ok (.if_icmp .le 11, 3) := by decide +kernel
theorem d1_18 : decode method_2_code 18 = .ok (.aload_n 2, 1) := by decide +kernel
theorem d1_19 : decode method_2_code 19 = .ok (.iconst 1, 1) := by decide +kernel
theorem d1_20 : decode method_2_code 20 = .ok (.iload_n 0, 1) := by decide +kernel
theorem d1_21 : decode method_2_code 21 = .ok (.bipush 8, 2) := by decide +kernel
theorem d1_23 : decode method_2_code 23 = .ok (.ishr, 1) := by decide +kernel
theorem d1_24 : decode method_2_code 24 = .ok (.i2b, 1) := by decide +kernel
theorem d1_25 : decode method_2_code 25 = .ok (.bastore, 1) := by decide +kernel
theorem d1_26 : decode method_2_code 26 = .ok (.iload_n 1, 1) := by decide +kernel
theorem d1_27 : decode method_2_code 27 = .ok (.iconst 2, 1) := by decide +kernel
theorem d1_28 : decode method_2_code 28 = .ok (.if_icmp .le 11, 3) := by decide +kernel
theorem d1_31 : decode method_2_code 31 = .ok (.aload_n 2, 1) := by decide +kernel
theorem d1_32 : decode method_2_code 32 = .ok (.iconst 2, 1) := by decide +kernel
theorem d1_33 : decode method_2_code 33 = .ok (.iload_n 0, 1) := by decide +kernel
theorem d1_34 : decode method_2_code 34 = .ok (.bipush 16, 2) := by decide +kernel
theorem d1_36 : decode method_2_code 36 = .ok (.ishr, 1) := by decide +kernel
theorem d1_37 : decode method_2_code 37 = .ok (.i2b, 1) := by decide +kernel
theorem d1_38 : decode method_2_code 38 = .ok (.bastore, 1) := by decide +kernel
theorem d1_39 : decode method_2_code 39 = .ok (.aload_n 2, 1) := by decide +kernel
theorem d1_40 : decode method_2_code 40 = .ok (.areturn, 1) := by decide +kernel
theorem pn_1 : plainName "com/example/keysweep/keysweep/KeyFirstOfPinLaw" = true := by first | (simp [plainName, overriddenIn]; done) | decide +kernel
theorem ef_1 (m : MethodId) (xb : Int32) (xl : Int32) : entryFrame m #[(.int xb), (.int xl)] 3 = mkF m 0 #[.val (.int xb), .val (.int xl), .unset] [] := by first | (simp [entryFrame, mkF, argsToLocals, Value.category]; done) | rfl
def Q1 (Z : State) (xb : Int32) (xl : Int32) (h0 : Heap) (n0 : Nat) (v : Option Value) (h : Heap) (L : List Loc) : Prop := ∃ (bz : Addr) (kz : ClassId), v = some (.ref bz) ∧ Fr n0 L ∧ Keep h0 h [] ∧ (h0.size ≤ bz ∧ n0 ≤ bz) ∧ Exa Z h bz "[B" ∧ Arv Z h bz kz .byte xl [(.int (if (0 : Int32) < xl then (nar .byte (xb.toInt8.toInt32)) else (0 : Int32))), (.int (if (1 : Int32) < xl then (nar .byte ((xb >>> ((8 : Int32) &&& 31)).toInt8.toInt32)) else (0 : Int32))), (.int (if (2 : Int32) < xl then (nar .byte ((xb >>> ((16 : Int32) &&& 31)).toInt8.toInt32)) else (0 : Int32)))] (.int (0 : Int32))
set_option maxRecDepth 65536 in
theorem own_pl1_0 {xl : Int32} (hc5_6 : (0 : Int32) < xl) (hl0 : ¬ xl < 0) (hl3 : xl.toNatClampNeg ≤ 3) (neg1_2 : ¬ xl < 0) (hcap1_3 : xl.toNatClampNeg ≤ 3) : ¬ (0 : Int32) < 0 ∧ (0 : Int32) < xl := by
  first | exact ⟨by decide, by assumption⟩ | (subst_vars; exact ⟨by decide, by assumption⟩)
set_option maxRecDepth 65536 in
theorem own_pl1_1 {xb : Int32} {xl : Int32} {v13_8 : Int32} (hv13_8 : v13_8 = (if (0 : Int32) < xl then (nar .byte (xb.toInt8.toInt32)) else (0 : Int32))) (hc15_16 : (1 : Int32) < xl) (hl0 : ¬ xl < 0) (hl3 : xl.toNatClampNeg ≤ 3) (neg1_2 : ¬ xl < 0) (hcap1_3 : xl.toNatClampNeg ≤ 3) : ¬ (1 : Int32) < 0 ∧ (1 : Int32) < xl := by
  first | exact ⟨by decide, by assumption⟩ | (subst_vars; exact ⟨by decide, by assumption⟩)
set_option maxRecDepth 65536 in
theorem own_pl1_2 {xb : Int32} {xl : Int32} {v13_8 : Int32} {v26_18 : Int32} (hv13_8 : v13_8 = (if (0 : Int32) < xl then (nar .byte (xb.toInt8.toInt32)) else (0 : Int32))) (hv26_18 : v26_18 = (if (1 : Int32) < xl then (nar .byte ((xb >>> ((8 : Int32) &&& 31)).toInt8.toInt32)) else (0 : Int32))) (hc28_26 : (2 : Int32) < xl) (hl0 : ¬ xl < 0) (hl3 : xl.toNatClampNeg ≤ 3) (neg1_2 : ¬ xl < 0) (hcap1_3 : xl.toNatClampNeg ≤ 3) : ¬ (2 : Int32) < 0 ∧ (2 : Int32) < xl := by
  first | exact ⟨by decide, by assumption⟩ | (subst_vars; exact ⟨by decide, by assumption⟩)
set_option maxRecDepth 65536 in
set_option maxHeartbeats 40000000 in
theorem rm1 (l : Launch) (Z : State) (a0 : Array Value) (hw : ∀ d ∈ tables_1, d.before a0 Z = true) (ws : List Jvm.Cond) (xb : Int32) (xl : Int32) (h0 : Heap) (n0 : Nat) (Z0 : n0 ≤ h0.size) (hl0 : ¬ xl < 0) (hl3 : xl.toNatClampNeg ≤ 3) :
    MetFree l (⟨"com/example/keysweep/keysweep/KeyFirstOfPinLaw", "make", "(II)[B"⟩ : MethodName) (head1 (Jvm.Cond.code (⟨"com/example/keysweep/keysweep/KeyFirstOfPinLaw", "make", "(II)[B"⟩ : MethodName) method_2_code 3 (some (.array .byte)) :: ws) ({ frames := 0, cells := 1, slots := 3, locals := 0 } : Room)) (fun a U => a = #[(.int xb), (.int xl)] ∧ Z.Warmed39 U.vm ∧ U.heap = h0) (fun _ _ _ _ _ => True) (fun _ U o U' => ∃ v L, o = .returned v ∧ Q1 Z xb xl h0 n0 v U'.heap L ∧ FrameEnd U o U' L ({ frames := 0, cells := 1, slots := 3, locals := 0 } : Room).cells ({ frames := 0, cells := 1, slots := 3, locals := 0 } : Room).slots) := by
  refine MetFree.of_bodySF (plainFor_of_name pn_1) hisR ?_
  intro p e s m args below meth c s₁ Bd hml0 hP hK
  obtain ⟨rfl, hZ, hh⟩ := hP
  have hx := Bd.exec
  have hby := Bd.bytes
  have hml : c.maxLocals = 3 := hml0
  have hown : s.vm.findClass "com/example/keysweep/keysweep/KeyFirstOfPinLaw" = some m.cls := findClass_of_methodNamed Bd.named
  have hnm := (name_of_methodNamed Bd.named Bd.method).1
  have X0 : Stand p l e ({ frames := 0, cells := 1, slots := 3, locals := 0 } : Room) s m #[(.int xb), (.int xl)] below meth c s₁ [] 0 0 := Stand.of_body Bd
  have e0 : s₁.heap = h0 := by rw [← hh, Bd.state]; rfl
  have N0 := Fr.nil n0
  suffices G : own_Goes p.tables e below (fun o U' => ∃ v L, o = .returned v ∧ Q1 Z xb xl h0 n0 v U'.heap L ∧ FrameEnd s o U' L ({ frames := 0, cells := 1, slots := 3, locals := 0 } : Room).cells ({ frames := 0, cells := 1, slots := 3, locals := 0 } : Room).slots) s₁ (mkF m 0 #[.val (.int xb), .val (.int xl), .unset] []) by
    obtain ⟨t2_, o2_, z1_, z2_, z3_, z4_⟩ := G
    exact ⟨t2_, o2_, castTop (ef_1 m xb xl) z1_, z2_, z3_, z4_⟩
  generalize hPd : (fun (o : Outcome) (U' : State) => ∃ v L, o = .returned v ∧ Q1 Z xb xl h0 n0 v U'.heap L ∧ FrameEnd s o U' L ({ frames := 0, cells := 1, slots := 3, locals := 0 } : Room).cells ({ frames := 0, cells := 1, slots := 3, locals := 0 } : Room).slots) = P
  refine own_Goes.via (T' := s₁) (g' := (mkF m 1 #[.val (.int xb), .val (.int xl), .unset] [(.int xl)])) (fun t_ k_ => XS.iloadN X0.here hx rfl (hb hby d1_0) rfl k_) ?_
  have neg1_2 : ¬ xl < 0 := hl0
  have hcap1_3 : xl.toNatClampNeg ≤ 3 := hl3
  obtain ⟨T1, h1, k1, X1, e1, E1, A1, Ea1, st1⟩ := newPE X0 hx hZ (hw _ (List.mem_of_getElem? (i := 4) rfl)) e0 (g := (mkF m 1 #[.val (.int xb), .val (.int xl), .unset] [(.int xl)])) rfl (hb hby d1_1) rfl neg1_2 (cap := 3) hcap1_3 (by decide) (by decide) (by decide) (ad := "[B") (by decide)
  obtain ⟨b1, g1⟩ : ∃ z, z = h0.size := ⟨_, rfl⟩
  rw [← g1] at A1 Ea1 st1
  have ge_b1 : n0 ≤ b1 := Nat.le_trans Z0 (Nat.le_of_eq g1.symm)
  have sz_b1 : h0.size ≤ b1 := Nat.le_trans ((Keep.refl h0 [])).1 (Nat.le_of_eq g1.symm)
  have sz1 : n0 ≤ h1.size := Nat.le_trans Z0 E1.1
  have K1 : Keep h0 h1 [] := ((Keep.refl h0 [])).ext E1
  have E4 : Exa Z h1 b1 "[B" := Ea1
  have V5 : Arv Z h1 b1 k1 .byte xl [(.int (0 : Int32)), (.int (0 : Int32)), (.int (0 : Int32))] (.int (0 : Int32)) := (Arv.new A1 neg1_2).pad (pad_rep [] (.int (0 : Int32)) 3)
  refine own_Goes.via (T' := T1) (g' := (mkF m 3 #[.val (.int xb), .val (.int xl), .unset] [(.ref b1)])) (st1) ?_
  refine own_Goes.via (T' := T1) (g' := (mkF m 4 #[.val (.int xb), .val (.int xl), .val (.ref b1)] [])) (fun t_ k_ => XS.astoreN X1.here hx rfl (hb hby d1_3) rfl rfl (l' := #[.val (.int xb), .val (.int xl), .val (.ref b1)]) rfl k_) ?_
  refine own_Goes.via (T' := T1) (g' := (mkF m 5 #[.val (.int xb), .val (.int xl), .val (.ref b1)] [(.int xl)])) (fun t_ k_ => XS.iloadN X1.here hx rfl (hb hby d1_4) rfl k_) ?_
  suffices J13_11 : ∀ (T7 : State) (L7 : List Loc) (X7 : Stand p l e ({ frames := 0, cells := 1, slots := 3, locals := 0 } : Room) s m #[(.int xb), (.int xl)] below meth c T7 L7 1 3) (h7 : Heap) (e7 : T7.heap = h7) (N7 : Fr n0 L7) (sz7 : n0 ≤ h7.size) (K7 : Keep h0 h7 []) (v13_8 : Int32) (hv13_8 : v13_8 = (if (0 : Int32) < xl then (nar .byte (xb.toInt8.toInt32)) else (0 : Int32))) (E9 : Exa Z h7 b1 "[B") (V10 : Arv Z h7 b1 k1 .byte xl [(.int v13_8), (.int (0 : Int32)), (.int (0 : Int32))] (.int (0 : Int32))), own_Goes p.tables e below P T7 (mkF m 13 #[.val (.int xb), .val (.int xl), .val (.ref b1)] []) by
    by_cases hc5_6 : (0 : Int32) < xl
    · refine own_Goes.via (T' := T1) (g' := (mkF m 8 #[.val (.int xb), .val (.int xl), .val (.ref b1)] [])) (fun t_ k_ => XS.ifNo X1.here hx rfl (hb hby d1_5) rfl ((if0 _ _).trans (tlt hc5_6).2.2.2) k_) ?_
      refine own_Goes.via (T' := T1) (g' := (mkF m 9 #[.val (.int xb), .val (.int xl), .val (.ref b1)] [(.ref b1)])) (fun t_ k_ => XS.aloadN X1.here hx rfl (hb hby d1_8) rfl rfl k_) ?_
      refine own_Goes.via (T' := T1) (g' := (mkF m 10 #[.val (.int xb), .val (.int xl), .val (.ref b1)] [(.int (0 : Int32)), (.ref b1)])) (fun t_ k_ => XS.iconst X1.here hx rfl (hb hby d1_9) k_) ?_
      refine own_Goes.via (T' := T1) (g' := (mkF m 11 #[.val (.int xb), .val (.int xl), .val (.ref b1)] [(.int xb), (.int (0 : Int32)), (.ref b1)])) (fun t_ k_ => XS.iloadN X1.here hx rfl (hb hby d1_10) rfl k_) ?_
      refine own_Goes.via (T' := T1) (g' := (mkF m 12 #[.val (.int xb), .val (.int xl), .val (.ref b1)] [(.int (xb.toInt8.toInt32)), (.int (0 : Int32)), (.ref b1)])) (fun t_ k_ => XS.i2b X1.here hx rfl (hb hby d1_11) rfl k_) ?_
      obtain ⟨cl12, Ar12, q12, Sl12, Ng12, H12, G12⟩ := id V5
      have in12_13 : ¬ (0 : Int32) < 0 ∧ (0 : Int32) < xl := own_pl1_0 hc5_6 hl0 hl3 neg1_2 hcap1_3
      obtain ⟨T12, h12, X12, e12, W12, st12⟩ := stB X1 hx hZ e1 Ar12 (j := (0 : Int32)) (inb_of Sl12 in12_13) (g := (mkF m 12 #[.val (.int xb), .val (.int xl), .val (.ref b1)] [(.int (xb.toInt8.toInt32)), (.int (0 : Int32)), (.ref b1)])) rfl rfl (hb hby d1_12)
      have E14 : Exa Z h12 b1 "[B" := E4.wr W12
      have V15 : Arv Z h12 b1 k1 .byte xl [(.int (nar .byte (xb.toInt8.toInt32))), (.int (0 : Int32)), (.int (0 : Int32))] (.int (0 : Int32)) := Arv.set Ar12 q12 Sl12 Ng12 H12 G12 (fits_nar_byte _) W12 0 rfl (Nat.le_of_ble_eq_true rfl)
      have N12 := Fr.snoc X12 N0 ge_b1
      have sz12 : n0 ≤ h12.size := Nat.le_trans sz1 (Keep.of_wr W12).1
      have K12 : Keep h0 h12 [] := (K1).wr W12 (Or.inr sz_b1)
      refine own_Goes.via (T' := T12) (g' := (mkF m 13 #[.val (.int xb), .val (.int xl), .val (.ref b1)] [])) (st12) ?_
      exact J13_11 T12 _ X12 h12 e12 N12 sz12 K12 (nar .byte (xb.toInt8.toInt32)) ((if_pos hc5_6)).symm E14 V15
    · refine own_Goes.via (T' := T1) (g' := (mkF m 13 #[.val (.int xb), .val (.int xl), .val (.ref b1)] [])) (fun t_ k_ => XS.ifYes X1.here hx rfl (pc0 := 5) (pc' := 13) rfl (hb hby d1_5) rfl ((if0 _ _).trans (flt hc5_6).2.2.2) (by decide) (by decide) k_) ?_
      exact J13_11 T1 _ X1 h1 e1 N0 sz1 K1 (0 : Int32) ((if_neg hc5_6)).symm E4 V5
  intro T7 L7 X7 h7 e7 N7 sz7 K7 v13_8 hv13_8 E9 V10
  refine own_Goes.via (T' := T7) (g' := (mkF m 14 #[.val (.int xb), .val (.int xl), .val (.ref b1)] [(.int xl)])) (fun t_ k_ => XS.iloadN X7.here hx rfl (hb hby d1_13) rfl k_) ?_
  refine own_Goes.via (T' := T7) (g' := (mkF m 15 #[.val (.int xb), .val (.int xl), .val (.ref b1)] [(.int (1 : Int32)), (.int xl)])) (fun t_ k_ => XS.iconst X7.here hx rfl (hb hby d1_14) k_) ?_
  suffices J26_21 : ∀ (T17 : State) (L17 : List Loc) (X17 : Stand p l e ({ frames := 0, cells := 1, slots := 3, locals := 0 } : Room) s m #[(.int xb), (.int xl)] below meth c T17 L17 1 3) (h17 : Heap) (e17 : T17.heap = h17) (N17 : Fr n0 L17) (sz17 : n0 ≤ h17.size) (K17 : Keep h0 h17 []) (v26_18 : Int32) (hv26_18 : v26_18 = (if (1 : Int32) < xl then (nar .byte ((xb >>> ((8 : Int32) &&& 31)).toInt8.toInt32)) else (0 : Int32))) (E19 : Exa Z h17 b1 "[B") (V20 : Arv Z h17 b1 k1 .byte xl [(.int v13_8), (.int v26_18), (.int (0 : Int32))] (.int (0 : Int32))), own_Goes p.tables e below P T17 (mkF m 26 #[.val (.int xb), .val (.int xl), .val (.ref b1)] []) by
    by_cases hc15_16 : (1 : Int32) < xl
    · refine own_Goes.via (T' := T7) (g' := (mkF m 18 #[.val (.int xb), .val (.int xl), .val (.ref b1)] [])) (fun t_ k_ => XS.icmpNo X7.here hx rfl (hb hby d1_15) rfl (tlt hc15_16).2.2.2 k_) ?_
      refine own_Goes.via (T' := T7) (g' := (mkF m 19 #[.val (.int xb), .val (.int xl), .val (.ref b1)] [(.ref b1)])) (fun t_ k_ => XS.aloadN X7.here hx rfl (hb hby d1_18) rfl rfl k_) ?_
      refine own_Goes.via (T' := T7) (g' := (mkF m 20 #[.val (.int xb), .val (.int xl), .val (.ref b1)] [(.int (1 : Int32)), (.ref b1)])) (fun t_ k_ => XS.iconst X7.here hx rfl (hb hby d1_19) k_) ?_
      refine own_Goes.via (T' := T7) (g' := (mkF m 21 #[.val (.int xb), .val (.int xl), .val (.ref b1)] [(.int xb), (.int (1 : Int32)), (.ref b1)])) (fun t_ k_ => XS.iloadN X7.here hx rfl (hb hby d1_20) rfl k_) ?_
      refine own_Goes.via (T' := T7) (g' := (mkF m 23 #[.val (.int xb), .val (.int xl), .val (.ref b1)] [(.int (8 : Int32)), (.int xb), (.int (1 : Int32)), (.ref b1)])) (fun t_ k_ => XS.bipush X7.here hx rfl (hb hby d1_21) k_) ?_
      refine own_Goes.via (T' := T7) (g' := (mkF m 24 #[.val (.int xb), .val (.int xl), .val (.ref b1)] [(.int (xb >>> ((8 : Int32) &&& 31))), (.int (1 : Int32)), (.ref b1)])) (fun t_ k_ => XS.ishr X7.here hx rfl (hb hby d1_23) rfl k_) ?_
      refine own_Goes.via (T' := T7) (g' := (mkF m 25 #[.val (.int xb), .val (.int xl), .val (.ref b1)] [(.int ((xb >>> ((8 : Int32) &&& 31)).toInt8.toInt32)), (.int (1 : Int32)), (.ref b1)])) (fun t_ k_ => XS.i2b X7.here hx rfl (hb hby d1_24) rfl k_) ?_
      obtain ⟨cl22, Ar22, q22, Sl22, Ng22, H22, G22⟩ := id V10
      have in25_23 : ¬ (1 : Int32) < 0 ∧ (1 : Int32) < xl := own_pl1_1 hv13_8 hc15_16 hl0 hl3 neg1_2 hcap1_3
      obtain ⟨T22, h22, X22, e22, W22, st22⟩ := stB X7 hx hZ e7 Ar22 (j := (1 : Int32)) (inb_of Sl22 in25_23) (g := (mkF m 25 #[.val (.int xb), .val (.int xl), .val (.ref b1)] [(.int ((xb >>> ((8 : Int32) &&& 31)).toInt8.toInt32)), (.int (1 : Int32)), (.ref b1)])) rfl rfl (hb hby d1_25)
      have E24 : Exa Z h22 b1 "[B" := E9.wr W22
      have V25 : Arv Z h22 b1 k1 .byte xl [(.int v13_8), (.int (nar .byte ((xb >>> ((8 : Int32) &&& 31)).toInt8.toInt32))), (.int (0 : Int32))] (.int (0 : Int32)) := Arv.set Ar22 q22 Sl22 Ng22 H22 G22 (fits_nar_byte _) W22 1 rfl (Nat.le_of_ble_eq_true rfl)
      have N22 := Fr.snoc X22 N7 ge_b1
      have sz22 : n0 ≤ h22.size := Nat.le_trans sz7 (Keep.of_wr W22).1
      have K22 : Keep h0 h22 [] := (K7).wr W22 (Or.inr sz_b1)
      refine own_Goes.via (T' := T22) (g' := (mkF m 26 #[.val (.int xb), .val (.int xl), .val (.ref b1)] [])) (st22) ?_
      exact J26_21 T22 _ X22 h22 e22 N22 sz22 K22 (nar .byte ((xb >>> ((8 : Int32) &&& 31)).toInt8.toInt32)) ((if_pos hc15_16)).symm E24 V25
    · refine own_Goes.via (T' := T7) (g' := (mkF m 26 #[.val (.int xb), .val (.int xl), .val (.ref b1)] [])) (fun t_ k_ => XS.icmpYes X7.here hx rfl (pc0 := 15) (pc' := 26) rfl (hb hby d1_15) rfl (flt hc15_16).2.2.2 (by decide) (by decide) k_) ?_
      exact J26_21 T7 _ X7 h7 e7 N7 sz7 K7 (0 : Int32) ((if_neg hc15_16)).symm E9 V10
  intro T17 L17 X17 h17 e17 N17 sz17 K17 v26_18 hv26_18 E19 V20
  refine own_Goes.via (T' := T17) (g' := (mkF m 27 #[.val (.int xb), .val (.int xl), .val (.ref b1)] [(.int xl)])) (fun t_ k_ => XS.iloadN X17.here hx rfl (hb hby d1_26) rfl k_) ?_
  refine own_Goes.via (T' := T17) (g' := (mkF m 28 #[.val (.int xb), .val (.int xl), .val (.ref b1)] [(.int (2 : Int32)), (.int xl)])) (fun t_ k_ => XS.iconst X17.here hx rfl (hb hby d1_27) k_) ?_
  suffices J39_31 : ∀ (T27 : State) (L27 : List Loc) (X27 : Stand p l e ({ frames := 0, cells := 1, slots := 3, locals := 0 } : Room) s m #[(.int xb), (.int xl)] below meth c T27 L27 1 3) (h27 : Heap) (e27 : T27.heap = h27) (N27 : Fr n0 L27) (sz27 : n0 ≤ h27.size) (K27 : Keep h0 h27 []) (v39_28 : Int32) (hv39_28 : v39_28 = (if (2 : Int32) < xl then (nar .byte ((xb >>> ((16 : Int32) &&& 31)).toInt8.toInt32)) else (0 : Int32))) (E29 : Exa Z h27 b1 "[B") (V30 : Arv Z h27 b1 k1 .byte xl [(.int v13_8), (.int v26_18), (.int v39_28)] (.int (0 : Int32))), own_Goes p.tables e below P T27 (mkF m 39 #[.val (.int xb), .val (.int xl), .val (.ref b1)] []) by
    by_cases hc28_26 : (2 : Int32) < xl
    · refine own_Goes.via (T' := T17) (g' := (mkF m 31 #[.val (.int xb), .val (.int xl), .val (.ref b1)] [])) (fun t_ k_ => XS.icmpNo X17.here hx rfl (hb hby d1_28) rfl (tlt hc28_26).2.2.2 k_) ?_
      refine own_Goes.via (T' := T17) (g' := (mkF m 32 #[.val (.int xb), .val (.int xl), .val (.ref b1)] [(.ref b1)])) (fun t_ k_ => XS.aloadN X17.here hx rfl (hb hby d1_31) rfl rfl k_) ?_
      refine own_Goes.via (T' := T17) (g' := (mkF m 33 #[.val (.int xb), .val (.int xl), .val (.ref b1)] [(.int (2 : Int32)), (.ref b1)])) (fun t_ k_ => XS.iconst X17.here hx rfl (hb hby d1_32) k_) ?_
      refine own_Goes.via (T' := T17) (g' := (mkF m 34 #[.val (.int xb), .val (.int xl), .val (.ref b1)] [(.int xb), (.int (2 : Int32)), (.ref b1)])) (fun t_ k_ => XS.iloadN X17.here hx rfl (hb hby d1_33) rfl k_) ?_
      refine own_Goes.via (T' := T17) (g' := (mkF m 36 #[.val (.int xb), .val (.int xl), .val (.ref b1)] [(.int (16 : Int32)), (.int xb), (.int (2 : Int32)), (.ref b1)])) (fun t_ k_ => XS.bipush X17.here hx rfl (hb hby d1_34) k_) ?_
      refine own_Goes.via (T' := T17) (g' := (mkF m 37 #[.val (.int xb), .val (.int xl), .val (.ref b1)] [(.int (xb >>> ((16 : Int32) &&& 31))), (.int (2 : Int32)), (.ref b1)])) (fun t_ k_ => XS.ishr X17.here hx rfl (hb hby d1_36) rfl k_) ?_
      refine own_Goes.via (T' := T17) (g' := (mkF m 38 #[.val (.int xb), .val (.int xl), .val (.ref b1)] [(.int ((xb >>> ((16 : Int32) &&& 31)).toInt8.toInt32)), (.int (2 : Int32)), (.ref b1)])) (fun t_ k_ => XS.i2b X17.here hx rfl (hb hby d1_37) rfl k_) ?_
      obtain ⟨cl32, Ar32, q32, Sl32, Ng32, H32, G32⟩ := id V20
      have in38_33 : ¬ (2 : Int32) < 0 ∧ (2 : Int32) < xl := own_pl1_2 hv13_8 hv26_18 hc28_26 hl0 hl3 neg1_2 hcap1_3
      obtain ⟨T32, h32, X32, e32, W32, st32⟩ := stB X17 hx hZ e17 Ar32 (j := (2 : Int32)) (inb_of Sl32 in38_33) (g := (mkF m 38 #[.val (.int xb), .val (.int xl), .val (.ref b1)] [(.int ((xb >>> ((16 : Int32) &&& 31)).toInt8.toInt32)), (.int (2 : Int32)), (.ref b1)])) rfl rfl (hb hby d1_38)
      have E34 : Exa Z h32 b1 "[B" := E19.wr W32
      have V35 : Arv Z h32 b1 k1 .byte xl [(.int v13_8), (.int v26_18), (.int (nar .byte ((xb >>> ((16 : Int32) &&& 31)).toInt8.toInt32)))] (.int (0 : Int32)) := Arv.set Ar32 q32 Sl32 Ng32 H32 G32 (fits_nar_byte _) W32 2 rfl (Nat.le_of_ble_eq_true rfl)
      have N32 := Fr.snoc X32 N17 ge_b1
      have sz32 : n0 ≤ h32.size := Nat.le_trans sz17 (Keep.of_wr W32).1
      have K32 : Keep h0 h32 [] := (K17).wr W32 (Or.inr sz_b1)
      refine own_Goes.via (T' := T32) (g' := (mkF m 39 #[.val (.int xb), .val (.int xl), .val (.ref b1)] [])) (st32) ?_
      exact J39_31 T32 _ X32 h32 e32 N32 sz32 K32 (nar .byte ((xb >>> ((16 : Int32) &&& 31)).toInt8.toInt32)) ((if_pos hc28_26)).symm E34 V35
    · refine own_Goes.via (T' := T17) (g' := (mkF m 39 #[.val (.int xb), .val (.int xl), .val (.ref b1)] [])) (fun t_ k_ => XS.icmpYes X17.here hx rfl (pc0 := 28) (pc' := 39) rfl (hb hby d1_28) rfl (flt hc28_26).2.2.2 (by decide) (by decide) k_) ?_
      exact J39_31 T17 _ X17 h17 e17 N17 sz17 K17 (0 : Int32) ((if_neg hc28_26)).symm E19 V20
  intro T27 L27 X27 h27 e27 N27 sz27 K27 v39_28 hv39_28 E29 V30
  refine own_Goes.via (T' := T27) (g' := (mkF m 40 #[.val (.int xb), .val (.int xl), .val (.ref b1)] [(.ref b1)])) (fun t_ k_ => XS.aloadN X27.here hx rfl (hb hby d1_39) rfl rfl k_) ?_
  obtain ⟨fs, hr, hrun, hended, hW, hsame⟩ := X27.leave (v := some (.ref b1)) (fun h => by rw [Bd.returns] at h; cases h)
  refine own_Goes.fin (retOut X27 hx Bd.returns rfl (Or.inr (Or.inr (Or.inr (Or.inr ⟨rfl, rfl, rfl⟩)))) (hb hby d1_40) hr) hrun hended ?_
  subst hPd
  refine ⟨_, _, rfl, ?_, ⟨_, rfl⟩, hW, hsame.mono (by decide) (by decide)⟩
  show Q1 Z xb xl h0 n0 _ T27.heap _
  rw [e27]
  exact ⟨b1, k1, rfl, N27, K27, ⟨sz_b1, ge_b1⟩, E29, (by subst hv39_28; subst hv26_18; subst hv13_8; first | exact V30 | (simp only []; exact V30))⟩
theorem d3_0 : decode prog_18_method_2_code 0 = .ok (.aload_n 0, 1) := by decide +kernel
theorem d3_1 : decode prog_18_method_2_code 1 = .ok (.invokespecial 13, 3) := by decide +kernel
theorem d3_4 : decode prog_18_method_2_code 4 = .ok (.aload_n 0, 1) := by decide +kernel
theorem d3_5 : decode prog_18_method_2_code 5 = .ok (.aload_n 1, 1) := by decide +kernel
theorem d3_6 : decode prog_18_method_2_code 6 = .ok (.putfield 18, 3) := by decide +kernel
theorem d3_9 : decode prog_18_method_2_code 9 = .ok (.aload_n 0, 1) := by decide +kernel
theorem d3_10 : decode prog_18_method_2_code 10 = .ok (.aload_n 2, 1) := by decide +kernel
theorem d3_11 : decode prog_18_method_2_code 11 = .ok (.putfield 21, 3) := by decide +kernel
theorem d3_14 : decode prog_18_method_2_code 14 = .ok (.aload_n 0, 1) := by decide +kernel
theorem d3_15 : decode prog_18_method_2_code 15 = .ok (.aload_n 3, 1) := by decide +kernel
theorem d3_16 : decode prog_18_method_2_code 16 = .ok (.putfield 24, 3) := by decide +kernel
theorem d3_19 : decode prog_18_method_2_code 19 = .ok (.aload_n 0, 1) := by decide +kernel
theorem d3_20 : decode prog_18_method_2_code 20 = .ok (.aload 4, 2) := by decide +kernel
theorem d3_22 : decode prog_18_method_2_code 22 = .ok (.putfield 27, 3) := by decide +kernel
theorem d3_25 : decode prog_18_method_2_code 25 = .ok (.aload_n 0, 1) := by decide +kernel
theorem d3_26 : decode prog_18_method_2_code 26 = .ok (.lload 5, 2) := by decide +kernel
theorem d3_28 : decode prog_18_method_2_code 28 = .ok (.putfield 30, 3) := by decide +kernel
theorem d3_31 : decode prog_18_method_2_code 31 = .ok (.aload_n 0, 1) := by decide +kernel
theorem d3_32 : decode prog_18_method_2_code 32 = .ok (.iload 7, 2) := by decide +kernel
theorem d3_34 : decode prog_18_method_2_code 34 = .ok (.putfield 34, 3) := by decide +kernel
theorem d3_37 : decode prog_18_method_2_code 37 = .ok (.return_, 1) := by decide +kernel
theorem pn_3 : plainName "com/example/keysweep/keysweep/Key" = true := by first | (simp [plainName, overriddenIn]; done) | decide +kernel
theorem ef_3 (m : MethodId) (ao : Addr) (ar : Addr) (af : Addr) (aq : Addr) (av : Addr) (xt : Int64) (xd : Int32) : entryFrame m #[(.ref ao), (.ref ar), (.ref af), (.ref aq), (.ref av), (.long xt), (.int xd)] 8 = mkF m 0 #[.val (.ref ao), .val (.ref ar), .val (.ref af), .val (.ref aq), .val (.ref av), .val (.long xt), .second, .val (.int xd)] [] := by first | (simp [entryFrame, mkF, argsToLocals, Value.category]; done) | rfl
def Q3 (Z : State) (ao : Addr) (ar : Addr) (af : Addr) (aq : Addr) (av : Addr) (xt : Int64) (xd : Int32) (h0 : Heap) (n0 : Nat) (v : Option Value) (h : Heap) (L : List Loc) : Prop := v = none ∧ Fr n0 L ∧ Keep h0 h [ao] ∧ Exa Z h ao "com/example/keysweep/keysweep/Key" ∧ Fld Z h ao "com/example/keysweep/keysweep/Key" "row" "[B" (.ref ar) ∧ Fld Z h ao "com/example/keysweep/keysweep/Key" "family" "[B" (.ref af) ∧ Fld Z h ao "com/example/keysweep/keysweep/Key" "qualifier" "[B" (.ref aq) ∧ Fld Z h ao "com/example/keysweep/keysweep/Key" "visibility" "[B" (.ref av) ∧ Fld Z h ao "com/example/keysweep/keysweep/Key" "timestamp" "J" (.long xt) ∧ Fld Z h ao "com/example/keysweep/keysweep/Key" "deleteMarker" "Z" (.int (nar .boolean xd))
set_option maxRecDepth 65536 in
set_option maxHeartbeats 40000000 in
theorem rm3 (l : Launch) (Z : State) (a0 : Array Value) (hw : ∀ d ∈ tables_1, d.before a0 Z = true) (ws : List Jvm.Cond) (ao : Addr) (ar : Addr) (af : Addr) (aq : Addr) (av : Addr) (xt : Int64) (xd : Int32) (h0 : Heap) (n0 : Nat) (Z0 : n0 ≤ h0.size) (PF0 : Exa Z h0 ao "com/example/keysweep/keysweep/Key") (PF1 : Fld Z h0 ao "com/example/keysweep/keysweep/Key" "row" "[B" .null) (PF2 : Fld Z h0 ao "com/example/keysweep/keysweep/Key" "family" "[B" .null) (PF3 : Fld Z h0 ao "com/example/keysweep/keysweep/Key" "qualifier" "[B" .null) (PF4 : Fld Z h0 ao "com/example/keysweep/keysweep/Key" "visibility" "[B" .null) (PF5 : Fld Z h0 ao "com/example/keysweep/keysweep/Key" "timestamp" "J" (.long (0 : Int64))) (PF6 : Fld Z h0 ao "com/example/keysweep/keysweep/Key" "deleteMarker" "Z" (.int (0 : Int32))) (ge_ao : n0 ≤ ao) :
    MetFree l (⟨"com/example/keysweep/keysweep/Key", "<init>", "([B[B[B[BJZ)V"⟩ : MethodName) (head1 (Jvm.Cond.code (⟨"com/example/keysweep/keysweep/Key", "<init>", "([B[B[B[BJZ)V"⟩ : MethodName) prog_18_method_2_code 8 none :: ws) ({ frames := 1, cells := 0, slots := 0, locals := 12 } : Room)) (fun a U => a = #[(.ref ao), (.ref ar), (.ref af), (.ref aq), (.ref av), (.long xt), (.int xd)] ∧ Z.Warmed39 U.vm ∧ U.heap = h0) (fun _ _ _ _ _ => True) (fun _ U o U' => ∃ v L, o = .returned v ∧ Q3 Z ao ar af aq av xt xd h0 n0 v U'.heap L ∧ FrameEnd U o U' L ({ frames := 1, cells := 0, slots := 0, locals := 12 } : Room).cells ({ frames := 1, cells := 0, slots := 0, locals := 12 } : Room).slots) := by
  refine MetFree.of_bodySF (plainFor_of_name pn_3) hisR ?_
  intro p e s m args below meth c s₁ Bd hml0 hP hK
  obtain ⟨rfl, hZ, hh⟩ := hP
  have hx := Bd.exec
  have hby := Bd.bytes
  have hml : c.maxLocals = 8 := hml0
  have hown : s.vm.findClass "com/example/keysweep/keysweep/Key" = some m.cls := findClass_of_methodNamed Bd.named
  have hnm := (name_of_methodNamed Bd.named Bd.method).1
  have X0 : Stand p l e ({ frames := 1, cells := 0, slots := 0, locals := 12 } : Room) s m #[(.ref ao), (.ref ar), (.ref af), (.ref aq), (.ref av), (.long xt), (.int xd)] below meth c s₁ [] 0 0 := Stand.of_body Bd
  have e0 : s₁.heap = h0 := by rw [← hh, Bd.state]; rfl
  have N0 := Fr.nil n0
  suffices G : own_Goes p.tables e below (fun o U' => ∃ v L, o = .returned v ∧ Q3 Z ao ar af aq av xt xd h0 n0 v U'.heap L ∧ FrameEnd s o U' L ({ frames := 1, cells := 0, slots := 0, locals := 12 } : Room).cells ({ frames := 1, cells := 0, slots := 0, locals := 12 } : Room).slots) s₁ (mkF m 0 #[.val (.ref ao), .val (.ref ar), .val (.ref af), .val (.ref aq), .val (.ref av), .val (.long xt), .second, .val (.int xd)] []) by
    obtain ⟨t2_, o2_, z1_, z2_, z3_, z4_⟩ := G
    exact ⟨t2_, o2_, castTop (ef_3 m ao ar af aq av xt xd) z1_, z2_, z3_, z4_⟩
  generalize hPd : (fun (o : Outcome) (U' : State) => ∃ v L, o = .returned v ∧ Q3 Z ao ar af aq av xt xd h0 n0 v U'.heap L ∧ FrameEnd s o U' L ({ frames := 1, cells := 0, slots := 0, locals := 12 } : Room).cells ({ frames := 1, cells := 0, slots := 0, locals := 12 } : Room).slots) = P
  refine own_Goes.via (T' := s₁) (g' := (mkF m 1 #[.val (.ref ao), .val (.ref ar), .val (.ref af), .val (.ref aq), .val (.ref av), .val (.long xt), .second, .val (.int xd)] [(.ref ao)])) (fun t_ k_ => XS.aloadN X0.here hx rfl (hb hby d3_0) rfl rfl k_) ?_
  obtain ⟨T1, X1, e1, st1⟩ := initO X0 hx hZ hown (hw _ (List.mem_of_getElem? (i := 26) rfl)) (hw _ (List.mem_of_getElem? (i := 27) rfl)) (hw _ (List.mem_of_getElem? (i := 28) rfl)) e0 (g := (mkF m 1 #[.val (.ref ao), .val (.ref ar), .val (.ref af), .val (.ref aq), .val (.ref av), .val (.long xt), .second, .val (.int xd)] [(.ref ao)])) rfl (by rw [hml]; rfl) rfl (hb hby d3_1) (by decide) (W := 0) (by show 2 * 0 + _ ≤ _; exact Nat.le_of_eq rfl) (by decide)
  refine own_Goes.via (T' := T1) (g' := (mkF m 4 #[.val (.ref ao), .val (.ref ar), .val (.ref af), .val (.ref aq), .val (.ref av), .val (.long xt), .second, .val (.int xd)] [])) (st1) ?_
  refine own_Goes.via (T' := T1) (g' := (mkF m 5 #[.val (.ref ao), .val (.ref ar), .val (.ref af), .val (.ref aq), .val (.ref av), .val (.long xt), .second, .val (.int xd)] [(.ref ao)])) (fun t_ k_ => XS.aloadN X1.here hx rfl (hb hby d3_4) rfl rfl k_) ?_
  refine own_Goes.via (T' := T1) (g' := (mkF m 6 #[.val (.ref ao), .val (.ref ar), .val (.ref af), .val (.ref aq), .val (.ref av), .val (.long xt), .second, .val (.int xd)] [(.ref ar), (.ref ao)])) (fun t_ k_ => XS.aloadN X1.here hx rfl (hb hby d3_5) rfl rfl k_) ?_
  obtain ⟨T2, h2, X2, e2, W2, st2⟩ := putF X1 hx hZ hown (host := "") (Or.inl (hw _ (List.mem_of_getElem? (i := 29) rfl))) Via.refl e1 PF1 PF0 (Or.inr ⟨(hw _ (List.mem_of_getElem? (i := 30) rfl)), rfl, hnm⟩) (hw _ (List.mem_of_getElem? (i := 10) rfl)) (ty := (.array .byte)) (by decide) rfl rfl (g := (mkF m 6 #[.val (.ref ao), .val (.ref ar), .val (.ref af), .val (.ref aq), .val (.ref av), .val (.long xt), .second, .val (.int xd)] [(.ref ar), (.ref ao)])) rfl rfl (hb hby d3_6)
  have E3 : Exa Z h2 ao "com/example/keysweep/keysweep/Key" := PF0.wr W2
  have F4 : Fld Z h2 ao "com/example/keysweep/keysweep/Key" "family" "[B" .null := PF2.other W2 (Or.inr (slot_ne (Or.inr (hw _ (List.mem_of_getElem? (i := 32) rfl))) (Or.inr (hw _ (List.mem_of_getElem? (i := 30) rfl))) (by decide) (t := (.array .byte)) (t' := (.array .byte)) (by decide) (by decide)))
  have F5 : Fld Z h2 ao "com/example/keysweep/keysweep/Key" "qualifier" "[B" .null := PF3.other W2 (Or.inr (slot_ne (Or.inr (hw _ (List.mem_of_getElem? (i := 34) rfl))) (Or.inr (hw _ (List.mem_of_getElem? (i := 30) rfl))) (by decide) (t := (.array .byte)) (t' := (.array .byte)) (by decide) (by decide)))
  have F6 : Fld Z h2 ao "com/example/keysweep/keysweep/Key" "visibility" "[B" .null := PF4.other W2 (Or.inr (slot_ne (Or.inr (hw _ (List.mem_of_getElem? (i := 36) rfl))) (Or.inr (hw _ (List.mem_of_getElem? (i := 30) rfl))) (by decide) (t := (.array .byte)) (t' := (.array .byte)) (by decide) (by decide)))
  have F7 : Fld Z h2 ao "com/example/keysweep/keysweep/Key" "timestamp" "J" (.long (0 : Int64)) := PF5.other W2 (Or.inr (slot_ne (Or.inr (hw _ (List.mem_of_getElem? (i := 38) rfl))) (Or.inr (hw _ (List.mem_of_getElem? (i := 30) rfl))) (by decide) (t := .long) (t' := (.array .byte)) (by decide) (by decide)))
  have F8 : Fld Z h2 ao "com/example/keysweep/keysweep/Key" "deleteMarker" "Z" (.int (0 : Int32)) := PF6.other W2 (Or.inr (slot_ne (Or.inr (hw _ (List.mem_of_getElem? (i := 40) rfl))) (Or.inr (hw _ (List.mem_of_getElem? (i := 30) rfl))) (by decide) (t := .boolean) (t' := (.array .byte)) (by decide) (by decide)))
  have F9 : Fld Z h2 ao "com/example/keysweep/keysweep/Key" "row" "[B" (.ref ar) := PF1.same W2
  have N2 := Fr.snoc X2 N0 ge_ao
  have sz2 : n0 ≤ h2.size := Nat.le_trans Z0 (Keep.of_wr W2).1
  have K2 : Keep h0 h2 [ao] := ((Keep.refl h0 [ao])).wr W2 (Or.inl (List.mem_of_getElem? (i := 0) rfl))
  refine own_Goes.via (T' := T2) (g' := (mkF m 9 #[.val (.ref ao), .val (.ref ar), .val (.ref af), .val (.ref aq), .val (.ref av), .val (.long xt), .second, .val (.int xd)] [])) (st2) ?_
  refine own_Goes.via (T' := T2) (g' := (mkF m 10 #[.val (.ref ao), .val (.ref ar), .val (.ref af), .val (.ref aq), .val (.ref av), .val (.long xt), .second, .val (.int xd)] [(.ref ao)])) (fun t_ k_ => XS.aloadN X2.here hx rfl (hb hby d3_9) rfl rfl k_) ?_
  refine own_Goes.via (T' := T2) (g' := (mkF m 11 #[.val (.ref ao), .val (.ref ar), .val (.ref af), .val (.ref aq), .val (.ref av), .val (.long xt), .second, .val (.int xd)] [(.ref af), (.ref ao)])) (fun t_ k_ => XS.aloadN X2.here hx rfl (hb hby d3_10) rfl rfl k_) ?_
  obtain ⟨T10, h10, X10, e10, W10, st10⟩ := putF X2 hx hZ hown (host := "") (Or.inl (hw _ (List.mem_of_getElem? (i := 31) rfl))) Via.refl e2 F4 E3 (Or.inr ⟨(hw _ (List.mem_of_getElem? (i := 32) rfl)), rfl, hnm⟩) (hw _ (List.mem_of_getElem? (i := 10) rfl)) (ty := (.array .byte)) (by decide) rfl rfl (g := (mkF m 11 #[.val (.ref ao), .val (.ref ar), .val (.ref af), .val (.ref aq), .val (.ref av), .val (.long xt), .second, .val (.int xd)] [(.ref af), (.ref ao)])) rfl rfl (hb hby d3_11)
  have E11 : Exa Z h10 ao "com/example/keysweep/keysweep/Key" := E3.wr W10
  have F12 : Fld Z h10 ao "com/example/keysweep/keysweep/Key" "qualifier" "[B" .null := F5.other W10 (Or.inr (slot_ne (Or.inr (hw _ (List.mem_of_getElem? (i := 34) rfl))) (Or.inr (hw _ (List.mem_of_getElem? (i := 32) rfl))) (by decide) (t := (.array .byte)) (t' := (.array .byte)) (by decide) (by decide)))
  have F13 : Fld Z h10 ao "com/example/keysweep/keysweep/Key" "visibility" "[B" .null := F6.other W10 (Or.inr (slot_ne (Or.inr (hw _ (List.mem_of_getElem? (i := 36) rfl))) (Or.inr (hw _ (List.mem_of_getElem? (i := 32) rfl))) (by decide) (t := (.array .byte)) (t' := (.array .byte)) (by decide) (by decide)))
  have F14 : Fld Z h10 ao "com/example/keysweep/keysweep/Key" "timestamp" "J" (.long (0 : Int64)) := F7.other W10 (Or.inr (slot_ne (Or.inr (hw _ (List.mem_of_getElem? (i := 38) rfl))) (Or.inr (hw _ (List.mem_of_getElem? (i := 32) rfl))) (by decide) (t := .long) (t' := (.array .byte)) (by decide) (by decide)))
  have F15 : Fld Z h10 ao "com/example/keysweep/keysweep/Key" "deleteMarker" "Z" (.int (0 : Int32)) := F8.other W10 (Or.inr (slot_ne (Or.inr (hw _ (List.mem_of_getElem? (i := 40) rfl))) (Or.inr (hw _ (List.mem_of_getElem? (i := 32) rfl))) (by decide) (t := .boolean) (t' := (.array .byte)) (by decide) (by decide)))
  have F16 : Fld Z h10 ao "com/example/keysweep/keysweep/Key" "row" "[B" (.ref ar) := F9.other W10 (Or.inr (slot_ne (Or.inr (hw _ (List.mem_of_getElem? (i := 30) rfl))) (Or.inr (hw _ (List.mem_of_getElem? (i := 32) rfl))) (by decide) (t := (.array .byte)) (t' := (.array .byte)) (by decide) (by decide)))
  have F17 : Fld Z h10 ao "com/example/keysweep/keysweep/Key" "family" "[B" (.ref af) := F4.same W10
  have N10 := Fr.snoc X10 N2 ge_ao
  have sz10 : n0 ≤ h10.size := Nat.le_trans sz2 (Keep.of_wr W10).1
  have K10 : Keep h0 h10 [ao] := (K2).wr W10 (Or.inl (List.mem_of_getElem? (i := 0) rfl))
  refine own_Goes.via (T' := T10) (g' := (mkF m 14 #[.val (.ref ao), .val (.ref ar), .val (.ref af), .val (.ref aq), .val (.ref av), .val (.long xt), .second, .val (.int xd)] [])) (st10) ?_
  refine own_Goes.via (T' := T10) (g' := (mkF m 15 #[.val (.ref ao), .val (.ref ar), .val (.ref af), .val (.ref aq), .val (.ref av), .val (.long xt), .second, .val (.int xd)] [(.ref ao)])) (fun t_ k_ => XS.aloadN X10.here hx rfl (hb hby d3_14) rfl rfl k_) ?_
  refine own_Goes.via (T' := T10) (g' := (mkF m 16 #[.val (.ref ao), .val (.ref ar), .val (.ref af), .val (.ref aq), .val (.ref av), .val (.long xt), .second, .val (.int xd)] [(.ref aq), (.ref ao)])) (fun t_ k_ => XS.aloadN X10.here hx rfl (hb hby d3_15) rfl rfl k_) ?_
  obtain ⟨T18, h18, X18, e18, W18, st18⟩ := putF X10 hx hZ hown (host := "") (Or.inl (hw _ (List.mem_of_getElem? (i := 33) rfl))) Via.refl e10 F12 E11 (Or.inr ⟨(hw _ (List.mem_of_getElem? (i := 34) rfl)), rfl, hnm⟩) (hw _ (List.mem_of_getElem? (i := 10) rfl)) (ty := (.array .byte)) (by decide) rfl rfl (g := (mkF m 16 #[.val (.ref ao), .val (.ref ar), .val (.ref af), .val (.ref aq), .val (.ref av), .val (.long xt), .second, .val (.int xd)] [(.ref aq), (.ref ao)])) rfl rfl (hb hby d3_16)
  have E19 : Exa Z h18 ao "com/example/keysweep/keysweep/Key" := E11.wr W18
  have F20 : Fld Z h18 ao "com/example/keysweep/keysweep/Key" "visibility" "[B" .null := F13.other W18 (Or.inr (slot_ne (Or.inr (hw _ (List.mem_of_getElem? (i := 36) rfl))) (Or.inr (hw _ (List.mem_of_getElem? (i := 34) rfl))) (by decide) (t := (.array .byte)) (t' := (.array .byte)) (by decide) (by decide)))
  have F21 : Fld Z h18 ao "com/example/keysweep/keysweep/Key" "timestamp" "J" (.long (0 : Int64)) := F14.other W18 (Or.inr (slot_ne (Or.inr (hw _ (List.mem_of_getElem? (i := 38) rfl))) (Or.inr (hw _ (List.mem_of_getElem? (i := 34) rfl))) (by decide) (t := .long) (t' := (.array .byte)) (by decide) (by decide)))
  have F22 : Fld Z h18 ao "com/example/keysweep/keysweep/Key" "deleteMarker" "Z" (.int (0 : Int32)) := F15.other W18 (Or.inr (slot_ne (Or.inr (hw _ (List.mem_of_getElem? (i := 40) rfl))) (Or.inr (hw _ (List.mem_of_getElem? (i := 34) rfl))) (by decide) (t := .boolean) (t' := (.array .byte)) (by decide) (by decide)))
  have F23 : Fld Z h18 ao "com/example/keysweep/keysweep/Key" "row" "[B" (.ref ar) := F16.other W18 (Or.inr (slot_ne (Or.inr (hw _ (List.mem_of_getElem? (i := 30) rfl))) (Or.inr (hw _ (List.mem_of_getElem? (i := 34) rfl))) (by decide) (t := (.array .byte)) (t' := (.array .byte)) (by decide) (by decide)))
  have F24 : Fld Z h18 ao "com/example/keysweep/keysweep/Key" "family" "[B" (.ref af) := F17.other W18 (Or.inr (slot_ne (Or.inr (hw _ (List.mem_of_getElem? (i := 32) rfl))) (Or.inr (hw _ (List.mem_of_getElem? (i := 34) rfl))) (by decide) (t := (.array .byte)) (t' := (.array .byte)) (by decide) (by decide)))
  have F25 : Fld Z h18 ao "com/example/keysweep/keysweep/Key" "qualifier" "[B" (.ref aq) := F12.same W18
  have N18 := Fr.snoc X18 N10 ge_ao
  have sz18 : n0 ≤ h18.size := Nat.le_trans sz10 (Keep.of_wr W18).1
  have K18 : Keep h0 h18 [ao] := (K10).wr W18 (Or.inl (List.mem_of_getElem? (i := 0) rfl))
  refine own_Goes.via (T' := T18) (g' := (mkF m 19 #[.val (.ref ao), .val (.ref ar), .val (.ref af), .val (.ref aq), .val (.ref av), .val (.long xt), .second, .val (.int xd)] [])) (st18) ?_
  refine own_Goes.via (T' := T18) (g' := (mkF m 20 #[.val (.ref ao), .val (.ref ar), .val (.ref af), .val (.ref aq), .val (.ref av), .val (.long xt), .second, .val (.int xd)] [(.ref ao)])) (fun t_ k_ => XS.aloadN X18.here hx rfl (hb hby d3_19) rfl rfl k_) ?_
  refine own_Goes.via (T' := T18) (g' := (mkF m 22 #[.val (.ref ao), .val (.ref ar), .val (.ref af), .val (.ref aq), .val (.ref av), .val (.long xt), .second, .val (.int xd)] [(.ref av), (.ref ao)])) (fun t_ k_ => XS.aload X18.here hx rfl (hb hby d3_20) rfl rfl k_) ?_
  obtain ⟨T26, h26, X26, e26, W26, st26⟩ := putF X18 hx hZ hown (host := "") (Or.inl (hw _ (List.mem_of_getElem? (i := 35) rfl))) Via.refl e18 F20 E19 (Or.inr ⟨(hw _ (List.mem_of_getElem? (i := 36) rfl)), rfl, hnm⟩) (hw _ (List.mem_of_getElem? (i := 10) rfl)) (ty := (.array .byte)) (by decide) rfl rfl (g := (mkF m 22 #[.val (.ref ao), .val (.ref ar), .val (.ref af), .val (.ref aq), .val (.ref av), .val (.long xt), .second, .val (.int xd)] [(.ref av), (.ref ao)])) rfl rfl (hb hby d3_22)
  have E27 : Exa Z h26 ao "com/example/keysweep/keysweep/Key" := E19.wr W26
  have F28 : Fld Z h26 ao "com/example/keysweep/keysweep/Key" "timestamp" "J" (.long (0 : Int64)) := F21.other W26 (Or.inr (slot_ne (Or.inr (hw _ (List.mem_of_getElem? (i := 38) rfl))) (Or.inr (hw _ (List.mem_of_getElem? (i := 36) rfl))) (by decide) (t := .long) (t' := (.array .byte)) (by decide) (by decide)))
  have F29 : Fld Z h26 ao "com/example/keysweep/keysweep/Key" "deleteMarker" "Z" (.int (0 : Int32)) := F22.other W26 (Or.inr (slot_ne (Or.inr (hw _ (List.mem_of_getElem? (i := 40) rfl))) (Or.inr (hw _ (List.mem_of_getElem? (i := 36) rfl))) (by decide) (t := .boolean) (t' := (.array .byte)) (by decide) (by decide)))
  have F30 : Fld Z h26 ao "com/example/keysweep/keysweep/Key" "row" "[B" (.ref ar) := F23.other W26 (Or.inr (slot_ne (Or.inr (hw _ (List.mem_of_getElem? (i := 30) rfl))) (Or.inr (hw _ (List.mem_of_getElem? (i := 36) rfl))) (by decide) (t := (.array .byte)) (t' := (.array .byte)) (by decide) (by decide)))
  have F31 : Fld Z h26 ao "com/example/keysweep/keysweep/Key" "family" "[B" (.ref af) := F24.other W26 (Or.inr (slot_ne (Or.inr (hw _ (List.mem_of_getElem? (i := 32) rfl))) (Or.inr (hw _ (List.mem_of_getElem? (i := 36) rfl))) (by decide) (t := (.array .byte)) (t' := (.array .byte)) (by decide) (by decide)))
  have F32 : Fld Z h26 ao "com/example/keysweep/keysweep/Key" "qualifier" "[B" (.ref aq) := F25.other W26 (Or.inr (slot_ne (Or.inr (hw _ (List.mem_of_getElem? (i := 34) rfl))) (Or.inr (hw _ (List.mem_of_getElem? (i := 36) rfl))) (by decide) (t := (.array .byte)) (t' := (.array .byte)) (by decide) (by decide)))
  have F33 : Fld Z h26 ao "com/example/keysweep/keysweep/Key" "visibility" "[B" (.ref av) := F20.same W26
  have N26 := Fr.snoc X26 N18 ge_ao
  have sz26 : n0 ≤ h26.size := Nat.le_trans sz18 (Keep.of_wr W26).1
  have K26 : Keep h0 h26 [ao] := (K18).wr W26 (Or.inl (List.mem_of_getElem? (i := 0) rfl))
  refine own_Goes.via (T' := T26) (g' := (mkF m 25 #[.val (.ref ao), .val (.ref ar), .val (.ref af), .val (.ref aq), .val (.ref av), .val (.long xt), .second, .val (.int xd)] [])) (st26) ?_
  refine own_Goes.via (T' := T26) (g' := (mkF m 26 #[.val (.ref ao), .val (.ref ar), .val (.ref af), .val (.ref aq), .val (.ref av), .val (.long xt), .second, .val (.int xd)] [(.ref ao)])) (fun t_ k_ => XS.aloadN X26.here hx rfl (hb hby d3_25) rfl rfl k_) ?_
  refine own_Goes.via (T' := T26) (g' := (mkF m 28 #[.val (.ref ao), .val (.ref ar), .val (.ref af), .val (.ref aq), .val (.ref av), .val (.long xt), .second, .val (.int xd)] [(.long xt), (.ref ao)])) (fun t_ k_ => XS.lload X26.here hx rfl (hb hby d3_26) rfl k_) ?_
  obtain ⟨T34, h34, X34, e34, W34, st34⟩ := putF X26 hx hZ hown (host := "") (Or.inl (hw _ (List.mem_of_getElem? (i := 37) rfl))) Via.refl e26 F28 E27 (Or.inr ⟨(hw _ (List.mem_of_getElem? (i := 38) rfl)), rfl, hnm⟩) (hw _ (List.mem_of_getElem? (i := 10) rfl)) (ty := .long) (by decide) rfl rfl (g := (mkF m 28 #[.val (.ref ao), .val (.ref ar), .val (.ref af), .val (.ref aq), .val (.ref av), .val (.long xt), .second, .val (.int xd)] [(.long xt), (.ref ao)])) rfl rfl (hb hby d3_28)
  have E35 : Exa Z h34 ao "com/example/keysweep/keysweep/Key" := E27.wr W34
  have F36 : Fld Z h34 ao "com/example/keysweep/keysweep/Key" "deleteMarker" "Z" (.int (0 : Int32)) := F29.other W34 (Or.inr (slot_ne (Or.inr (hw _ (List.mem_of_getElem? (i := 40) rfl))) (Or.inr (hw _ (List.mem_of_getElem? (i := 38) rfl))) (by decide) (t := .boolean) (t' := .long) (by decide) (by decide)))
  have F37 : Fld Z h34 ao "com/example/keysweep/keysweep/Key" "row" "[B" (.ref ar) := F30.other W34 (Or.inr (slot_ne (Or.inr (hw _ (List.mem_of_getElem? (i := 30) rfl))) (Or.inr (hw _ (List.mem_of_getElem? (i := 38) rfl))) (by decide) (t := (.array .byte)) (t' := .long) (by decide) (by decide)))
  have F38 : Fld Z h34 ao "com/example/keysweep/keysweep/Key" "family" "[B" (.ref af) := F31.other W34 (Or.inr (slot_ne (Or.inr (hw _ (List.mem_of_getElem? (i := 32) rfl))) (Or.inr (hw _ (List.mem_of_getElem? (i := 38) rfl))) (by decide) (t := (.array .byte)) (t' := .long) (by decide) (by decide)))
  have F39 : Fld Z h34 ao "com/example/keysweep/keysweep/Key" "qualifier" "[B" (.ref aq) := F32.other W34 (Or.inr (slot_ne (Or.inr (hw _ (List.mem_of_getElem? (i := 34) rfl))) (Or.inr (hw _ (List.mem_of_getElem? (i := 38) rfl))) (by decide) (t := (.array .byte)) (t' := .long) (by decide) (by decide)))
  have F40 : Fld Z h34 ao "com/example/keysweep/keysweep/Key" "visibility" "[B" (.ref av) := F33.other W34 (Or.inr (slot_ne (Or.inr (hw _ (List.mem_of_getElem? (i := 36) rfl))) (Or.inr (hw _ (List.mem_of_getElem? (i := 38) rfl))) (by decide) (t := (.array .byte)) (t' := .long) (by decide) (by decide)))
  have F41 : Fld Z h34 ao "com/example/keysweep/keysweep/Key" "timestamp" "J" (.long xt) := F28.same W34
  have N34 := Fr.snoc X34 N26 ge_ao
  have sz34 : n0 ≤ h34.size := Nat.le_trans sz26 (Keep.of_wr W34).1
  have K34 : Keep h0 h34 [ao] := (K26).wr W34 (Or.inl (List.mem_of_getElem? (i := 0) rfl))
  refine own_Goes.via (T' := T34) (g' := (mkF m 31 #[.val (.ref ao), .val (.ref ar), .val (.ref af), .val (.ref aq), .val (.ref av), .val (.long xt), .second, .val (.int xd)] [])) (st34) ?_
  refine own_Goes.via (T' := T34) (g' := (mkF m 32 #[.val (.ref ao), .val (.ref ar), .val (.ref af), .val (.ref aq), .val (.ref av), .val (.long xt), .second, .val (.int xd)] [(.ref ao)])) (fun t_ k_ => XS.aloadN X34.here hx rfl (hb hby d3_31) rfl rfl k_) ?_
  refine own_Goes.via (T' := T34) (g' := (mkF m 34 #[.val (.ref ao), .val (.ref ar), .val (.ref af), .val (.ref aq), .val (.ref av), .val (.long xt), .second, .val (.int xd)] [(.int xd), (.ref ao)])) (fun t_ k_ => XS.iload X34.here hx rfl (hb hby d3_32) rfl k_) ?_
  obtain ⟨T42, h42, X42, e42, W42, st42⟩ := putFN X34 hx hZ hown (hw _ (List.mem_of_getElem? (i := 39) rfl)) Via.refl e34 F36 E35 (Or.inr ⟨(hw _ (List.mem_of_getElem? (i := 40) rfl)), rfl, hnm⟩) (hw _ (List.mem_of_getElem? (i := 10) rfl)) (ty := .boolean) (v' := (.int (nar .boolean xd))) (by decide) rfl (fits_nar_bool _) (g := (mkF m 34 #[.val (.ref ao), .val (.ref ar), .val (.ref af), .val (.ref aq), .val (.ref av), .val (.long xt), .second, .val (.int xd)] [(.int xd), (.ref ao)])) rfl rfl (hb hby d3_34)
  have E43 : Exa Z h42 ao "com/example/keysweep/keysweep/Key" := E35.wr W42
  have F44 : Fld Z h42 ao "com/example/keysweep/keysweep/Key" "row" "[B" (.ref ar) := F37.other W42 (Or.inr (slot_ne (Or.inr (hw _ (List.mem_of_getElem? (i := 30) rfl))) (Or.inr (hw _ (List.mem_of_getElem? (i := 40) rfl))) (by decide) (t := (.array .byte)) (t' := .boolean) (by decide) (by decide)))
  have F45 : Fld Z h42 ao "com/example/keysweep/keysweep/Key" "family" "[B" (.ref af) := F38.other W42 (Or.inr (slot_ne (Or.inr (hw _ (List.mem_of_getElem? (i := 32) rfl))) (Or.inr (hw _ (List.mem_of_getElem? (i := 40) rfl))) (by decide) (t := (.array .byte)) (t' := .boolean) (by decide) (by decide)))
  have F46 : Fld Z h42 ao "com/example/keysweep/keysweep/Key" "qualifier" "[B" (.ref aq) := F39.other W42 (Or.inr (slot_ne (Or.inr (hw _ (List.mem_of_getElem? (i := 34) rfl))) (Or.inr (hw _ (List.mem_of_getElem? (i := 40) rfl))) (by decide) (t := (.array .byte)) (t' := .boolean) (by decide) (by decide)))
  have F47 : Fld Z h42 ao "com/example/keysweep/keysweep/Key" "visibility" "[B" (.ref av) := F40.other W42 (Or.inr (slot_ne (Or.inr (hw _ (List.mem_of_getElem? (i := 36) rfl))) (Or.inr (hw _ (List.mem_of_getElem? (i := 40) rfl))) (by decide) (t := (.array .byte)) (t' := .boolean) (by decide) (by decide)))
  have F48 : Fld Z h42 ao "com/example/keysweep/keysweep/Key" "timestamp" "J" (.long xt) := F41.other W42 (Or.inr (slot_ne (Or.inr (hw _ (List.mem_of_getElem? (i := 38) rfl))) (Or.inr (hw _ (List.mem_of_getElem? (i := 40) rfl))) (by decide) (t := .long) (t' := .boolean) (by decide) (by decide)))
  have F49 : Fld Z h42 ao "com/example/keysweep/keysweep/Key" "deleteMarker" "Z" (.int (nar .boolean xd)) := F36.same W42
  have N42 := Fr.snoc X42 N34 ge_ao
  have sz42 : n0 ≤ h42.size := Nat.le_trans sz34 (Keep.of_wr W42).1
  have K42 : Keep h0 h42 [ao] := (K34).wr W42 (Or.inl (List.mem_of_getElem? (i := 0) rfl))
  refine own_Goes.via (T' := T42) (g' := (mkF m 37 #[.val (.ref ao), .val (.ref ar), .val (.ref af), .val (.ref aq), .val (.ref av), .val (.long xt), .second, .val (.int xd)] [])) (st42) ?_
  obtain ⟨fs, hr, hrun, hended, hW, hsame⟩ := X42.leave (v := none) (fun _ => rfl)
  refine own_Goes.fin (X42.returnOut hx Bd.returns (hb hby d3_37) hr) hrun hended ?_
  subst hPd
  refine ⟨_, _, rfl, ?_, ⟨_, rfl⟩, hW, hsame.mono (by decide) (by decide)⟩
  show Q3 Z ao ar af aq av xt xd h0 n0 _ T42.heap _
  rw [e42]
  exact ⟨rfl, N42, K42, E43, F44, F45, F46, F47, F48, F49⟩
theorem d2_0 : decode prog_18_method_16_code 0 = .ok (.new 8, 3) := by decide +kernel
theorem d2_3 : decode prog_18_method_16_code 3 = .ok (.dup, 1) := by decide +kernel
theorem d2_4 : decode prog_18_method_16_code 4 = .ok (.aload_n 0, 1) := by decide +kernel
theorem d2_5 : decode prog_18_method_16_code 5 = .ok (.invokevirtual 1, 3) := by decide +kernel
theorem d2_8 : decode prog_18_method_16_code 8 = .ok (.checkcast 2, 3) := by decide +kernel
theorem d2_11 : decode prog_18_method_16_code 11 = .ok (.aload_n 1, 1) := by decide +kernel
theorem d2_12 : decode prog_18_method_16_code 12 = .ok (.invokevirtual 1, 3) := by decide +kernel
theorem d2_15 : decode prog_18_method_16_code 15 = .ok (.checkcast 2, 3) := by decide +kernel
theorem d2_18 : decode prog_18_method_16_code 18 = .ok (.aload_n 2, 1) := by decide +kernel
theorem d2_19 : decode prog_18_method_16_code 19 = .ok (.invokevirtual 1, 3) := by decide +kernel
theorem d2_22 : decode prog_18_method_16_code 22 = .ok (.checkcast 2, 3) := by decide +kernel
theorem d2_25 : decode prog_18_method_16_code 25 = .ok (.getstatic 91, 3) := by decide +kernel
theorem d2_28 : decode prog_18_method_16_code 28 = .ok (.ldc2_w 85, 3) := by decide +kernel
theorem d2_31 : decode prog_18_method_16_code 31 = .ok (.iconst 1, 1) := by decide +kernel
theorem d2_32 : decode prog_18_method_16_code 32 = .ok (.invokespecial 7, 3) := by decide +kernel
theorem d2_35 : decode prog_18_method_16_code 35 = .ok (.areturn, 1) := by decide +kernel
theorem pn_2 : plainName "com/example/keysweep/keysweep/Key" = true := by first | (simp [plainName, overriddenIn]; done) | decide +kernel
theorem pd_2_0 : parseMethodDescriptor "([B[B[B[BJZ)V" = some ⟨[(.array .byte), (.array .byte), (.array .byte), (.array .byte), .long, .boolean], none⟩ := by decide +kernel
theorem ef_2 (m : MethodId) (ar : Addr) (af : Addr) (aq : Addr) : entryFrame m #[(.ref ar), (.ref af), (.ref aq)] 3 = mkF m 0 #[.val (.ref ar), .val (.ref af), .val (.ref aq)] [] := by first | (simp [entryFrame, mkF, argsToLocals, Value.category]; done) | rfl
def Q2 (Z : State) (ar : Addr) (af : Addr) (aq : Addr) (kr : ClassId) (xlr : Int32) (xr0 : Int32) (xr1 : Int32) (xr2 : Int32) (kf : ClassId) (xlf : Int32) (xf0 : Int32) (xf1 : Int32) (xf2 : Int32) (kq : ClassId) (xlq : Int32) (xq0 : Int32) (xq1 : Int32) (xq2 : Int32) (s_EMPTY : Addr) (h0 : Heap) (n0 : Nat) (v : Option Value) (h : Heap) (L : List Loc) : Prop := ∃ (bk : Addr) (br : Addr) (bf : Addr) (bq : Addr), v = some (.ref bk) ∧ Fr n0 L ∧ Keep h0 h [] ∧ (h0.size ≤ bk ∧ n0 ≤ bk) ∧ (h0.size ≤ br ∧ n0 ≤ br) ∧ (h0.size ≤ bf ∧ n0 ≤ bf) ∧ (h0.size ≤ bq ∧ n0 ≤ bq) ∧ bk ≠ br ∧ bk ≠ bf ∧ bk ≠ bq ∧ br ≠ bf ∧ br ≠ bq ∧ bf ≠ bq ∧ Exa Z h bk "com/example/keysweep/keysweep/Key" ∧ Fld Z h bk "com/example/keysweep/keysweep/Key" "row" "[B" (.ref br) ∧ Fld Z h bk "com/example/keysweep/keysweep/Key" "family" "[B" (.ref bf) ∧ Fld Z h bk "com/example/keysweep/keysweep/Key" "qualifier" "[B" (.ref bq) ∧ Fld Z h bk "com/example/keysweep/keysweep/Key" "visibility" "[B" (.ref s_EMPTY) ∧ Fld Z h bk "com/example/keysweep/keysweep/Key" "timestamp" "J" (.long (9223372036854775807 : Int64)) ∧ Fld Z h bk "com/example/keysweep/keysweep/Key" "deleteMarker" "Z" (.int (nar .boolean (1 : Int32))) ∧ Exa Z h br "[B" ∧ Arv Z h br kr .byte xlr [(.int xr0), (.int xr1), (.int xr2)] (.int (0 : Int32)) ∧ Exa Z h bf "[B" ∧ Arv Z h bf kf .byte xlf [(.int xf0), (.int xf1), (.int xf2)] (.int (0 : Int32)) ∧ Exa Z h bq "[B" ∧ Arv Z h bq kq .byte xlq [(.int xq0), (.int xq1), (.int xq2)] (.int (0 : Int32))
set_option maxRecDepth 65536 in
set_option maxHeartbeats 40000000 in
theorem rm2 (l : Launch) (Z : State) (a0 : Array Value) (hw : ∀ d ∈ tables_1, d.before a0 Z = true) (ws : List Jvm.Cond) (ar : Addr) (af : Addr) (aq : Addr) (kr : ClassId) (xlr : Int32) (xr0 : Int32) (xr1 : Int32) (xr2 : Int32) (kf : ClassId) (xlf : Int32) (xf0 : Int32) (xf1 : Int32) (xf2 : Int32) (kq : ClassId) (xlq : Int32) (xq0 : Int32) (xq1 : Int32) (xq2 : Int32) (s_EMPTY : Addr) (h0 : Heap) (n0 : Nat) (Z0 : n0 ≤ h0.size) (PF0 : Exa Z h0 ar "[B") (PF1 : Arv Z h0 ar kr .byte xlr [(.int xr0), (.int xr1), (.int xr2)] (.int (0 : Int32))) (PF2 : Exa Z h0 af "[B") (PF3 : Arv Z h0 af kf .byte xlf [(.int xf0), (.int xf1), (.int xf2)] (.int (0 : Int32))) (PF4 : Exa Z h0 aq "[B") (PF5 : Arv Z h0 aq kq .byte xlq [(.int xq0), (.int xq1), (.int xq2)] (.int (0 : Int32))) (OL : Old Z n0 h0) (hc1 : xlr.toNatClampNeg ≤ 3) (hc2 : xlf.toNatClampNeg ≤ 3) (hc3 : xlq.toNatClampNeg ≤ 3) (S_EMPTY : Sta Z Z.heap "com/example/keysweep/keysweep/Key" "EMPTY" "[B" (.ref s_EMPTY)) :
    MetFree l (⟨"com/example/keysweep/keysweep/Key", "firstOf", "([B[B[B)Lcom/example/keysweep/keysweep/Key;"⟩ : MethodName) (head1 (Jvm.Cond.code (⟨"com/example/keysweep/keysweep/Key", "firstOf", "([B[B[B)Lcom/example/keysweep/keysweep/Key;"⟩ : MethodName) prog_18_method_16_code 3 (some (.object "com/example/keysweep/keysweep/Key")) :: ws) ({ frames := 2, cells := 4, slots := 15, locals := 32 } : Room)) (fun a U => a = #[(.ref ar), (.ref af), (.ref aq)] ∧ Z.Warmed39 U.vm ∧ U.heap = h0) (fun _ _ _ _ _ => True) (fun _ U o U' => ∃ v L, o = .returned v ∧ Q2 Z ar af aq kr xlr xr0 xr1 xr2 kf xlf xf0 xf1 xf2 kq xlq xq0 xq1 xq2 s_EMPTY h0 n0 v U'.heap L ∧ FrameEnd U o U' L ({ frames := 2, cells := 4, slots := 15, locals := 32 } : Room).cells ({ frames := 2, cells := 4, slots := 15, locals := 32 } : Room).slots) := by
  refine MetFree.of_bodySF (plainFor_of_name pn_2) hisR ?_
  intro p e s m args below meth c s₁ Bd hml0 hP hK
  obtain ⟨rfl, hZ, hh⟩ := hP
  have hx := Bd.exec
  have hby := Bd.bytes
  have hml : c.maxLocals = 3 := hml0
  have hown : s.vm.findClass "com/example/keysweep/keysweep/Key" = some m.cls := findClass_of_methodNamed Bd.named
  have hnm := (name_of_methodNamed Bd.named Bd.method).1
  have X0 : Stand p l e ({ frames := 2, cells := 4, slots := 15, locals := 32 } : Room) s m #[(.ref ar), (.ref af), (.ref aq)] below meth c s₁ [] 0 0 := Stand.of_body Bd
  have e0 : s₁.heap = h0 := by rw [← hh, Bd.state]; rfl
  have N0 := Fr.nil n0
  suffices G : own_Goes p.tables e below (fun o U' => ∃ v L, o = .returned v ∧ Q2 Z ar af aq kr xlr xr0 xr1 xr2 kf xlf xf0 xf1 xf2 kq xlq xq0 xq1 xq2 s_EMPTY h0 n0 v U'.heap L ∧ FrameEnd s o U' L ({ frames := 2, cells := 4, slots := 15, locals := 32 } : Room).cells ({ frames := 2, cells := 4, slots := 15, locals := 32 } : Room).slots) s₁ (mkF m 0 #[.val (.ref ar), .val (.ref af), .val (.ref aq)] []) by
    obtain ⟨t2_, o2_, z1_, z2_, z3_, z4_⟩ := G
    exact ⟨t2_, o2_, castTop (ef_2 m ar af aq) z1_, z2_, z3_, z4_⟩
  generalize hPd : (fun (o : Outcome) (U' : State) => ∃ v L, o = .returned v ∧ Q2 Z ar af aq kr xlr xr0 xr1 xr2 kf xlf xf0 xf1 xf2 kq xlq xq0 xq1 xq2 s_EMPTY h0 n0 v U'.heap L ∧ FrameEnd s o U' L ({ frames := 2, cells := 4, slots := 15, locals := 32 } : Room).cells ({ frames := 2, cells := 4, slots := 15, locals := 32 } : Room).slots) = P
  obtain ⟨T1, h1, X1, e1, E1, A1, D1, -, st1⟩ := newO X0 hx hZ hown (hw _ (List.mem_of_getElem? (i := 9) rfl)) (hw _ (List.mem_of_getElem? (i := 10) rfl)) (hw _ (List.mem_of_getElem? (i := 7) rfl)) e0 (g := (mkF m 0 #[.val (.ref ar), .val (.ref af), .val (.ref aq)] [])) rfl (hb hby d2_0) (by decide) (by decide)
  obtain ⟨b1, g1⟩ : ∃ z, z = h0.size := ⟨_, rfl⟩
  rw [← g1] at A1 D1 st1
  have ne_ar_b1 : ar ≠ b1 := Nat.ne_of_lt (Nat.lt_of_lt_of_le PF0.lt (Nat.le_of_eq g1.symm))
  have ne_af_b1 : af ≠ b1 := Nat.ne_of_lt (Nat.lt_of_lt_of_le PF2.lt (Nat.le_of_eq g1.symm))
  have ne_aq_b1 : aq ≠ b1 := Nat.ne_of_lt (Nat.lt_of_lt_of_le PF4.lt (Nat.le_of_eq g1.symm))
  have E2 : Exa Z h1 ar "[B" := PF0.ext E1
  have V3 : Arv Z h1 ar kr .byte xlr [(.int xr0), (.int xr1), (.int xr2)] (.int (0 : Int32)) := PF1.ext E1
  have E4 : Exa Z h1 af "[B" := PF2.ext E1
  have V5 : Arv Z h1 af kf .byte xlf [(.int xf0), (.int xf1), (.int xf2)] (.int (0 : Int32)) := PF3.ext E1
  have E6 : Exa Z h1 aq "[B" := PF4.ext E1
  have V7 : Arv Z h1 aq kq .byte xlq [(.int xq0), (.int xq1), (.int xq2)] (.int (0 : Int32)) := PF5.ext E1
  have O8 : Old Z n0 h1 := OL.ext E1
  have ge_b1 : n0 ≤ b1 := Nat.le_trans Z0 (Nat.le_of_eq g1.symm)
  have sz_b1 : h0.size ≤ b1 := Nat.le_trans ((Keep.refl h0 [])).1 (Nat.le_of_eq g1.symm)
  have sz1 : n0 ≤ h1.size := Nat.le_trans Z0 E1.1
  have K1 : Keep h0 h1 [] := ((Keep.refl h0 [])).ext E1
  have E9 : Exa Z h1 b1 "com/example/keysweep/keysweep/Key" := A1
  have F10 : Fld Z h1 b1 "com/example/keysweep/keysweep/Key" "row" "[B" .null := D1 (Or.inr (hw _ (List.mem_of_getElem? (i := 30) rfl))) (ty := (.array .byte)) (by decide)
  have F11 : Fld Z h1 b1 "com/example/keysweep/keysweep/Key" "family" "[B" .null := D1 (Or.inr (hw _ (List.mem_of_getElem? (i := 32) rfl))) (ty := (.array .byte)) (by decide)
  have F12 : Fld Z h1 b1 "com/example/keysweep/keysweep/Key" "qualifier" "[B" .null := D1 (Or.inr (hw _ (List.mem_of_getElem? (i := 34) rfl))) (ty := (.array .byte)) (by decide)
  have F13 : Fld Z h1 b1 "com/example/keysweep/keysweep/Key" "visibility" "[B" .null := D1 (Or.inr (hw _ (List.mem_of_getElem? (i := 36) rfl))) (ty := (.array .byte)) (by decide)
  have F14 : Fld Z h1 b1 "com/example/keysweep/keysweep/Key" "timestamp" "J" (.long (0 : Int64)) := D1 (Or.inr (hw _ (List.mem_of_getElem? (i := 38) rfl))) (ty := .long) (by decide)
  have F15 : Fld Z h1 b1 "com/example/keysweep/keysweep/Key" "deleteMarker" "Z" (.int (0 : Int32)) := D1 (Or.inr (hw _ (List.mem_of_getElem? (i := 40) rfl))) (ty := .boolean) (by decide)
  refine own_Goes.via (T' := T1) (g' := (mkF m 3 #[.val (.ref ar), .val (.ref af), .val (.ref aq)] [(.ref b1)])) (st1) ?_
  refine own_Goes.via (T' := T1) (g' := (mkF m 4 #[.val (.ref ar), .val (.ref af), .val (.ref aq)] [(.ref b1), (.ref b1)])) (fun t_ k_ => XS.dup X1.here hx rfl (hb hby d2_3) rfl rfl k_) ?_
  refine own_Goes.via (T' := T1) (g' := (mkF m 5 #[.val (.ref ar), .val (.ref af), .val (.ref aq)] [(.ref ar), (.ref b1), (.ref b1)])) (fun t_ k_ => XS.aloadN X1.here hx rfl (hb hby d2_4) rfl rfl k_) ?_
  have hcap5_17 : xlr.toNatClampNeg ≤ 3 := by first | assumption | decide
  obtain ⟨T16, h16, X16, e16, E16, A16, Ea16, st16⟩ := cloneH X1 hx hZ hown (hw _ (List.mem_of_getElem? (i := 11) rfl)) (hw _ (List.mem_of_getElem? (i := 12) rfl)) (hw _ (List.mem_of_getElem? (i := 16) rfl)) (hw _ (List.mem_of_getElem? (i := 14) rfl)) (hw _ (List.mem_of_getElem? (i := 15) rfl)) (hw _ (List.mem_of_getElem? (i := 17) rfl)) e1 V3.arh E2 (g := (mkF m 5 #[.val (.ref ar), .val (.ref af), .val (.ref aq)] [(.ref ar), (.ref b1), (.ref b1)])) rfl (by rw [hml]; rfl) rfl (hb hby d2_5) (by decide) (W := 2) (cap := 3) (by show 2 * 0 + _ ≤ _; exact Nat.le_of_eq rfl) (by decide) hcap5_17 (by decide) (by decide)
  obtain ⟨b16, g16⟩ : ∃ z, z = h1.size := ⟨_, rfl⟩
  rw [← g16] at A16 Ea16 st16
  have ne_ar_b16 : ar ≠ b16 := Nat.ne_of_lt (Nat.lt_of_lt_of_le E2.lt (Nat.le_of_eq g16.symm))
  have ne_af_b16 : af ≠ b16 := Nat.ne_of_lt (Nat.lt_of_lt_of_le E4.lt (Nat.le_of_eq g16.symm))
  have ne_aq_b16 : aq ≠ b16 := Nat.ne_of_lt (Nat.lt_of_lt_of_le E6.lt (Nat.le_of_eq g16.symm))
  have ne_b1_b16 : b1 ≠ b16 := Nat.ne_of_lt (Nat.lt_of_lt_of_le E9.lt (Nat.le_of_eq g16.symm))
  have E18 : Exa Z h16 ar "[B" := E2.ext E16
  have V19 : Arv Z h16 ar kr .byte xlr [(.int xr0), (.int xr1), (.int xr2)] (.int (0 : Int32)) := V3.ext E16
  have E20 : Exa Z h16 af "[B" := E4.ext E16
  have V21 : Arv Z h16 af kf .byte xlf [(.int xf0), (.int xf1), (.int xf2)] (.int (0 : Int32)) := V5.ext E16
  have E22 : Exa Z h16 aq "[B" := E6.ext E16
  have V23 : Arv Z h16 aq kq .byte xlq [(.int xq0), (.int xq1), (.int xq2)] (.int (0 : Int32)) := V7.ext E16
  have O24 : Old Z n0 h16 := O8.ext E16
  have E25 : Exa Z h16 b1 "com/example/keysweep/keysweep/Key" := E9.ext E16
  have F26 : Fld Z h16 b1 "com/example/keysweep/keysweep/Key" "row" "[B" .null := F10.ext E16
  have F27 : Fld Z h16 b1 "com/example/keysweep/keysweep/Key" "family" "[B" .null := F11.ext E16
  have F28 : Fld Z h16 b1 "com/example/keysweep/keysweep/Key" "qualifier" "[B" .null := F12.ext E16
  have F29 : Fld Z h16 b1 "com/example/keysweep/keysweep/Key" "visibility" "[B" .null := F13.ext E16
  have F30 : Fld Z h16 b1 "com/example/keysweep/keysweep/Key" "timestamp" "J" (.long (0 : Int64)) := F14.ext E16
  have F31 : Fld Z h16 b1 "com/example/keysweep/keysweep/Key" "deleteMarker" "Z" (.int (0 : Int32)) := F15.ext E16
  have ge_b16 : n0 ≤ b16 := Nat.le_trans sz1 (Nat.le_of_eq g16.symm)
  have sz_b16 : h0.size ≤ b16 := Nat.le_trans (K1).1 (Nat.le_of_eq g16.symm)
  have sz16 : n0 ≤ h16.size := Nat.le_trans sz1 E16.1
  have K16 : Keep h0 h16 [] := (K1).ext E16
  have E32 : Exa Z h16 b16 "[B" := Ea16
  have V33 : Arv Z h16 b16 kr .byte xlr [(.int xr0), (.int xr1), (.int xr2)] (.int (0 : Int32)) := A16
  refine own_Goes.via (T' := T16) (g' := (mkF m 8 #[.val (.ref ar), .val (.ref af), .val (.ref aq)] [(.ref b16), (.ref b1), (.ref b1)])) (st16) ?_
  obtain ⟨T34, X34, e34, st34⟩ := castY X16 hx hZ hown (hw _ (List.mem_of_getElem? (i := 18) rfl)) e16 (Ins.self E32) (g := (mkF m 8 #[.val (.ref ar), .val (.ref af), .val (.ref aq)] [(.ref b16), (.ref b1), (.ref b1)])) rfl rfl (hb hby d2_8)
  refine own_Goes.via (T' := T34) (g' := (mkF m 11 #[.val (.ref ar), .val (.ref af), .val (.ref aq)] [(.ref b16), (.ref b1), (.ref b1)])) (st34) ?_
  refine own_Goes.via (T' := T34) (g' := (mkF m 12 #[.val (.ref ar), .val (.ref af), .val (.ref aq)] [(.ref af), (.ref b16), (.ref b1), (.ref b1)])) (fun t_ k_ => XS.aloadN X34.here hx rfl (hb hby d2_11) rfl rfl k_) ?_
  have hcap12_36 : xlf.toNatClampNeg ≤ 3 := by first | assumption | decide
  obtain ⟨T35, h35, X35, e35, E35, A35, Ea35, st35⟩ := cloneH X34 hx hZ hown (hw _ (List.mem_of_getElem? (i := 11) rfl)) (hw _ (List.mem_of_getElem? (i := 12) rfl)) (hw _ (List.mem_of_getElem? (i := 16) rfl)) (hw _ (List.mem_of_getElem? (i := 14) rfl)) (hw _ (List.mem_of_getElem? (i := 15) rfl)) (hw _ (List.mem_of_getElem? (i := 17) rfl)) e34 V21.arh E20 (g := (mkF m 12 #[.val (.ref ar), .val (.ref af), .val (.ref aq)] [(.ref af), (.ref b16), (.ref b1), (.ref b1)])) rfl (by rw [hml]; rfl) rfl (hb hby d2_12) (by decide) (W := 3) (cap := 3) (by show 2 * 0 + _ ≤ _; exact Nat.le_of_eq rfl) (by decide) hcap12_36 (by decide) (by decide)
  obtain ⟨b35, g35⟩ : ∃ z, z = h16.size := ⟨_, rfl⟩
  rw [← g35] at A35 Ea35 st35
  have ne_ar_b35 : ar ≠ b35 := Nat.ne_of_lt (Nat.lt_of_lt_of_le E18.lt (Nat.le_of_eq g35.symm))
  have ne_af_b35 : af ≠ b35 := Nat.ne_of_lt (Nat.lt_of_lt_of_le E20.lt (Nat.le_of_eq g35.symm))
  have ne_aq_b35 : aq ≠ b35 := Nat.ne_of_lt (Nat.lt_of_lt_of_le E22.lt (Nat.le_of_eq g35.symm))
  have ne_b1_b35 : b1 ≠ b35 := Nat.ne_of_lt (Nat.lt_of_lt_of_le E25.lt (Nat.le_of_eq g35.symm))
  have ne_b16_b35 : b16 ≠ b35 := Nat.ne_of_lt (Nat.lt_of_lt_of_le E32.lt (Nat.le_of_eq g35.symm))
  have E37 : Exa Z h35 ar "[B" := E18.ext E35
  have V38 : Arv Z h35 ar kr .byte xlr [(.int xr0), (.int xr1), (.int xr2)] (.int (0 : Int32)) := V19.ext E35
  have E39 : Exa Z h35 af "[B" := E20.ext E35
  have V40 : Arv Z h35 af kf .byte xlf [(.int xf0), (.int xf1), (.int xf2)] (.int (0 : Int32)) := V21.ext E35
  have E41 : Exa Z h35 aq "[B" := E22.ext E35
  have V42 : Arv Z h35 aq kq .byte xlq [(.int xq0), (.int xq1), (.int xq2)] (.int (0 : Int32)) := V23.ext E35
  have O43 : Old Z n0 h35 := O24.ext E35
  have E44 : Exa Z h35 b1 "com/example/keysweep/keysweep/Key" := E25.ext E35
  have F45 : Fld Z h35 b1 "com/example/keysweep/keysweep/Key" "row" "[B" .null := F26.ext E35
  have F46 : Fld Z h35 b1 "com/example/keysweep/keysweep/Key" "family" "[B" .null := F27.ext E35
  have F47 : Fld Z h35 b1 "com/example/keysweep/keysweep/Key" "qualifier" "[B" .null := F28.ext E35
  have F48 : Fld Z h35 b1 "com/example/keysweep/keysweep/Key" "visibility" "[B" .null := F29.ext E35
  have F49 : Fld Z h35 b1 "com/example/keysweep/keysweep/Key" "timestamp" "J" (.long (0 : Int64)) := F30.ext E35
  have F50 : Fld Z h35 b1 "com/example/keysweep/keysweep/Key" "deleteMarker" "Z" (.int (0 : Int32)) := F31.ext E35
  have E51 : Exa Z h35 b16 "[B" := E32.ext E35
  have V52 : Arv Z h35 b16 kr .byte xlr [(.int xr0), (.int xr1), (.int xr2)] (.int (0 : Int32)) := V33.ext E35
  have ge_b35 : n0 ≤ b35 := Nat.le_trans sz16 (Nat.le_of_eq g35.symm)
  have sz_b35 : h0.size ≤ b35 := Nat.le_trans (K16).1 (Nat.le_of_eq g35.symm)
  have sz35 : n0 ≤ h35.size := Nat.le_trans sz16 E35.1
  have K35 : Keep h0 h35 [] := (K16).ext E35
  have E53 : Exa Z h35 b35 "[B" := Ea35
  have V54 : Arv Z h35 b35 kf .byte xlf [(.int xf0), (.int xf1), (.int xf2)] (.int (0 : Int32)) := A35
  refine own_Goes.via (T' := T35) (g' := (mkF m 15 #[.val (.ref ar), .val (.ref af), .val (.ref aq)] [(.ref b35), (.ref b16), (.ref b1), (.ref b1)])) (st35) ?_
  obtain ⟨T55, X55, e55, st55⟩ := castY X35 hx hZ hown (hw _ (List.mem_of_getElem? (i := 18) rfl)) e35 (Ins.self E53) (g := (mkF m 15 #[.val (.ref ar), .val (.ref af), .val (.ref aq)] [(.ref b35), (.ref b16), (.ref b1), (.ref b1)])) rfl rfl (hb hby d2_15)
  refine own_Goes.via (T' := T55) (g' := (mkF m 18 #[.val (.ref ar), .val (.ref af), .val (.ref aq)] [(.ref b35), (.ref b16), (.ref b1), (.ref b1)])) (st55) ?_
  refine own_Goes.via (T' := T55) (g' := (mkF m 19 #[.val (.ref ar), .val (.ref af), .val (.ref aq)] [(.ref aq), (.ref b35), (.ref b16), (.ref b1), (.ref b1)])) (fun t_ k_ => XS.aloadN X55.here hx rfl (hb hby d2_18) rfl rfl k_) ?_
  have hcap19_57 : xlq.toNatClampNeg ≤ 3 := by first | assumption | decide
  obtain ⟨T56, h56, X56, e56, E56, A56, Ea56, st56⟩ := cloneH X55 hx hZ hown (hw _ (List.mem_of_getElem? (i := 11) rfl)) (hw _ (List.mem_of_getElem? (i := 12) rfl)) (hw _ (List.mem_of_getElem? (i := 16) rfl)) (hw _ (List.mem_of_getElem? (i := 14) rfl)) (hw _ (List.mem_of_getElem? (i := 15) rfl)) (hw _ (List.mem_of_getElem? (i := 17) rfl)) e55 V42.arh E41 (g := (mkF m 19 #[.val (.ref ar), .val (.ref af), .val (.ref aq)] [(.ref aq), (.ref b35), (.ref b16), (.ref b1), (.ref b1)])) rfl (by rw [hml]; rfl) rfl (hb hby d2_19) (by decide) (W := 4) (cap := 3) (by show 2 * 0 + _ ≤ _; exact Nat.le_of_eq rfl) (by decide) hcap19_57 (by decide) (by decide)
  obtain ⟨b56, g56⟩ : ∃ z, z = h35.size := ⟨_, rfl⟩
  rw [← g56] at A56 Ea56 st56
  have ne_ar_b56 : ar ≠ b56 := Nat.ne_of_lt (Nat.lt_of_lt_of_le E37.lt (Nat.le_of_eq g56.symm))
  have ne_af_b56 : af ≠ b56 := Nat.ne_of_lt (Nat.lt_of_lt_of_le E39.lt (Nat.le_of_eq g56.symm))
  have ne_aq_b56 : aq ≠ b56 := Nat.ne_of_lt (Nat.lt_of_lt_of_le E41.lt (Nat.le_of_eq g56.symm))
  have ne_b1_b56 : b1 ≠ b56 := Nat.ne_of_lt (Nat.lt_of_lt_of_le E44.lt (Nat.le_of_eq g56.symm))
  have ne_b16_b56 : b16 ≠ b56 := Nat.ne_of_lt (Nat.lt_of_lt_of_le E51.lt (Nat.le_of_eq g56.symm))
  have ne_b35_b56 : b35 ≠ b56 := Nat.ne_of_lt (Nat.lt_of_lt_of_le E53.lt (Nat.le_of_eq g56.symm))
  have E58 : Exa Z h56 ar "[B" := E37.ext E56
  have V59 : Arv Z h56 ar kr .byte xlr [(.int xr0), (.int xr1), (.int xr2)] (.int (0 : Int32)) := V38.ext E56
  have E60 : Exa Z h56 af "[B" := E39.ext E56
  have V61 : Arv Z h56 af kf .byte xlf [(.int xf0), (.int xf1), (.int xf2)] (.int (0 : Int32)) := V40.ext E56
  have E62 : Exa Z h56 aq "[B" := E41.ext E56
  have V63 : Arv Z h56 aq kq .byte xlq [(.int xq0), (.int xq1), (.int xq2)] (.int (0 : Int32)) := V42.ext E56
  have O64 : Old Z n0 h56 := O43.ext E56
  have E65 : Exa Z h56 b1 "com/example/keysweep/keysweep/Key" := E44.ext E56
  have F66 : Fld Z h56 b1 "com/example/keysweep/keysweep/Key" "row" "[B" .null := F45.ext E56
  have F67 : Fld Z h56 b1 "com/example/keysweep/keysweep/Key" "family" "[B" .null := F46.ext E56
  have F68 : Fld Z h56 b1 "com/example/keysweep/keysweep/Key" "qualifier" "[B" .null := F47.ext E56
  have F69 : Fld Z h56 b1 "com/example/keysweep/keysweep/Key" "visibility" "[B" .null := F48.ext E56
  have F70 : Fld Z h56 b1 "com/example/keysweep/keysweep/Key" "timestamp" "J" (.long (0 : Int64)) := F49.ext E56
  have F71 : Fld Z h56 b1 "com/example/keysweep/keysweep/Key" "deleteMarker" "Z" (.int (0 : Int32)) := F50.ext E56
  have E72 : Exa Z h56 b16 "[B" := E51.ext E56
  have V73 : Arv Z h56 b16 kr .byte xlr [(.int xr0), (.int xr1), (.int xr2)] (.int (0 : Int32)) := V52.ext E56
  have E74 : Exa Z h56 b35 "[B" := E53.ext E56
  have V75 : Arv Z h56 b35 kf .byte xlf [(.int xf0), (.int xf1), (.int xf2)] (.int (0 : Int32)) := V54.ext E56
  have ge_b56 : n0 ≤ b56 := Nat.le_trans sz35 (Nat.le_of_eq g56.symm)
  have sz_b56 : h0.size ≤ b56 := Nat.le_trans (K35).1 (Nat.le_of_eq g56.symm)
  have sz56 : n0 ≤ h56.size := Nat.le_trans sz35 E56.1
  have K56 : Keep h0 h56 [] := (K35).ext E56
  have E76 : Exa Z h56 b56 "[B" := Ea56
  have V77 : Arv Z h56 b56 kq .byte xlq [(.int xq0), (.int xq1), (.int xq2)] (.int (0 : Int32)) := A56
  refine own_Goes.via (T' := T56) (g' := (mkF m 22 #[.val (.ref ar), .val (.ref af), .val (.ref aq)] [(.ref b56), (.ref b35), (.ref b16), (.ref b1), (.ref b1)])) (st56) ?_
  obtain ⟨T78, X78, e78, st78⟩ := castY X56 hx hZ hown (hw _ (List.mem_of_getElem? (i := 18) rfl)) e56 (Ins.self E76) (g := (mkF m 22 #[.val (.ref ar), .val (.ref af), .val (.ref aq)] [(.ref b56), (.ref b35), (.ref b16), (.ref b1), (.ref b1)])) rfl rfl (hb hby d2_22)
  refine own_Goes.via (T' := T78) (g' := (mkF m 25 #[.val (.ref ar), .val (.ref af), .val (.ref aq)] [(.ref b56), (.ref b35), (.ref b16), (.ref b1), (.ref b1)])) (st78) ?_
  obtain ⟨T79, X79, e79, st79⟩ := getS2 X78 hx hZ hown (host := "") (Or.inl (hw _ (List.mem_of_getElem? (i := 20) rfl))) Via.refl e78 (S_EMPTY.ext O64.2) (g := (mkF m 25 #[.val (.ref ar), .val (.ref af), .val (.ref aq)] [(.ref b56), (.ref b35), (.ref b16), (.ref b1), (.ref b1)])) rfl (hb hby d2_25)
  refine own_Goes.via (T' := T79) (g' := (mkF m 28 #[.val (.ref ar), .val (.ref af), .val (.ref aq)] [(.ref s_EMPTY), (.ref b56), (.ref b35), (.ref b16), (.ref b1), (.ref b1)])) (st79) ?_
  refine own_Goes.via (T' := T79) (g' := (mkF m 31 #[.val (.ref ar), .val (.ref af), .val (.ref aq)] [(.long (9223372036854775807 : Int64)), (.ref s_EMPTY), (.ref b56), (.ref b35), (.ref b16), (.ref b1), (.ref b1)])) (X79.ldc2Long hx hown (mvT hZ (hw _ (List.mem_of_getElem? (i := 22) rfl))) (g := (mkF m 28 #[.val (.ref ar), .val (.ref af), .val (.ref aq)] [(.ref s_EMPTY), (.ref b56), (.ref b35), (.ref b16), (.ref b1), (.ref b1)])) rfl (hb hby d2_28)) ?_
  refine own_Goes.via (T' := T79) (g' := (mkF m 32 #[.val (.ref ar), .val (.ref af), .val (.ref aq)] [(.int (1 : Int32)), (.long (9223372036854775807 : Int64)), (.ref s_EMPTY), (.ref b56), (.ref b35), (.ref b16), (.ref b1), (.ref b1)])) (fun t_ k_ => XS.iconst X79.here hx rfl (hb hby d2_31) k_) ?_
  obtain ⟨_, _, ⟨T80, L80, k80, n80⟩, -, X80, ⟨Lc80, hQ80, l80, y80, z80⟩, st80⟩ := X79.specialBack hx (y := (⟨"com/example/keysweep/keysweep/Key", "<init>", "([B[B[B[BJZ)V"⟩ : MethodName)) rfl hown (mvT hZ (hw _ (List.mem_of_getElem? (i := 23) rfl))) (mvT hZ (hw _ (List.mem_of_getElem? (i := 24) rfl))) (mvT hZ (hw _ (List.mem_of_getElem? (i := 25) rfl))) (by decide) (backOf (W := 1) (rm3 l Z a0 hw [] b1 b16 b35 b56 s_EMPTY (9223372036854775807 : Int64) (1 : Int32) h56 n0 sz56 E65 F66 F67 F68 F69 F70 F71 ge_b1) hZ (hw _ (List.mem_of_getElem? (i := 25) rfl)) (hw _ (List.mem_of_getElem? (i := 7) rfl)) (by decide) (by decide)) (g := (mkF m 32 #[.val (.ref ar), .val (.ref af), .val (.ref aq)] [(.int (1 : Int32)), (.long (9223372036854775807 : Int64)), (.ref s_EMPTY), (.ref b56), (.ref b35), (.ref b16), (.ref b1), (.ref b1)])) rfl (by rw [hml]; rfl) (Steps.refl _) (a := b1) (argsL := [(.ref b16), (.ref b35), (.ref b56), (.ref s_EMPTY), (.long (9223372036854775807 : Int64)), (.int (1 : Int32))]) (rest := [(.ref b1)]) (lenOf pd_2_0 rfl) rfl (by show 2 * 0 + _ ≤ _; exact Nat.le_of_eq rfl) (hb hby d2_32) (fun _ _ => ⟨rfl, e79, (by decide : 4 + 0 ≤ _), (by decide : 15 + 0 ≤ _)⟩)
  dsimp only [Pt.U, Pt.locs, Pt.cells, Pt.slots] at X80 l80 y80 z80 st80 hQ80
  subst l80 y80 z80
  obtain ⟨rfl, Nq80, Kq80, pf80_0, pf80_1, pf80_2, pf80_3, pf80_4, pf80_5, pf80_6⟩ := hQ80
  have N80 := Fr.app N0 Nq80
  have E81 : Exa Z T80.heap ar "[B" := E58.keep Kq80
  have V82 : Arv Z T80.heap ar kr .byte xlr [(.int xr0), (.int xr1), (.int xr2)] (.int (0 : Int32)) := V59.keep Kq80 (ninS ne_ar_b1 nin0)
  have E83 : Exa Z T80.heap af "[B" := E60.keep Kq80
  have V84 : Arv Z T80.heap af kf .byte xlf [(.int xf0), (.int xf1), (.int xf2)] (.int (0 : Int32)) := V61.keep Kq80 (ninS ne_af_b1 nin0)
  have E85 : Exa Z T80.heap aq "[B" := E62.keep Kq80
  have V86 : Arv Z T80.heap aq kq .byte xlq [(.int xq0), (.int xq1), (.int xq2)] (.int (0 : Int32)) := V63.keep Kq80 (ninS ne_aq_b1 nin0)
  have O87 : Old Z n0 T80.heap := O64.keep Kq80 (allS ge_b1 all0)
  have E88 : Exa Z T80.heap b1 "com/example/keysweep/keysweep/Key" := E65.keep Kq80
  have E89 : Exa Z T80.heap b16 "[B" := E72.keep Kq80
  have V90 : Arv Z T80.heap b16 kr .byte xlr [(.int xr0), (.int xr1), (.int xr2)] (.int (0 : Int32)) := V73.keep Kq80 (ninS (Ne.symm ne_b1_b16) nin0)
  have E91 : Exa Z T80.heap b35 "[B" := E74.keep Kq80
  have V92 : Arv Z T80.heap b35 kf .byte xlf [(.int xf0), (.int xf1), (.int xf2)] (.int (0 : Int32)) := V75.keep Kq80 (ninS (Ne.symm ne_b1_b35) nin0)
  have E93 : Exa Z T80.heap b56 "[B" := E76.keep Kq80
  have V94 : Arv Z T80.heap b56 kq .byte xlq [(.int xq0), (.int xq1), (.int xq2)] (.int (0 : Int32)) := V77.keep Kq80 (ninS (Ne.symm ne_b1_b56) nin0)
  have sz80 : n0 ≤ T80.heap.size := Nat.le_trans sz56 Kq80.1
  have K80 : Keep h0 T80.heap [] := (K56).trans Kq80 (allS (Or.inr sz_b1) all0)
  refine own_Goes.via (T' := T80) (g' := (mkF m 35 #[.val (.ref ar), .val (.ref af), .val (.ref aq)] [(.ref b1)])) (fun t_ k_ => st80.trans k_) ?_
  obtain ⟨fs, hr, hrun, hended, hW, hsame⟩ := X80.leave (v := some (.ref b1)) (fun h => by rw [Bd.returns] at h; cases h)
  refine own_Goes.fin (retOut X80 hx Bd.returns rfl (Or.inr (Or.inr (Or.inr (Or.inr ⟨rfl, rfl, rfl⟩)))) (hb hby d2_35) hr) hrun hended ?_
  subst hPd
  refine ⟨_, _, rfl, ?_, ⟨_, rfl⟩, hW, hsame.mono (by decide) (by decide)⟩
  show Q2 Z ar af aq kr xlr xr0 xr1 xr2 kf xlf xf0 xf1 xf2 kq xlq xq0 xq1 xq2 s_EMPTY h0 n0 _ T80.heap _
  exact ⟨b1, b16, b35, b56, rfl, N80, K80, ⟨sz_b1, ge_b1⟩, ⟨sz_b16, ge_b16⟩, ⟨sz_b35, ge_b35⟩, ⟨sz_b56, ge_b56⟩, ne_b1_b16, ne_b1_b35, ne_b1_b56, ne_b16_b35, ne_b16_b56, ne_b35_b56, pf80_0, pf80_1, pf80_2, pf80_3, pf80_4, pf80_5, pf80_6, E89, V90, E91, V92, E93, V94⟩
theorem d5_0 : decode method_3_code 0 = .ok (.aload_n 0, 1) := by decide +kernel
theorem d5_1 : decode method_3_code 1 = .ok (.arraylength, 1) := by decide +kernel
theorem d5_2 : decode method_3_code 2 = .ok (.ifCond .le 12, 3) := by decide +kernel
theorem d5_5 : decode method_3_code 5 = .ok (.aload_n 0, 1) := by decide +kernel
theorem d5_6 : decode method_3_code 6 = .ok (.iconst 0, 1) := by decide +kernel
theorem d5_7 : decode method_3_code 7 = .ok (.aload_n 0, 1) := by decide +kernel
theorem d5_8 : decode method_3_code 8 = .ok (.iconst 0, 1) := by decide +kernel
theorem d5_9 : decode method_3_code 9 = .ok (.baload, 1) := by decide +kernel
theorem d5_10 : decode method_3_code 10 = .ok (.iconst (-1), 1) := by decide +kernel
theorem d5_11 : decode method_3_code 11 = .ok (.ixor, 1) := by decide +kernel
theorem d5_12 : decode method_3_code 12 = .ok (.i2b, 1) := by decide +kernel
theorem d5_13 : decode method_3_code 13 = .ok (.bastore, 1) := by decide +kernel
theorem d5_14 : decode method_3_code 14 = .ok (.aload_n 0, 1) := by decide +kernel
theorem d5_15 : decode method_3_code 15 = .ok (.arraylength, 1) := by decide +kernel
theorem d5_16 : decode method_3_code 16 = .ok (.iconst 1, 1) := by decide +kernel
theorem d5_17 : decode method_3_code 17 = .ok (.if_icmp .le 12, 3) := by decide +kernel
theorem d5_20 : decode method_3_code 20 = .ok (.aload_n 0, 1) := by decide +kernel
theorem d5_21 : decode method_3_code 21 = .ok (.iconst 1, 1) := by decide +kernel
theorem d5_22 : decode method_3_code 22 = .ok (.aload_n 0, 1) := by decide +kernel
theorem d5_23 : decode method_3_code 23 = .ok (.iconst 1, 1) := by decide +kernel
theorem d5_24 : decode method_3_code 24 = .ok (.baload, 1) := by decide +kernel
theorem d5_25 : decode method_3_code 25 = .ok (.iconst (-1), 1) := by decide +kernel
theorem d5_26 : decode method_3_code 26 = .ok (.ixor, 1) := by decide +kernel
theorem d5_27 : decode method_3_code 27 = .ok (.i2b, 1) := by decide +kernel
theorem d5_28 : decode method_3_code 28 = .ok (.bastore, 1) := by decide +kernel
theorem d5_29 : decode method_3_code 29 = .ok (.aload_n 0, 1) := by decide +kernel
theorem d5_30 : decode method_3_code 30 = .ok (.arraylength, 1) := by decide +kernel
theorem d5_31 : decode method_3_code 31 = .ok (.iconst 2, 1) := by decide +kernel
theorem d5_32 : decode method_3_code 32 = .ok (.if_icmp .le 12, 3) := by decide +kernel
theorem d5_35 : decode method_3_code 35 = .ok (.aload_n 0, 1) := by decide +kernel
theorem d5_36 : decode method_3_code 36 = .ok (.iconst 2, 1) := by decide +kernel
theorem d5_37 : decode method_3_code 37 = .ok (.aload_n 0, 1) := by decide +kernel
theorem d5_38 : decode method_3_code 38 = .ok (.iconst 2, 1) := by decide +kernel
theorem d5_39 : decode method_3_code 39 = .ok (.baload, 1) := by decide +kernel
theorem d5_40 : decode method_3_code 40 = .ok (.iconst (-1), 1) := by decide +kernel
theorem d5_41 : decode method_3_code 41 = .ok (.ixor, 1) := by decide +kernel
theorem d5_42 : decode method_3_code 42 = .ok (.i2b, 1) := by decide +kernel
theorem d5_43 : decode method_3_code 43 = .ok (.bastore, 1) := by decide +kernel
theorem d5_44 : decode method_3_code 44 = .ok (.return_, 1) := by decide +kernel
theorem pn_5 : plainName "com/example/keysweep/keysweep/KeyFirstOfPinLaw" = true := by first | (simp [plainName, overriddenIn]; done) | decide +kernel
theorem ef_5 (m : MethodId) (ar : Addr) : entryFrame m #[(.ref ar)] 1 = mkF m 0 #[.val (.ref ar)] [] := by first | (simp [entryFrame, mkF, argsToLocals, Value.category]; done) | rfl
def Q5 (Z : State) (ar : Addr) (kr : ClassId) (xlr : Int32) (xr0 : Int32) (xr1 : Int32) (xr2 : Int32) (h0 : Heap) (n0 : Nat) (v : Option Value) (h : Heap) (L : List Loc) : Prop := v = none ∧ Fr n0 L ∧ Keep h0 h [ar] ∧ Exa Z h ar "[B"
set_option maxRecDepth 65536 in
theorem own_pl5_0 {xlr : Int32} (hc2_2 : (0 : Int32) < xlr) : ¬ (0 : Int32) < 0 ∧ (0 : Int32) < xlr := by
  first | exact ⟨by decide, by assumption⟩ | (subst_vars; exact ⟨by decide, by assumption⟩)
set_option maxRecDepth 65536 in
theorem own_pl5_1 {xlr : Int32} (hc2_2 : (0 : Int32) < xlr) (in9_9 : ¬ (0 : Int32) < 0 ∧ (0 : Int32) < xlr) : ¬ (0 : Int32) < 0 ∧ (0 : Int32) < xlr := by
  first | exact ⟨by decide, by assumption⟩ | (subst_vars; exact ⟨by decide, by assumption⟩)
set_option maxRecDepth 65536 in
theorem own_pl5_2 {xlr : Int32} {xr0 : Int32} {v14_4 : Int32} (hv14_4 : v14_4 = (if (0 : Int32) < xlr then (nar .byte ((xr0 ^^^ (-1 : Int32)).toInt8.toInt32)) else xr0)) (hc17_15 : (1 : Int32) < xlr) : ¬ (1 : Int32) < 0 ∧ (1 : Int32) < xlr := by
  first | exact ⟨by decide, by assumption⟩ | (subst_vars; exact ⟨by decide, by assumption⟩)
set_option maxRecDepth 65536 in
theorem own_pl5_3 {xlr : Int32} {xr0 : Int32} {v14_4 : Int32} (hv14_4 : v14_4 = (if (0 : Int32) < xlr then (nar .byte ((xr0 ^^^ (-1 : Int32)).toInt8.toInt32)) else xr0)) (hc17_15 : (1 : Int32) < xlr) (in24_22 : ¬ (1 : Int32) < 0 ∧ (1 : Int32) < xlr) : ¬ (1 : Int32) < 0 ∧ (1 : Int32) < xlr := by
  first | exact ⟨by decide, by assumption⟩ | (subst_vars; exact ⟨by decide, by assumption⟩)
set_option maxRecDepth 65536 in
theorem own_pl5_4 {xlr : Int32} {xr0 : Int32} {xr1 : Int32} {v14_4 : Int32} {v29_17 : Int32} (hv14_4 : v14_4 = (if (0 : Int32) < xlr then (nar .byte ((xr0 ^^^ (-1 : Int32)).toInt8.toInt32)) else xr0)) (hv29_17 : v29_17 = (if (1 : Int32) < xlr then (nar .byte ((xr1 ^^^ (-1 : Int32)).toInt8.toInt32)) else xr1)) (hc32_28 : (2 : Int32) < xlr) : ¬ (2 : Int32) < 0 ∧ (2 : Int32) < xlr := by
  first | exact ⟨by decide, by assumption⟩ | (subst_vars; exact ⟨by decide, by assumption⟩)
set_option maxRecDepth 65536 in
theorem own_pl5_5 {xlr : Int32} {xr0 : Int32} {xr1 : Int32} {v14_4 : Int32} {v29_17 : Int32} (hv14_4 : v14_4 = (if (0 : Int32) < xlr then (nar .byte ((xr0 ^^^ (-1 : Int32)).toInt8.toInt32)) else xr0)) (hv29_17 : v29_17 = (if (1 : Int32) < xlr then (nar .byte ((xr1 ^^^ (-1 : Int32)).toInt8.toInt32)) else xr1)) (hc32_28 : (2 : Int32) < xlr) (in39_35 : ¬ (2 : Int32) < 0 ∧ (2 : Int32) < xlr) : ¬ (2 : Int32) < 0 ∧ (2 : Int32) < xlr := by
  first | exact ⟨by decide, by assumption⟩ | (subst_vars; exact ⟨by decide, by assumption⟩)
set_option maxRecDepth 65536 in
set_option maxHeartbeats 40000000 in
theorem rm5 (l : Launch) (Z : State) (a0 : Array Value) (hw : ∀ d ∈ tables_1, d.before a0 Z = true) (ws : List Jvm.Cond) (ar : Addr) (kr : ClassId) (xlr : Int32) (xr0 : Int32) (xr1 : Int32) (xr2 : Int32) (h0 : Heap) (n0 : Nat) (Z0 : n0 ≤ h0.size) (PF0 : Exa Z h0 ar "[B") (PF1 : Arv Z h0 ar kr .byte xlr [(.int xr0), (.int xr1), (.int xr2)] (.int (0 : Int32))) (ge_ar : n0 ≤ ar) :
    MetFree l (⟨"com/example/keysweep/keysweep/KeyFirstOfPinLaw", "scramble", "([B)V"⟩ : MethodName) (head1 (Jvm.Cond.code (⟨"com/example/keysweep/keysweep/KeyFirstOfPinLaw", "scramble", "([B)V"⟩ : MethodName) method_3_code 1 none :: ws) ({ frames := 0, cells := 0, slots := 0, locals := 0 } : Room)) (fun a U => a = #[(.ref ar)] ∧ Z.Warmed39 U.vm ∧ U.heap = h0) (fun _ _ _ _ _ => True) (fun _ U o U' => ∃ v L, o = .returned v ∧ Q5 Z ar kr xlr xr0 xr1 xr2 h0 n0 v U'.heap L ∧ FrameEnd U o U' L ({ frames := 0, cells := 0, slots := 0, locals := 0 } : Room).cells ({ frames := 0, cells := 0, slots := 0, locals := 0 } : Room).slots) := by
  refine MetFree.of_bodySF (plainFor_of_name pn_5) hisR ?_
  intro p e s m args below meth c s₁ Bd hml0 hP hK
  obtain ⟨rfl, hZ, hh⟩ := hP
  have hx := Bd.exec
  have hby := Bd.bytes
  have hml : c.maxLocals = 1 := hml0
  have hown : s.vm.findClass "com/example/keysweep/keysweep/KeyFirstOfPinLaw" = some m.cls := findClass_of_methodNamed Bd.named
  have hnm := (name_of_methodNamed Bd.named Bd.method).1
  have X0 : Stand p l e ({ frames := 0, cells := 0, slots := 0, locals := 0 } : Room) s m #[(.ref ar)] below meth c s₁ [] 0 0 := Stand.of_body Bd
  have e0 : s₁.heap = h0 := by rw [← hh, Bd.state]; rfl
  have N0 := Fr.nil n0
  suffices G : own_Goes p.tables e below (fun o U' => ∃ v L, o = .returned v ∧ Q5 Z ar kr xlr xr0 xr1 xr2 h0 n0 v U'.heap L ∧ FrameEnd s o U' L ({ frames := 0, cells := 0, slots := 0, locals := 0 } : Room).cells ({ frames := 0, cells := 0, slots := 0, locals := 0 } : Room).slots) s₁ (mkF m 0 #[.val (.ref ar)] []) by
    obtain ⟨t2_, o2_, z1_, z2_, z3_, z4_⟩ := G
    exact ⟨t2_, o2_, castTop (ef_5 m ar) z1_, z2_, z3_, z4_⟩
  generalize hPd : (fun (o : Outcome) (U' : State) => ∃ v L, o = .returned v ∧ Q5 Z ar kr xlr xr0 xr1 xr2 h0 n0 v U'.heap L ∧ FrameEnd s o U' L ({ frames := 0, cells := 0, slots := 0, locals := 0 } : Room).cells ({ frames := 0, cells := 0, slots := 0, locals := 0 } : Room).slots) = P
  refine own_Goes.via (T' := s₁) (g' := (mkF m 1 #[.val (.ref ar)] [(.ref ar)])) (fun t_ k_ => XS.aloadN X0.here hx rfl (hb hby d5_0) rfl rfl k_) ?_
  obtain ⟨cl1, Ar1, -, Sl1, Ng1, -, -⟩ := id PF1
  refine own_Goes.via (T' := s₁) (g' := (mkF m 2 #[.val (.ref ar)] [(.int xlr)])) (fun t_ k_ => X0.arraylength hx (by rw [e0]; exact Ar1.1) (State.isArrayOf_alike hZ.alike Ar1.2.1) (g := (mkF m 1 #[.val (.ref ar)] [(.ref ar)])) rfl rfl (hb hby d5_1) _ (by rw [len_of Sl1 Ng1]; exact k_)) ?_
  suffices J14_7 : ∀ (T3 : State) (L3 : List Loc) (X3 : Stand p l e ({ frames := 0, cells := 0, slots := 0, locals := 0 } : Room) s m #[(.ref ar)] below meth c T3 L3 0 0) (h3 : Heap) (e3 : T3.heap = h3) (N3 : Fr n0 L3) (sz3 : n0 ≤ h3.size) (K3 : Keep h0 h3 [ar]) (v14_4 : Int32) (hv14_4 : v14_4 = (if (0 : Int32) < xlr then (nar .byte ((xr0 ^^^ (-1 : Int32)).toInt8.toInt32)) else xr0)) (E5 : Exa Z h3 ar "[B") (V6 : Arv Z h3 ar kr .byte xlr [(.int v14_4), (.int xr1), (.int xr2)] (.int (0 : Int32))), own_Goes p.tables e below P T3 (mkF m 14 #[.val (.ref ar)] []) by
    by_cases hc2_2 : (0 : Int32) < xlr
    · refine own_Goes.via (T' := s₁) (g' := (mkF m 5 #[.val (.ref ar)] [])) (fun t_ k_ => XS.ifNo X0.here hx rfl (hb hby d5_2) rfl ((if0 _ _).trans (tlt hc2_2).2.2.2) k_) ?_
      refine own_Goes.via (T' := s₁) (g' := (mkF m 6 #[.val (.ref ar)] [(.ref ar)])) (fun t_ k_ => XS.aloadN X0.here hx rfl (hb hby d5_5) rfl rfl k_) ?_
      refine own_Goes.via (T' := s₁) (g' := (mkF m 7 #[.val (.ref ar)] [(.int (0 : Int32)), (.ref ar)])) (fun t_ k_ => XS.iconst X0.here hx rfl (hb hby d5_6) k_) ?_
      refine own_Goes.via (T' := s₁) (g' := (mkF m 8 #[.val (.ref ar)] [(.ref ar), (.int (0 : Int32)), (.ref ar)])) (fun t_ k_ => XS.aloadN X0.here hx rfl (hb hby d5_7) rfl rfl k_) ?_
      refine own_Goes.via (T' := s₁) (g' := (mkF m 9 #[.val (.ref ar)] [(.int (0 : Int32)), (.ref ar), (.int (0 : Int32)), (.ref ar)])) (fun t_ k_ => XS.iconst X0.here hx rfl (hb hby d5_8) k_) ?_
      obtain ⟨cl8, Ar8, -, Sl8, Ng8, H8, -⟩ := id PF1
      have in9_9 : ¬ (0 : Int32) < 0 ∧ (0 : Int32) < xlr := own_pl5_0 hc2_2
      have at8 := H8.at (inb_of Sl8 in9_9) (v := (.int xr0)) rfl
      refine own_Goes.via (T' := s₁) (g' := (mkF m 10 #[.val (.ref ar)] [(.int xr0), (.int (0 : Int32)), (.ref ar)])) (fun t_ k_ => X0.baloadBytes hx (j := (0 : Int32)) (v := (.int xr0)) (by rw [e0]; exact Ar8.1) (State.isArrayOf_alike hZ.alike Ar8.2.1) Ar8.2.2 (inb_of Sl8 in9_9) at8 (g := (mkF m 9 #[.val (.ref ar)] [(.int (0 : Int32)), (.ref ar), (.int (0 : Int32)), (.ref ar)])) rfl rfl (hb hby d5_9) _ k_) ?_
      refine own_Goes.via (T' := s₁) (g' := (mkF m 11 #[.val (.ref ar)] [(.int (-1 : Int32)), (.int xr0), (.int (0 : Int32)), (.ref ar)])) (fun t_ k_ => XS.iconst X0.here hx rfl (hb hby d5_10) k_) ?_
      refine own_Goes.via (T' := s₁) (g' := (mkF m 12 #[.val (.ref ar)] [(.int (xr0 ^^^ (-1 : Int32))), (.int (0 : Int32)), (.ref ar)])) (fun t_ k_ => XS.ixor X0.here hx rfl (hb hby d5_11) rfl k_) ?_
      refine own_Goes.via (T' := s₁) (g' := (mkF m 13 #[.val (.ref ar)] [(.int ((xr0 ^^^ (-1 : Int32)).toInt8.toInt32)), (.int (0 : Int32)), (.ref ar)])) (fun t_ k_ => XS.i2b X0.here hx rfl (hb hby d5_12) rfl k_) ?_
      obtain ⟨cl10, Ar10, q10, Sl10, Ng10, H10, G10⟩ := id PF1
      have in13_11 : ¬ (0 : Int32) < 0 ∧ (0 : Int32) < xlr := own_pl5_1 hc2_2 in9_9
      obtain ⟨T10, h10, X10, e10, W10, st10⟩ := stB X0 hx hZ e0 Ar10 (j := (0 : Int32)) (inb_of Sl10 in13_11) (g := (mkF m 13 #[.val (.ref ar)] [(.int ((xr0 ^^^ (-1 : Int32)).toInt8.toInt32)), (.int (0 : Int32)), (.ref ar)])) rfl rfl (hb hby d5_13)
      have E12 : Exa Z h10 ar "[B" := PF0.wr W10
      have V13 : Arv Z h10 ar kr .byte xlr [(.int (nar .byte ((xr0 ^^^ (-1 : Int32)).toInt8.toInt32))), (.int xr1), (.int xr2)] (.int (0 : Int32)) := Arv.set Ar10 q10 Sl10 Ng10 H10 G10 (fits_nar_byte _) W10 0 rfl (Nat.le_of_ble_eq_true rfl)
      have N10 := Fr.snoc X10 N0 ge_ar
      have sz10 : n0 ≤ h10.size := Nat.le_trans Z0 (Keep.of_wr W10).1
      have K10 : Keep h0 h10 [ar] := ((Keep.refl h0 [ar])).wr W10 (Or.inl (List.mem_of_getElem? (i := 0) rfl))
      refine own_Goes.via (T' := T10) (g' := (mkF m 14 #[.val (.ref ar)] [])) (st10) ?_
      exact J14_7 T10 _ X10 h10 e10 N10 sz10 K10 (nar .byte ((xr0 ^^^ (-1 : Int32)).toInt8.toInt32)) ((if_pos hc2_2)).symm E12 V13
    · refine own_Goes.via (T' := s₁) (g' := (mkF m 14 #[.val (.ref ar)] [])) (fun t_ k_ => XS.ifYes X0.here hx rfl (pc0 := 2) (pc' := 14) rfl (hb hby d5_2) rfl ((if0 _ _).trans (flt hc2_2).2.2.2) (by decide) (by decide) k_) ?_
      exact J14_7 s₁ _ X0 h0 e0 N0 Z0 (Keep.refl h0 [ar]) xr0 ((if_neg hc2_2)).symm PF0 PF1
  intro T3 L3 X3 h3 e3 N3 sz3 K3 v14_4 hv14_4 E5 V6
  refine own_Goes.via (T' := T3) (g' := (mkF m 15 #[.val (.ref ar)] [(.ref ar)])) (fun t_ k_ => XS.aloadN X3.here hx rfl (hb hby d5_14) rfl rfl k_) ?_
  obtain ⟨cl14, Ar14, -, Sl14, Ng14, -, -⟩ := id V6
  refine own_Goes.via (T' := T3) (g' := (mkF m 16 #[.val (.ref ar)] [(.int xlr)])) (fun t_ k_ => X3.arraylength hx (by rw [e3]; exact Ar14.1) (State.isArrayOf_alike hZ.alike Ar14.2.1) (g := (mkF m 15 #[.val (.ref ar)] [(.ref ar)])) rfl rfl (hb hby d5_15) _ (by rw [len_of Sl14 Ng14]; exact k_)) ?_
  refine own_Goes.via (T' := T3) (g' := (mkF m 17 #[.val (.ref ar)] [(.int (1 : Int32)), (.int xlr)])) (fun t_ k_ => XS.iconst X3.here hx rfl (hb hby d5_16) k_) ?_
  suffices J29_20 : ∀ (T16 : State) (L16 : List Loc) (X16 : Stand p l e ({ frames := 0, cells := 0, slots := 0, locals := 0 } : Room) s m #[(.ref ar)] below meth c T16 L16 0 0) (h16 : Heap) (e16 : T16.heap = h16) (N16 : Fr n0 L16) (sz16 : n0 ≤ h16.size) (K16 : Keep h0 h16 [ar]) (v29_17 : Int32) (hv29_17 : v29_17 = (if (1 : Int32) < xlr then (nar .byte ((xr1 ^^^ (-1 : Int32)).toInt8.toInt32)) else xr1)) (E18 : Exa Z h16 ar "[B") (V19 : Arv Z h16 ar kr .byte xlr [(.int v14_4), (.int v29_17), (.int xr2)] (.int (0 : Int32))), own_Goes p.tables e below P T16 (mkF m 29 #[.val (.ref ar)] []) by
    by_cases hc17_15 : (1 : Int32) < xlr
    · refine own_Goes.via (T' := T3) (g' := (mkF m 20 #[.val (.ref ar)] [])) (fun t_ k_ => XS.icmpNo X3.here hx rfl (hb hby d5_17) rfl (tlt hc17_15).2.2.2 k_) ?_
      refine own_Goes.via (T' := T3) (g' := (mkF m 21 #[.val (.ref ar)] [(.ref ar)])) (fun t_ k_ => XS.aloadN X3.here hx rfl (hb hby d5_20) rfl rfl k_) ?_
      refine own_Goes.via (T' := T3) (g' := (mkF m 22 #[.val (.ref ar)] [(.int (1 : Int32)), (.ref ar)])) (fun t_ k_ => XS.iconst X3.here hx rfl (hb hby d5_21) k_) ?_
      refine own_Goes.via (T' := T3) (g' := (mkF m 23 #[.val (.ref ar)] [(.ref ar), (.int (1 : Int32)), (.ref ar)])) (fun t_ k_ => XS.aloadN X3.here hx rfl (hb hby d5_22) rfl rfl k_) ?_
      refine own_Goes.via (T' := T3) (g' := (mkF m 24 #[.val (.ref ar)] [(.int (1 : Int32)), (.ref ar), (.int (1 : Int32)), (.ref ar)])) (fun t_ k_ => XS.iconst X3.here hx rfl (hb hby d5_23) k_) ?_
      obtain ⟨cl21, Ar21, -, Sl21, Ng21, H21, -⟩ := id V6
      have in24_22 : ¬ (1 : Int32) < 0 ∧ (1 : Int32) < xlr := own_pl5_2 hv14_4 hc17_15
      have at21 := H21.at (inb_of Sl21 in24_22) (v := (.int xr1)) rfl
      refine own_Goes.via (T' := T3) (g' := (mkF m 25 #[.val (.ref ar)] [(.int xr1), (.int (1 : Int32)), (.ref ar)])) (fun t_ k_ => X3.baloadBytes hx (j := (1 : Int32)) (v := (.int xr1)) (by rw [e3]; exact Ar21.1) (State.isArrayOf_alike hZ.alike Ar21.2.1) Ar21.2.2 (inb_of Sl21 in24_22) at21 (g := (mkF m 24 #[.val (.ref ar)] [(.int (1 : Int32)), (.ref ar), (.int (1 : Int32)), (.ref ar)])) rfl rfl (hb hby d5_24) _ k_) ?_
      refine own_Goes.via (T' := T3) (g' := (mkF m 26 #[.val (.ref ar)] [(.int (-1 : Int32)), (.int xr1), (.int (1 : Int32)), (.ref ar)])) (fun t_ k_ => XS.iconst X3.here hx rfl (hb hby d5_25) k_) ?_
      refine own_Goes.via (T' := T3) (g' := (mkF m 27 #[.val (.ref ar)] [(.int (xr1 ^^^ (-1 : Int32))), (.int (1 : Int32)), (.ref ar)])) (fun t_ k_ => XS.ixor X3.here hx rfl (hb hby d5_26) rfl k_) ?_
      refine own_Goes.via (T' := T3) (g' := (mkF m 28 #[.val (.ref ar)] [(.int ((xr1 ^^^ (-1 : Int32)).toInt8.toInt32)), (.int (1 : Int32)), (.ref ar)])) (fun t_ k_ => XS.i2b X3.here hx rfl (hb hby d5_27) rfl k_) ?_
      obtain ⟨cl23, Ar23, q23, Sl23, Ng23, H23, G23⟩ := id V6
      have in28_24 : ¬ (1 : Int32) < 0 ∧ (1 : Int32) < xlr := own_pl5_3 hv14_4 hc17_15 in24_22
      obtain ⟨T23, h23, X23, e23, W23, st23⟩ := stB X3 hx hZ e3 Ar23 (j := (1 : Int32)) (inb_of Sl23 in28_24) (g := (mkF m 28 #[.val (.ref ar)] [(.int ((xr1 ^^^ (-1 : Int32)).toInt8.toInt32)), (.int (1 : Int32)), (.ref ar)])) rfl rfl (hb hby d5_28)
      have E25 : Exa Z h23 ar "[B" := E5.wr W23
      have V26 : Arv Z h23 ar kr .byte xlr [(.int v14_4), (.int (nar .byte ((xr1 ^^^ (-1 : Int32)).toInt8.toInt32))), (.int xr2)] (.int (0 : Int32)) := Arv.set Ar23 q23 Sl23 Ng23 H23 G23 (fits_nar_byte _) W23 1 rfl (Nat.le_of_ble_eq_true rfl)
      have N23 := Fr.snoc X23 N3 ge_ar
      have sz23 : n0 ≤ h23.size := Nat.le_trans sz3 (Keep.of_wr W23).1
      have K23 : Keep h0 h23 [ar] := (K3).wr W23 (Or.inl (List.mem_of_getElem? (i := 0) rfl))
      refine own_Goes.via (T' := T23) (g' := (mkF m 29 #[.val (.ref ar)] [])) (st23) ?_
      exact J29_20 T23 _ X23 h23 e23 N23 sz23 K23 (nar .byte ((xr1 ^^^ (-1 : Int32)).toInt8.toInt32)) ((if_pos hc17_15)).symm E25 V26
    · refine own_Goes.via (T' := T3) (g' := (mkF m 29 #[.val (.ref ar)] [])) (fun t_ k_ => XS.icmpYes X3.here hx rfl (pc0 := 17) (pc' := 29) rfl (hb hby d5_17) rfl (flt hc17_15).2.2.2 (by decide) (by decide) k_) ?_
      exact J29_20 T3 _ X3 h3 e3 N3 sz3 K3 xr1 ((if_neg hc17_15)).symm E5 V6
  intro T16 L16 X16 h16 e16 N16 sz16 K16 v29_17 hv29_17 E18 V19
  refine own_Goes.via (T' := T16) (g' := (mkF m 30 #[.val (.ref ar)] [(.ref ar)])) (fun t_ k_ => XS.aloadN X16.here hx rfl (hb hby d5_29) rfl rfl k_) ?_
  obtain ⟨cl27, Ar27, -, Sl27, Ng27, -, -⟩ := id V19
  refine own_Goes.via (T' := T16) (g' := (mkF m 31 #[.val (.ref ar)] [(.int xlr)])) (fun t_ k_ => X16.arraylength hx (by rw [e16]; exact Ar27.1) (State.isArrayOf_alike hZ.alike Ar27.2.1) (g := (mkF m 30 #[.val (.ref ar)] [(.ref ar)])) rfl rfl (hb hby d5_30) _ (by rw [len_of Sl27 Ng27]; exact k_)) ?_
  refine own_Goes.via (T' := T16) (g' := (mkF m 32 #[.val (.ref ar)] [(.int (2 : Int32)), (.int xlr)])) (fun t_ k_ => XS.iconst X16.here hx rfl (hb hby d5_31) k_) ?_
  suffices J44_33 : ∀ (T29 : State) (L29 : List Loc) (X29 : Stand p l e ({ frames := 0, cells := 0, slots := 0, locals := 0 } : Room) s m #[(.ref ar)] below meth c T29 L29 0 0) (h29 : Heap) (e29 : T29.heap = h29) (N29 : Fr n0 L29) (sz29 : n0 ≤ h29.size) (K29 : Keep h0 h29 [ar]) (v44_30 : Int32) (hv44_30 : v44_30 = (if (2 : Int32) < xlr then (nar .byte ((xr2 ^^^ (-1 : Int32)).toInt8.toInt32)) else xr2)) (E31 : Exa Z h29 ar "[B") (V32 : Arv Z h29 ar kr .byte xlr [(.int v14_4), (.int v29_17), (.int v44_30)] (.int (0 : Int32))), own_Goes p.tables e below P T29 (mkF m 44 #[.val (.ref ar)] []) by
    by_cases hc32_28 : (2 : Int32) < xlr
    · refine own_Goes.via (T' := T16) (g' := (mkF m 35 #[.val (.ref ar)] [])) (fun t_ k_ => XS.icmpNo X16.here hx rfl (hb hby d5_32) rfl (tlt hc32_28).2.2.2 k_) ?_
      refine own_Goes.via (T' := T16) (g' := (mkF m 36 #[.val (.ref ar)] [(.ref ar)])) (fun t_ k_ => XS.aloadN X16.here hx rfl (hb hby d5_35) rfl rfl k_) ?_
      refine own_Goes.via (T' := T16) (g' := (mkF m 37 #[.val (.ref ar)] [(.int (2 : Int32)), (.ref ar)])) (fun t_ k_ => XS.iconst X16.here hx rfl (hb hby d5_36) k_) ?_
      refine own_Goes.via (T' := T16) (g' := (mkF m 38 #[.val (.ref ar)] [(.ref ar), (.int (2 : Int32)), (.ref ar)])) (fun t_ k_ => XS.aloadN X16.here hx rfl (hb hby d5_37) rfl rfl k_) ?_
      refine own_Goes.via (T' := T16) (g' := (mkF m 39 #[.val (.ref ar)] [(.int (2 : Int32)), (.ref ar), (.int (2 : Int32)), (.ref ar)])) (fun t_ k_ => XS.iconst X16.here hx rfl (hb hby d5_38) k_) ?_
      obtain ⟨cl34, Ar34, -, Sl34, Ng34, H34, -⟩ := id V19
      have in39_35 : ¬ (2 : Int32) < 0 ∧ (2 : Int32) < xlr := own_pl5_4 hv14_4 hv29_17 hc32_28
      have at34 := H34.at (inb_of Sl34 in39_35) (v := (.int xr2)) rfl
      refine own_Goes.via (T' := T16) (g' := (mkF m 40 #[.val (.ref ar)] [(.int xr2), (.int (2 : Int32)), (.ref ar)])) (fun t_ k_ => X16.baloadBytes hx (j := (2 : Int32)) (v := (.int xr2)) (by rw [e16]; exact Ar34.1) (State.isArrayOf_alike hZ.alike Ar34.2.1) Ar34.2.2 (inb_of Sl34 in39_35) at34 (g := (mkF m 39 #[.val (.ref ar)] [(.int (2 : Int32)), (.ref ar), (.int (2 : Int32)), (.ref ar)])) rfl rfl (hb hby d5_39) _ k_) ?_
      refine own_Goes.via (T' := T16) (g' := (mkF m 41 #[.val (.ref ar)] [(.int (-1 : Int32)), (.int xr2), (.int (2 : Int32)), (.ref ar)])) (fun t_ k_ => XS.iconst X16.here hx rfl (hb hby d5_40) k_) ?_
      refine own_Goes.via (T' := T16) (g' := (mkF m 42 #[.val (.ref ar)] [(.int (xr2 ^^^ (-1 : Int32))), (.int (2 : Int32)), (.ref ar)])) (fun t_ k_ => XS.ixor X16.here hx rfl (hb hby d5_41) rfl k_) ?_
      refine own_Goes.via (T' := T16) (g' := (mkF m 43 #[.val (.ref ar)] [(.int ((xr2 ^^^ (-1 : Int32)).toInt8.toInt32)), (.int (2 : Int32)), (.ref ar)])) (fun t_ k_ => XS.i2b X16.here hx rfl (hb hby d5_42) rfl k_) ?_
      obtain ⟨cl36, Ar36, q36, Sl36, Ng36, H36, G36⟩ := id V19
      have in43_37 : ¬ (2 : Int32) < 0 ∧ (2 : Int32) < xlr := own_pl5_5 hv14_4 hv29_17 hc32_28 in39_35
      obtain ⟨T36, h36, X36, e36, W36, st36⟩ := stB X16 hx hZ e16 Ar36 (j := (2 : Int32)) (inb_of Sl36 in43_37) (g := (mkF m 43 #[.val (.ref ar)] [(.int ((xr2 ^^^ (-1 : Int32)).toInt8.toInt32)), (.int (2 : Int32)), (.ref ar)])) rfl rfl (hb hby d5_43)
      have E38 : Exa Z h36 ar "[B" := E18.wr W36
      have V39 : Arv Z h36 ar kr .byte xlr [(.int v14_4), (.int v29_17), (.int (nar .byte ((xr2 ^^^ (-1 : Int32)).toInt8.toInt32)))] (.int (0 : Int32)) := Arv.set Ar36 q36 Sl36 Ng36 H36 G36 (fits_nar_byte _) W36 2 rfl (Nat.le_of_ble_eq_true rfl)
      have N36 := Fr.snoc X36 N16 ge_ar
      have sz36 : n0 ≤ h36.size := Nat.le_trans sz16 (Keep.of_wr W36).1
      have K36 : Keep h0 h36 [ar] := (K16).wr W36 (Or.inl (List.mem_of_getElem? (i := 0) rfl))
      refine own_Goes.via (T' := T36) (g' := (mkF m 44 #[.val (.ref ar)] [])) (st36) ?_
      exact J44_33 T36 _ X36 h36 e36 N36 sz36 K36 (nar .byte ((xr2 ^^^ (-1 : Int32)).toInt8.toInt32)) ((if_pos hc32_28)).symm E38 V39
    · refine own_Goes.via (T' := T16) (g' := (mkF m 44 #[.val (.ref ar)] [])) (fun t_ k_ => XS.icmpYes X16.here hx rfl (pc0 := 32) (pc' := 44) rfl (hb hby d5_32) rfl (flt hc32_28).2.2.2 (by decide) (by decide) k_) ?_
      exact J44_33 T16 _ X16 h16 e16 N16 sz16 K16 xr2 ((if_neg hc32_28)).symm E18 V19
  intro T29 L29 X29 h29 e29 N29 sz29 K29 v44_30 hv44_30 E31 V32
  obtain ⟨fs, hr, hrun, hended, hW, hsame⟩ := X29.leave (v := none) (fun _ => rfl)
  refine own_Goes.fin (X29.returnOut hx Bd.returns (hb hby d5_44) hr) hrun hended ?_
  subst hPd
  refine ⟨_, _, rfl, ?_, ⟨_, rfl⟩, hW, hsame.mono (by decide) (by decide)⟩
  show Q5 Z ar kr xlr xr0 xr1 xr2 h0 n0 _ T29.heap _
  rw [e29]
  exact ⟨rfl, N29, K29, E31⟩
theorem d6_0 : decode prog_18_method_3_code 0 = .ok (.aload_n 0, 1) := by decide +kernel
theorem d6_1 : decode prog_18_method_3_code 1 = .ok (.getfield 18, 3) := by decide +kernel
theorem d6_4 : decode prog_18_method_3_code 4 = .ok (.invokevirtual 1, 3) := by decide +kernel
theorem d6_7 : decode prog_18_method_3_code 7 = .ok (.checkcast 2, 3) := by decide +kernel
theorem d6_10 : decode prog_18_method_3_code 10 = .ok (.areturn, 1) := by decide +kernel
theorem pn_6 : plainName "com/example/keysweep/keysweep/Key" = true := by first | (simp [plainName, overriddenIn]; done) | decide +kernel
theorem ef_6 (m : MethodId) (ao : Addr) : entryFrame m #[(.ref ao)] 1 = mkF m 0 #[.val (.ref ao)] [] := by first | (simp [entryFrame, mkF, argsToLocals, Value.category]; done) | rfl
def Q6 (Z : State) (ao : Addr) (ax : Addr) (kx : ClassId) (xl : Int32) (x0 : Int32) (x1 : Int32) (x2 : Int32) (h0 : Heap) (n0 : Nat) (v : Option Value) (h : Heap) (L : List Loc) : Prop := ∃ (bz : Addr), v = some (.ref bz) ∧ Fr n0 L ∧ Keep h0 h [] ∧ (h0.size ≤ bz ∧ n0 ≤ bz) ∧ Exa Z h bz "[B" ∧ Arv Z h bz kx .byte xl [(.int x0), (.int x1), (.int x2)] (.int (0 : Int32))
set_option maxRecDepth 65536 in
set_option maxHeartbeats 40000000 in
theorem rm6 (l : Launch) (Z : State) (a0 : Array Value) (hw : ∀ d ∈ tables_1, d.before a0 Z = true) (ws : List Jvm.Cond) (ao : Addr) (ax : Addr) (kx : ClassId) (xl : Int32) (x0 : Int32) (x1 : Int32) (x2 : Int32) (h0 : Heap) (n0 : Nat) (Z0 : n0 ≤ h0.size) (PF0 : Fld Z h0 ao "com/example/keysweep/keysweep/Key" "row" "[B" (.ref ax)) (PF1 : Exa Z h0 ax "[B") (PF2 : Arv Z h0 ax kx .byte xl [(.int x0), (.int x1), (.int x2)] (.int (0 : Int32))) (hc : xl.toNatClampNeg ≤ 3) :
    MetFree l (⟨"com/example/keysweep/keysweep/Key", "row", "()[B"⟩ : MethodName) (head1 (Jvm.Cond.code (⟨"com/example/keysweep/keysweep/Key", "row", "()[B"⟩ : MethodName) prog_18_method_3_code 1 (some (.array .byte)) :: ws) ({ frames := 1, cells := 1, slots := 3, locals := 14 } : Room)) (fun a U => a = #[(.ref ao)] ∧ Z.Warmed39 U.vm ∧ U.heap = h0) (fun _ _ _ _ _ => True) (fun _ U o U' => ∃ v L, o = .returned v ∧ Q6 Z ao ax kx xl x0 x1 x2 h0 n0 v U'.heap L ∧ FrameEnd U o U' L ({ frames := 1, cells := 1, slots := 3, locals := 14 } : Room).cells ({ frames := 1, cells := 1, slots := 3, locals := 14 } : Room).slots) := by
  refine MetFree.of_bodySF (plainFor_of_name pn_6) hisR ?_
  intro p e s m args below meth c s₁ Bd hml0 hP hK
  obtain ⟨rfl, hZ, hh⟩ := hP
  have hx := Bd.exec
  have hby := Bd.bytes
  have hml : c.maxLocals = 1 := hml0
  have hown : s.vm.findClass "com/example/keysweep/keysweep/Key" = some m.cls := findClass_of_methodNamed Bd.named
  have hnm := (name_of_methodNamed Bd.named Bd.method).1
  have X0 : Stand p l e ({ frames := 1, cells := 1, slots := 3, locals := 14 } : Room) s m #[(.ref ao)] below meth c s₁ [] 0 0 := Stand.of_body Bd
  have e0 : s₁.heap = h0 := by rw [← hh, Bd.state]; rfl
  have N0 := Fr.nil n0
  suffices G : own_Goes p.tables e below (fun o U' => ∃ v L, o = .returned v ∧ Q6 Z ao ax kx xl x0 x1 x2 h0 n0 v U'.heap L ∧ FrameEnd s o U' L ({ frames := 1, cells := 1, slots := 3, locals := 14 } : Room).cells ({ frames := 1, cells := 1, slots := 3, locals := 14 } : Room).slots) s₁ (mkF m 0 #[.val (.ref ao)] []) by
    obtain ⟨t2_, o2_, z1_, z2_, z3_, z4_⟩ := G
    exact ⟨t2_, o2_, castTop (ef_6 m ao) z1_, z2_, z3_, z4_⟩
  generalize hPd : (fun (o : Outcome) (U' : State) => ∃ v L, o = .returned v ∧ Q6 Z ao ax kx xl x0 x1 x2 h0 n0 v U'.heap L ∧ FrameEnd s o U' L ({ frames := 1, cells := 1, slots := 3, locals := 14 } : Room).cells ({ frames := 1, cells := 1, slots := 3, locals := 14 } : Room).slots) = P
  refine own_Goes.via (T' := s₁) (g' := (mkF m 1 #[.val (.ref ao)] [(.ref ao)])) (fun t_ k_ => XS.aloadN X0.here hx rfl (hb hby d6_0) rfl rfl k_) ?_
  obtain ⟨T1, X1, e1, st1⟩ := getF X0 hx hZ hown (host := "") (Or.inl (hw _ (List.mem_of_getElem? (i := 29) rfl))) Via.refl e0 PF0 (g := (mkF m 1 #[.val (.ref ao)] [(.ref ao)])) rfl rfl (hb hby d6_1)
  refine own_Goes.via (T' := T1) (g' := (mkF m 4 #[.val (.ref ao)] [(.ref ax)])) (st1) ?_
  have hcap4_3 : xl.toNatClampNeg ≤ 3 := by first | assumption | decide
  obtain ⟨T2, h2, X2, e2, E2, A2, Ea2, st2⟩ := cloneH X1 hx hZ hown (hw _ (List.mem_of_getElem? (i := 11) rfl)) (hw _ (List.mem_of_getElem? (i := 12) rfl)) (hw _ (List.mem_of_getElem? (i := 16) rfl)) (hw _ (List.mem_of_getElem? (i := 14) rfl)) (hw _ (List.mem_of_getElem? (i := 15) rfl)) (hw _ (List.mem_of_getElem? (i := 17) rfl)) e1 PF2.arh PF1 (g := (mkF m 4 #[.val (.ref ao)] [(.ref ax)])) rfl (by rw [hml]; rfl) rfl (hb hby d6_4) (by decide) (W := 0) (cap := 3) (by show 2 * 0 + _ ≤ _; exact Nat.le_of_eq rfl) (by decide) hcap4_3 (by decide) (by decide)
  obtain ⟨b2, g2⟩ : ∃ z, z = h0.size := ⟨_, rfl⟩
  rw [← g2] at A2 Ea2 st2
  have ne_ao_b2 : ao ≠ b2 := Nat.ne_of_lt (Nat.lt_of_lt_of_le PF0.lt (Nat.le_of_eq g2.symm))
  have ne_ax_b2 : ax ≠ b2 := Nat.ne_of_lt (Nat.lt_of_lt_of_le PF1.lt (Nat.le_of_eq g2.symm))
  have F4 : Fld Z h2 ao "com/example/keysweep/keysweep/Key" "row" "[B" (.ref ax) := PF0.ext E2
  have E5 : Exa Z h2 ax "[B" := PF1.ext E2
  have V6 : Arv Z h2 ax kx .byte xl [(.int x0), (.int x1), (.int x2)] (.int (0 : Int32)) := PF2.ext E2
  have ge_b2 : n0 ≤ b2 := Nat.le_trans Z0 (Nat.le_of_eq g2.symm)
  have sz_b2 : h0.size ≤ b2 := Nat.le_trans ((Keep.refl h0 [])).1 (Nat.le_of_eq g2.symm)
  have sz2 : n0 ≤ h2.size := Nat.le_trans Z0 E2.1
  have K2 : Keep h0 h2 [] := ((Keep.refl h0 [])).ext E2
  have E7 : Exa Z h2 b2 "[B" := Ea2
  have V8 : Arv Z h2 b2 kx .byte xl [(.int x0), (.int x1), (.int x2)] (.int (0 : Int32)) := A2
  refine own_Goes.via (T' := T2) (g' := (mkF m 7 #[.val (.ref ao)] [(.ref b2)])) (st2) ?_
  obtain ⟨T9, X9, e9, st9⟩ := castY X2 hx hZ hown (hw _ (List.mem_of_getElem? (i := 18) rfl)) e2 (Ins.self E7) (g := (mkF m 7 #[.val (.ref ao)] [(.ref b2)])) rfl rfl (hb hby d6_7)
  refine own_Goes.via (T' := T9) (g' := (mkF m 10 #[.val (.ref ao)] [(.ref b2)])) (st9) ?_
  obtain ⟨fs, hr, hrun, hended, hW, hsame⟩ := X9.leave (v := some (.ref b2)) (fun h => by rw [Bd.returns] at h; cases h)
  refine own_Goes.fin (retOut X9 hx Bd.returns rfl (Or.inr (Or.inr (Or.inr (Or.inr ⟨rfl, rfl, rfl⟩)))) (hb hby d6_10) hr) hrun hended ?_
  subst hPd
  refine ⟨_, _, rfl, ?_, ⟨_, rfl⟩, hW, hsame.mono (by decide) (by decide)⟩
  show Q6 Z ao ax kx xl x0 x1 x2 h0 n0 _ T9.heap _
  rw [e9]
  exact ⟨b2, rfl, N0, K2, ⟨sz_b2, ge_b2⟩, E7, V8⟩
theorem d8_0 : decode prog_18_method_4_code 0 = .ok (.aload_n 0, 1) := by decide +kernel
theorem d8_1 : decode prog_18_method_4_code 1 = .ok (.getfield 21, 3) := by decide +kernel
theorem d8_4 : decode prog_18_method_4_code 4 = .ok (.invokevirtual 1, 3) := by decide +kernel
theorem d8_7 : decode prog_18_method_4_code 7 = .ok (.checkcast 2, 3) := by decide +kernel
theorem d8_10 : decode prog_18_method_4_code 10 = .ok (.areturn, 1) := by decide +kernel
theorem pn_8 : plainName "com/example/keysweep/keysweep/Key" = true := by first | (simp [plainName, overriddenIn]; done) | decide +kernel
theorem ef_8 (m : MethodId) (ao : Addr) : entryFrame m #[(.ref ao)] 1 = mkF m 0 #[.val (.ref ao)] [] := by first | (simp [entryFrame, mkF, argsToLocals, Value.category]; done) | rfl
def Q8 (Z : State) (ao : Addr) (ax : Addr) (kx : ClassId) (xl : Int32) (x0 : Int32) (x1 : Int32) (x2 : Int32) (h0 : Heap) (n0 : Nat) (v : Option Value) (h : Heap) (L : List Loc) : Prop := ∃ (bz : Addr), v = some (.ref bz) ∧ Fr n0 L ∧ Keep h0 h [] ∧ (h0.size ≤ bz ∧ n0 ≤ bz) ∧ Exa Z h bz "[B" ∧ Arv Z h bz kx .byte xl [(.int x0), (.int x1), (.int x2)] (.int (0 : Int32))
set_option maxRecDepth 65536 in
set_option maxHeartbeats 40000000 in
theorem rm8 (l : Launch) (Z : State) (a0 : Array Value) (hw : ∀ d ∈ tables_1, d.before a0 Z = true) (ws : List Jvm.Cond) (ao : Addr) (ax : Addr) (kx : ClassId) (xl : Int32) (x0 : Int32) (x1 : Int32) (x2 : Int32) (h0 : Heap) (n0 : Nat) (Z0 : n0 ≤ h0.size) (PF0 : Fld Z h0 ao "com/example/keysweep/keysweep/Key" "family" "[B" (.ref ax)) (PF1 : Exa Z h0 ax "[B") (PF2 : Arv Z h0 ax kx .byte xl [(.int x0), (.int x1), (.int x2)] (.int (0 : Int32))) (hc : xl.toNatClampNeg ≤ 3) :
    MetFree l (⟨"com/example/keysweep/keysweep/Key", "family", "()[B"⟩ : MethodName) (head1 (Jvm.Cond.code (⟨"com/example/keysweep/keysweep/Key", "family", "()[B"⟩ : MethodName) prog_18_method_4_code 1 (some (.array .byte)) :: ws) ({ frames := 1, cells := 1, slots := 3, locals := 14 } : Room)) (fun a U => a = #[(.ref ao)] ∧ Z.Warmed39 U.vm ∧ U.heap = h0) (fun _ _ _ _ _ => True) (fun _ U o U' => ∃ v L, o = .returned v ∧ Q8 Z ao ax kx xl x0 x1 x2 h0 n0 v U'.heap L ∧ FrameEnd U o U' L ({ frames := 1, cells := 1, slots := 3, locals := 14 } : Room).cells ({ frames := 1, cells := 1, slots := 3, locals := 14 } : Room).slots) := by
  refine MetFree.of_bodySF (plainFor_of_name pn_8) hisR ?_
  intro p e s m args below meth c s₁ Bd hml0 hP hK
  obtain ⟨rfl, hZ, hh⟩ := hP
  have hx := Bd.exec
  have hby := Bd.bytes
  have hml : c.maxLocals = 1 := hml0
  have hown : s.vm.findClass "com/example/keysweep/keysweep/Key" = some m.cls := findClass_of_methodNamed Bd.named
  have hnm := (name_of_methodNamed Bd.named Bd.method).1
  have X0 : Stand p l e ({ frames := 1, cells := 1, slots := 3, locals := 14 } : Room) s m #[(.ref ao)] below meth c s₁ [] 0 0 := Stand.of_body Bd
  have e0 : s₁.heap = h0 := by rw [← hh, Bd.state]; rfl
  have N0 := Fr.nil n0
  suffices G : own_Goes p.tables e below (fun o U' => ∃ v L, o = .returned v ∧ Q8 Z ao ax kx xl x0 x1 x2 h0 n0 v U'.heap L ∧ FrameEnd s o U' L ({ frames := 1, cells := 1, slots := 3, locals := 14 } : Room).cells ({ frames := 1, cells := 1, slots := 3, locals := 14 } : Room).slots) s₁ (mkF m 0 #[.val (.ref ao)] []) by
    obtain ⟨t2_, o2_, z1_, z2_, z3_, z4_⟩ := G
    exact ⟨t2_, o2_, castTop (ef_8 m ao) z1_, z2_, z3_, z4_⟩
  generalize hPd : (fun (o : Outcome) (U' : State) => ∃ v L, o = .returned v ∧ Q8 Z ao ax kx xl x0 x1 x2 h0 n0 v U'.heap L ∧ FrameEnd s o U' L ({ frames := 1, cells := 1, slots := 3, locals := 14 } : Room).cells ({ frames := 1, cells := 1, slots := 3, locals := 14 } : Room).slots) = P
  refine own_Goes.via (T' := s₁) (g' := (mkF m 1 #[.val (.ref ao)] [(.ref ao)])) (fun t_ k_ => XS.aloadN X0.here hx rfl (hb hby d8_0) rfl rfl k_) ?_
  obtain ⟨T1, X1, e1, st1⟩ := getF X0 hx hZ hown (host := "") (Or.inl (hw _ (List.mem_of_getElem? (i := 31) rfl))) Via.refl e0 PF0 (g := (mkF m 1 #[.val (.ref ao)] [(.ref ao)])) rfl rfl (hb hby d8_1)
  refine own_Goes.via (T' := T1) (g' := (mkF m 4 #[.val (.ref ao)] [(.ref ax)])) (st1) ?_
  have hcap4_3 : xl.toNatClampNeg ≤ 3 := by first | assumption | decide
  obtain ⟨T2, h2, X2, e2, E2, A2, Ea2, st2⟩ := cloneH X1 hx hZ hown (hw _ (List.mem_of_getElem? (i := 11) rfl)) (hw _ (List.mem_of_getElem? (i := 12) rfl)) (hw _ (List.mem_of_getElem? (i := 16) rfl)) (hw _ (List.mem_of_getElem? (i := 14) rfl)) (hw _ (List.mem_of_getElem? (i := 15) rfl)) (hw _ (List.mem_of_getElem? (i := 17) rfl)) e1 PF2.arh PF1 (g := (mkF m 4 #[.val (.ref ao)] [(.ref ax)])) rfl (by rw [hml]; rfl) rfl (hb hby d8_4) (by decide) (W := 0) (cap := 3) (by show 2 * 0 + _ ≤ _; exact Nat.le_of_eq rfl) (by decide) hcap4_3 (by decide) (by decide)
  obtain ⟨b2, g2⟩ : ∃ z, z = h0.size := ⟨_, rfl⟩
  rw [← g2] at A2 Ea2 st2
  have ne_ao_b2 : ao ≠ b2 := Nat.ne_of_lt (Nat.lt_of_lt_of_le PF0.lt (Nat.le_of_eq g2.symm))
  have ne_ax_b2 : ax ≠ b2 := Nat.ne_of_lt (Nat.lt_of_lt_of_le PF1.lt (Nat.le_of_eq g2.symm))
  have F4 : Fld Z h2 ao "com/example/keysweep/keysweep/Key" "family" "[B" (.ref ax) := PF0.ext E2
  have E5 : Exa Z h2 ax "[B" := PF1.ext E2
  have V6 : Arv Z h2 ax kx .byte xl [(.int x0), (.int x1), (.int x2)] (.int (0 : Int32)) := PF2.ext E2
  have ge_b2 : n0 ≤ b2 := Nat.le_trans Z0 (Nat.le_of_eq g2.symm)
  have sz_b2 : h0.size ≤ b2 := Nat.le_trans ((Keep.refl h0 [])).1 (Nat.le_of_eq g2.symm)
  have sz2 : n0 ≤ h2.size := Nat.le_trans Z0 E2.1
  have K2 : Keep h0 h2 [] := ((Keep.refl h0 [])).ext E2
  have E7 : Exa Z h2 b2 "[B" := Ea2
  have V8 : Arv Z h2 b2 kx .byte xl [(.int x0), (.int x1), (.int x2)] (.int (0 : Int32)) := A2
  refine own_Goes.via (T' := T2) (g' := (mkF m 7 #[.val (.ref ao)] [(.ref b2)])) (st2) ?_
  obtain ⟨T9, X9, e9, st9⟩ := castY X2 hx hZ hown (hw _ (List.mem_of_getElem? (i := 18) rfl)) e2 (Ins.self E7) (g := (mkF m 7 #[.val (.ref ao)] [(.ref b2)])) rfl rfl (hb hby d8_7)
  refine own_Goes.via (T' := T9) (g' := (mkF m 10 #[.val (.ref ao)] [(.ref b2)])) (st9) ?_
  obtain ⟨fs, hr, hrun, hended, hW, hsame⟩ := X9.leave (v := some (.ref b2)) (fun h => by rw [Bd.returns] at h; cases h)
  refine own_Goes.fin (retOut X9 hx Bd.returns rfl (Or.inr (Or.inr (Or.inr (Or.inr ⟨rfl, rfl, rfl⟩)))) (hb hby d8_10) hr) hrun hended ?_
  subst hPd
  refine ⟨_, _, rfl, ?_, ⟨_, rfl⟩, hW, hsame.mono (by decide) (by decide)⟩
  show Q8 Z ao ax kx xl x0 x1 x2 h0 n0 _ T9.heap _
  rw [e9]
  exact ⟨b2, rfl, N0, K2, ⟨sz_b2, ge_b2⟩, E7, V8⟩
theorem d9_0 : decode prog_18_method_5_code 0 = .ok (.aload_n 0, 1) := by decide +kernel
theorem d9_1 : decode prog_18_method_5_code 1 = .ok (.getfield 24, 3) := by decide +kernel
theorem d9_4 : decode prog_18_method_5_code 4 = .ok (.invokevirtual 1, 3) := by decide +kernel
theorem d9_7 : decode prog_18_method_5_code 7 = .ok (.checkcast 2, 3) := by decide +kernel
theorem d9_10 : decode prog_18_method_5_code 10 = .ok (.areturn, 1) := by decide +kernel
theorem pn_9 : plainName "com/example/keysweep/keysweep/Key" = true := by first | (simp [plainName, overriddenIn]; done) | decide +kernel
theorem ef_9 (m : MethodId) (ao : Addr) : entryFrame m #[(.ref ao)] 1 = mkF m 0 #[.val (.ref ao)] [] := by first | (simp [entryFrame, mkF, argsToLocals, Value.category]; done) | rfl
def Q9 (Z : State) (ao : Addr) (ax : Addr) (kx : ClassId) (xl : Int32) (x0 : Int32) (x1 : Int32) (x2 : Int32) (h0 : Heap) (n0 : Nat) (v : Option Value) (h : Heap) (L : List Loc) : Prop := ∃ (bz : Addr), v = some (.ref bz) ∧ Fr n0 L ∧ Keep h0 h [] ∧ (h0.size ≤ bz ∧ n0 ≤ bz) ∧ Exa Z h bz "[B" ∧ Arv Z h bz kx .byte xl [(.int x0), (.int x1), (.int x2)] (.int (0 : Int32))
set_option maxRecDepth 65536 in
set_option maxHeartbeats 40000000 in
theorem rm9 (l : Launch) (Z : State) (a0 : Array Value) (hw : ∀ d ∈ tables_1, d.before a0 Z = true) (ws : List Jvm.Cond) (ao : Addr) (ax : Addr) (kx : ClassId) (xl : Int32) (x0 : Int32) (x1 : Int32) (x2 : Int32) (h0 : Heap) (n0 : Nat) (Z0 : n0 ≤ h0.size) (PF0 : Fld Z h0 ao "com/example/keysweep/keysweep/Key" "qualifier" "[B" (.ref ax)) (PF1 : Exa Z h0 ax "[B") (PF2 : Arv Z h0 ax kx .byte xl [(.int x0), (.int x1), (.int x2)] (.int (0 : Int32))) (hc : xl.toNatClampNeg ≤ 3) :
    MetFree l (⟨"com/example/keysweep/keysweep/Key", "qualifier", "()[B"⟩ : MethodName) (head1 (Jvm.Cond.code (⟨"com/example/keysweep/keysweep/Key", "qualifier", "()[B"⟩ : MethodName) prog_18_method_5_code 1 (some (.array .byte)) :: ws) ({ frames := 1, cells := 1, slots := 3, locals := 14 } : Room)) (fun a U => a = #[(.ref ao)] ∧ Z.Warmed39 U.vm ∧ U.heap = h0) (fun _ _ _ _ _ => True) (fun _ U o U' => ∃ v L, o = .returned v ∧ Q9 Z ao ax kx xl x0 x1 x2 h0 n0 v U'.heap L ∧ FrameEnd U o U' L ({ frames := 1, cells := 1, slots := 3, locals := 14 } : Room).cells ({ frames := 1, cells := 1, slots := 3, locals := 14 } : Room).slots) := by
  refine MetFree.of_bodySF (plainFor_of_name pn_9) hisR ?_
  intro p e s m args below meth c s₁ Bd hml0 hP hK
  obtain ⟨rfl, hZ, hh⟩ := hP
  have hx := Bd.exec
  have hby := Bd.bytes
  have hml : c.maxLocals = 1 := hml0
  have hown : s.vm.findClass "com/example/keysweep/keysweep/Key" = some m.cls := findClass_of_methodNamed Bd.named
  have hnm := (name_of_methodNamed Bd.named Bd.method).1
  have X0 : Stand p l e ({ frames := 1, cells := 1, slots := 3, locals := 14 } : Room) s m #[(.ref ao)] below meth c s₁ [] 0 0 := Stand.of_body Bd
  have e0 : s₁.heap = h0 := by rw [← hh, Bd.state]; rfl
  have N0 := Fr.nil n0
  suffices G : own_Goes p.tables e below (fun o U' => ∃ v L, o = .returned v ∧ Q9 Z ao ax kx xl x0 x1 x2 h0 n0 v U'.heap L ∧ FrameEnd s o U' L ({ frames := 1, cells := 1, slots := 3, locals := 14 } : Room).cells ({ frames := 1, cells := 1, slots := 3, locals := 14 } : Room).slots) s₁ (mkF m 0 #[.val (.ref ao)] []) by
    obtain ⟨t2_, o2_, z1_, z2_, z3_, z4_⟩ := G
    exact ⟨t2_, o2_, castTop (ef_9 m ao) z1_, z2_, z3_, z4_⟩
  generalize hPd : (fun (o : Outcome) (U' : State) => ∃ v L, o = .returned v ∧ Q9 Z ao ax kx xl x0 x1 x2 h0 n0 v U'.heap L ∧ FrameEnd s o U' L ({ frames := 1, cells := 1, slots := 3, locals := 14 } : Room).cells ({ frames := 1, cells := 1, slots := 3, locals := 14 } : Room).slots) = P
  refine own_Goes.via (T' := s₁) (g' := (mkF m 1 #[.val (.ref ao)] [(.ref ao)])) (fun t_ k_ => XS.aloadN X0.here hx rfl (hb hby d9_0) rfl rfl k_) ?_
  obtain ⟨T1, X1, e1, st1⟩ := getF X0 hx hZ hown (host := "") (Or.inl (hw _ (List.mem_of_getElem? (i := 33) rfl))) Via.refl e0 PF0 (g := (mkF m 1 #[.val (.ref ao)] [(.ref ao)])) rfl rfl (hb hby d9_1)
  refine own_Goes.via (T' := T1) (g' := (mkF m 4 #[.val (.ref ao)] [(.ref ax)])) (st1) ?_
  have hcap4_3 : xl.toNatClampNeg ≤ 3 := by first | assumption | decide
  obtain ⟨T2, h2, X2, e2, E2, A2, Ea2, st2⟩ := cloneH X1 hx hZ hown (hw _ (List.mem_of_getElem? (i := 11) rfl)) (hw _ (List.mem_of_getElem? (i := 12) rfl)) (hw _ (List.mem_of_getElem? (i := 16) rfl)) (hw _ (List.mem_of_getElem? (i := 14) rfl)) (hw _ (List.mem_of_getElem? (i := 15) rfl)) (hw _ (List.mem_of_getElem? (i := 17) rfl)) e1 PF2.arh PF1 (g := (mkF m 4 #[.val (.ref ao)] [(.ref ax)])) rfl (by rw [hml]; rfl) rfl (hb hby d9_4) (by decide) (W := 0) (cap := 3) (by show 2 * 0 + _ ≤ _; exact Nat.le_of_eq rfl) (by decide) hcap4_3 (by decide) (by decide)
  obtain ⟨b2, g2⟩ : ∃ z, z = h0.size := ⟨_, rfl⟩
  rw [← g2] at A2 Ea2 st2
  have ne_ao_b2 : ao ≠ b2 := Nat.ne_of_lt (Nat.lt_of_lt_of_le PF0.lt (Nat.le_of_eq g2.symm))
  have ne_ax_b2 : ax ≠ b2 := Nat.ne_of_lt (Nat.lt_of_lt_of_le PF1.lt (Nat.le_of_eq g2.symm))
  have F4 : Fld Z h2 ao "com/example/keysweep/keysweep/Key" "qualifier" "[B" (.ref ax) := PF0.ext E2
  have E5 : Exa Z h2 ax "[B" := PF1.ext E2
  have V6 : Arv Z h2 ax kx .byte xl [(.int x0), (.int x1), (.int x2)] (.int (0 : Int32)) := PF2.ext E2
  have ge_b2 : n0 ≤ b2 := Nat.le_trans Z0 (Nat.le_of_eq g2.symm)
  have sz_b2 : h0.size ≤ b2 := Nat.le_trans ((Keep.refl h0 [])).1 (Nat.le_of_eq g2.symm)
  have sz2 : n0 ≤ h2.size := Nat.le_trans Z0 E2.1
  have K2 : Keep h0 h2 [] := ((Keep.refl h0 [])).ext E2
  have E7 : Exa Z h2 b2 "[B" := Ea2
  have V8 : Arv Z h2 b2 kx .byte xl [(.int x0), (.int x1), (.int x2)] (.int (0 : Int32)) := A2
  refine own_Goes.via (T' := T2) (g' := (mkF m 7 #[.val (.ref ao)] [(.ref b2)])) (st2) ?_
  obtain ⟨T9, X9, e9, st9⟩ := castY X2 hx hZ hown (hw _ (List.mem_of_getElem? (i := 18) rfl)) e2 (Ins.self E7) (g := (mkF m 7 #[.val (.ref ao)] [(.ref b2)])) rfl rfl (hb hby d9_7)
  refine own_Goes.via (T' := T9) (g' := (mkF m 10 #[.val (.ref ao)] [(.ref b2)])) (st9) ?_
  obtain ⟨fs, hr, hrun, hended, hW, hsame⟩ := X9.leave (v := some (.ref b2)) (fun h => by rw [Bd.returns] at h; cases h)
  refine own_Goes.fin (retOut X9 hx Bd.returns rfl (Or.inr (Or.inr (Or.inr (Or.inr ⟨rfl, rfl, rfl⟩)))) (hb hby d9_10) hr) hrun hended ?_
  subst hPd
  refine ⟨_, _, rfl, ?_, ⟨_, rfl⟩, hW, hsame.mono (by decide) (by decide)⟩
  show Q9 Z ao ax kx xl x0 x1 x2 h0 n0 _ T9.heap _
  rw [e9]
  exact ⟨b2, rfl, N0, K2, ⟨sz_b2, ge_b2⟩, E7, V8⟩
theorem d10_0 : decode prog_18_method_6_code 0 = .ok (.aload_n 0, 1) := by decide +kernel
theorem d10_1 : decode prog_18_method_6_code 1 = .ok (.getfield 27, 3) := by decide +kernel
theorem d10_4 : decode prog_18_method_6_code 4 = .ok (.invokevirtual 1, 3) := by decide +kernel
theorem d10_7 : decode prog_18_method_6_code 7 = .ok (.checkcast 2, 3) := by decide +kernel
theorem d10_10 : decode prog_18_method_6_code 10 = .ok (.areturn, 1) := by decide +kernel
theorem pn_10 : plainName "com/example/keysweep/keysweep/Key" = true := by first | (simp [plainName, overriddenIn]; done) | decide +kernel
theorem ef_10 (m : MethodId) (ao : Addr) : entryFrame m #[(.ref ao)] 1 = mkF m 0 #[.val (.ref ao)] [] := by first | (simp [entryFrame, mkF, argsToLocals, Value.category]; done) | rfl
def Q10 (Z : State) (ao : Addr) (ax : Addr) (kx : ClassId) (xl : Int32) (h0 : Heap) (n0 : Nat) (v : Option Value) (h : Heap) (L : List Loc) : Prop := ∃ (bz : Addr), v = some (.ref bz) ∧ Fr n0 L ∧ Keep h0 h [] ∧ (h0.size ≤ bz ∧ n0 ≤ bz) ∧ Exa Z h bz "[B" ∧ Arv Z h bz kx .byte xl [] (.int (0 : Int32))
set_option maxRecDepth 65536 in
set_option maxHeartbeats 40000000 in
theorem rm10 (l : Launch) (Z : State) (a0 : Array Value) (hw : ∀ d ∈ tables_1, d.before a0 Z = true) (ws : List Jvm.Cond) (ao : Addr) (ax : Addr) (kx : ClassId) (xl : Int32) (h0 : Heap) (n0 : Nat) (Z0 : n0 ≤ h0.size) (PF0 : Fld Z h0 ao "com/example/keysweep/keysweep/Key" "visibility" "[B" (.ref ax)) (PF1 : Exa Z h0 ax "[B") (PF2 : Arv Z h0 ax kx .byte xl [] (.int (0 : Int32))) (hc : xl.toNatClampNeg ≤ 3) :
    MetFree l (⟨"com/example/keysweep/keysweep/Key", "visibility", "()[B"⟩ : MethodName) (head1 (Jvm.Cond.code (⟨"com/example/keysweep/keysweep/Key", "visibility", "()[B"⟩ : MethodName) prog_18_method_6_code 1 (some (.array .byte)) :: ws) ({ frames := 1, cells := 1, slots := 3, locals := 14 } : Room)) (fun a U => a = #[(.ref ao)] ∧ Z.Warmed39 U.vm ∧ U.heap = h0) (fun _ _ _ _ _ => True) (fun _ U o U' => ∃ v L, o = .returned v ∧ Q10 Z ao ax kx xl h0 n0 v U'.heap L ∧ FrameEnd U o U' L ({ frames := 1, cells := 1, slots := 3, locals := 14 } : Room).cells ({ frames := 1, cells := 1, slots := 3, locals := 14 } : Room).slots) := by
  refine MetFree.of_bodySF (plainFor_of_name pn_10) hisR ?_
  intro p e s m args below meth c s₁ Bd hml0 hP hK
  obtain ⟨rfl, hZ, hh⟩ := hP
  have hx := Bd.exec
  have hby := Bd.bytes
  have hml : c.maxLocals = 1 := hml0
  have hown : s.vm.findClass "com/example/keysweep/keysweep/Key" = some m.cls := findClass_of_methodNamed Bd.named
  have hnm := (name_of_methodNamed Bd.named Bd.method).1
  have X0 : Stand p l e ({ frames := 1, cells := 1, slots := 3, locals := 14 } : Room) s m #[(.ref ao)] below meth c s₁ [] 0 0 := Stand.of_body Bd
  have e0 : s₁.heap = h0 := by rw [← hh, Bd.state]; rfl
  have N0 := Fr.nil n0
  suffices G : own_Goes p.tables e below (fun o U' => ∃ v L, o = .returned v ∧ Q10 Z ao ax kx xl h0 n0 v U'.heap L ∧ FrameEnd s o U' L ({ frames := 1, cells := 1, slots := 3, locals := 14 } : Room).cells ({ frames := 1, cells := 1, slots := 3, locals := 14 } : Room).slots) s₁ (mkF m 0 #[.val (.ref ao)] []) by
    obtain ⟨t2_, o2_, z1_, z2_, z3_, z4_⟩ := G
    exact ⟨t2_, o2_, castTop (ef_10 m ao) z1_, z2_, z3_, z4_⟩
  generalize hPd : (fun (o : Outcome) (U' : State) => ∃ v L, o = .returned v ∧ Q10 Z ao ax kx xl h0 n0 v U'.heap L ∧ FrameEnd s o U' L ({ frames := 1, cells := 1, slots := 3, locals := 14 } : Room).cells ({ frames := 1, cells := 1, slots := 3, locals := 14 } : Room).slots) = P
  refine own_Goes.via (T' := s₁) (g' := (mkF m 1 #[.val (.ref ao)] [(.ref ao)])) (fun t_ k_ => XS.aloadN X0.here hx rfl (hb hby d10_0) rfl rfl k_) ?_
  obtain ⟨T1, X1, e1, st1⟩ := getF X0 hx hZ hown (host := "") (Or.inl (hw _ (List.mem_of_getElem? (i := 35) rfl))) Via.refl e0 PF0 (g := (mkF m 1 #[.val (.ref ao)] [(.ref ao)])) rfl rfl (hb hby d10_1)
  refine own_Goes.via (T' := T1) (g' := (mkF m 4 #[.val (.ref ao)] [(.ref ax)])) (st1) ?_
  have hcap4_3 : xl.toNatClampNeg ≤ 3 := by first | assumption | decide
  obtain ⟨T2, h2, X2, e2, E2, A2, Ea2, st2⟩ := cloneH X1 hx hZ hown (hw _ (List.mem_of_getElem? (i := 11) rfl)) (hw _ (List.mem_of_getElem? (i := 12) rfl)) (hw _ (List.mem_of_getElem? (i := 16) rfl)) (hw _ (List.mem_of_getElem? (i := 14) rfl)) (hw _ (List.mem_of_getElem? (i := 15) rfl)) (hw _ (List.mem_of_getElem? (i := 17) rfl)) e1 PF2.arh PF1 (g := (mkF m 4 #[.val (.ref ao)] [(.ref ax)])) rfl (by rw [hml]; rfl) rfl (hb hby d10_4) (by decide) (W := 0) (cap := 3) (by show 2 * 0 + _ ≤ _; exact Nat.le_of_eq rfl) (by decide) hcap4_3 (by decide) (by decide)
  obtain ⟨b2, g2⟩ : ∃ z, z = h0.size := ⟨_, rfl⟩
  rw [← g2] at A2 Ea2 st2
  have ne_ao_b2 : ao ≠ b2 := Nat.ne_of_lt (Nat.lt_of_lt_of_le PF0.lt (Nat.le_of_eq g2.symm))
  have ne_ax_b2 : ax ≠ b2 := Nat.ne_of_lt (Nat.lt_of_lt_of_le PF1.lt (Nat.le_of_eq g2.symm))
  have F4 : Fld Z h2 ao "com/example/keysweep/keysweep/Key" "visibility" "[B" (.ref ax) := PF0.ext E2
  have E5 : Exa Z h2 ax "[B" := PF1.ext E2
  have V6 : Arv Z h2 ax kx .byte xl [] (.int (0 : Int32)) := PF2.ext E2
  have ge_b2 : n0 ≤ b2 := Nat.le_trans Z0 (Nat.le_of_eq g2.symm)
  have sz_b2 : h0.size ≤ b2 := Nat.le_trans ((Keep.refl h0 [])).1 (Nat.le_of_eq g2.symm)
  have sz2 : n0 ≤ h2.size := Nat.le_trans Z0 E2.1
  have K2 : Keep h0 h2 [] := ((Keep.refl h0 [])).ext E2
  have E7 : Exa Z h2 b2 "[B" := Ea2
  have V8 : Arv Z h2 b2 kx .byte xl [] (.int (0 : Int32)) := A2
  refine own_Goes.via (T' := T2) (g' := (mkF m 7 #[.val (.ref ao)] [(.ref b2)])) (st2) ?_
  obtain ⟨T9, X9, e9, st9⟩ := castY X2 hx hZ hown (hw _ (List.mem_of_getElem? (i := 18) rfl)) e2 (Ins.self E7) (g := (mkF m 7 #[.val (.ref ao)] [(.ref b2)])) rfl rfl (hb hby d10_7)
  refine own_Goes.via (T' := T9) (g' := (mkF m 10 #[.val (.ref ao)] [(.ref b2)])) (st9) ?_
  obtain ⟨fs, hr, hrun, hended, hW, hsame⟩ := X9.leave (v := some (.ref b2)) (fun h => by rw [Bd.returns] at h; cases h)
  refine own_Goes.fin (retOut X9 hx Bd.returns rfl (Or.inr (Or.inr (Or.inr (Or.inr ⟨rfl, rfl, rfl⟩)))) (hb hby d10_10) hr) hrun hended ?_
  subst hPd
  refine ⟨_, _, rfl, ?_, ⟨_, rfl⟩, hW, hsame.mono (by decide) (by decide)⟩
  show Q10 Z ao ax kx xl h0 n0 _ T9.heap _
  rw [e9]
  exact ⟨b2, rfl, N0, K2, ⟨sz_b2, ge_b2⟩, E7, V8⟩
theorem d11_0 : decode prog_18_method_7_code 0 = .ok (.aload_n 0, 1) := by decide +kernel
theorem d11_1 : decode prog_18_method_7_code 1 = .ok (.getfield 30, 3) := by decide +kernel
theorem d11_4 : decode prog_18_method_7_code 4 = .ok (.lreturn, 1) := by decide +kernel
theorem pn_11 : plainName "com/example/keysweep/keysweep/Key" = true := by first | (simp [plainName, overriddenIn]; done) | decide +kernel
theorem ef_11 (m : MethodId) (ao : Addr) : entryFrame m #[(.ref ao)] 1 = mkF m 0 #[.val (.ref ao)] [] := by first | (simp [entryFrame, mkF, argsToLocals, Value.category]; done) | rfl
def own_f11 (xt : Int64) : Int64 := xt
def Q11 (Z : State) (ao : Addr) (xt : Int64) (h0 : Heap) (n0 : Nat) (v : Option Value) (h : Heap) (L : List Loc) : Prop := v = some (.long (own_f11 xt)) ∧ Fr n0 L ∧ h = h0
set_option maxRecDepth 65536 in
set_option maxHeartbeats 40000000 in
theorem rm11 (l : Launch) (Z : State) (a0 : Array Value) (hw : ∀ d ∈ tables_1, d.before a0 Z = true) (ws : List Jvm.Cond) (ao : Addr) (xt : Int64) (h0 : Heap) (n0 : Nat) (Z0 : n0 ≤ h0.size) (PF0 : Fld Z h0 ao "com/example/keysweep/keysweep/Key" "timestamp" "J" (.long xt)) :
    MetFree l (⟨"com/example/keysweep/keysweep/Key", "timestamp", "()J"⟩ : MethodName) (head1 (Jvm.Cond.code (⟨"com/example/keysweep/keysweep/Key", "timestamp", "()J"⟩ : MethodName) prog_18_method_7_code 1 (some .long) :: ws) ({ frames := 0, cells := 0, slots := 0, locals := 0 } : Room)) (fun a U => a = #[(.ref ao)] ∧ Z.Warmed39 U.vm ∧ U.heap = h0) (fun _ _ _ _ _ => True) (fun _ U o U' => ∃ v L, o = .returned v ∧ Q11 Z ao xt h0 n0 v U'.heap L ∧ FrameEnd U o U' L ({ frames := 0, cells := 0, slots := 0, locals := 0 } : Room).cells ({ frames := 0, cells := 0, slots := 0, locals := 0 } : Room).slots) := by
  refine MetFree.of_bodySF (plainFor_of_name pn_11) hisR ?_
  intro p e s m args below meth c s₁ Bd hml0 hP hK
  obtain ⟨rfl, hZ, hh⟩ := hP
  have hx := Bd.exec
  have hby := Bd.bytes
  have hml : c.maxLocals = 1 := hml0
  have hown : s.vm.findClass "com/example/keysweep/keysweep/Key" = some m.cls := findClass_of_methodNamed Bd.named
  have hnm := (name_of_methodNamed Bd.named Bd.method).1
  have X0 : Stand p l e ({ frames := 0, cells := 0, slots := 0, locals := 0 } : Room) s m #[(.ref ao)] below meth c s₁ [] 0 0 := Stand.of_body Bd
  have e0 : s₁.heap = h0 := by rw [← hh, Bd.state]; rfl
  have N0 := Fr.nil n0
  suffices G : own_Goes p.tables e below (fun o U' => ∃ v L, o = .returned v ∧ Q11 Z ao xt h0 n0 v U'.heap L ∧ FrameEnd s o U' L ({ frames := 0, cells := 0, slots := 0, locals := 0 } : Room).cells ({ frames := 0, cells := 0, slots := 0, locals := 0 } : Room).slots) s₁ (mkF m 0 #[.val (.ref ao)] []) by
    obtain ⟨t2_, o2_, z1_, z2_, z3_, z4_⟩ := G
    exact ⟨t2_, o2_, castTop (ef_11 m ao) z1_, z2_, z3_, z4_⟩
  generalize hPd : (fun (o : Outcome) (U' : State) => ∃ v L, o = .returned v ∧ Q11 Z ao xt h0 n0 v U'.heap L ∧ FrameEnd s o U' L ({ frames := 0, cells := 0, slots := 0, locals := 0 } : Room).cells ({ frames := 0, cells := 0, slots := 0, locals := 0 } : Room).slots) = P
  refine own_Goes.via (T' := s₁) (g' := (mkF m 1 #[.val (.ref ao)] [(.ref ao)])) (fun t_ k_ => XS.aloadN X0.here hx rfl (hb hby d11_0) rfl rfl k_) ?_
  obtain ⟨T1, X1, e1, st1⟩ := getF X0 hx hZ hown (host := "") (Or.inl (hw _ (List.mem_of_getElem? (i := 37) rfl))) Via.refl e0 PF0 (g := (mkF m 1 #[.val (.ref ao)] [(.ref ao)])) rfl rfl (hb hby d11_1)
  refine own_Goes.via (T' := T1) (g' := (mkF m 4 #[.val (.ref ao)] [(.long xt)])) (st1) ?_
  obtain ⟨fs, hr, hrun, hended, hW, hsame⟩ := X1.leave (v := some (.long xt)) (fun h => by rw [Bd.returns] at h; cases h)
  refine own_Goes.fin (retOut X1 hx Bd.returns rfl (Or.inr (Or.inl ⟨rfl, rfl, _, rfl⟩)) (hb hby d11_4) hr) hrun hended ?_
  subst hPd
  refine ⟨_, _, rfl, ?_, ⟨_, rfl⟩, hW, hsame.mono (by decide) (by decide)⟩
  show Q11 Z ao xt h0 n0 _ T1.heap _
  rw [e1]
  exact ⟨(by first | rfl | (simp only [own_f11])), N0, rfl⟩
theorem d12_0 : decode prog_18_method_8_code 0 = .ok (.aload_n 0, 1) := by decide +kernel
theorem d12_1 : decode prog_18_method_8_code 1 = .ok (.getfield 34, 3) := by decide +kernel
theorem d12_4 : decode prog_18_method_8_code 4 = .ok (.ireturn, 1) := by decide +kernel
theorem pn_12 : plainName "com/example/keysweep/keysweep/Key" = true := by first | (simp [plainName, overriddenIn]; done) | decide +kernel
theorem ef_12 (m : MethodId) (ao : Addr) : entryFrame m #[(.ref ao)] 1 = mkF m 0 #[.val (.ref ao)] [] := by first | (simp [entryFrame, mkF, argsToLocals, Value.category]; done) | rfl
def own_f12 (xd : Int32) : Int32 := xd
def Q12 (Z : State) (ao : Addr) (xd : Int32) (h0 : Heap) (n0 : Nat) (v : Option Value) (h : Heap) (L : List Loc) : Prop := v = some (.int (own_f12 xd)) ∧ Fr n0 L ∧ h = h0
set_option maxRecDepth 65536 in
set_option maxHeartbeats 40000000 in
theorem rm12 (l : Launch) (Z : State) (a0 : Array Value) (hw : ∀ d ∈ tables_1, d.before a0 Z = true) (ws : List Jvm.Cond) (ao : Addr) (xd : Int32) (h0 : Heap) (n0 : Nat) (Z0 : n0 ≤ h0.size) (PF0 : Fld Z h0 ao "com/example/keysweep/keysweep/Key" "deleteMarker" "Z" (.int xd)) (hd : nar .boolean xd = xd) :
    MetFree l (⟨"com/example/keysweep/keysweep/Key", "isDeleteMarker", "()Z"⟩ : MethodName) (head1 (Jvm.Cond.code (⟨"com/example/keysweep/keysweep/Key", "isDeleteMarker", "()Z"⟩ : MethodName) prog_18_method_8_code 1 (some .boolean) :: ws) ({ frames := 0, cells := 0, slots := 0, locals := 0 } : Room)) (fun a U => a = #[(.ref ao)] ∧ Z.Warmed39 U.vm ∧ U.heap = h0) (fun _ _ _ _ _ => True) (fun _ U o U' => ∃ v L, o = .returned v ∧ Q12 Z ao xd h0 n0 v U'.heap L ∧ FrameEnd U o U' L ({ frames := 0, cells := 0, slots := 0, locals := 0 } : Room).cells ({ frames := 0, cells := 0, slots := 0, locals := 0 } : Room).slots) := by
  refine MetFree.of_bodySF (plainFor_of_name pn_12) hisR ?_
  intro p e s m args below meth c s₁ Bd hml0 hP hK
  obtain ⟨rfl, hZ, hh⟩ := hP
  have hx := Bd.exec
  have hby := Bd.bytes
  have hml : c.maxLocals = 1 := hml0
  have hown : s.vm.findClass "com/example/keysweep/keysweep/Key" = some m.cls := findClass_of_methodNamed Bd.named
  have hnm := (name_of_methodNamed Bd.named Bd.method).1
  have X0 : Stand p l e ({ frames := 0, cells := 0, slots := 0, locals := 0 } : Room) s m #[(.ref ao)] below meth c s₁ [] 0 0 := Stand.of_body Bd
  have e0 : s₁.heap = h0 := by rw [← hh, Bd.state]; rfl
  have N0 := Fr.nil n0
  suffices G : own_Goes p.tables e below (fun o U' => ∃ v L, o = .returned v ∧ Q12 Z ao xd h0 n0 v U'.heap L ∧ FrameEnd s o U' L ({ frames := 0, cells := 0, slots := 0, locals := 0 } : Room).cells ({ frames := 0, cells := 0, slots := 0, locals := 0 } : Room).slots) s₁ (mkF m 0 #[.val (.ref ao)] []) by
    obtain ⟨t2_, o2_, z1_, z2_, z3_, z4_⟩ := G
    exact ⟨t2_, o2_, castTop (ef_12 m ao) z1_, z2_, z3_, z4_⟩
  generalize hPd : (fun (o : Outcome) (U' : State) => ∃ v L, o = .returned v ∧ Q12 Z ao xd h0 n0 v U'.heap L ∧ FrameEnd s o U' L ({ frames := 0, cells := 0, slots := 0, locals := 0 } : Room).cells ({ frames := 0, cells := 0, slots := 0, locals := 0 } : Room).slots) = P
  refine own_Goes.via (T' := s₁) (g' := (mkF m 1 #[.val (.ref ao)] [(.ref ao)])) (fun t_ k_ => XS.aloadN X0.here hx rfl (hb hby d12_0) rfl rfl k_) ?_
  obtain ⟨T1, X1, e1, st1⟩ := getF X0 hx hZ hown (host := "") (Or.inl (hw _ (List.mem_of_getElem? (i := 39) rfl))) Via.refl e0 PF0 (g := (mkF m 1 #[.val (.ref ao)] [(.ref ao)])) rfl rfl (hb hby d12_1)
  refine own_Goes.via (T' := T1) (g' := (mkF m 4 #[.val (.ref ao)] [(.int xd)])) (st1) ?_
  have hnar2 : nar .boolean xd = xd := hd
  obtain ⟨fs, hr, hrun, hended, hW, hsame⟩ := X1.leave (v := some (.int xd)) (fun h => by rw [Bd.returns] at h; cases h)
  refine own_Goes.fin (retN X1 hx (t := .boolean) Bd.returns (by simp) (hb hby d12_4) (by rw [hnar2]; exact hr)) hrun hended ?_
  subst hPd
  refine ⟨_, _, rfl, ?_, ⟨_, rfl⟩, hW, hsame.mono (by decide) (by decide)⟩
  show Q12 Z ao xd h0 n0 _ T1.heap _
  rw [e1]
  exact ⟨(by first | rfl | (simp only [own_f12])), N0, rfl⟩
theorem d7_0 : decode method_4_code 0 = .ok (.aload_n 0, 1) := by decide +kernel
theorem d7_1 : decode method_4_code 1 = .ok (.arraylength, 1) := by decide +kernel
theorem d7_2 : decode method_4_code 2 = .ok (.iload_n 2, 1) := by decide +kernel
theorem d7_3 : decode method_4_code 3 = .ok (.if_icmp .eq 5, 3) := by decide +kernel
theorem d7_6 : decode method_4_code 6 = .ok (.iconst 0, 1) := by decide +kernel
theorem d7_7 : decode method_4_code 7 = .ok (.ireturn, 1) := by decide +kernel
theorem d7_8 : decode method_4_code 8 = .ok (.iload_n 2, 1) := by decide +kernel
theorem d7_9 : decode method_4_code 9 = .ok (.ifCond .le 13, 3) := by decide +kernel
theorem d7_12 : decode method_4_code 12 = .ok (.aload_n 0, 1) := by decide +kernel
theorem d7_13 : decode method_4_code 13 = .ok (.iconst 0, 1) := by decide +kernel
theorem d7_14 : decode method_4_code 14 = .ok (.baload, 1) := by decide +kernel
theorem d7_15 : decode method_4_code 15 = .ok (.iload_n 1, 1) := by decide +kernel
theorem d7_16 : decode method_4_code 16 = .ok (.i2b, 1) := by decide +kernel
theorem d7_17 : decode method_4_code 17 = .ok (.if_icmp .eq 5, 3) := by decide +kernel
theorem d7_20 : decode method_4_code 20 = .ok (.iconst 0, 1) := by decide +kernel
theorem d7_21 : decode method_4_code 21 = .ok (.ireturn, 1) := by decide +kernel
theorem d7_22 : decode method_4_code 22 = .ok (.iload_n 2, 1) := by decide +kernel
theorem d7_23 : decode method_4_code 23 = .ok (.iconst 1, 1) := by decide +kernel
theorem d7_24 : decode method_4_code 24 = .ok (.if_icmp .le 16, 3) := by decide +kernel
theorem d7_27 : decode method_4_code 27 = .ok (.aload_n 0, 1) := by decide +kernel
theorem d7_28 : decode method_4_code 28 = .ok (.iconst 1, 1) := by decide +kernel
theorem d7_29 : decode method_4_code 29 = .ok (.baload, 1) := by decide +kernel
theorem d7_30 : decode method_4_code 30 = .ok (.iload_n 1, 1) := by decide +kernel
theorem d7_31 : decode method_4_code 31 = .ok (.bipush 8, 2) := by decide +kernel
theorem d7_33 : decode method_4_code 33 = .ok (.ishr, 1) := by decide +kernel
theorem d7_34 : decode method_4_code 34 = .ok (.i2b, 1) := by decide +kernel
theorem d7_35 : decode method_4_code 35 = .ok (.if_icmp .eq 5, 3) := by decide +kernel
theorem d7_38 : decode method_4_code 38 = .ok (.iconst 0, 1) := by decide +kernel
theorem d7_39 : decode method_4_code 39 = .ok (.ireturn, 1) := by decide +kernel
theorem d7_40 : decode method_4_code 40 = .ok (.iload_n 2, 1) := by decide +kernel
theorem d7_41 : decode method_4_code 41 = .ok (.iconst 2, 1) := by decide +kernel
theorem d7_42 : decode method_4_code 42 = .ok (.if_icmp .le 16, 3) := by decide +kernel
theorem d7_45 : decode method_4_code 45 = .ok (.aload_n 0, 1) := by decide +kernel
theorem d7_46 : decode method_4_code 46 = .ok (.iconst 2, 1) := by decide +kernel
theorem d7_47 : decode method_4_code 47 = .ok (.baload, 1) := by decide +kernel
theorem d7_48 : decode method_4_code 48 = .ok (.iload_n 1, 1) := by decide +kernel
theorem d7_49 : decode method_4_code 49 = .ok (.bipush 16, 2) := by decide +kernel
theorem d7_51 : decode method_4_code 51 = .ok (.ishr, 1) := by decide +kernel
theorem d7_52 : decode method_4_code 52 = .ok (.i2b, 1) := by decide +kernel
theorem d7_53 : decode method_4_code 53 = .ok (.if_icmp .eq 5, 3) := by decide +kernel
theorem d7_56 : decode method_4_code 56 = .ok (.iconst 0, 1) := by decide +kernel
theorem d7_57 : decode method_4_code 57 = .ok (.ireturn, 1) := by decide +kernel
theorem d7_58 : decode method_4_code 58 = .ok (.iconst 1, 1) := by decide +kernel
theorem d7_59 : decode method_4_code 59 = .ok (.ireturn, 1) := by decide +kernel
theorem pn_7 : plainName "com/example/keysweep/keysweep/KeyFirstOfPinLaw" = true := by first | (simp [plainName, overriddenIn]; done) | decide +kernel
theorem ef_7 (m : MethodId) (ar : Addr) (xb : Int32) (xl : Int32) : entryFrame m #[(.ref ar), (.int xb), (.int xl)] 3 = mkF m 0 #[.val (.ref ar), .val (.int xb), .val (.int xl)] [] := by first | (simp [entryFrame, mkF, argsToLocals, Value.category]; done) | rfl
def own_f7 (xb : Int32) (xl : Int32) (xlr : Int32) (xr0 : Int32) (xr1 : Int32) (xr2 : Int32) : Int32 := (if xlr = xl then (if (0 : Int32) < xl then (if xr0 = (xb.toInt8.toInt32) then (if (1 : Int32) < xl then (if xr1 = ((xb >>> ((8 : Int32) &&& 31)).toInt8.toInt32) then (if (2 : Int32) < xl then (if xr2 = ((xb >>> ((16 : Int32) &&& 31)).toInt8.toInt32) then (1 : Int32) else (0 : Int32)) else (1 : Int32)) else (0 : Int32)) else (if (2 : Int32) < xl then (if xr2 = ((xb >>> ((16 : Int32) &&& 31)).toInt8.toInt32) then (1 : Int32) else (0 : Int32)) else (1 : Int32))) else (0 : Int32)) else (if (1 : Int32) < xl then (if xr1 = ((xb >>> ((8 : Int32) &&& 31)).toInt8.toInt32) then (if (2 : Int32) < xl then (if xr2 = ((xb >>> ((16 : Int32) &&& 31)).toInt8.toInt32) then (1 : Int32) else (0 : Int32)) else (1 : Int32)) else (0 : Int32)) else (if (2 : Int32) < xl then (if xr2 = ((xb >>> ((16 : Int32) &&& 31)).toInt8.toInt32) then (1 : Int32) else (0 : Int32)) else (1 : Int32)))) else (0 : Int32))
def Q7 (Z : State) (ar : Addr) (xb : Int32) (xl : Int32) (kr : ClassId) (xlr : Int32) (xr0 : Int32) (xr1 : Int32) (xr2 : Int32) (h0 : Heap) (n0 : Nat) (v : Option Value) (h : Heap) (L : List Loc) : Prop := v = some (.int (own_f7 xb xl xlr xr0 xr1 xr2)) ∧ Fr n0 L ∧ h = h0
set_option maxRecDepth 65536 in
theorem own_pl7_0 {xl : Int32} {xlr : Int32} (hc3_2 : xlr = xl) (hc9_3 : (0 : Int32) < xl) : ¬ (0 : Int32) < 0 ∧ (0 : Int32) < xlr := by
  first | exact ⟨by decide, by assumption⟩ | (subst_vars; exact ⟨by decide, by assumption⟩)
set_option maxRecDepth 65536 in
theorem own_pl7_1 {xb : Int32} {xl : Int32} {xlr : Int32} {xr0 : Int32} (hc3_2 : xlr = xl) (hc9_3 : (0 : Int32) < xl) (hc17_6 : xr0 = (xb.toInt8.toInt32)) (hc24_7 : (1 : Int32) < xl) (in14_5 : ¬ (0 : Int32) < 0 ∧ (0 : Int32) < xlr) : ¬ (1 : Int32) < 0 ∧ (1 : Int32) < xlr := by
  first | exact ⟨by decide, by assumption⟩ | (subst_vars; exact ⟨by decide, by assumption⟩)
set_option maxRecDepth 65536 in
theorem own_pl7_2 {xb : Int32} {xl : Int32} {xlr : Int32} {xr0 : Int32} {xr1 : Int32} (hc3_2 : xlr = xl) (hc9_3 : (0 : Int32) < xl) (hc17_6 : xr0 = (xb.toInt8.toInt32)) (hc24_7 : (1 : Int32) < xl) (hc35_10 : xr1 = ((xb >>> ((8 : Int32) &&& 31)).toInt8.toInt32)) (hc42_11 : (2 : Int32) < xl) (in14_5 : ¬ (0 : Int32) < 0 ∧ (0 : Int32) < xlr) (in29_9 : ¬ (1 : Int32) < 0 ∧ (1 : Int32) < xlr) : ¬ (2 : Int32) < 0 ∧ (2 : Int32) < xlr := by
  first | exact ⟨by decide, by assumption⟩ | (subst_vars; exact ⟨by decide, by assumption⟩)
set_option maxRecDepth 65536 in
theorem own_pl7_3 {xb : Int32} {xl : Int32} {xlr : Int32} {xr0 : Int32} (hc3_2 : xlr = xl) (hc9_3 : (0 : Int32) < xl) (hc17_6 : xr0 = (xb.toInt8.toInt32)) (hc24_7 : ¬ ((1 : Int32) < xl)) (hc42_15 : (2 : Int32) < xl) (in14_5 : ¬ (0 : Int32) < 0 ∧ (0 : Int32) < xlr) : ¬ (2 : Int32) < 0 ∧ (2 : Int32) < xlr := by
  first | exact ⟨by decide, by assumption⟩ | (subst_vars; exact ⟨by decide, by assumption⟩)
set_option maxRecDepth 65536 in
theorem own_pl7_4 {xl : Int32} {xlr : Int32} (hc3_2 : xlr = xl) (hc9_3 : ¬ ((0 : Int32) < xl)) (hc24_19 : (1 : Int32) < xl) : ¬ (1 : Int32) < 0 ∧ (1 : Int32) < xlr := by
  first | exact ⟨by decide, by assumption⟩ | (subst_vars; exact ⟨by decide, by assumption⟩)
set_option maxRecDepth 65536 in
theorem own_pl7_5 {xb : Int32} {xl : Int32} {xlr : Int32} {xr1 : Int32} (hc3_2 : xlr = xl) (hc9_3 : ¬ ((0 : Int32) < xl)) (hc24_19 : (1 : Int32) < xl) (hc35_22 : xr1 = ((xb >>> ((8 : Int32) &&& 31)).toInt8.toInt32)) (hc42_23 : (2 : Int32) < xl) (in29_21 : ¬ (1 : Int32) < 0 ∧ (1 : Int32) < xlr) : ¬ (2 : Int32) < 0 ∧ (2 : Int32) < xlr := by
  first | exact ⟨by decide, by assumption⟩ | (subst_vars; exact ⟨by decide, by assumption⟩)
set_option maxRecDepth 65536 in
theorem own_pl7_6 {xl : Int32} {xlr : Int32} (hc3_2 : xlr = xl) (hc9_3 : ¬ ((0 : Int32) < xl)) (hc24_19 : ¬ ((1 : Int32) < xl)) (hc42_27 : (2 : Int32) < xl) : ¬ (2 : Int32) < 0 ∧ (2 : Int32) < xlr := by
  first | exact ⟨by decide, by assumption⟩ | (subst_vars; exact ⟨by decide, by assumption⟩)
set_option maxRecDepth 65536 in
set_option maxHeartbeats 40000000 in
theorem rm7 (l : Launch) (Z : State) (a0 : Array Value) (hw : ∀ d ∈ tables_1, d.before a0 Z = true) (ws : List Jvm.Cond) (ar : Addr) (xb : Int32) (xl : Int32) (kr : ClassId) (xlr : Int32) (xr0 : Int32) (xr1 : Int32) (xr2 : Int32) (h0 : Heap) (n0 : Nat) (Z0 : n0 ≤ h0.size) (PF0 : Arv Z h0 ar kr .byte xlr [(.int xr0), (.int xr1), (.int xr2)] (.int (0 : Int32))) :
    MetFree l (⟨"com/example/keysweep/keysweep/KeyFirstOfPinLaw", "same", "([BII)Z"⟩ : MethodName) (head1 (Jvm.Cond.code (⟨"com/example/keysweep/keysweep/KeyFirstOfPinLaw", "same", "([BII)Z"⟩ : MethodName) method_4_code 3 (some .boolean) :: ws) ({ frames := 0, cells := 0, slots := 0, locals := 0 } : Room)) (fun a U => a = #[(.ref ar), (.int xb), (.int xl)] ∧ Z.Warmed39 U.vm ∧ U.heap = h0) (fun _ _ _ _ _ => True) (fun _ U o U' => ∃ v L, o = .returned v ∧ Q7 Z ar xb xl kr xlr xr0 xr1 xr2 h0 n0 v U'.heap L ∧ FrameEnd U o U' L ({ frames := 0, cells := 0, slots := 0, locals := 0 } : Room).cells ({ frames := 0, cells := 0, slots := 0, locals := 0 } : Room).slots) := by
  refine MetFree.of_bodySF (plainFor_of_name pn_7) hisR ?_
  intro p e s m args below meth c s₁ Bd hml0 hP hK
  obtain ⟨rfl, hZ, hh⟩ := hP
  have hx := Bd.exec
  have hby := Bd.bytes
  have hml : c.maxLocals = 3 := hml0
  have hown : s.vm.findClass "com/example/keysweep/keysweep/KeyFirstOfPinLaw" = some m.cls := findClass_of_methodNamed Bd.named
  have hnm := (name_of_methodNamed Bd.named Bd.method).1
  have X0 : Stand p l e ({ frames := 0, cells := 0, slots := 0, locals := 0 } : Room) s m #[(.ref ar), (.int xb), (.int xl)] below meth c s₁ [] 0 0 := Stand.of_body Bd
  have e0 : s₁.heap = h0 := by rw [← hh, Bd.state]; rfl
  have N0 := Fr.nil n0
  suffices G : own_Goes p.tables e below (fun o U' => ∃ v L, o = .returned v ∧ Q7 Z ar xb xl kr xlr xr0 xr1 xr2 h0 n0 v U'.heap L ∧ FrameEnd s o U' L ({ frames := 0, cells := 0, slots := 0, locals := 0 } : Room).cells ({ frames := 0, cells := 0, slots := 0, locals := 0 } : Room).slots) s₁ (mkF m 0 #[.val (.ref ar), .val (.int xb), .val (.int xl)] []) by
    obtain ⟨t2_, o2_, z1_, z2_, z3_, z4_⟩ := G
    exact ⟨t2_, o2_, castTop (ef_7 m ar xb xl) z1_, z2_, z3_, z4_⟩
  generalize hPd : (fun (o : Outcome) (U' : State) => ∃ v L, o = .returned v ∧ Q7 Z ar xb xl kr xlr xr0 xr1 xr2 h0 n0 v U'.heap L ∧ FrameEnd s o U' L ({ frames := 0, cells := 0, slots := 0, locals := 0 } : Room).cells ({ frames := 0, cells := 0, slots := 0, locals := 0 } : Room).slots) = P
  refine own_Goes.via (T' := s₁) (g' := (mkF m 1 #[.val (.ref ar), .val (.int xb), .val (.int xl)] [(.ref ar)])) (fun t_ k_ => XS.aloadN X0.here hx rfl (hb hby d7_0) rfl rfl k_) ?_
  obtain ⟨cl1, Ar1, -, Sl1, Ng1, -, -⟩ := id PF0
  refine own_Goes.via (T' := s₁) (g' := (mkF m 2 #[.val (.ref ar), .val (.int xb), .val (.int xl)] [(.int xlr)])) (fun t_ k_ => X0.arraylength hx (by rw [e0]; exact Ar1.1) (State.isArrayOf_alike hZ.alike Ar1.2.1) (g := (mkF m 1 #[.val (.ref ar), .val (.int xb), .val (.int xl)] [(.ref ar)])) rfl rfl (hb hby d7_1) _ (by rw [len_of Sl1 Ng1]; exact k_)) ?_
  refine own_Goes.via (T' := s₁) (g' := (mkF m 3 #[.val (.ref ar), .val (.int xb), .val (.int xl)] [(.int xl), (.int xlr)])) (fun t_ k_ => XS.iloadN X0.here hx rfl (hb hby d7_2) rfl k_) ?_
  by_cases hc3_2 : xlr = xl
  · refine own_Goes.via (T' := s₁) (g' := (mkF m 8 #[.val (.ref ar), .val (.int xb), .val (.int xl)] [])) (fun t_ k_ => XS.icmpYes X0.here hx rfl (pc0 := 3) (pc' := 8) rfl (hb hby d7_3) rfl (teq hc3_2).1 (by decide) (by decide) k_) ?_
    refine own_Goes.via (T' := s₁) (g' := (mkF m 9 #[.val (.ref ar), .val (.int xb), .val (.int xl)] [(.int xl)])) (fun t_ k_ => XS.iloadN X0.here hx rfl (hb hby d7_8) rfl k_) ?_
    by_cases hc9_3 : (0 : Int32) < xl
    · refine own_Goes.via (T' := s₁) (g' := (mkF m 12 #[.val (.ref ar), .val (.int xb), .val (.int xl)] [])) (fun t_ k_ => XS.ifNo X0.here hx rfl (hb hby d7_9) rfl ((if0 _ _).trans (tlt hc9_3).2.2.2) k_) ?_
      refine own_Goes.via (T' := s₁) (g' := (mkF m 13 #[.val (.ref ar), .val (.int xb), .val (.int xl)] [(.ref ar)])) (fun t_ k_ => XS.aloadN X0.here hx rfl (hb hby d7_12) rfl rfl k_) ?_
      refine own_Goes.via (T' := s₁) (g' := (mkF m 14 #[.val (.ref ar), .val (.int xb), .val (.int xl)] [(.int (0 : Int32)), (.ref ar)])) (fun t_ k_ => XS.iconst X0.here hx rfl (hb hby d7_13) k_) ?_
      obtain ⟨cl4, Ar4, -, Sl4, Ng4, H4, -⟩ := id PF0
      have in14_5 : ¬ (0 : Int32) < 0 ∧ (0 : Int32) < xlr := own_pl7_0 hc3_2 hc9_3
      have at4 := H4.at (inb_of Sl4 in14_5) (v := (.int xr0)) rfl
      refine own_Goes.via (T' := s₁) (g' := (mkF m 15 #[.val (.ref ar), .val (.int xb), .val (.int xl)] [(.int xr0)])) (fun t_ k_ => X0.baloadBytes hx (j := (0 : Int32)) (v := (.int xr0)) (by rw [e0]; exact Ar4.1) (State.isArrayOf_alike hZ.alike Ar4.2.1) Ar4.2.2 (inb_of Sl4 in14_5) at4 (g := (mkF m 14 #[.val (.ref ar), .val (.int xb), .val (.int xl)] [(.int (0 : Int32)), (.ref ar)])) rfl rfl (hb hby d7_14) _ k_) ?_
      refine own_Goes.via (T' := s₁) (g' := (mkF m 16 #[.val (.ref ar), .val (.int xb), .val (.int xl)] [(.int xb), (.int xr0)])) (fun t_ k_ => XS.iloadN X0.here hx rfl (hb hby d7_15) rfl k_) ?_
      refine own_Goes.via (T' := s₁) (g' := (mkF m 17 #[.val (.ref ar), .val (.int xb), .val (.int xl)] [(.int (xb.toInt8.toInt32)), (.int xr0)])) (fun t_ k_ => XS.i2b X0.here hx rfl (hb hby d7_16) rfl k_) ?_
      by_cases hc17_6 : xr0 = (xb.toInt8.toInt32)
      · refine own_Goes.via (T' := s₁) (g' := (mkF m 22 #[.val (.ref ar), .val (.int xb), .val (.int xl)] [])) (fun t_ k_ => XS.icmpYes X0.here hx rfl (pc0 := 17) (pc' := 22) rfl (hb hby d7_17) rfl (teq hc17_6).1 (by decide) (by decide) k_) ?_
        refine own_Goes.via (T' := s₁) (g' := (mkF m 23 #[.val (.ref ar), .val (.int xb), .val (.int xl)] [(.int xl)])) (fun t_ k_ => XS.iloadN X0.here hx rfl (hb hby d7_22) rfl k_) ?_
        refine own_Goes.via (T' := s₁) (g' := (mkF m 24 #[.val (.ref ar), .val (.int xb), .val (.int xl)] [(.int (1 : Int32)), (.int xl)])) (fun t_ k_ => XS.iconst X0.here hx rfl (hb hby d7_23) k_) ?_
        by_cases hc24_7 : (1 : Int32) < xl
        · refine own_Goes.via (T' := s₁) (g' := (mkF m 27 #[.val (.ref ar), .val (.int xb), .val (.int xl)] [])) (fun t_ k_ => XS.icmpNo X0.here hx rfl (hb hby d7_24) rfl (tlt hc24_7).2.2.2 k_) ?_
          refine own_Goes.via (T' := s₁) (g' := (mkF m 28 #[.val (.ref ar), .val (.int xb), .val (.int xl)] [(.ref ar)])) (fun t_ k_ => XS.aloadN X0.here hx rfl (hb hby d7_27) rfl rfl k_) ?_
          refine own_Goes.via (T' := s₁) (g' := (mkF m 29 #[.val (.ref ar), .val (.int xb), .val (.int xl)] [(.int (1 : Int32)), (.ref ar)])) (fun t_ k_ => XS.iconst X0.here hx rfl (hb hby d7_28) k_) ?_
          obtain ⟨cl8, Ar8, -, Sl8, Ng8, H8, -⟩ := id PF0
          have in29_9 : ¬ (1 : Int32) < 0 ∧ (1 : Int32) < xlr := own_pl7_1 hc3_2 hc9_3 hc17_6 hc24_7 in14_5
          have at8 := H8.at (inb_of Sl8 in29_9) (v := (.int xr1)) rfl
          refine own_Goes.via (T' := s₁) (g' := (mkF m 30 #[.val (.ref ar), .val (.int xb), .val (.int xl)] [(.int xr1)])) (fun t_ k_ => X0.baloadBytes hx (j := (1 : Int32)) (v := (.int xr1)) (by rw [e0]; exact Ar8.1) (State.isArrayOf_alike hZ.alike Ar8.2.1) Ar8.2.2 (inb_of Sl8 in29_9) at8 (g := (mkF m 29 #[.val (.ref ar), .val (.int xb), .val (.int xl)] [(.int (1 : Int32)), (.ref ar)])) rfl rfl (hb hby d7_29) _ k_) ?_
          refine own_Goes.via (T' := s₁) (g' := (mkF m 31 #[.val (.ref ar), .val (.int xb), .val (.int xl)] [(.int xb), (.int xr1)])) (fun t_ k_ => XS.iloadN X0.here hx rfl (hb hby d7_30) rfl k_) ?_
          refine own_Goes.via (T' := s₁) (g' := (mkF m 33 #[.val (.ref ar), .val (.int xb), .val (.int xl)] [(.int (8 : Int32)), (.int xb), (.int xr1)])) (fun t_ k_ => XS.bipush X0.here hx rfl (hb hby d7_31) k_) ?_
          refine own_Goes.via (T' := s₁) (g' := (mkF m 34 #[.val (.ref ar), .val (.int xb), .val (.int xl)] [(.int (xb >>> ((8 : Int32) &&& 31))), (.int xr1)])) (fun t_ k_ => XS.ishr X0.here hx rfl (hb hby d7_33) rfl k_) ?_
          refine own_Goes.via (T' := s₁) (g' := (mkF m 35 #[.val (.ref ar), .val (.int xb), .val (.int xl)] [(.int ((xb >>> ((8 : Int32) &&& 31)).toInt8.toInt32)), (.int xr1)])) (fun t_ k_ => XS.i2b X0.here hx rfl (hb hby d7_34) rfl k_) ?_
          by_cases hc35_10 : xr1 = ((xb >>> ((8 : Int32) &&& 31)).toInt8.toInt32)
          · refine own_Goes.via (T' := s₁) (g' := (mkF m 40 #[.val (.ref ar), .val (.int xb), .val (.int xl)] [])) (fun t_ k_ => XS.icmpYes X0.here hx rfl (pc0 := 35) (pc' := 40) rfl (hb hby d7_35) rfl (teq hc35_10).1 (by decide) (by decide) k_) ?_
            refine own_Goes.via (T' := s₁) (g' := (mkF m 41 #[.val (.ref ar), .val (.int xb), .val (.int xl)] [(.int xl)])) (fun t_ k_ => XS.iloadN X0.here hx rfl (hb hby d7_40) rfl k_) ?_
            refine own_Goes.via (T' := s₁) (g' := (mkF m 42 #[.val (.ref ar), .val (.int xb), .val (.int xl)] [(.int (2 : Int32)), (.int xl)])) (fun t_ k_ => XS.iconst X0.here hx rfl (hb hby d7_41) k_) ?_
            by_cases hc42_11 : (2 : Int32) < xl
            · refine own_Goes.via (T' := s₁) (g' := (mkF m 45 #[.val (.ref ar), .val (.int xb), .val (.int xl)] [])) (fun t_ k_ => XS.icmpNo X0.here hx rfl (hb hby d7_42) rfl (tlt hc42_11).2.2.2 k_) ?_
              refine own_Goes.via (T' := s₁) (g' := (mkF m 46 #[.val (.ref ar), .val (.int xb), .val (.int xl)] [(.ref ar)])) (fun t_ k_ => XS.aloadN X0.here hx rfl (hb hby d7_45) rfl rfl k_) ?_
              refine own_Goes.via (T' := s₁) (g' := (mkF m 47 #[.val (.ref ar), .val (.int xb), .val (.int xl)] [(.int (2 : Int32)), (.ref ar)])) (fun t_ k_ => XS.iconst X0.here hx rfl (hb hby d7_46) k_) ?_
              obtain ⟨cl12, Ar12, -, Sl12, Ng12, H12, -⟩ := id PF0
              have in47_13 : ¬ (2 : Int32) < 0 ∧ (2 : Int32) < xlr := own_pl7_2 hc3_2 hc9_3 hc17_6 hc24_7 hc35_10 hc42_11 in14_5 in29_9
              have at12 := H12.at (inb_of Sl12 in47_13) (v := (.int xr2)) rfl
              refine own_Goes.via (T' := s₁) (g' := (mkF m 48 #[.val (.ref ar), .val (.int xb), .val (.int xl)] [(.int xr2)])) (fun t_ k_ => X0.baloadBytes hx (j := (2 : Int32)) (v := (.int xr2)) (by rw [e0]; exact Ar12.1) (State.isArrayOf_alike hZ.alike Ar12.2.1) Ar12.2.2 (inb_of Sl12 in47_13) at12 (g := (mkF m 47 #[.val (.ref ar), .val (.int xb), .val (.int xl)] [(.int (2 : Int32)), (.ref ar)])) rfl rfl (hb hby d7_47) _ k_) ?_
              refine own_Goes.via (T' := s₁) (g' := (mkF m 49 #[.val (.ref ar), .val (.int xb), .val (.int xl)] [(.int xb), (.int xr2)])) (fun t_ k_ => XS.iloadN X0.here hx rfl (hb hby d7_48) rfl k_) ?_
              refine own_Goes.via (T' := s₁) (g' := (mkF m 51 #[.val (.ref ar), .val (.int xb), .val (.int xl)] [(.int (16 : Int32)), (.int xb), (.int xr2)])) (fun t_ k_ => XS.bipush X0.here hx rfl (hb hby d7_49) k_) ?_
              refine own_Goes.via (T' := s₁) (g' := (mkF m 52 #[.val (.ref ar), .val (.int xb), .val (.int xl)] [(.int (xb >>> ((16 : Int32) &&& 31))), (.int xr2)])) (fun t_ k_ => XS.ishr X0.here hx rfl (hb hby d7_51) rfl k_) ?_
              refine own_Goes.via (T' := s₁) (g' := (mkF m 53 #[.val (.ref ar), .val (.int xb), .val (.int xl)] [(.int ((xb >>> ((16 : Int32) &&& 31)).toInt8.toInt32)), (.int xr2)])) (fun t_ k_ => XS.i2b X0.here hx rfl (hb hby d7_52) rfl k_) ?_
              by_cases hc53_14 : xr2 = ((xb >>> ((16 : Int32) &&& 31)).toInt8.toInt32)
              · refine own_Goes.via (T' := s₁) (g' := (mkF m 58 #[.val (.ref ar), .val (.int xb), .val (.int xl)] [])) (fun t_ k_ => XS.icmpYes X0.here hx rfl (pc0 := 53) (pc' := 58) rfl (hb hby d7_53) rfl (teq hc53_14).1 (by decide) (by decide) k_) ?_
                refine own_Goes.via (T' := s₁) (g' := (mkF m 59 #[.val (.ref ar), .val (.int xb), .val (.int xl)] [(.int (1 : Int32))])) (fun t_ k_ => XS.iconst X0.here hx rfl (hb hby d7_58) k_) ?_
                obtain ⟨fs, hr, hrun, hended, hW, hsame⟩ := X0.leave (v := some (.int (1 : Int32))) (fun h => by rw [Bd.returns] at h; cases h)
                refine own_Goes.fin (retN X0 hx (t := .boolean) Bd.returns (by simp) (hb hby d7_59) hr) hrun hended ?_
                subst hPd
                refine ⟨_, _, rfl, ?_, ⟨_, rfl⟩, hW, hsame.mono (by decide) (by decide)⟩
                show Q7 Z ar xb xl kr xlr xr0 xr1 xr2 h0 n0 _ s₁.heap _
                rw [e0]
                exact ⟨(by first | rfl | (simp only [own_f7, if_pos hc3_2, if_pos hc9_3, if_pos hc17_6, if_pos hc24_7, if_pos hc35_10, if_pos hc42_11, if_pos hc53_14])), N0, rfl⟩
              · refine own_Goes.via (T' := s₁) (g' := (mkF m 56 #[.val (.ref ar), .val (.int xb), .val (.int xl)] [])) (fun t_ k_ => XS.icmpNo X0.here hx rfl (hb hby d7_53) rfl (feq hc53_14).1 k_) ?_
                refine own_Goes.via (T' := s₁) (g' := (mkF m 57 #[.val (.ref ar), .val (.int xb), .val (.int xl)] [(.int (0 : Int32))])) (fun t_ k_ => XS.iconst X0.here hx rfl (hb hby d7_56) k_) ?_
                obtain ⟨fs, hr, hrun, hended, hW, hsame⟩ := X0.leave (v := some (.int (0 : Int32))) (fun h => by rw [Bd.returns] at h; cases h)
                refine own_Goes.fin (retN X0 hx (t := .boolean) Bd.returns (by simp) (hb hby d7_57) hr) hrun hended ?_
                subst hPd
                refine ⟨_, _, rfl, ?_, ⟨_, rfl⟩, hW, hsame.mono (by decide) (by decide)⟩
                show Q7 Z ar xb xl kr xlr xr0 xr1 xr2 h0 n0 _ s₁.heap _
                rw [e0]
                exact ⟨(by first | rfl | (simp only [own_f7, if_pos hc3_2, if_pos hc9_3, if_pos hc17_6, if_pos hc24_7, if_pos hc35_10, if_pos hc42_11, if_neg hc53_14])), N0, rfl⟩
            · refine own_Goes.via (T' := s₁) (g' := (mkF m 58 #[.val (.ref ar), .val (.int xb), .val (.int xl)] [])) (fun t_ k_ => XS.icmpYes X0.here hx rfl (pc0 := 42) (pc' := 58) rfl (hb hby d7_42) rfl (flt hc42_11).2.2.2 (by decide) (by decide) k_) ?_
              refine own_Goes.via (T' := s₁) (g' := (mkF m 59 #[.val (.ref ar), .val (.int xb), .val (.int xl)] [(.int (1 : Int32))])) (fun t_ k_ => XS.iconst X0.here hx rfl (hb hby d7_58) k_) ?_
              obtain ⟨fs, hr, hrun, hended, hW, hsame⟩ := X0.leave (v := some (.int (1 : Int32))) (fun h => by rw [Bd.returns] at h; cases h)
              refine own_Goes.fin (retN X0 hx (t := .boolean) Bd.returns (by simp) (hb hby d7_59) hr) hrun hended ?_
              subst hPd
              refine ⟨_, _, rfl, ?_, ⟨_, rfl⟩, hW, hsame.mono (by decide) (by decide)⟩
              show Q7 Z ar xb xl kr xlr xr0 xr1 xr2 h0 n0 _ s₁.heap _
              rw [e0]
              exact ⟨(by first | rfl | (simp only [own_f7, if_pos hc3_2, if_pos hc9_3, if_pos hc17_6, if_pos hc24_7, if_pos hc35_10, if_neg hc42_11])), N0, rfl⟩
          · refine own_Goes.via (T' := s₁) (g' := (mkF m 38 #[.val (.ref ar), .val (.int xb), .val (.int xl)] [])) (fun t_ k_ => XS.icmpNo X0.here hx rfl (hb hby d7_35) rfl (feq hc35_10).1 k_) ?_
            refine own_Goes.via (T' := s₁) (g' := (mkF m 39 #[.val (.ref ar), .val (.int xb), .val (.int xl)] [(.int (0 : Int32))])) (fun t_ k_ => XS.iconst X0.here hx rfl (hb hby d7_38) k_) ?_
            obtain ⟨fs, hr, hrun, hended, hW, hsame⟩ := X0.leave (v := some (.int (0 : Int32))) (fun h => by rw [Bd.returns] at h; cases h)
            refine own_Goes.fin (retN X0 hx (t := .boolean) Bd.returns (by simp) (hb hby d7_39) hr) hrun hended ?_
            subst hPd
            refine ⟨_, _, rfl, ?_, ⟨_, rfl⟩, hW, hsame.mono (by decide) (by decide)⟩
            show Q7 Z ar xb xl kr xlr xr0 xr1 xr2 h0 n0 _ s₁.heap _
            rw [e0]
            exact ⟨(by first | rfl | (simp only [own_f7, if_pos hc3_2, if_pos hc9_3, if_pos hc17_6, if_pos hc24_7, if_neg hc35_10])), N0, rfl⟩
        · refine own_Goes.via (T' := s₁) (g' := (mkF m 40 #[.val (.ref ar), .val (.int xb), .val (.int xl)] [])) (fun t_ k_ => XS.icmpYes X0.here hx rfl (pc0 := 24) (pc' := 40) rfl (hb hby d7_24) rfl (flt hc24_7).2.2.2 (by decide) (by decide) k_) ?_
          refine own_Goes.via (T' := s₁) (g' := (mkF m 41 #[.val (.ref ar), .val (.int xb), .val (.int xl)] [(.int xl)])) (fun t_ k_ => XS.iloadN X0.here hx rfl (hb hby d7_40) rfl k_) ?_
          refine own_Goes.via (T' := s₁) (g' := (mkF m 42 #[.val (.ref ar), .val (.int xb), .val (.int xl)] [(.int (2 : Int32)), (.int xl)])) (fun t_ k_ => XS.iconst X0.here hx rfl (hb hby d7_41) k_) ?_
          by_cases hc42_15 : (2 : Int32) < xl
          · refine own_Goes.via (T' := s₁) (g' := (mkF m 45 #[.val (.ref ar), .val (.int xb), .val (.int xl)] [])) (fun t_ k_ => XS.icmpNo X0.here hx rfl (hb hby d7_42) rfl (tlt hc42_15).2.2.2 k_) ?_
            refine own_Goes.via (T' := s₁) (g' := (mkF m 46 #[.val (.ref ar), .val (.int xb), .val (.int xl)] [(.ref ar)])) (fun t_ k_ => XS.aloadN X0.here hx rfl (hb hby d7_45) rfl rfl k_) ?_
            refine own_Goes.via (T' := s₁) (g' := (mkF m 47 #[.val (.ref ar), .val (.int xb), .val (.int xl)] [(.int (2 : Int32)), (.ref ar)])) (fun t_ k_ => XS.iconst X0.here hx rfl (hb hby d7_46) k_) ?_
            obtain ⟨cl16, Ar16, -, Sl16, Ng16, H16, -⟩ := id PF0
            have in47_17 : ¬ (2 : Int32) < 0 ∧ (2 : Int32) < xlr := own_pl7_3 hc3_2 hc9_3 hc17_6 hc24_7 hc42_15 in14_5
            have at16 := H16.at (inb_of Sl16 in47_17) (v := (.int xr2)) rfl
            refine own_Goes.via (T' := s₁) (g' := (mkF m 48 #[.val (.ref ar), .val (.int xb), .val (.int xl)] [(.int xr2)])) (fun t_ k_ => X0.baloadBytes hx (j := (2 : Int32)) (v := (.int xr2)) (by rw [e0]; exact Ar16.1) (State.isArrayOf_alike hZ.alike Ar16.2.1) Ar16.2.2 (inb_of Sl16 in47_17) at16 (g := (mkF m 47 #[.val (.ref ar), .val (.int xb), .val (.int xl)] [(.int (2 : Int32)), (.ref ar)])) rfl rfl (hb hby d7_47) _ k_) ?_
            refine own_Goes.via (T' := s₁) (g' := (mkF m 49 #[.val (.ref ar), .val (.int xb), .val (.int xl)] [(.int xb), (.int xr2)])) (fun t_ k_ => XS.iloadN X0.here hx rfl (hb hby d7_48) rfl k_) ?_
            refine own_Goes.via (T' := s₁) (g' := (mkF m 51 #[.val (.ref ar), .val (.int xb), .val (.int xl)] [(.int (16 : Int32)), (.int xb), (.int xr2)])) (fun t_ k_ => XS.bipush X0.here hx rfl (hb hby d7_49) k_) ?_
            refine own_Goes.via (T' := s₁) (g' := (mkF m 52 #[.val (.ref ar), .val (.int xb), .val (.int xl)] [(.int (xb >>> ((16 : Int32) &&& 31))), (.int xr2)])) (fun t_ k_ => XS.ishr X0.here hx rfl (hb hby d7_51) rfl k_) ?_
            refine own_Goes.via (T' := s₁) (g' := (mkF m 53 #[.val (.ref ar), .val (.int xb), .val (.int xl)] [(.int ((xb >>> ((16 : Int32) &&& 31)).toInt8.toInt32)), (.int xr2)])) (fun t_ k_ => XS.i2b X0.here hx rfl (hb hby d7_52) rfl k_) ?_
            by_cases hc53_18 : xr2 = ((xb >>> ((16 : Int32) &&& 31)).toInt8.toInt32)
            · refine own_Goes.via (T' := s₁) (g' := (mkF m 58 #[.val (.ref ar), .val (.int xb), .val (.int xl)] [])) (fun t_ k_ => XS.icmpYes X0.here hx rfl (pc0 := 53) (pc' := 58) rfl (hb hby d7_53) rfl (teq hc53_18).1 (by decide) (by decide) k_) ?_
              refine own_Goes.via (T' := s₁) (g' := (mkF m 59 #[.val (.ref ar), .val (.int xb), .val (.int xl)] [(.int (1 : Int32))])) (fun t_ k_ => XS.iconst X0.here hx rfl (hb hby d7_58) k_) ?_
              obtain ⟨fs, hr, hrun, hended, hW, hsame⟩ := X0.leave (v := some (.int (1 : Int32))) (fun h => by rw [Bd.returns] at h; cases h)
              refine own_Goes.fin (retN X0 hx (t := .boolean) Bd.returns (by simp) (hb hby d7_59) hr) hrun hended ?_
              subst hPd
              refine ⟨_, _, rfl, ?_, ⟨_, rfl⟩, hW, hsame.mono (by decide) (by decide)⟩
              show Q7 Z ar xb xl kr xlr xr0 xr1 xr2 h0 n0 _ s₁.heap _
              rw [e0]
              exact ⟨(by first | rfl | (simp only [own_f7, if_pos hc3_2, if_pos hc9_3, if_pos hc17_6, if_neg hc24_7, if_pos hc42_15, if_pos hc53_18])), N0, rfl⟩
            · refine own_Goes.via (T' := s₁) (g' := (mkF m 56 #[.val (.ref ar), .val (.int xb), .val (.int xl)] [])) (fun t_ k_ => XS.icmpNo X0.here hx rfl (hb hby d7_53) rfl (feq hc53_18).1 k_) ?_
              refine own_Goes.via (T' := s₁) (g' := (mkF m 57 #[.val (.ref ar), .val (.int xb), .val (.int xl)] [(.int (0 : Int32))])) (fun t_ k_ => XS.iconst X0.here hx rfl (hb hby d7_56) k_) ?_
              obtain ⟨fs, hr, hrun, hended, hW, hsame⟩ := X0.leave (v := some (.int (0 : Int32))) (fun h => by rw [Bd.returns] at h; cases h)
              refine own_Goes.fin (retN X0 hx (t := .boolean) Bd.returns (by simp) (hb hby d7_57) hr) hrun hended ?_
              subst hPd
              refine ⟨_, _, rfl, ?_, ⟨_, rfl⟩, hW, hsame.mono (by decide) (by decide)⟩
              show Q7 Z ar xb xl kr xlr xr0 xr1 xr2 h0 n0 _ s₁.heap _
              rw [e0]
              exact ⟨(by first | rfl | (simp only [own_f7, if_pos hc3_2, if_pos hc9_3, if_pos hc17_6, if_neg hc24_7, if_pos hc42_15, if_neg hc53_18])), N0, rfl⟩
          · refine own_Goes.via (T' := s₁) (g' := (mkF m 58 #[.val (.ref ar), .val (.int xb), .val (.int xl)] [])) (fun t_ k_ => XS.icmpYes X0.here hx rfl (pc0 := 42) (pc' := 58) rfl (hb hby d7_42) rfl (flt hc42_15).2.2.2 (by decide) (by decide) k_) ?_
            refine own_Goes.via (T' := s₁) (g' := (mkF m 59 #[.val (.ref ar), .val (.int xb), .val (.int xl)] [(.int (1 : Int32))])) (fun t_ k_ => XS.iconst X0.here hx rfl (hb hby d7_58) k_) ?_
            obtain ⟨fs, hr, hrun, hended, hW, hsame⟩ := X0.leave (v := some (.int (1 : Int32))) (fun h => by rw [Bd.returns] at h; cases h)
            refine own_Goes.fin (retN X0 hx (t := .boolean) Bd.returns (by simp) (hb hby d7_59) hr) hrun hended ?_
            subst hPd
            refine ⟨_, _, rfl, ?_, ⟨_, rfl⟩, hW, hsame.mono (by decide) (by decide)⟩
            show Q7 Z ar xb xl kr xlr xr0 xr1 xr2 h0 n0 _ s₁.heap _
            rw [e0]
            exact ⟨(by first | rfl | (simp only [own_f7, if_pos hc3_2, if_pos hc9_3, if_pos hc17_6, if_neg hc24_7, if_neg hc42_15])), N0, rfl⟩
      · refine own_Goes.via (T' := s₁) (g' := (mkF m 20 #[.val (.ref ar), .val (.int xb), .val (.int xl)] [])) (fun t_ k_ => XS.icmpNo X0.here hx rfl (hb hby d7_17) rfl (feq hc17_6).1 k_) ?_
        refine own_Goes.via (T' := s₁) (g' := (mkF m 21 #[.val (.ref ar), .val (.int xb), .val (.int xl)] [(.int (0 : Int32))])) (fun t_ k_ => XS.iconst X0.here hx rfl (hb hby d7_20) k_) ?_
        obtain ⟨fs, hr, hrun, hended, hW, hsame⟩ := X0.leave (v := some (.int (0 : Int32))) (fun h => by rw [Bd.returns] at h; cases h)
        refine own_Goes.fin (retN X0 hx (t := .boolean) Bd.returns (by simp) (hb hby d7_21) hr) hrun hended ?_
        subst hPd
        refine ⟨_, _, rfl, ?_, ⟨_, rfl⟩, hW, hsame.mono (by decide) (by decide)⟩
        show Q7 Z ar xb xl kr xlr xr0 xr1 xr2 h0 n0 _ s₁.heap _
        rw [e0]
        exact ⟨(by first | rfl | (simp only [own_f7, if_pos hc3_2, if_pos hc9_3, if_neg hc17_6])), N0, rfl⟩
    · refine own_Goes.via (T' := s₁) (g' := (mkF m 22 #[.val (.ref ar), .val (.int xb), .val (.int xl)] [])) (fun t_ k_ => XS.ifYes X0.here hx rfl (pc0 := 9) (pc' := 22) rfl (hb hby d7_9) rfl ((if0 _ _).trans (flt hc9_3).2.2.2) (by decide) (by decide) k_) ?_
      refine own_Goes.via (T' := s₁) (g' := (mkF m 23 #[.val (.ref ar), .val (.int xb), .val (.int xl)] [(.int xl)])) (fun t_ k_ => XS.iloadN X0.here hx rfl (hb hby d7_22) rfl k_) ?_
      refine own_Goes.via (T' := s₁) (g' := (mkF m 24 #[.val (.ref ar), .val (.int xb), .val (.int xl)] [(.int (1 : Int32)), (.int xl)])) (fun t_ k_ => XS.iconst X0.here hx rfl (hb hby d7_23) k_) ?_
      by_cases hc24_19 : (1 : Int32) < xl
      · refine own_Goes.via (T' := s₁) (g' := (mkF m 27 #[.val (.ref ar), .val (.int xb), .val (.int xl)] [])) (fun t_ k_ => XS.icmpNo X0.here hx rfl (hb hby d7_24) rfl (tlt hc24_19).2.2.2 k_) ?_
        refine own_Goes.via (T' := s₁) (g' := (mkF m 28 #[.val (.ref ar), .val (.int xb), .val (.int xl)] [(.ref ar)])) (fun t_ k_ => XS.aloadN X0.here hx rfl (hb hby d7_27) rfl rfl k_) ?_
        refine own_Goes.via (T' := s₁) (g' := (mkF m 29 #[.val (.ref ar), .val (.int xb), .val (.int xl)] [(.int (1 : Int32)), (.ref ar)])) (fun t_ k_ => XS.iconst X0.here hx rfl (hb hby d7_28) k_) ?_
        obtain ⟨cl20, Ar20, -, Sl20, Ng20, H20, -⟩ := id PF0
        have in29_21 : ¬ (1 : Int32) < 0 ∧ (1 : Int32) < xlr := own_pl7_4 hc3_2 hc9_3 hc24_19
        have at20 := H20.at (inb_of Sl20 in29_21) (v := (.int xr1)) rfl
        refine own_Goes.via (T' := s₁) (g' := (mkF m 30 #[.val (.ref ar), .val (.int xb), .val (.int xl)] [(.int xr1)])) (fun t_ k_ => X0.baloadBytes hx (j := (1 : Int32)) (v := (.int xr1)) (by rw [e0]; exact Ar20.1) (State.isArrayOf_alike hZ.alike Ar20.2.1) Ar20.2.2 (inb_of Sl20 in29_21) at20 (g := (mkF m 29 #[.val (.ref ar), .val (.int xb), .val (.int xl)] [(.int (1 : Int32)), (.ref ar)])) rfl rfl (hb hby d7_29) _ k_) ?_
        refine own_Goes.via (T' := s₁) (g' := (mkF m 31 #[.val (.ref ar), .val (.int xb), .val (.int xl)] [(.int xb), (.int xr1)])) (fun t_ k_ => XS.iloadN X0.here hx rfl (hb hby d7_30) rfl k_) ?_
        refine own_Goes.via (T' := s₁) (g' := (mkF m 33 #[.val (.ref ar), .val (.int xb), .val (.int xl)] [(.int (8 : Int32)), (.int xb), (.int xr1)])) (fun t_ k_ => XS.bipush X0.here hx rfl (hb hby d7_31) k_) ?_
        refine own_Goes.via (T' := s₁) (g' := (mkF m 34 #[.val (.ref ar), .val (.int xb), .val (.int xl)] [(.int (xb >>> ((8 : Int32) &&& 31))), (.int xr1)])) (fun t_ k_ => XS.ishr X0.here hx rfl (hb hby d7_33) rfl k_) ?_
        refine own_Goes.via (T' := s₁) (g' := (mkF m 35 #[.val (.ref ar), .val (.int xb), .val (.int xl)] [(.int ((xb >>> ((8 : Int32) &&& 31)).toInt8.toInt32)), (.int xr1)])) (fun t_ k_ => XS.i2b X0.here hx rfl (hb hby d7_34) rfl k_) ?_
        by_cases hc35_22 : xr1 = ((xb >>> ((8 : Int32) &&& 31)).toInt8.toInt32)
        · refine own_Goes.via (T' := s₁) (g' := (mkF m 40 #[.val (.ref ar), .val (.int xb), .val (.int xl)] [])) (fun t_ k_ => XS.icmpYes X0.here hx rfl (pc0 := 35) (pc' := 40) rfl (hb hby d7_35) rfl (teq hc35_22).1 (by decide) (by decide) k_) ?_
          refine own_Goes.via (T' := s₁) (g' := (mkF m 41 #[.val (.ref ar), .val (.int xb), .val (.int xl)] [(.int xl)])) (fun t_ k_ => XS.iloadN X0.here hx rfl (hb hby d7_40) rfl k_) ?_
          refine own_Goes.via (T' := s₁) (g' := (mkF m 42 #[.val (.ref ar), .val (.int xb), .val (.int xl)] [(.int (2 : Int32)), (.int xl)])) (fun t_ k_ => XS.iconst X0.here hx rfl (hb hby d7_41) k_) ?_
          by_cases hc42_23 : (2 : Int32) < xl
          · refine own_Goes.via (T' := s₁) (g' := (mkF m 45 #[.val (.ref ar), .val (.int xb), .val (.int xl)] [])) (fun t_ k_ => XS.icmpNo X0.here hx rfl (hb hby d7_42) rfl (tlt hc42_23).2.2.2 k_) ?_
            refine own_Goes.via (T' := s₁) (g' := (mkF m 46 #[.val (.ref ar), .val (.int xb), .val (.int xl)] [(.ref ar)])) (fun t_ k_ => XS.aloadN X0.here hx rfl (hb hby d7_45) rfl rfl k_) ?_
            refine own_Goes.via (T' := s₁) (g' := (mkF m 47 #[.val (.ref ar), .val (.int xb), .val (.int xl)] [(.int (2 : Int32)), (.ref ar)])) (fun t_ k_ => XS.iconst X0.here hx rfl (hb hby d7_46) k_) ?_
            obtain ⟨cl24, Ar24, -, Sl24, Ng24, H24, -⟩ := id PF0
            have in47_25 : ¬ (2 : Int32) < 0 ∧ (2 : Int32) < xlr := own_pl7_5 hc3_2 hc9_3 hc24_19 hc35_22 hc42_23 in29_21
            have at24 := H24.at (inb_of Sl24 in47_25) (v := (.int xr2)) rfl
            refine own_Goes.via (T' := s₁) (g' := (mkF m 48 #[.val (.ref ar), .val (.int xb), .val (.int xl)] [(.int xr2)])) (fun t_ k_ => X0.baloadBytes hx (j := (2 : Int32)) (v := (.int xr2)) (by rw [e0]; exact Ar24.1) (State.isArrayOf_alike hZ.alike Ar24.2.1) Ar24.2.2 (inb_of Sl24 in47_25) at24 (g := (mkF m 47 #[.val (.ref ar), .val (.int xb), .val (.int xl)] [(.int (2 : Int32)), (.ref ar)])) rfl rfl (hb hby d7_47) _ k_) ?_
            refine own_Goes.via (T' := s₁) (g' := (mkF m 49 #[.val (.ref ar), .val (.int xb), .val (.int xl)] [(.int xb), (.int xr2)])) (fun t_ k_ => XS.iloadN X0.here hx rfl (hb hby d7_48) rfl k_) ?_
            refine own_Goes.via (T' := s₁) (g' := (mkF m 51 #[.val (.ref ar), .val (.int xb), .val (.int xl)] [(.int (16 : Int32)), (.int xb), (.int xr2)])) (fun t_ k_ => XS.bipush X0.here hx rfl (hb hby d7_49) k_) ?_
            refine own_Goes.via (T' := s₁) (g' := (mkF m 52 #[.val (.ref ar), .val (.int xb), .val (.int xl)] [(.int (xb >>> ((16 : Int32) &&& 31))), (.int xr2)])) (fun t_ k_ => XS.ishr X0.here hx rfl (hb hby d7_51) rfl k_) ?_
            refine own_Goes.via (T' := s₁) (g' := (mkF m 53 #[.val (.ref ar), .val (.int xb), .val (.int xl)] [(.int ((xb >>> ((16 : Int32) &&& 31)).toInt8.toInt32)), (.int xr2)])) (fun t_ k_ => XS.i2b X0.here hx rfl (hb hby d7_52) rfl k_) ?_
            by_cases hc53_26 : xr2 = ((xb >>> ((16 : Int32) &&& 31)).toInt8.toInt32)
            · refine own_Goes.via (T' := s₁) (g' := (mkF m 58 #[.val (.ref ar), .val (.int xb), .val (.int xl)] [])) (fun t_ k_ => XS.icmpYes X0.here hx rfl (pc0 := 53) (pc' := 58) rfl (hb hby d7_53) rfl (teq hc53_26).1 (by decide) (by decide) k_) ?_
              refine own_Goes.via (T' := s₁) (g' := (mkF m 59 #[.val (.ref ar), .val (.int xb), .val (.int xl)] [(.int (1 : Int32))])) (fun t_ k_ => XS.iconst X0.here hx rfl (hb hby d7_58) k_) ?_
              obtain ⟨fs, hr, hrun, hended, hW, hsame⟩ := X0.leave (v := some (.int (1 : Int32))) (fun h => by rw [Bd.returns] at h; cases h)
              refine own_Goes.fin (retN X0 hx (t := .boolean) Bd.returns (by simp) (hb hby d7_59) hr) hrun hended ?_
              subst hPd
              refine ⟨_, _, rfl, ?_, ⟨_, rfl⟩, hW, hsame.mono (by decide) (by decide)⟩
              show Q7 Z ar xb xl kr xlr xr0 xr1 xr2 h0 n0 _ s₁.heap _
              rw [e0]
              exact ⟨(by first | rfl | (simp only [own_f7, if_pos hc3_2, if_neg hc9_3, if_pos hc24_19, if_pos hc35_22, if_pos hc42_23, if_pos hc53_26])), N0, rfl⟩
            · refine own_Goes.via (T' := s₁) (g' := (mkF m 56 #[.val (.ref ar), .val (.int xb), .val (.int xl)] [])) (fun t_ k_ => XS.icmpNo X0.here hx rfl (hb hby d7_53) rfl (feq hc53_26).1 k_) ?_
              refine own_Goes.via (T' := s₁) (g' := (mkF m 57 #[.val (.ref ar), .val (.int xb), .val (.int xl)] [(.int (0 : Int32))])) (fun t_ k_ => XS.iconst X0.here hx rfl (hb hby d7_56) k_) ?_
              obtain ⟨fs, hr, hrun, hended, hW, hsame⟩ := X0.leave (v := some (.int (0 : Int32))) (fun h => by rw [Bd.returns] at h; cases h)
              refine own_Goes.fin (retN X0 hx (t := .boolean) Bd.returns (by simp) (hb hby d7_57) hr) hrun hended ?_
              subst hPd
              refine ⟨_, _, rfl, ?_, ⟨_, rfl⟩, hW, hsame.mono (by decide) (by decide)⟩
              show Q7 Z ar xb xl kr xlr xr0 xr1 xr2 h0 n0 _ s₁.heap _
              rw [e0]
              exact ⟨(by first | rfl | (simp only [own_f7, if_pos hc3_2, if_neg hc9_3, if_pos hc24_19, if_pos hc35_22, if_pos hc42_23, if_neg hc53_26])), N0, rfl⟩
          · refine own_Goes.via (T' := s₁) (g' := (mkF m 58 #[.val (.ref ar), .val (.int xb), .val (.int xl)] [])) (fun t_ k_ => XS.icmpYes X0.here hx rfl (pc0 := 42) (pc' := 58) rfl (hb hby d7_42) rfl (flt hc42_23).2.2.2 (by decide) (by decide) k_) ?_
            refine own_Goes.via (T' := s₁) (g' := (mkF m 59 #[.val (.ref ar), .val (.int xb), .val (.int xl)] [(.int (1 : Int32))])) (fun t_ k_ => XS.iconst X0.here hx rfl (hb hby d7_58) k_) ?_
            obtain ⟨fs, hr, hrun, hended, hW, hsame⟩ := X0.leave (v := some (.int (1 : Int32))) (fun h => by rw [Bd.returns] at h; cases h)
            refine own_Goes.fin (retN X0 hx (t := .boolean) Bd.returns (by simp) (hb hby d7_59) hr) hrun hended ?_
            subst hPd
            refine ⟨_, _, rfl, ?_, ⟨_, rfl⟩, hW, hsame.mono (by decide) (by decide)⟩
            show Q7 Z ar xb xl kr xlr xr0 xr1 xr2 h0 n0 _ s₁.heap _
            rw [e0]
            exact ⟨(by first | rfl | (simp only [own_f7, if_pos hc3_2, if_neg hc9_3, if_pos hc24_19, if_pos hc35_22, if_neg hc42_23])), N0, rfl⟩
        · refine own_Goes.via (T' := s₁) (g' := (mkF m 38 #[.val (.ref ar), .val (.int xb), .val (.int xl)] [])) (fun t_ k_ => XS.icmpNo X0.here hx rfl (hb hby d7_35) rfl (feq hc35_22).1 k_) ?_
          refine own_Goes.via (T' := s₁) (g' := (mkF m 39 #[.val (.ref ar), .val (.int xb), .val (.int xl)] [(.int (0 : Int32))])) (fun t_ k_ => XS.iconst X0.here hx rfl (hb hby d7_38) k_) ?_
          obtain ⟨fs, hr, hrun, hended, hW, hsame⟩ := X0.leave (v := some (.int (0 : Int32))) (fun h => by rw [Bd.returns] at h; cases h)
          refine own_Goes.fin (retN X0 hx (t := .boolean) Bd.returns (by simp) (hb hby d7_39) hr) hrun hended ?_
          subst hPd
          refine ⟨_, _, rfl, ?_, ⟨_, rfl⟩, hW, hsame.mono (by decide) (by decide)⟩
          show Q7 Z ar xb xl kr xlr xr0 xr1 xr2 h0 n0 _ s₁.heap _
          rw [e0]
          exact ⟨(by first | rfl | (simp only [own_f7, if_pos hc3_2, if_neg hc9_3, if_pos hc24_19, if_neg hc35_22])), N0, rfl⟩
      · refine own_Goes.via (T' := s₁) (g' := (mkF m 40 #[.val (.ref ar), .val (.int xb), .val (.int xl)] [])) (fun t_ k_ => XS.icmpYes X0.here hx rfl (pc0 := 24) (pc' := 40) rfl (hb hby d7_24) rfl (flt hc24_19).2.2.2 (by decide) (by decide) k_) ?_
        refine own_Goes.via (T' := s₁) (g' := (mkF m 41 #[.val (.ref ar), .val (.int xb), .val (.int xl)] [(.int xl)])) (fun t_ k_ => XS.iloadN X0.here hx rfl (hb hby d7_40) rfl k_) ?_
        refine own_Goes.via (T' := s₁) (g' := (mkF m 42 #[.val (.ref ar), .val (.int xb), .val (.int xl)] [(.int (2 : Int32)), (.int xl)])) (fun t_ k_ => XS.iconst X0.here hx rfl (hb hby d7_41) k_) ?_
        by_cases hc42_27 : (2 : Int32) < xl
        · refine own_Goes.via (T' := s₁) (g' := (mkF m 45 #[.val (.ref ar), .val (.int xb), .val (.int xl)] [])) (fun t_ k_ => XS.icmpNo X0.here hx rfl (hb hby d7_42) rfl (tlt hc42_27).2.2.2 k_) ?_
          refine own_Goes.via (T' := s₁) (g' := (mkF m 46 #[.val (.ref ar), .val (.int xb), .val (.int xl)] [(.ref ar)])) (fun t_ k_ => XS.aloadN X0.here hx rfl (hb hby d7_45) rfl rfl k_) ?_
          refine own_Goes.via (T' := s₁) (g' := (mkF m 47 #[.val (.ref ar), .val (.int xb), .val (.int xl)] [(.int (2 : Int32)), (.ref ar)])) (fun t_ k_ => XS.iconst X0.here hx rfl (hb hby d7_46) k_) ?_
          obtain ⟨cl28, Ar28, -, Sl28, Ng28, H28, -⟩ := id PF0
          have in47_29 : ¬ (2 : Int32) < 0 ∧ (2 : Int32) < xlr := own_pl7_6 hc3_2 hc9_3 hc24_19 hc42_27
          have at28 := H28.at (inb_of Sl28 in47_29) (v := (.int xr2)) rfl
          refine own_Goes.via (T' := s₁) (g' := (mkF m 48 #[.val (.ref ar), .val (.int xb), .val (.int xl)] [(.int xr2)])) (fun t_ k_ => X0.baloadBytes hx (j := (2 : Int32)) (v := (.int xr2)) (by rw [e0]; exact Ar28.1) (State.isArrayOf_alike hZ.alike Ar28.2.1) Ar28.2.2 (inb_of Sl28 in47_29) at28 (g := (mkF m 47 #[.val (.ref ar), .val (.int xb), .val (.int xl)] [(.int (2 : Int32)), (.ref ar)])) rfl rfl (hb hby d7_47) _ k_) ?_
          refine own_Goes.via (T' := s₁) (g' := (mkF m 49 #[.val (.ref ar), .val (.int xb), .val (.int xl)] [(.int xb), (.int xr2)])) (fun t_ k_ => XS.iloadN X0.here hx rfl (hb hby d7_48) rfl k_) ?_
          refine own_Goes.via (T' := s₁) (g' := (mkF m 51 #[.val (.ref ar), .val (.int xb), .val (.int xl)] [(.int (16 : Int32)), (.int xb), (.int xr2)])) (fun t_ k_ => XS.bipush X0.here hx rfl (hb hby d7_49) k_) ?_
          refine own_Goes.via (T' := s₁) (g' := (mkF m 52 #[.val (.ref ar), .val (.int xb), .val (.int xl)] [(.int (xb >>> ((16 : Int32) &&& 31))), (.int xr2)])) (fun t_ k_ => XS.ishr X0.here hx rfl (hb hby d7_51) rfl k_) ?_
          refine own_Goes.via (T' := s₁) (g' := (mkF m 53 #[.val (.ref ar), .val (.int xb), .val (.int xl)] [(.int ((xb >>> ((16 : Int32) &&& 31)).toInt8.toInt32)), (.int xr2)])) (fun t_ k_ => XS.i2b X0.here hx rfl (hb hby d7_52) rfl k_) ?_
          by_cases hc53_30 : xr2 = ((xb >>> ((16 : Int32) &&& 31)).toInt8.toInt32)
          · refine own_Goes.via (T' := s₁) (g' := (mkF m 58 #[.val (.ref ar), .val (.int xb), .val (.int xl)] [])) (fun t_ k_ => XS.icmpYes X0.here hx rfl (pc0 := 53) (pc' := 58) rfl (hb hby d7_53) rfl (teq hc53_30).1 (by decide) (by decide) k_) ?_
            refine own_Goes.via (T' := s₁) (g' := (mkF m 59 #[.val (.ref ar), .val (.int xb), .val (.int xl)] [(.int (1 : Int32))])) (fun t_ k_ => XS.iconst X0.here hx rfl (hb hby d7_58) k_) ?_
            obtain ⟨fs, hr, hrun, hended, hW, hsame⟩ := X0.leave (v := some (.int (1 : Int32))) (fun h => by rw [Bd.returns] at h; cases h)
            refine own_Goes.fin (retN X0 hx (t := .boolean) Bd.returns (by simp) (hb hby d7_59) hr) hrun hended ?_
            subst hPd
            refine ⟨_, _, rfl, ?_, ⟨_, rfl⟩, hW, hsame.mono (by decide) (by decide)⟩
            show Q7 Z ar xb xl kr xlr xr0 xr1 xr2 h0 n0 _ s₁.heap _
            rw [e0]
            exact ⟨(by first | rfl | (simp only [own_f7, if_pos hc3_2, if_neg hc9_3, if_neg hc24_19, if_pos hc42_27, if_pos hc53_30])), N0, rfl⟩
          · refine own_Goes.via (T' := s₁) (g' := (mkF m 56 #[.val (.ref ar), .val (.int xb), .val (.int xl)] [])) (fun t_ k_ => XS.icmpNo X0.here hx rfl (hb hby d7_53) rfl (feq hc53_30).1 k_) ?_
            refine own_Goes.via (T' := s₁) (g' := (mkF m 57 #[.val (.ref ar), .val (.int xb), .val (.int xl)] [(.int (0 : Int32))])) (fun t_ k_ => XS.iconst X0.here hx rfl (hb hby d7_56) k_) ?_
            obtain ⟨fs, hr, hrun, hended, hW, hsame⟩ := X0.leave (v := some (.int (0 : Int32))) (fun h => by rw [Bd.returns] at h; cases h)
            refine own_Goes.fin (retN X0 hx (t := .boolean) Bd.returns (by simp) (hb hby d7_57) hr) hrun hended ?_
            subst hPd
            refine ⟨_, _, rfl, ?_, ⟨_, rfl⟩, hW, hsame.mono (by decide) (by decide)⟩
            show Q7 Z ar xb xl kr xlr xr0 xr1 xr2 h0 n0 _ s₁.heap _
            rw [e0]
            exact ⟨(by first | rfl | (simp only [own_f7, if_pos hc3_2, if_neg hc9_3, if_neg hc24_19, if_pos hc42_27, if_neg hc53_30])), N0, rfl⟩
        · refine own_Goes.via (T' := s₁) (g' := (mkF m 58 #[.val (.ref ar), .val (.int xb), .val (.int xl)] [])) (fun t_ k_ => XS.icmpYes X0.here hx rfl (pc0 := 42) (pc' := 58) rfl (hb hby d7_42) rfl (flt hc42_27).2.2.2 (by decide) (by decide) k_) ?_
          refine own_Goes.via (T' := s₁) (g' := (mkF m 59 #[.val (.ref ar), .val (.int xb), .val (.int xl)] [(.int (1 : Int32))])) (fun t_ k_ => XS.iconst X0.here hx rfl (hb hby d7_58) k_) ?_
          obtain ⟨fs, hr, hrun, hended, hW, hsame⟩ := X0.leave (v := some (.int (1 : Int32))) (fun h => by rw [Bd.returns] at h; cases h)
          refine own_Goes.fin (retN X0 hx (t := .boolean) Bd.returns (by simp) (hb hby d7_59) hr) hrun hended ?_
          subst hPd
          refine ⟨_, _, rfl, ?_, ⟨_, rfl⟩, hW, hsame.mono (by decide) (by decide)⟩
          show Q7 Z ar xb xl kr xlr xr0 xr1 xr2 h0 n0 _ s₁.heap _
          rw [e0]
          exact ⟨(by first | rfl | (simp only [own_f7, if_pos hc3_2, if_neg hc9_3, if_neg hc24_19, if_neg hc42_27])), N0, rfl⟩
  · refine own_Goes.via (T' := s₁) (g' := (mkF m 6 #[.val (.ref ar), .val (.int xb), .val (.int xl)] [])) (fun t_ k_ => XS.icmpNo X0.here hx rfl (hb hby d7_3) rfl (feq hc3_2).1 k_) ?_
    refine own_Goes.via (T' := s₁) (g' := (mkF m 7 #[.val (.ref ar), .val (.int xb), .val (.int xl)] [(.int (0 : Int32))])) (fun t_ k_ => XS.iconst X0.here hx rfl (hb hby d7_6) k_) ?_
    obtain ⟨fs, hr, hrun, hended, hW, hsame⟩ := X0.leave (v := some (.int (0 : Int32))) (fun h => by rw [Bd.returns] at h; cases h)
    refine own_Goes.fin (retN X0 hx (t := .boolean) Bd.returns (by simp) (hb hby d7_7) hr) hrun hended ?_
    subst hPd
    refine ⟨_, _, rfl, ?_, ⟨_, rfl⟩, hW, hsame.mono (by decide) (by decide)⟩
    show Q7 Z ar xb xl kr xlr xr0 xr1 xr2 h0 n0 _ s₁.heap _
    rw [e0]
    exact ⟨(by first | rfl | (simp only [own_f7, if_neg hc3_2])), N0, rfl⟩
theorem own_nb (x : Int8) : nar .byte x.toInt32 = x.toInt32 := by
  show x.toInt32.toInt8.toInt32 = _
  rw [Int8.toInt8_toInt32]
theorem own_same (b xl : Int32) : own_f7 b xl xl (if (0 : Int32) < xl then (nar .byte (b.toInt8.toInt32)) else (0 : Int32)) (if (1 : Int32) < xl then (nar .byte ((b >>> ((8 : Int32) &&& 31)).toInt8.toInt32)) else (0 : Int32)) (if (2 : Int32) < xl then (nar .byte ((b >>> ((16 : Int32) &&& 31)).toInt8.toInt32)) else (0 : Int32)) = 1 := by
  rw [own_nb, own_nb, own_nb]
  unfold own_f7
  rw [if_pos rfl]
  by_cases h0 : (0 : Int32) < xl
  · by_cases h1 : (1 : Int32) < xl
    · by_cases h2 : (2 : Int32) < xl
      · rw [if_pos h0, if_pos h0, if_pos rfl, if_pos h1, if_pos h1, if_pos rfl, if_pos h2, if_pos h2, if_pos rfl]
      · rw [if_pos h0, if_pos h0, if_pos rfl, if_pos h1, if_pos h1, if_pos rfl, if_neg h2]
    · by_cases h2 : (2 : Int32) < xl
      · rw [if_pos h0, if_pos h0, if_pos rfl, if_neg h1, if_pos h2, if_pos h2, if_pos rfl]
      · rw [if_pos h0, if_pos h0, if_pos rfl, if_neg h1, if_neg h2]
  · by_cases h1 : (1 : Int32) < xl
    · by_cases h2 : (2 : Int32) < xl
      · rw [if_neg h0, if_pos h1, if_pos h1, if_pos rfl, if_pos h2, if_pos h2, if_pos rfl]
      · rw [if_neg h0, if_pos h1, if_pos h1, if_pos rfl, if_neg h2]
    · by_cases h2 : (2 : Int32) < xl
      · rw [if_neg h0, if_neg h1, if_pos h2, if_pos h2, if_pos rfl]
      · rw [if_neg h0, if_neg h1, if_neg h2]
theorem pn_0 : plainName "com/example/keysweep/keysweep/KeyFirstOfPinLaw" = true := by first | (simp [plainName, overriddenIn]; done) | decide +kernel
theorem pd_0_0 : parseMethodDescriptor "(II)[B" = some ⟨[.int, .int], some (.array .byte)⟩ := by decide +kernel
theorem pd_0_1 : parseMethodDescriptor "([B[B[B)Lcom/example/keysweep/keysweep/Key;" = some ⟨[(.array .byte), (.array .byte), (.array .byte)], some (.object "com/example/keysweep/keysweep/Key")⟩ := by decide +kernel
theorem pd_0_2 : parseMethodDescriptor "([B)V" = some ⟨[(.array .byte)], none⟩ := by decide +kernel
theorem pd_0_3 : parseMethodDescriptor "()[B" = some ⟨[], some (.array .byte)⟩ := by decide +kernel
theorem pd_0_4 : parseMethodDescriptor "([BII)Z" = some ⟨[(.array .byte), .int, .int], some .boolean⟩ := by decide +kernel
theorem pd_0_5 : parseMethodDescriptor "()J" = some ⟨[], some .long⟩ := by decide +kernel
theorem pd_0_6 : parseMethodDescriptor "()Z" = some ⟨[], some .boolean⟩ := by decide +kernel
theorem ef_0 (m : MethodId) (xa : Int32) (xb : Int32) (xc : Int32) (xn : Int32) : entryFrame m #[(.int xa), (.int xb), (.int xc), (.int xn)] maxLocals = mkF m 0 #[.val (.int xa), .val (.int xb), .val (.int xc), .val (.int xn), .unset, .unset, .unset, .unset, .unset, .unset, .unset] [] := by first | (simp [entryFrame, mkF, argsToLocals, Value.category, maxLocals]; done) | rfl
def Q0 (Z : State) (xa : Int32) (xb : Int32) (xc : Int32) (xn : Int32) (s_EMPTY : Addr) (kE : ClassId) (h0 : Heap) (n0 : Nat) (v : Option Value) (h : Heap) (L : List Loc) : Prop := v = some (.int 1) ∧ Fr n0 L
set_option maxRecDepth 65536 in
theorem own_pl0_0 {xn : Int32} {v3 : Int32} {v4 : Int32} {v5 : Int32} (hv3 : v3 = (xn &&& (3 : Int32))) (hv4 : v4 = ((xn >>> ((2 : Int32) &&& 31)) &&& (3 : Int32))) (hv5 : v5 = ((xn >>> ((4 : Int32) &&& 31)) &&& (3 : Int32))) : ¬ v3 < 0 := by
  first | decide | assumption | (subst_vars; exact own_neg (own_m3 _).1) | (subst_vars; exact own_cap (own_m3 _).2)
set_option maxRecDepth 65536 in
theorem own_pl0_1 {xn : Int32} {v3 : Int32} {v4 : Int32} {v5 : Int32} (hv3 : v3 = (xn &&& (3 : Int32))) (hv4 : v4 = ((xn >>> ((2 : Int32) &&& 31)) &&& (3 : Int32))) (hv5 : v5 = ((xn >>> ((4 : Int32) &&& 31)) &&& (3 : Int32))) (cd22_7 : ¬ v3 < 0) : v3.toNatClampNeg ≤ 3 := by
  first | decide | assumption | (subst_vars; exact own_neg (own_m3 _).1) | (subst_vars; exact own_cap (own_m3 _).2)
set_option maxRecDepth 65536 in
theorem own_pl0_2 {xn : Int32} {v3 : Int32} {v4 : Int32} {v5 : Int32} (hv3 : v3 = (xn &&& (3 : Int32))) (hv4 : v4 = ((xn >>> ((2 : Int32) &&& 31)) &&& (3 : Int32))) (hv5 : v5 = ((xn >>> ((4 : Int32) &&& 31)) &&& (3 : Int32))) (cd22_7 : ¬ v3 < 0) (cd22_8 : v3.toNatClampNeg ≤ 3) : ¬ v4 < 0 := by
  first | decide | assumption | (subst_vars; exact own_neg (own_m3 _).1) | (subst_vars; exact own_cap (own_m3 _).2)
set_option maxRecDepth 65536 in
theorem own_pl0_3 {xn : Int32} {v3 : Int32} {v4 : Int32} {v5 : Int32} (hv3 : v3 = (xn &&& (3 : Int32))) (hv4 : v4 = ((xn >>> ((2 : Int32) &&& 31)) &&& (3 : Int32))) (hv5 : v5 = ((xn >>> ((4 : Int32) &&& 31)) &&& (3 : Int32))) (cd22_7 : ¬ v3 < 0) (cd22_8 : v3.toNatClampNeg ≤ 3) (cd30_13 : ¬ v4 < 0) : v4.toNatClampNeg ≤ 3 := by
  first | decide | assumption | (subst_vars; exact own_neg (own_m3 _).1) | (subst_vars; exact own_cap (own_m3 _).2)
set_option maxRecDepth 65536 in
theorem own_pl0_4 {xn : Int32} {v3 : Int32} {v4 : Int32} {v5 : Int32} (hv3 : v3 = (xn &&& (3 : Int32))) (hv4 : v4 = ((xn >>> ((2 : Int32) &&& 31)) &&& (3 : Int32))) (hv5 : v5 = ((xn >>> ((4 : Int32) &&& 31)) &&& (3 : Int32))) (cd22_7 : ¬ v3 < 0) (cd22_8 : v3.toNatClampNeg ≤ 3) (cd30_13 : ¬ v4 < 0) (cd30_14 : v4.toNatClampNeg ≤ 3) : ¬ v5 < 0 := by
  first | decide | assumption | (subst_vars; exact own_neg (own_m3 _).1) | (subst_vars; exact own_cap (own_m3 _).2)
set_option maxRecDepth 65536 in
theorem own_pl0_5 {xn : Int32} {v3 : Int32} {v4 : Int32} {v5 : Int32} (hv3 : v3 = (xn &&& (3 : Int32))) (hv4 : v4 = ((xn >>> ((2 : Int32) &&& 31)) &&& (3 : Int32))) (hv5 : v5 = ((xn >>> ((4 : Int32) &&& 31)) &&& (3 : Int32))) (cd22_7 : ¬ v3 < 0) (cd22_8 : v3.toNatClampNeg ≤ 3) (cd30_13 : ¬ v4 < 0) (cd30_14 : v4.toNatClampNeg ≤ 3) (cd38_21 : ¬ v5 < 0) : v5.toNatClampNeg ≤ 3 := by
  first | decide | assumption | (subst_vars; exact own_neg (own_m3 _).1) | (subst_vars; exact own_cap (own_m3 _).2)
set_option maxRecDepth 65536 in
theorem own_pl0_6 {xn : Int32} {v3 : Int32} {v4 : Int32} {v5 : Int32} (hv3 : v3 = (xn &&& (3 : Int32))) (hv4 : v4 = ((xn >>> ((2 : Int32) &&& 31)) &&& (3 : Int32))) (hv5 : v5 = ((xn >>> ((4 : Int32) &&& 31)) &&& (3 : Int32))) (cd22_7 : ¬ v3 < 0) (cd22_8 : v3.toNatClampNeg ≤ 3) (cd30_13 : ¬ v4 < 0) (cd30_14 : v4.toNatClampNeg ≤ 3) (cd38_21 : ¬ v5 < 0) (cd38_22 : v5.toNatClampNeg ≤ 3) : v3.toNatClampNeg ≤ 3 := by
  first | decide | assumption | (subst_vars; exact own_neg (own_m3 _).1) | (subst_vars; exact own_cap (own_m3 _).2)
set_option maxRecDepth 65536 in
theorem own_pl0_7 {xn : Int32} {v3 : Int32} {v4 : Int32} {v5 : Int32} (hv3 : v3 = (xn &&& (3 : Int32))) (hv4 : v4 = ((xn >>> ((2 : Int32) &&& 31)) &&& (3 : Int32))) (hv5 : v5 = ((xn >>> ((4 : Int32) &&& 31)) &&& (3 : Int32))) (cd22_7 : ¬ v3 < 0) (cd22_8 : v3.toNatClampNeg ≤ 3) (cd30_13 : ¬ v4 < 0) (cd30_14 : v4.toNatClampNeg ≤ 3) (cd38_21 : ¬ v5 < 0) (cd38_22 : v5.toNatClampNeg ≤ 3) (cd49_31 : v3.toNatClampNeg ≤ 3) : v4.toNatClampNeg ≤ 3 := by
  first | decide | assumption | (subst_vars; exact own_neg (own_m3 _).1) | (subst_vars; exact own_cap (own_m3 _).2)
set_option maxRecDepth 65536 in
theorem own_pl0_8 {xn : Int32} {v3 : Int32} {v4 : Int32} {v5 : Int32} (hv3 : v3 = (xn &&& (3 : Int32))) (hv4 : v4 = ((xn >>> ((2 : Int32) &&& 31)) &&& (3 : Int32))) (hv5 : v5 = ((xn >>> ((4 : Int32) &&& 31)) &&& (3 : Int32))) (cd22_7 : ¬ v3 < 0) (cd22_8 : v3.toNatClampNeg ≤ 3) (cd30_13 : ¬ v4 < 0) (cd30_14 : v4.toNatClampNeg ≤ 3) (cd38_21 : ¬ v5 < 0) (cd38_22 : v5.toNatClampNeg ≤ 3) (cd49_31 : v3.toNatClampNeg ≤ 3) (cd49_32 : v4.toNatClampNeg ≤ 3) : v5.toNatClampNeg ≤ 3 := by
  first | decide | assumption | (subst_vars; exact own_neg (own_m3 _).1) | (subst_vars; exact own_cap (own_m3 _).2)
set_option maxRecDepth 65536 in
theorem own_pl0_9 {xn : Int32} {v3 : Int32} {v4 : Int32} {v5 : Int32} (hv3 : v3 = (xn &&& (3 : Int32))) (hv4 : v4 = ((xn >>> ((2 : Int32) &&& 31)) &&& (3 : Int32))) (hv5 : v5 = ((xn >>> ((4 : Int32) &&& 31)) &&& (3 : Int32))) (cd22_7 : ¬ v3 < 0) (cd22_8 : v3.toNatClampNeg ≤ 3) (cd30_13 : ¬ v4 < 0) (cd30_14 : v4.toNatClampNeg ≤ 3) (cd38_21 : ¬ v5 < 0) (cd38_22 : v5.toNatClampNeg ≤ 3) (cd49_31 : v3.toNatClampNeg ≤ 3) (cd49_32 : v4.toNatClampNeg ≤ 3) (cd49_33 : v5.toNatClampNeg ≤ 3) : v3.toNatClampNeg ≤ 3 := by
  first | decide | assumption | (subst_vars; exact own_neg (own_m3 _).1) | (subst_vars; exact own_cap (own_m3 _).2)
set_option maxRecDepth 65536 in
theorem own_pl0_10 {xa : Int32} {xn : Int32} {v3 : Int32} {v4 : Int32} {v5 : Int32} {v128 : Int32} (hv3 : v3 = (xn &&& (3 : Int32))) (hv4 : v4 = ((xn >>> ((2 : Int32) &&& 31)) &&& (3 : Int32))) (hv5 : v5 = ((xn >>> ((4 : Int32) &&& 31)) &&& (3 : Int32))) (hv128 : v128 = (own_f7 xa v3 v3 (if (0 : Int32) < v3 then (nar .byte (xa.toInt8.toInt32)) else (0 : Int32)) (if (1 : Int32) < v3 then (nar .byte ((xa >>> ((8 : Int32) &&& 31)).toInt8.toInt32)) else (0 : Int32)) (if (2 : Int32) < v3 then (nar .byte ((xa >>> ((16 : Int32) &&& 31)).toInt8.toInt32)) else (0 : Int32)))) (hc80_129 : ¬ (v128 = (0 : Int32))) (cd22_7 : ¬ v3 < 0) (cd22_8 : v3.toNatClampNeg ≤ 3) (cd30_13 : ¬ v4 < 0) (cd30_14 : v4.toNatClampNeg ≤ 3) (cd38_21 : ¬ v5 < 0) (cd38_22 : v5.toNatClampNeg ≤ 3) (cd49_31 : v3.toNatClampNeg ≤ 3) (cd49_32 : v4.toNatClampNeg ≤ 3) (cd49_33 : v5.toNatClampNeg ≤ 3) (cd71_107 : v3.toNatClampNeg ≤ 3) : v4.toNatClampNeg ≤ 3 := by
  first | decide | assumption | (subst_vars; exact own_neg (own_m3 _).1) | (subst_vars; exact own_cap (own_m3 _).2)
set_option maxRecDepth 65536 in
theorem own_pl0_11 {xa : Int32} {xb : Int32} {xn : Int32} {v3 : Int32} {v4 : Int32} {v5 : Int32} {v128 : Int32} (hv3 : v3 = (xn &&& (3 : Int32))) (hv4 : v4 = ((xn >>> ((2 : Int32) &&& 31)) &&& (3 : Int32))) (hv5 : v5 = ((xn >>> ((4 : Int32) &&& 31)) &&& (3 : Int32))) (hv128 : v128 = (own_f7 xa v3 v3 (if (0 : Int32) < v3 then (nar .byte (xa.toInt8.toInt32)) else (0 : Int32)) (if (1 : Int32) < v3 then (nar .byte ((xa >>> ((8 : Int32) &&& 31)).toInt8.toInt32)) else (0 : Int32)) (if (2 : Int32) < v3 then (nar .byte ((xa >>> ((16 : Int32) &&& 31)).toInt8.toInt32)) else (0 : Int32)))) (hc80_129 : ¬ (v128 = (0 : Int32))) (hc94_157 : ¬ ((own_f7 xb v4 v4 (if (0 : Int32) < v4 then (nar .byte (xb.toInt8.toInt32)) else (0 : Int32)) (if (1 : Int32) < v4 then (nar .byte ((xb >>> ((8 : Int32) &&& 31)).toInt8.toInt32)) else (0 : Int32)) (if (2 : Int32) < v4 then (nar .byte ((xb >>> ((16 : Int32) &&& 31)).toInt8.toInt32)) else (0 : Int32))) = (0 : Int32))) (cd22_7 : ¬ v3 < 0) (cd22_8 : v3.toNatClampNeg ≤ 3) (cd30_13 : ¬ v4 < 0) (cd30_14 : v4.toNatClampNeg ≤ 3) (cd38_21 : ¬ v5 < 0) (cd38_22 : v5.toNatClampNeg ≤ 3) (cd49_31 : v3.toNatClampNeg ≤ 3) (cd49_32 : v4.toNatClampNeg ≤ 3) (cd49_33 : v5.toNatClampNeg ≤ 3) (cd71_107 : v3.toNatClampNeg ≤ 3) (cd85_134 : v4.toNatClampNeg ≤ 3) : v5.toNatClampNeg ≤ 3 := by
  first | decide | assumption | (subst_vars; exact own_neg (own_m3 _).1) | (subst_vars; exact own_cap (own_m3 _).2)
set_option maxRecDepth 65536 in
theorem own_pl0_12 {xa : Int32} {xb : Int32} {xc : Int32} {xn : Int32} {v3 : Int32} {v4 : Int32} {v5 : Int32} {v128 : Int32} (hv3 : v3 = (xn &&& (3 : Int32))) (hv4 : v4 = ((xn >>> ((2 : Int32) &&& 31)) &&& (3 : Int32))) (hv5 : v5 = ((xn >>> ((4 : Int32) &&& 31)) &&& (3 : Int32))) (hv128 : v128 = (own_f7 xa v3 v3 (if (0 : Int32) < v3 then (nar .byte (xa.toInt8.toInt32)) else (0 : Int32)) (if (1 : Int32) < v3 then (nar .byte ((xa >>> ((8 : Int32) &&& 31)).toInt8.toInt32)) else (0 : Int32)) (if (2 : Int32) < v3 then (nar .byte ((xa >>> ((16 : Int32) &&& 31)).toInt8.toInt32)) else (0 : Int32)))) (hc80_129 : ¬ (v128 = (0 : Int32))) (hc94_157 : ¬ ((own_f7 xb v4 v4 (if (0 : Int32) < v4 then (nar .byte (xb.toInt8.toInt32)) else (0 : Int32)) (if (1 : Int32) < v4 then (nar .byte ((xb >>> ((8 : Int32) &&& 31)).toInt8.toInt32)) else (0 : Int32)) (if (2 : Int32) < v4 then (nar .byte ((xb >>> ((16 : Int32) &&& 31)).toInt8.toInt32)) else (0 : Int32))) = (0 : Int32))) (hc108_184 : ¬ ((own_f7 xc v5 v5 (if (0 : Int32) < v5 then (nar .byte (xc.toInt8.toInt32)) else (0 : Int32)) (if (1 : Int32) < v5 then (nar .byte ((xc >>> ((8 : Int32) &&& 31)).toInt8.toInt32)) else (0 : Int32)) (if (2 : Int32) < v5 then (nar .byte ((xc >>> ((16 : Int32) &&& 31)).toInt8.toInt32)) else (0 : Int32))) = (0 : Int32))) (cd22_7 : ¬ v3 < 0) (cd22_8 : v3.toNatClampNeg ≤ 3) (cd30_13 : ¬ v4 < 0) (cd30_14 : v4.toNatClampNeg ≤ 3) (cd38_21 : ¬ v5 < 0) (cd38_22 : v5.toNatClampNeg ≤ 3) (cd49_31 : v3.toNatClampNeg ≤ 3) (cd49_32 : v4.toNatClampNeg ≤ 3) (cd49_33 : v5.toNatClampNeg ≤ 3) (cd71_107 : v3.toNatClampNeg ≤ 3) (cd85_134 : v4.toNatClampNeg ≤ 3) (cd99_159 : v5.toNatClampNeg ≤ 3) : (0 : Int32).toNatClampNeg ≤ 3 := by
  first | decide | assumption | (subst_vars; exact own_neg (own_m3 _).1) | (subst_vars; exact own_cap (own_m3 _).2)
set_option maxRecDepth 65536 in
theorem own_pl0_13 {xa : Int32} {xb : Int32} {xc : Int32} {xn : Int32} {v3 : Int32} {v4 : Int32} {v5 : Int32} {v128 : Int32} (hv3 : v3 = (xn &&& (3 : Int32))) (hv4 : v4 = ((xn >>> ((2 : Int32) &&& 31)) &&& (3 : Int32))) (hv5 : v5 = ((xn >>> ((4 : Int32) &&& 31)) &&& (3 : Int32))) (hv128 : v128 = (own_f7 xa v3 v3 (if (0 : Int32) < v3 then (nar .byte (xa.toInt8.toInt32)) else (0 : Int32)) (if (1 : Int32) < v3 then (nar .byte ((xa >>> ((8 : Int32) &&& 31)).toInt8.toInt32)) else (0 : Int32)) (if (2 : Int32) < v3 then (nar .byte ((xa >>> ((16 : Int32) &&& 31)).toInt8.toInt32)) else (0 : Int32)))) (hc80_129 : ¬ (v128 = (0 : Int32))) (hc94_157 : ¬ ((own_f7 xb v4 v4 (if (0 : Int32) < v4 then (nar .byte (xb.toInt8.toInt32)) else (0 : Int32)) (if (1 : Int32) < v4 then (nar .byte ((xb >>> ((8 : Int32) &&& 31)).toInt8.toInt32)) else (0 : Int32)) (if (2 : Int32) < v4 then (nar .byte ((xb >>> ((16 : Int32) &&& 31)).toInt8.toInt32)) else (0 : Int32))) = (0 : Int32))) (hc108_184 : ¬ ((own_f7 xc v5 v5 (if (0 : Int32) < v5 then (nar .byte (xc.toInt8.toInt32)) else (0 : Int32)) (if (1 : Int32) < v5 then (nar .byte ((xc >>> ((8 : Int32) &&& 31)).toInt8.toInt32)) else (0 : Int32)) (if (2 : Int32) < v5 then (nar .byte ((xc >>> ((16 : Int32) &&& 31)).toInt8.toInt32)) else (0 : Int32))) = (0 : Int32))) (hc129_214 : (own_f11 (9223372036854775807 : Int64)) = (9223372036854775807 : Int64)) (cd22_7 : ¬ v3 < 0) (cd22_8 : v3.toNatClampNeg ≤ 3) (cd30_13 : ¬ v4 < 0) (cd30_14 : v4.toNatClampNeg ≤ 3) (cd38_21 : ¬ v5 < 0) (cd38_22 : v5.toNatClampNeg ≤ 3) (cd49_31 : v3.toNatClampNeg ≤ 3) (cd49_32 : v4.toNatClampNeg ≤ 3) (cd49_33 : v5.toNatClampNeg ≤ 3) (cd71_107 : v3.toNatClampNeg ≤ 3) (cd85_134 : v4.toNatClampNeg ≤ 3) (cd99_159 : v5.toNatClampNeg ≤ 3) (cd113_186 : (0 : Int32).toNatClampNeg ≤ 3) : nar .boolean (nar .boolean (1 : Int32)) = (nar .boolean (1 : Int32)) := by
  first | decide | assumption | (subst_vars; exact own_neg (own_m3 _).1) | (subst_vars; exact own_cap (own_m3 _).2)
set_option maxRecDepth 65536 in
theorem own_pl0_14 {xa : Int32} {xb : Int32} {xc : Int32} {xn : Int32} {v3 : Int32} {v4 : Int32} {v5 : Int32} {v128 : Int32} {v145_130 : Int32} (hv3 : v3 = (xn &&& (3 : Int32))) (hv4 : v4 = ((xn >>> ((2 : Int32) &&& 31)) &&& (3 : Int32))) (hv5 : v5 = ((xn >>> ((4 : Int32) &&& 31)) &&& (3 : Int32))) (hv128 : v128 = (own_f7 xa v3 v3 (if (0 : Int32) < v3 then (nar .byte (xa.toInt8.toInt32)) else (0 : Int32)) (if (1 : Int32) < v3 then (nar .byte ((xa >>> ((8 : Int32) &&& 31)).toInt8.toInt32)) else (0 : Int32)) (if (2 : Int32) < v3 then (nar .byte ((xa >>> ((16 : Int32) &&& 31)).toInt8.toInt32)) else (0 : Int32)))) (hv145_130 : v145_130 = (if v128 = (0 : Int32) then (0 : Int32) else (if (own_f7 xb v4 v4 (if (0 : Int32) < v4 then (nar .byte (xb.toInt8.toInt32)) else (0 : Int32)) (if (1 : Int32) < v4 then (nar .byte ((xb >>> ((8 : Int32) &&& 31)).toInt8.toInt32)) else (0 : Int32)) (if (2 : Int32) < v4 then (nar .byte ((xb >>> ((16 : Int32) &&& 31)).toInt8.toInt32)) else (0 : Int32))) = (0 : Int32) then (0 : Int32) else (if (own_f7 xc v5 v5 (if (0 : Int32) < v5 then (nar .byte (xc.toInt8.toInt32)) else (0 : Int32)) (if (1 : Int32) < v5 then (nar .byte ((xc >>> ((8 : Int32) &&& 31)).toInt8.toInt32)) else (0 : Int32)) (if (2 : Int32) < v5 then (nar .byte ((xc >>> ((16 : Int32) &&& 31)).toInt8.toInt32)) else (0 : Int32))) = (0 : Int32) then (0 : Int32) else (if (own_f11 (9223372036854775807 : Int64)) = (9223372036854775807 : Int64) then (if (own_f12 (nar .boolean (1 : Int32))) = (0 : Int32) then (0 : Int32) else (1 : Int32)) else (0 : Int32)))))) (cd22_7 : ¬ v3 < 0) (cd22_8 : v3.toNatClampNeg ≤ 3) (cd30_13 : ¬ v4 < 0) (cd30_14 : v4.toNatClampNeg ≤ 3) (cd38_21 : ¬ v5 < 0) (cd38_22 : v5.toNatClampNeg ≤ 3) (cd49_31 : v3.toNatClampNeg ≤ 3) (cd49_32 : v4.toNatClampNeg ≤ 3) (cd49_33 : v5.toNatClampNeg ≤ 3) (cd71_107 : v3.toNatClampNeg ≤ 3) : v145_130 = 1 := by
  rw [hv145_130, hv128, own_same, own_same, own_same]
  rfl
set_option maxRecDepth 65536 in
set_option maxHeartbeats 40000000 in
theorem rm0 (l : Launch) (Z : State) (a0 : Array Value) (hw : ∀ d ∈ tables_1, d.before a0 Z = true) (ws : List Jvm.Cond) (xa : Int32) (xb : Int32) (xc : Int32) (xn : Int32) (s_EMPTY : Addr) (kE : ClassId) (h0 : Heap) (n0 : Nat) (Z0 : n0 ≤ h0.size) (OL : Old Z n0 h0) (S_EMPTY : Sta Z Z.heap "com/example/keysweep/keysweep/Key" "EMPTY" "[B" (.ref s_EMPTY)) (EE : Exa Z Z.heap s_EMPTY "[B") (AE : Arv Z Z.heap s_EMPTY kE .byte (0 : Int32) [] (.int (0 : Int32))) :
    MetFree l x (head1 (Jvm.Cond.code x code maxLocals ret :: ws) room_1) (fun a U => a = #[(.int xa), (.int xb), (.int xc), (.int xn)] ∧ Z.Warmed39 U.vm ∧ U.heap = h0) (fun _ _ _ _ _ => True) (fun _ U o U' => ∃ v L, o = .returned v ∧ Q0 Z xa xb xc xn s_EMPTY kE h0 n0 v U'.heap L ∧ FrameEnd U o U' L 11 36) := by
  refine MetFree.of_bodySF (plainFor_of_name pn_0) hisR ?_
  intro p e s m args below meth c s₁ Bd hml0 hP hK
  obtain ⟨rfl, hZ, hh⟩ := hP
  have hx := Bd.exec
  have hby := Bd.bytes
  have hml : c.maxLocals = 11 := hml0
  have hown : s.vm.findClass "com/example/keysweep/keysweep/KeyFirstOfPinLaw" = some m.cls := findClass_of_methodNamed Bd.named
  have hnm := (name_of_methodNamed Bd.named Bd.method).1
  have X0 : Stand p l e room_1 s m #[(.int xa), (.int xb), (.int xc), (.int xn)] below meth c s₁ [] 0 0 := Stand.of_body Bd
  have e0 : s₁.heap = h0 := by rw [← hh, Bd.state]; rfl
  have N0 := Fr.nil n0
  suffices G : own_Goes p.tables e below (fun o U' => ∃ v L, o = .returned v ∧ Q0 Z xa xb xc xn s_EMPTY kE h0 n0 v U'.heap L ∧ FrameEnd s o U' L 11 36) s₁ (mkF m 0 #[.val (.int xa), .val (.int xb), .val (.int xc), .val (.int xn), .unset, .unset, .unset, .unset, .unset, .unset, .unset] []) by
    obtain ⟨t2_, o2_, z1_, z2_, z3_, z4_⟩ := G
    exact ⟨t2_, o2_, castTop (ef_0 m xa xb xc xn) z1_, z2_, z3_, z4_⟩
  generalize hPd : (fun (o : Outcome) (U' : State) => ∃ v L, o = .returned v ∧ Q0 Z xa xb xc xn s_EMPTY kE h0 n0 v U'.heap L ∧ FrameEnd s o U' L 11 36) = P
  have E1 : Exa Z h0 s_EMPTY "[B" := EE.ext OL.2
  have V2 : Arv Z h0 s_EMPTY kE .byte (0 : Int32) [] (.int (0 : Int32)) := AE.ext OL.2
  refine own_Goes.via (T' := s₁) (g' := (mkF m 1 #[.val (.int xa), .val (.int xb), .val (.int xc), .val (.int xn), .unset, .unset, .unset, .unset, .unset, .unset, .unset] [(.int xn)])) (fun t_ k_ => XS.iloadN X0.here hx rfl (hb hby at_0) rfl k_) ?_
  refine own_Goes.via (T' := s₁) (g' := (mkF m 2 #[.val (.int xa), .val (.int xb), .val (.int xc), .val (.int xn), .unset, .unset, .unset, .unset, .unset, .unset, .unset] [(.int (3 : Int32)), (.int xn)])) (fun t_ k_ => XS.iconst X0.here hx rfl (hb hby at_1) k_) ?_
  refine own_Goes.via (T' := s₁) (g' := (mkF m 3 #[.val (.int xa), .val (.int xb), .val (.int xc), .val (.int xn), .unset, .unset, .unset, .unset, .unset, .unset, .unset] [(.int (xn &&& (3 : Int32)))])) (fun t_ k_ => XS.iand X0.here hx rfl (hb hby at_2) rfl k_) ?_
  refine own_Goes.via (T' := s₁) (g' := (mkF m 5 #[.val (.int xa), .val (.int xb), .val (.int xc), .val (.int xn), .val (.int (xn &&& (3 : Int32))), .unset, .unset, .unset, .unset, .unset, .unset] [])) (fun t_ k_ => XS.istore X0.here hx rfl (hb hby at_3) rfl (l' := #[.val (.int xa), .val (.int xb), .val (.int xc), .val (.int xn), .val (.int (xn &&& (3 : Int32))), .unset, .unset, .unset, .unset, .unset, .unset]) rfl k_) ?_
  obtain ⟨v3, hv3⟩ : ∃ z : Int32, z = (xn &&& (3 : Int32)) := ⟨_, rfl⟩
  rw [← hv3]
  refine own_Goes.via (T' := s₁) (g' := (mkF m 6 #[.val (.int xa), .val (.int xb), .val (.int xc), .val (.int xn), .val (.int v3), .unset, .unset, .unset, .unset, .unset, .unset] [(.int xn)])) (fun t_ k_ => XS.iloadN X0.here hx rfl (hb hby at_5) rfl k_) ?_
  refine own_Goes.via (T' := s₁) (g' := (mkF m 7 #[.val (.int xa), .val (.int xb), .val (.int xc), .val (.int xn), .val (.int v3), .unset, .unset, .unset, .unset, .unset, .unset] [(.int (2 : Int32)), (.int xn)])) (fun t_ k_ => XS.iconst X0.here hx rfl (hb hby at_6) k_) ?_
  refine own_Goes.via (T' := s₁) (g' := (mkF m 8 #[.val (.int xa), .val (.int xb), .val (.int xc), .val (.int xn), .val (.int v3), .unset, .unset, .unset, .unset, .unset, .unset] [(.int (xn >>> ((2 : Int32) &&& 31)))])) (fun t_ k_ => XS.ishr X0.here hx rfl (hb hby at_7) rfl k_) ?_
  refine own_Goes.via (T' := s₁) (g' := (mkF m 9 #[.val (.int xa), .val (.int xb), .val (.int xc), .val (.int xn), .val (.int v3), .unset, .unset, .unset, .unset, .unset, .unset] [(.int (3 : Int32)), (.int (xn >>> ((2 : Int32) &&& 31)))])) (fun t_ k_ => XS.iconst X0.here hx rfl (hb hby at_8) k_) ?_
  refine own_Goes.via (T' := s₁) (g' := (mkF m 10 #[.val (.int xa), .val (.int xb), .val (.int xc), .val (.int xn), .val (.int v3), .unset, .unset, .unset, .unset, .unset, .unset] [(.int ((xn >>> ((2 : Int32) &&& 31)) &&& (3 : Int32)))])) (fun t_ k_ => XS.iand X0.here hx rfl (hb hby at_9) rfl k_) ?_
  refine own_Goes.via (T' := s₁) (g' := (mkF m 12 #[.val (.int xa), .val (.int xb), .val (.int xc), .val (.int xn), .val (.int v3), .val (.int ((xn >>> ((2 : Int32) &&& 31)) &&& (3 : Int32))), .unset, .unset, .unset, .unset, .unset] [])) (fun t_ k_ => XS.istore X0.here hx rfl (hb hby at_10) rfl (l' := #[.val (.int xa), .val (.int xb), .val (.int xc), .val (.int xn), .val (.int v3), .val (.int ((xn >>> ((2 : Int32) &&& 31)) &&& (3 : Int32))), .unset, .unset, .unset, .unset, .unset]) rfl k_) ?_
  obtain ⟨v4, hv4⟩ : ∃ z : Int32, z = ((xn >>> ((2 : Int32) &&& 31)) &&& (3 : Int32)) := ⟨_, rfl⟩
  rw [← hv4]
  refine own_Goes.via (T' := s₁) (g' := (mkF m 13 #[.val (.int xa), .val (.int xb), .val (.int xc), .val (.int xn), .val (.int v3), .val (.int v4), .unset, .unset, .unset, .unset, .unset] [(.int xn)])) (fun t_ k_ => XS.iloadN X0.here hx rfl (hb hby at_12) rfl k_) ?_
  refine own_Goes.via (T' := s₁) (g' := (mkF m 14 #[.val (.int xa), .val (.int xb), .val (.int xc), .val (.int xn), .val (.int v3), .val (.int v4), .unset, .unset, .unset, .unset, .unset] [(.int (4 : Int32)), (.int xn)])) (fun t_ k_ => XS.iconst X0.here hx rfl (hb hby at_13) k_) ?_
  refine own_Goes.via (T' := s₁) (g' := (mkF m 15 #[.val (.int xa), .val (.int xb), .val (.int xc), .val (.int xn), .val (.int v3), .val (.int v4), .unset, .unset, .unset, .unset, .unset] [(.int (xn >>> ((4 : Int32) &&& 31)))])) (fun t_ k_ => XS.ishr X0.here hx rfl (hb hby at_14) rfl k_) ?_
  refine own_Goes.via (T' := s₁) (g' := (mkF m 16 #[.val (.int xa), .val (.int xb), .val (.int xc), .val (.int xn), .val (.int v3), .val (.int v4), .unset, .unset, .unset, .unset, .unset] [(.int (3 : Int32)), (.int (xn >>> ((4 : Int32) &&& 31)))])) (fun t_ k_ => XS.iconst X0.here hx rfl (hb hby at_15) k_) ?_
  refine own_Goes.via (T' := s₁) (g' := (mkF m 17 #[.val (.int xa), .val (.int xb), .val (.int xc), .val (.int xn), .val (.int v3), .val (.int v4), .unset, .unset, .unset, .unset, .unset] [(.int ((xn >>> ((4 : Int32) &&& 31)) &&& (3 : Int32)))])) (fun t_ k_ => XS.iand X0.here hx rfl (hb hby at_16) rfl k_) ?_
  refine own_Goes.via (T' := s₁) (g' := (mkF m 19 #[.val (.int xa), .val (.int xb), .val (.int xc), .val (.int xn), .val (.int v3), .val (.int v4), .val (.int ((xn >>> ((4 : Int32) &&& 31)) &&& (3 : Int32))), .unset, .unset, .unset, .unset] [])) (fun t_ k_ => XS.istore X0.here hx rfl (hb hby at_17) rfl (l' := #[.val (.int xa), .val (.int xb), .val (.int xc), .val (.int xn), .val (.int v3), .val (.int v4), .val (.int ((xn >>> ((4 : Int32) &&& 31)) &&& (3 : Int32))), .unset, .unset, .unset, .unset]) rfl k_) ?_
  obtain ⟨v5, hv5⟩ : ∃ z : Int32, z = ((xn >>> ((4 : Int32) &&& 31)) &&& (3 : Int32)) := ⟨_, rfl⟩
  rw [← hv5]
  refine own_Goes.via (T' := s₁) (g' := (mkF m 20 #[.val (.int xa), .val (.int xb), .val (.int xc), .val (.int xn), .val (.int v3), .val (.int v4), .val (.int v5), .unset, .unset, .unset, .unset] [(.int xa)])) (fun t_ k_ => XS.iloadN X0.here hx rfl (hb hby at_19) rfl k_) ?_
  refine own_Goes.via (T' := s₁) (g' := (mkF m 22 #[.val (.int xa), .val (.int xb), .val (.int xc), .val (.int xn), .val (.int v3), .val (.int v4), .val (.int v5), .unset, .unset, .unset, .unset] [(.int v3), (.int xa)])) (fun t_ k_ => XS.iload X0.here hx rfl (hb hby at_20) rfl k_) ?_
  have cd22_7 : ¬ v3 < 0 := own_pl0_0 hv3 hv4 hv5
  have cd22_8 : v3.toNatClampNeg ≤ 3 := own_pl0_1 hv3 hv4 hv5 cd22_7
  obtain ⟨_, _, ⟨T6, L6, k6, n6⟩, -, X6, ⟨Lc6, hQ6, l6, y6, z6⟩, st6⟩ := Jvm.LawKit.callS X0 hx (y := (⟨"com/example/keysweep/keysweep/KeyFirstOfPinLaw", "make", "(II)[B"⟩ : MethodName)) hown (mvT hZ (hw _ (List.mem_of_getElem? (i := 0) rfl))) (mvT hZ (hw _ (List.mem_of_getElem? (i := 1) rfl))) (mvT hZ (hw _ (List.mem_of_getElem? (i := 2) rfl))) (mvT hZ (hw _ (List.mem_of_getElem? (i := 3) rfl))) (by decide) (backOf (W := 0) (rm1 l Z a0 hw [] xa v3 h0 n0 Z0 cd22_7 cd22_8) hZ (hw _ (List.mem_of_getElem? (i := 3) rfl)) (hw _ (List.mem_of_getElem? (i := 2) rfl)) (by decide) (by decide)) (g := (mkF m 22 #[.val (.int xa), .val (.int xb), .val (.int xc), .val (.int xn), .val (.int v3), .val (.int v4), .val (.int v5), .unset, .unset, .unset, .unset] [(.int v3), (.int xa)])) rfl (by rw [hml]; rfl) (argsL := [(.int xa), (.int v3)]) (rest := []) (lenOf pd_0_0 rfl) rfl (by show 2 * 0 + _ ≤ _; exact Nat.le_of_eq rfl) (hb hby at_22) (fun _ _ => ⟨rfl, e0, (by decide : 0 + 1 ≤ _), (by decide : 0 + 3 ≤ _)⟩)
  dsimp only [Pt.U, Pt.locs, Pt.cells, Pt.slots] at X6 l6 y6 z6 st6 hQ6
  subst l6 y6 z6
  obtain ⟨bz_6, kz_6, rfl, Nq6, Kq6, ⟨sq_bz_6, ge_bz_6⟩, pf6_0, pf6_1⟩ := hQ6
  have N6 := Fr.app N0 Nq6
  have sz_bz_6 : h0.size ≤ bz_6 := Nat.le_trans ((Keep.refl h0 [])).1 sq_bz_6
  have ne_s_EMPTY_bz_6 : s_EMPTY ≠ bz_6 := Nat.ne_of_lt (Nat.lt_of_lt_of_le E1.lt sq_bz_6)
  have O9 : Old Z n0 T6.heap := OL.keep Kq6 all0
  have E10 : Exa Z T6.heap s_EMPTY "[B" := E1.keep Kq6
  have V11 : Arv Z T6.heap s_EMPTY kE .byte (0 : Int32) [] (.int (0 : Int32)) := V2.keep Kq6 nin0
  have sz6 : n0 ≤ T6.heap.size := Nat.le_trans Z0 Kq6.1
  have K6 : Keep h0 T6.heap [] := ((Keep.refl h0 [])).trans Kq6 all0
  refine own_Goes.via (T' := T6) (g' := (mkF m 25 #[.val (.int xa), .val (.int xb), .val (.int xc), .val (.int xn), .val (.int v3), .val (.int v4), .val (.int v5), .unset, .unset, .unset, .unset] [(.ref bz_6)])) (st6) ?_
  refine own_Goes.via (T' := T6) (g' := (mkF m 27 #[.val (.int xa), .val (.int xb), .val (.int xc), .val (.int xn), .val (.int v3), .val (.int v4), .val (.int v5), .val (.ref bz_6), .unset, .unset, .unset] [])) (fun t_ k_ => XS.astore X6.here hx rfl (hb hby at_25) rfl rfl (l' := #[.val (.int xa), .val (.int xb), .val (.int xc), .val (.int xn), .val (.int v3), .val (.int v4), .val (.int v5), .val (.ref bz_6), .unset, .unset, .unset]) rfl k_) ?_
  refine own_Goes.via (T' := T6) (g' := (mkF m 28 #[.val (.int xa), .val (.int xb), .val (.int xc), .val (.int xn), .val (.int v3), .val (.int v4), .val (.int v5), .val (.ref bz_6), .unset, .unset, .unset] [(.int xb)])) (fun t_ k_ => XS.iloadN X6.here hx rfl (hb hby at_27) rfl k_) ?_
  refine own_Goes.via (T' := T6) (g' := (mkF m 30 #[.val (.int xa), .val (.int xb), .val (.int xc), .val (.int xn), .val (.int v3), .val (.int v4), .val (.int v5), .val (.ref bz_6), .unset, .unset, .unset] [(.int v4), (.int xb)])) (fun t_ k_ => XS.iload X6.here hx rfl (hb hby at_28) rfl k_) ?_
  have cd30_13 : ¬ v4 < 0 := own_pl0_2 hv3 hv4 hv5 cd22_7 cd22_8
  have cd30_14 : v4.toNatClampNeg ≤ 3 := own_pl0_3 hv3 hv4 hv5 cd22_7 cd22_8 cd30_13
  obtain ⟨_, _, ⟨T12, L12, k12, n12⟩, -, X12, ⟨Lc12, hQ12, l12, y12, z12⟩, st12⟩ := Jvm.LawKit.callS X6 hx (y := (⟨"com/example/keysweep/keysweep/KeyFirstOfPinLaw", "make", "(II)[B"⟩ : MethodName)) hown (mvT hZ (hw _ (List.mem_of_getElem? (i := 0) rfl))) (mvT hZ (hw _ (List.mem_of_getElem? (i := 1) rfl))) (mvT hZ (hw _ (List.mem_of_getElem? (i := 2) rfl))) (mvT hZ (hw _ (List.mem_of_getElem? (i := 3) rfl))) (by decide) (backOf (W := 0) (rm1 l Z a0 hw [] xb v4 T6.heap n0 sz6 cd30_13 cd30_14) hZ (hw _ (List.mem_of_getElem? (i := 3) rfl)) (hw _ (List.mem_of_getElem? (i := 2) rfl)) (by decide) (by decide)) (g := (mkF m 30 #[.val (.int xa), .val (.int xb), .val (.int xc), .val (.int xn), .val (.int v3), .val (.int v4), .val (.int v5), .val (.ref bz_6), .unset, .unset, .unset] [(.int v4), (.int xb)])) rfl (by rw [hml]; rfl) (argsL := [(.int xb), (.int v4)]) (rest := []) (lenOf pd_0_0 rfl) rfl (by show 2 * 0 + _ ≤ _; exact Nat.le_of_eq rfl) (hb hby at_30) (fun _ _ => ⟨rfl, rfl, (by decide : 1 + 1 ≤ _), (by decide : 3 + 3 ≤ _)⟩)
  dsimp only [Pt.U, Pt.locs, Pt.cells, Pt.slots] at X12 l12 y12 z12 st12 hQ12
  subst l12 y12 z12
  obtain ⟨bz_12, kz_12, rfl, Nq12, Kq12, ⟨sq_bz_12, ge_bz_12⟩, pf12_0, pf12_1⟩ := hQ12
  have N12 := Fr.app N6 Nq12
  have sz_bz_12 : h0.size ≤ bz_12 := Nat.le_trans (K6).1 sq_bz_12
  have ne_s_EMPTY_bz_12 : s_EMPTY ≠ bz_12 := Nat.ne_of_lt (Nat.lt_of_lt_of_le E10.lt sq_bz_12)
  have ne_bz_6_bz_12 : bz_6 ≠ bz_12 := Nat.ne_of_lt (Nat.lt_of_lt_of_le pf6_0.lt sq_bz_12)
  have O15 : Old Z n0 T12.heap := O9.keep Kq12 all0
  have E16 : Exa Z T12.heap s_EMPTY "[B" := E10.keep Kq12
  have V17 : Arv Z T12.heap s_EMPTY kE .byte (0 : Int32) [] (.int (0 : Int32)) := V11.keep Kq12 nin0
  have E18 : Exa Z T12.heap bz_6 "[B" := pf6_0.keep Kq12
  have V19 : Arv Z T12.heap bz_6 kz_6 .byte v3 [(.int (if (0 : Int32) < v3 then (nar .byte (xa.toInt8.toInt32)) else (0 : Int32))), (.int (if (1 : Int32) < v3 then (nar .byte ((xa >>> ((8 : Int32) &&& 31)).toInt8.toInt32)) else (0 : Int32))), (.int (if (2 : Int32) < v3 then (nar .byte ((xa >>> ((16 : Int32) &&& 31)).toInt8.toInt32)) else (0 : Int32)))] (.int (0 : Int32)) := pf6_1.keep Kq12 nin0
  have sz12 : n0 ≤ T12.heap.size := Nat.le_trans sz6 Kq12.1
  have K12 : Keep h0 T12.heap [] := (K6).trans Kq12 all0
  refine own_Goes.via (T' := T12) (g' := (mkF m 33 #[.val (.int xa), .val (.int xb), .val (.int xc), .val (.int xn), .val (.int v3), .val (.int v4), .val (.int v5), .val (.ref bz_6), .unset, .unset, .unset] [(.ref bz_12)])) (st12) ?_
  refine own_Goes.via (T' := T12) (g' := (mkF m 35 #[.val (.int xa), .val (.int xb), .val (.int xc), .val (.int xn), .val (.int v3), .val (.int v4), .val (.int v5), .val (.ref bz_6), .val (.ref bz_12), .unset, .unset] [])) (fun t_ k_ => XS.astore X12.here hx rfl (hb hby at_33) rfl rfl (l' := #[.val (.int xa), .val (.int xb), .val (.int xc), .val (.int xn), .val (.int v3), .val (.int v4), .val (.int v5), .val (.ref bz_6), .val (.ref bz_12), .unset, .unset]) rfl k_) ?_
  refine own_Goes.via (T' := T12) (g' := (mkF m 36 #[.val (.int xa), .val (.int xb), .val (.int xc), .val (.int xn), .val (.int v3), .val (.int v4), .val (.int v5), .val (.ref bz_6), .val (.ref bz_12), .unset, .unset] [(.int xc)])) (fun t_ k_ => XS.iloadN X12.here hx rfl (hb hby at_35) rfl k_) ?_
  refine own_Goes.via (T' := T12) (g' := (mkF m 38 #[.val (.int xa), .val (.int xb), .val (.int xc), .val (.int xn), .val (.int v3), .val (.int v4), .val (.int v5), .val (.ref bz_6), .val (.ref bz_12), .unset, .unset] [(.int v5), (.int xc)])) (fun t_ k_ => XS.iload X12.here hx rfl (hb hby at_36) rfl k_) ?_
  have cd38_21 : ¬ v5 < 0 := own_pl0_4 hv3 hv4 hv5 cd22_7 cd22_8 cd30_13 cd30_14
  have cd38_22 : v5.toNatClampNeg ≤ 3 := own_pl0_5 hv3 hv4 hv5 cd22_7 cd22_8 cd30_13 cd30_14 cd38_21
  obtain ⟨_, _, ⟨T20, L20, k20, n20⟩, -, X20, ⟨Lc20, hQ20, l20, y20, z20⟩, st20⟩ := Jvm.LawKit.callS X12 hx (y := (⟨"com/example/keysweep/keysweep/KeyFirstOfPinLaw", "make", "(II)[B"⟩ : MethodName)) hown (mvT hZ (hw _ (List.mem_of_getElem? (i := 0) rfl))) (mvT hZ (hw _ (List.mem_of_getElem? (i := 1) rfl))) (mvT hZ (hw _ (List.mem_of_getElem? (i := 2) rfl))) (mvT hZ (hw _ (List.mem_of_getElem? (i := 3) rfl))) (by decide) (backOf (W := 0) (rm1 l Z a0 hw [] xc v5 T12.heap n0 sz12 cd38_21 cd38_22) hZ (hw _ (List.mem_of_getElem? (i := 3) rfl)) (hw _ (List.mem_of_getElem? (i := 2) rfl)) (by decide) (by decide)) (g := (mkF m 38 #[.val (.int xa), .val (.int xb), .val (.int xc), .val (.int xn), .val (.int v3), .val (.int v4), .val (.int v5), .val (.ref bz_6), .val (.ref bz_12), .unset, .unset] [(.int v5), (.int xc)])) rfl (by rw [hml]; rfl) (argsL := [(.int xc), (.int v5)]) (rest := []) (lenOf pd_0_0 rfl) rfl (by show 2 * 0 + _ ≤ _; exact Nat.le_of_eq rfl) (hb hby at_38) (fun _ _ => ⟨rfl, rfl, (by decide : 2 + 1 ≤ _), (by decide : 6 + 3 ≤ _)⟩)
  dsimp only [Pt.U, Pt.locs, Pt.cells, Pt.slots] at X20 l20 y20 z20 st20 hQ20
  subst l20 y20 z20
  obtain ⟨bz_20, kz_20, rfl, Nq20, Kq20, ⟨sq_bz_20, ge_bz_20⟩, pf20_0, pf20_1⟩ := hQ20
  have N20 := Fr.app N12 Nq20
  have sz_bz_20 : h0.size ≤ bz_20 := Nat.le_trans (K12).1 sq_bz_20
  have ne_s_EMPTY_bz_20 : s_EMPTY ≠ bz_20 := Nat.ne_of_lt (Nat.lt_of_lt_of_le E16.lt sq_bz_20)
  have ne_bz_6_bz_20 : bz_6 ≠ bz_20 := Nat.ne_of_lt (Nat.lt_of_lt_of_le E18.lt sq_bz_20)
  have ne_bz_12_bz_20 : bz_12 ≠ bz_20 := Nat.ne_of_lt (Nat.lt_of_lt_of_le pf12_0.lt sq_bz_20)
  have O23 : Old Z n0 T20.heap := O15.keep Kq20 all0
  have E24 : Exa Z T20.heap s_EMPTY "[B" := E16.keep Kq20
  have V25 : Arv Z T20.heap s_EMPTY kE .byte (0 : Int32) [] (.int (0 : Int32)) := V17.keep Kq20 nin0
  have E26 : Exa Z T20.heap bz_6 "[B" := E18.keep Kq20
  have V27 : Arv Z T20.heap bz_6 kz_6 .byte v3 [(.int (if (0 : Int32) < v3 then (nar .byte (xa.toInt8.toInt32)) else (0 : Int32))), (.int (if (1 : Int32) < v3 then (nar .byte ((xa >>> ((8 : Int32) &&& 31)).toInt8.toInt32)) else (0 : Int32))), (.int (if (2 : Int32) < v3 then (nar .byte ((xa >>> ((16 : Int32) &&& 31)).toInt8.toInt32)) else (0 : Int32)))] (.int (0 : Int32)) := V19.keep Kq20 nin0
  have E28 : Exa Z T20.heap bz_12 "[B" := pf12_0.keep Kq20
  have V29 : Arv Z T20.heap bz_12 kz_12 .byte v4 [(.int (if (0 : Int32) < v4 then (nar .byte (xb.toInt8.toInt32)) else (0 : Int32))), (.int (if (1 : Int32) < v4 then (nar .byte ((xb >>> ((8 : Int32) &&& 31)).toInt8.toInt32)) else (0 : Int32))), (.int (if (2 : Int32) < v4 then (nar .byte ((xb >>> ((16 : Int32) &&& 31)).toInt8.toInt32)) else (0 : Int32)))] (.int (0 : Int32)) := pf12_1.keep Kq20 nin0
  have sz20 : n0 ≤ T20.heap.size := Nat.le_trans sz12 Kq20.1
  have K20 : Keep h0 T20.heap [] := (K12).trans Kq20 all0
  refine own_Goes.via (T' := T20) (g' := (mkF m 41 #[.val (.int xa), .val (.int xb), .val (.int xc), .val (.int xn), .val (.int v3), .val (.int v4), .val (.int v5), .val (.ref bz_6), .val (.ref bz_12), .unset, .unset] [(.ref bz_20)])) (st20) ?_
  refine own_Goes.via (T' := T20) (g' := (mkF m 43 #[.val (.int xa), .val (.int xb), .val (.int xc), .val (.int xn), .val (.int v3), .val (.int v4), .val (.int v5), .val (.ref bz_6), .val (.ref bz_12), .val (.ref bz_20), .unset] [])) (fun t_ k_ => XS.astore X20.here hx rfl (hb hby at_41) rfl rfl (l' := #[.val (.int xa), .val (.int xb), .val (.int xc), .val (.int xn), .val (.int v3), .val (.int v4), .val (.int v5), .val (.ref bz_6), .val (.ref bz_12), .val (.ref bz_20), .unset]) rfl k_) ?_
  refine own_Goes.via (T' := T20) (g' := (mkF m 45 #[.val (.int xa), .val (.int xb), .val (.int xc), .val (.int xn), .val (.int v3), .val (.int v4), .val (.int v5), .val (.ref bz_6), .val (.ref bz_12), .val (.ref bz_20), .unset] [(.ref bz_6)])) (fun t_ k_ => XS.aload X20.here hx rfl (hb hby at_43) rfl rfl k_) ?_
  refine own_Goes.via (T' := T20) (g' := (mkF m 47 #[.val (.int xa), .val (.int xb), .val (.int xc), .val (.int xn), .val (.int v3), .val (.int v4), .val (.int v5), .val (.ref bz_6), .val (.ref bz_12), .val (.ref bz_20), .unset] [(.ref bz_12), (.ref bz_6)])) (fun t_ k_ => XS.aload X20.here hx rfl (hb hby at_45) rfl rfl k_) ?_
  refine own_Goes.via (T' := T20) (g' := (mkF m 49 #[.val (.int xa), .val (.int xb), .val (.int xc), .val (.int xn), .val (.int v3), .val (.int v4), .val (.int v5), .val (.ref bz_6), .val (.ref bz_12), .val (.ref bz_20), .unset] [(.ref bz_20), (.ref bz_12), (.ref bz_6)])) (fun t_ k_ => XS.aload X20.here hx rfl (hb hby at_47) rfl rfl k_) ?_
  have cd49_31 : v3.toNatClampNeg ≤ 3 := own_pl0_6 hv3 hv4 hv5 cd22_7 cd22_8 cd30_13 cd30_14 cd38_21 cd38_22
  have cd49_32 : v4.toNatClampNeg ≤ 3 := own_pl0_7 hv3 hv4 hv5 cd22_7 cd22_8 cd30_13 cd30_14 cd38_21 cd38_22 cd49_31
  have cd49_33 : v5.toNatClampNeg ≤ 3 := own_pl0_8 hv3 hv4 hv5 cd22_7 cd22_8 cd30_13 cd30_14 cd38_21 cd38_22 cd49_31 cd49_32
  obtain ⟨_, _, ⟨T30, L30, k30, n30⟩, -, X30, ⟨Lc30, hQ30, l30, y30, z30⟩, st30⟩ := Jvm.LawKit.callS X20 hx (y := (⟨"com/example/keysweep/keysweep/Key", "firstOf", "([B[B[B)Lcom/example/keysweep/keysweep/Key;"⟩ : MethodName)) hown (mvT hZ (hw _ (List.mem_of_getElem? (i := 5) rfl))) (mvT hZ (hw _ (List.mem_of_getElem? (i := 6) rfl))) (mvT hZ (hw _ (List.mem_of_getElem? (i := 7) rfl))) (mvT hZ (hw _ (List.mem_of_getElem? (i := 8) rfl))) (by decide) (backOf (W := 0) (rm2 l Z a0 hw [] bz_6 bz_12 bz_20 kz_6 v3 (if (0 : Int32) < v3 then (nar .byte (xa.toInt8.toInt32)) else (0 : Int32)) (if (1 : Int32) < v3 then (nar .byte ((xa >>> ((8 : Int32) &&& 31)).toInt8.toInt32)) else (0 : Int32)) (if (2 : Int32) < v3 then (nar .byte ((xa >>> ((16 : Int32) &&& 31)).toInt8.toInt32)) else (0 : Int32)) kz_12 v4 (if (0 : Int32) < v4 then (nar .byte (xb.toInt8.toInt32)) else (0 : Int32)) (if (1 : Int32) < v4 then (nar .byte ((xb >>> ((8 : Int32) &&& 31)).toInt8.toInt32)) else (0 : Int32)) (if (2 : Int32) < v4 then (nar .byte ((xb >>> ((16 : Int32) &&& 31)).toInt8.toInt32)) else (0 : Int32)) kz_20 v5 (if (0 : Int32) < v5 then (nar .byte (xc.toInt8.toInt32)) else (0 : Int32)) (if (1 : Int32) < v5 then (nar .byte ((xc >>> ((8 : Int32) &&& 31)).toInt8.toInt32)) else (0 : Int32)) (if (2 : Int32) < v5 then (nar .byte ((xc >>> ((16 : Int32) &&& 31)).toInt8.toInt32)) else (0 : Int32)) s_EMPTY T20.heap n0 sz20 E26 V27 E28 V29 pf20_0 pf20_1 O23 cd49_31 cd49_32 cd49_33 S_EMPTY) hZ (hw _ (List.mem_of_getElem? (i := 8) rfl)) (hw _ (List.mem_of_getElem? (i := 7) rfl)) (by decide) (by decide)) (g := (mkF m 49 #[.val (.int xa), .val (.int xb), .val (.int xc), .val (.int xn), .val (.int v3), .val (.int v4), .val (.int v5), .val (.ref bz_6), .val (.ref bz_12), .val (.ref bz_20), .unset] [(.ref bz_20), (.ref bz_12), (.ref bz_6)])) rfl (by rw [hml]; rfl) (argsL := [(.ref bz_6), (.ref bz_12), (.ref bz_20)]) (rest := []) (lenOf pd_0_1 rfl) rfl (by show 2 * 0 + _ ≤ _; exact Nat.le_of_eq rfl) (hb hby at_49) (fun _ _ => ⟨rfl, rfl, (by decide : 3 + 4 ≤ _), (by decide : 9 + 15 ≤ _)⟩)
  dsimp only [Pt.U, Pt.locs, Pt.cells, Pt.slots] at X30 l30 y30 z30 st30 hQ30
  subst l30 y30 z30
  obtain ⟨bk_30, br_30, bf_30, bq_30, rfl, Nq30, Kq30, ⟨sq_bk_30, ge_bk_30⟩, ⟨sq_br_30, ge_br_30⟩, ⟨sq_bf_30, ge_bf_30⟩, ⟨sq_bq_30, ge_bq_30⟩, nq30_0, nq30_1, nq30_2, nq30_3, nq30_4, nq30_5, pf30_0, pf30_1, pf30_2, pf30_3, pf30_4, pf30_5, pf30_6, pf30_7, pf30_8, pf30_9, pf30_10, pf30_11, pf30_12⟩ := hQ30
  have N30 := Fr.app N20 Nq30
  have sz_bk_30 : h0.size ≤ bk_30 := Nat.le_trans (K20).1 sq_bk_30
  have ne_s_EMPTY_bk_30 : s_EMPTY ≠ bk_30 := Nat.ne_of_lt (Nat.lt_of_lt_of_le E24.lt sq_bk_30)
  have ne_bz_6_bk_30 : bz_6 ≠ bk_30 := Nat.ne_of_lt (Nat.lt_of_lt_of_le E26.lt sq_bk_30)
  have ne_bz_12_bk_30 : bz_12 ≠ bk_30 := Nat.ne_of_lt (Nat.lt_of_lt_of_le E28.lt sq_bk_30)
  have ne_bz_20_bk_30 : bz_20 ≠ bk_30 := Nat.ne_of_lt (Nat.lt_of_lt_of_le pf20_0.lt sq_bk_30)
  have sz_br_30 : h0.size ≤ br_30 := Nat.le_trans (K20).1 sq_br_30
  have ne_s_EMPTY_br_30 : s_EMPTY ≠ br_30 := Nat.ne_of_lt (Nat.lt_of_lt_of_le E24.lt sq_br_30)
  have ne_bz_6_br_30 : bz_6 ≠ br_30 := Nat.ne_of_lt (Nat.lt_of_lt_of_le E26.lt sq_br_30)
  have ne_bz_12_br_30 : bz_12 ≠ br_30 := Nat.ne_of_lt (Nat.lt_of_lt_of_le E28.lt sq_br_30)
  have ne_bz_20_br_30 : bz_20 ≠ br_30 := Nat.ne_of_lt (Nat.lt_of_lt_of_le pf20_0.lt sq_br_30)
  have sz_bf_30 : h0.size ≤ bf_30 := Nat.le_trans (K20).1 sq_bf_30
  have ne_s_EMPTY_bf_30 : s_EMPTY ≠ bf_30 := Nat.ne_of_lt (Nat.lt_of_lt_of_le E24.lt sq_bf_30)
  have ne_bz_6_bf_30 : bz_6 ≠ bf_30 := Nat.ne_of_lt (Nat.lt_of_lt_of_le E26.lt sq_bf_30)
  have ne_bz_12_bf_30 : bz_12 ≠ bf_30 := Nat.ne_of_lt (Nat.lt_of_lt_of_le E28.lt sq_bf_30)
  have ne_bz_20_bf_30 : bz_20 ≠ bf_30 := Nat.ne_of_lt (Nat.lt_of_lt_of_le pf20_0.lt sq_bf_30)
  have sz_bq_30 : h0.size ≤ bq_30 := Nat.le_trans (K20).1 sq_bq_30
  have ne_s_EMPTY_bq_30 : s_EMPTY ≠ bq_30 := Nat.ne_of_lt (Nat.lt_of_lt_of_le E24.lt sq_bq_30)
  have ne_bz_6_bq_30 : bz_6 ≠ bq_30 := Nat.ne_of_lt (Nat.lt_of_lt_of_le E26.lt sq_bq_30)
  have ne_bz_12_bq_30 : bz_12 ≠ bq_30 := Nat.ne_of_lt (Nat.lt_of_lt_of_le E28.lt sq_bq_30)
  have ne_bz_20_bq_30 : bz_20 ≠ bq_30 := Nat.ne_of_lt (Nat.lt_of_lt_of_le pf20_0.lt sq_bq_30)
  have O34 : Old Z n0 T30.heap := O23.keep Kq30 all0
  have E35 : Exa Z T30.heap s_EMPTY "[B" := E24.keep Kq30
  have V36 : Arv Z T30.heap s_EMPTY kE .byte (0 : Int32) [] (.int (0 : Int32)) := V25.keep Kq30 nin0
  have E37 : Exa Z T30.heap bz_6 "[B" := E26.keep Kq30
  have V38 : Arv Z T30.heap bz_6 kz_6 .byte v3 [(.int (if (0 : Int32) < v3 then (nar .byte (xa.toInt8.toInt32)) else (0 : Int32))), (.int (if (1 : Int32) < v3 then (nar .byte ((xa >>> ((8 : Int32) &&& 31)).toInt8.toInt32)) else (0 : Int32))), (.int (if (2 : Int32) < v3 then (nar .byte ((xa >>> ((16 : Int32) &&& 31)).toInt8.toInt32)) else (0 : Int32)))] (.int (0 : Int32)) := V27.keep Kq30 nin0
  have E39 : Exa Z T30.heap bz_12 "[B" := E28.keep Kq30
  have V40 : Arv Z T30.heap bz_12 kz_12 .byte v4 [(.int (if (0 : Int32) < v4 then (nar .byte (xb.toInt8.toInt32)) else (0 : Int32))), (.int (if (1 : Int32) < v4 then (nar .byte ((xb >>> ((8 : Int32) &&& 31)).toInt8.toInt32)) else (0 : Int32))), (.int (if (2 : Int32) < v4 then (nar .byte ((xb >>> ((16 : Int32) &&& 31)).toInt8.toInt32)) else (0 : Int32)))] (.int (0 : Int32)) := V29.keep Kq30 nin0
  have E41 : Exa Z T30.heap bz_20 "[B" := pf20_0.keep Kq30
  have V42 : Arv Z T30.heap bz_20 kz_20 .byte v5 [(.int (if (0 : Int32) < v5 then (nar .byte (xc.toInt8.toInt32)) else (0 : Int32))), (.int (if (1 : Int32) < v5 then (nar .byte ((xc >>> ((8 : Int32) &&& 31)).toInt8.toInt32)) else (0 : Int32))), (.int (if (2 : Int32) < v5 then (nar .byte ((xc >>> ((16 : Int32) &&& 31)).toInt8.toInt32)) else (0 : Int32)))] (.int (0 : Int32)) := pf20_1.keep Kq30 nin0
  have sz30 : n0 ≤ T30.heap.size := Nat.le_trans sz20 Kq30.1
  have K30 : Keep h0 T30.heap [] := (K20).trans Kq30 all0
  refine own_Goes.via (T' := T30) (g' := (mkF m 52 #[.val (.int xa), .val (.int xb), .val (.int xc), .val (.int xn), .val (.int v3), .val (.int v4), .val (.int v5), .val (.ref bz_6), .val (.ref bz_12), .val (.ref bz_20), .unset] [(.ref bk_30)])) (st30) ?_
  refine own_Goes.via (T' := T30) (g' := (mkF m 54 #[.val (.int xa), .val (.int xb), .val (.int xc), .val (.int xn), .val (.int v3), .val (.int v4), .val (.int v5), .val (.ref bz_6), .val (.ref bz_12), .val (.ref bz_20), .val (.ref bk_30)] [])) (fun t_ k_ => XS.astore X30.here hx rfl (hb hby at_52) rfl rfl (l' := #[.val (.int xa), .val (.int xb), .val (.int xc), .val (.int xn), .val (.int v3), .val (.int v4), .val (.int v5), .val (.ref bz_6), .val (.ref bz_12), .val (.ref bz_20), .val (.ref bk_30)]) rfl k_) ?_
  refine own_Goes.via (T' := T30) (g' := (mkF m 56 #[.val (.int xa), .val (.int xb), .val (.int xc), .val (.int xn), .val (.int v3), .val (.int v4), .val (.int v5), .val (.ref bz_6), .val (.ref bz_12), .val (.ref bz_20), .val (.ref bk_30)] [(.ref bz_6)])) (fun t_ k_ => XS.aload X30.here hx rfl (hb hby at_54) rfl rfl k_) ?_
  obtain ⟨_, _, ⟨T43, L43, k43, n43⟩, -, X43, ⟨Lc43, hQ43, l43, y43, z43⟩, st43⟩ := Jvm.LawKit.callS X30 hx (y := (⟨"com/example/keysweep/keysweep/KeyFirstOfPinLaw", "scramble", "([B)V"⟩ : MethodName)) hown (mvT hZ (hw _ (List.mem_of_getElem? (i := 41) rfl))) (mvT hZ (hw _ (List.mem_of_getElem? (i := 42) rfl))) (mvT hZ (hw _ (List.mem_of_getElem? (i := 2) rfl))) (mvT hZ (hw _ (List.mem_of_getElem? (i := 43) rfl))) (by decide) (backOf (W := 0) (rm5 l Z a0 hw [] bz_6 kz_6 v3 (if (0 : Int32) < v3 then (nar .byte (xa.toInt8.toInt32)) else (0 : Int32)) (if (1 : Int32) < v3 then (nar .byte ((xa >>> ((8 : Int32) &&& 31)).toInt8.toInt32)) else (0 : Int32)) (if (2 : Int32) < v3 then (nar .byte ((xa >>> ((16 : Int32) &&& 31)).toInt8.toInt32)) else (0 : Int32)) T30.heap n0 sz30 E37 V38 ge_bz_6) hZ (hw _ (List.mem_of_getElem? (i := 43) rfl)) (hw _ (List.mem_of_getElem? (i := 2) rfl)) (by decide) (by decide)) (g := (mkF m 56 #[.val (.int xa), .val (.int xb), .val (.int xc), .val (.int xn), .val (.int v3), .val (.int v4), .val (.int v5), .val (.ref bz_6), .val (.ref bz_12), .val (.ref bz_20), .val (.ref bk_30)] [(.ref bz_6)])) rfl (by rw [hml]; rfl) (argsL := [(.ref bz_6)]) (rest := []) (lenOf pd_0_2 rfl) rfl (by show 2 * 0 + _ ≤ _; exact Nat.le_of_eq rfl) (hb hby at_56) (fun _ _ => ⟨rfl, rfl, (by decide : 7 + 0 ≤ _), (by decide : 24 + 0 ≤ _)⟩)
  dsimp only [Pt.U, Pt.locs, Pt.cells, Pt.slots] at X43 l43 y43 z43 st43 hQ43
  subst l43 y43 z43
  obtain ⟨rfl, Nq43, Kq43, pf43_0⟩ := hQ43
  have N43 := Fr.app N30 Nq43
  have O44 : Old Z n0 T43.heap := O34.keep Kq43 (allS ge_bz_6 all0)
  have E45 : Exa Z T43.heap s_EMPTY "[B" := E35.keep Kq43
  have V46 : Arv Z T43.heap s_EMPTY kE .byte (0 : Int32) [] (.int (0 : Int32)) := V36.keep Kq43 (ninS ne_s_EMPTY_bz_6 nin0)
  have E47 : Exa Z T43.heap bz_6 "[B" := E37.keep Kq43
  have E48 : Exa Z T43.heap bz_12 "[B" := E39.keep Kq43
  have V49 : Arv Z T43.heap bz_12 kz_12 .byte v4 [(.int (if (0 : Int32) < v4 then (nar .byte (xb.toInt8.toInt32)) else (0 : Int32))), (.int (if (1 : Int32) < v4 then (nar .byte ((xb >>> ((8 : Int32) &&& 31)).toInt8.toInt32)) else (0 : Int32))), (.int (if (2 : Int32) < v4 then (nar .byte ((xb >>> ((16 : Int32) &&& 31)).toInt8.toInt32)) else (0 : Int32)))] (.int (0 : Int32)) := V40.keep Kq43 (ninS (Ne.symm ne_bz_6_bz_12) nin0)
  have E50 : Exa Z T43.heap bz_20 "[B" := E41.keep Kq43
  have V51 : Arv Z T43.heap bz_20 kz_20 .byte v5 [(.int (if (0 : Int32) < v5 then (nar .byte (xc.toInt8.toInt32)) else (0 : Int32))), (.int (if (1 : Int32) < v5 then (nar .byte ((xc >>> ((8 : Int32) &&& 31)).toInt8.toInt32)) else (0 : Int32))), (.int (if (2 : Int32) < v5 then (nar .byte ((xc >>> ((16 : Int32) &&& 31)).toInt8.toInt32)) else (0 : Int32)))] (.int (0 : Int32)) := V42.keep Kq43 (ninS (Ne.symm ne_bz_6_bz_20) nin0)
  have E52 : Exa Z T43.heap bk_30 "com/example/keysweep/keysweep/Key" := pf30_0.keep Kq43
  have F53 : Fld Z T43.heap bk_30 "com/example/keysweep/keysweep/Key" "row" "[B" (.ref br_30) := pf30_1.keep Kq43 (ninS (Ne.symm ne_bz_6_bk_30) nin0)
  have F54 : Fld Z T43.heap bk_30 "com/example/keysweep/keysweep/Key" "family" "[B" (.ref bf_30) := pf30_2.keep Kq43 (ninS (Ne.symm ne_bz_6_bk_30) nin0)
  have F55 : Fld Z T43.heap bk_30 "com/example/keysweep/keysweep/Key" "qualifier" "[B" (.ref bq_30) := pf30_3.keep Kq43 (ninS (Ne.symm ne_bz_6_bk_30) nin0)
  have F56 : Fld Z T43.heap bk_30 "com/example/keysweep/keysweep/Key" "visibility" "[B" (.ref s_EMPTY) := pf30_4.keep Kq43 (ninS (Ne.symm ne_bz_6_bk_30) nin0)
  have F57 : Fld Z T43.heap bk_30 "com/example/keysweep/keysweep/Key" "timestamp" "J" (.long (9223372036854775807 : Int64)) := pf30_5.keep Kq43 (ninS (Ne.symm ne_bz_6_bk_30) nin0)
  have F58 : Fld Z T43.heap bk_30 "com/example/keysweep/keysweep/Key" "deleteMarker" "Z" (.int (nar .boolean (1 : Int32))) := pf30_6.keep Kq43 (ninS (Ne.symm ne_bz_6_bk_30) nin0)
  have E59 : Exa Z T43.heap br_30 "[B" := pf30_7.keep Kq43
  have V60 : Arv Z T43.heap br_30 kz_6 .byte v3 [(.int (if (0 : Int32) < v3 then (nar .byte (xa.toInt8.toInt32)) else (0 : Int32))), (.int (if (1 : Int32) < v3 then (nar .byte ((xa >>> ((8 : Int32) &&& 31)).toInt8.toInt32)) else (0 : Int32))), (.int (if (2 : Int32) < v3 then (nar .byte ((xa >>> ((16 : Int32) &&& 31)).toInt8.toInt32)) else (0 : Int32)))] (.int (0 : Int32)) := pf30_8.keep Kq43 (ninS (Ne.symm ne_bz_6_br_30) nin0)
  have E61 : Exa Z T43.heap bf_30 "[B" := pf30_9.keep Kq43
  have V62 : Arv Z T43.heap bf_30 kz_12 .byte v4 [(.int (if (0 : Int32) < v4 then (nar .byte (xb.toInt8.toInt32)) else (0 : Int32))), (.int (if (1 : Int32) < v4 then (nar .byte ((xb >>> ((8 : Int32) &&& 31)).toInt8.toInt32)) else (0 : Int32))), (.int (if (2 : Int32) < v4 then (nar .byte ((xb >>> ((16 : Int32) &&& 31)).toInt8.toInt32)) else (0 : Int32)))] (.int (0 : Int32)) := pf30_10.keep Kq43 (ninS (Ne.symm ne_bz_6_bf_30) nin0)
  have E63 : Exa Z T43.heap bq_30 "[B" := pf30_11.keep Kq43
  have V64 : Arv Z T43.heap bq_30 kz_20 .byte v5 [(.int (if (0 : Int32) < v5 then (nar .byte (xc.toInt8.toInt32)) else (0 : Int32))), (.int (if (1 : Int32) < v5 then (nar .byte ((xc >>> ((8 : Int32) &&& 31)).toInt8.toInt32)) else (0 : Int32))), (.int (if (2 : Int32) < v5 then (nar .byte ((xc >>> ((16 : Int32) &&& 31)).toInt8.toInt32)) else (0 : Int32)))] (.int (0 : Int32)) := pf30_12.keep Kq43 (ninS (Ne.symm ne_bz_6_bq_30) nin0)
  have sz43 : n0 ≤ T43.heap.size := Nat.le_trans sz30 Kq43.1
  have K43 : Keep h0 T43.heap [] := (K30).trans Kq43 (allS (Or.inr sz_bz_6) all0)
  refine own_Goes.via (T' := T43) (g' := (mkF m 59 #[.val (.int xa), .val (.int xb), .val (.int xc), .val (.int xn), .val (.int v3), .val (.int v4), .val (.int v5), .val (.ref bz_6), .val (.ref bz_12), .val (.ref bz_20), .val (.ref bk_30)] [])) (st43) ?_
  refine own_Goes.via (T' := T43) (g' := (mkF m 61 #[.val (.int xa), .val (.int xb), .val (.int xc), .val (.int xn), .val (.int v3), .val (.int v4), .val (.int v5), .val (.ref bz_6), .val (.ref bz_12), .val (.ref bz_20), .val (.ref bk_30)] [(.ref bz_12)])) (fun t_ k_ => XS.aload X43.here hx rfl (hb hby at_59) rfl rfl k_) ?_
  obtain ⟨_, _, ⟨T65, L65, k65, n65⟩, -, X65, ⟨Lc65, hQ65, l65, y65, z65⟩, st65⟩ := Jvm.LawKit.callS X43 hx (y := (⟨"com/example/keysweep/keysweep/KeyFirstOfPinLaw", "scramble", "([B)V"⟩ : MethodName)) hown (mvT hZ (hw _ (List.mem_of_getElem? (i := 41) rfl))) (mvT hZ (hw _ (List.mem_of_getElem? (i := 42) rfl))) (mvT hZ (hw _ (List.mem_of_getElem? (i := 2) rfl))) (mvT hZ (hw _ (List.mem_of_getElem? (i := 43) rfl))) (by decide) (backOf (W := 0) (rm5 l Z a0 hw [] bz_12 kz_12 v4 (if (0 : Int32) < v4 then (nar .byte (xb.toInt8.toInt32)) else (0 : Int32)) (if (1 : Int32) < v4 then (nar .byte ((xb >>> ((8 : Int32) &&& 31)).toInt8.toInt32)) else (0 : Int32)) (if (2 : Int32) < v4 then (nar .byte ((xb >>> ((16 : Int32) &&& 31)).toInt8.toInt32)) else (0 : Int32)) T43.heap n0 sz43 E48 V49 ge_bz_12) hZ (hw _ (List.mem_of_getElem? (i := 43) rfl)) (hw _ (List.mem_of_getElem? (i := 2) rfl)) (by decide) (by decide)) (g := (mkF m 61 #[.val (.int xa), .val (.int xb), .val (.int xc), .val (.int xn), .val (.int v3), .val (.int v4), .val (.int v5), .val (.ref bz_6), .val (.ref bz_12), .val (.ref bz_20), .val (.ref bk_30)] [(.ref bz_12)])) rfl (by rw [hml]; rfl) (argsL := [(.ref bz_12)]) (rest := []) (lenOf pd_0_2 rfl) rfl (by show 2 * 0 + _ ≤ _; exact Nat.le_of_eq rfl) (hb hby at_61) (fun _ _ => ⟨rfl, rfl, (by decide : 7 + 0 ≤ _), (by decide : 24 + 0 ≤ _)⟩)
  dsimp only [Pt.U, Pt.locs, Pt.cells, Pt.slots] at X65 l65 y65 z65 st65 hQ65
  subst l65 y65 z65
  obtain ⟨rfl, Nq65, Kq65, pf65_0⟩ := hQ65
  have N65 := Fr.app N43 Nq65
  have O66 : Old Z n0 T65.heap := O44.keep Kq65 (allS ge_bz_12 all0)
  have E67 : Exa Z T65.heap s_EMPTY "[B" := E45.keep Kq65
  have V68 : Arv Z T65.heap s_EMPTY kE .byte (0 : Int32) [] (.int (0 : Int32)) := V46.keep Kq65 (ninS ne_s_EMPTY_bz_12 nin0)
  have E69 : Exa Z T65.heap bz_6 "[B" := pf43_0.keep Kq65
  have E70 : Exa Z T65.heap bz_12 "[B" := E48.keep Kq65
  have E71 : Exa Z T65.heap bz_20 "[B" := E50.keep Kq65
  have V72 : Arv Z T65.heap bz_20 kz_20 .byte v5 [(.int (if (0 : Int32) < v5 then (nar .byte (xc.toInt8.toInt32)) else (0 : Int32))), (.int (if (1 : Int32) < v5 then (nar .byte ((xc >>> ((8 : Int32) &&& 31)).toInt8.toInt32)) else (0 : Int32))), (.int (if (2 : Int32) < v5 then (nar .byte ((xc >>> ((16 : Int32) &&& 31)).toInt8.toInt32)) else (0 : Int32)))] (.int (0 : Int32)) := V51.keep Kq65 (ninS (Ne.symm ne_bz_12_bz_20) nin0)
  have E73 : Exa Z T65.heap bk_30 "com/example/keysweep/keysweep/Key" := E52.keep Kq65
  have F74 : Fld Z T65.heap bk_30 "com/example/keysweep/keysweep/Key" "row" "[B" (.ref br_30) := F53.keep Kq65 (ninS (Ne.symm ne_bz_12_bk_30) nin0)
  have F75 : Fld Z T65.heap bk_30 "com/example/keysweep/keysweep/Key" "family" "[B" (.ref bf_30) := F54.keep Kq65 (ninS (Ne.symm ne_bz_12_bk_30) nin0)
  have F76 : Fld Z T65.heap bk_30 "com/example/keysweep/keysweep/Key" "qualifier" "[B" (.ref bq_30) := F55.keep Kq65 (ninS (Ne.symm ne_bz_12_bk_30) nin0)
  have F77 : Fld Z T65.heap bk_30 "com/example/keysweep/keysweep/Key" "visibility" "[B" (.ref s_EMPTY) := F56.keep Kq65 (ninS (Ne.symm ne_bz_12_bk_30) nin0)
  have F78 : Fld Z T65.heap bk_30 "com/example/keysweep/keysweep/Key" "timestamp" "J" (.long (9223372036854775807 : Int64)) := F57.keep Kq65 (ninS (Ne.symm ne_bz_12_bk_30) nin0)
  have F79 : Fld Z T65.heap bk_30 "com/example/keysweep/keysweep/Key" "deleteMarker" "Z" (.int (nar .boolean (1 : Int32))) := F58.keep Kq65 (ninS (Ne.symm ne_bz_12_bk_30) nin0)
  have E80 : Exa Z T65.heap br_30 "[B" := E59.keep Kq65
  have V81 : Arv Z T65.heap br_30 kz_6 .byte v3 [(.int (if (0 : Int32) < v3 then (nar .byte (xa.toInt8.toInt32)) else (0 : Int32))), (.int (if (1 : Int32) < v3 then (nar .byte ((xa >>> ((8 : Int32) &&& 31)).toInt8.toInt32)) else (0 : Int32))), (.int (if (2 : Int32) < v3 then (nar .byte ((xa >>> ((16 : Int32) &&& 31)).toInt8.toInt32)) else (0 : Int32)))] (.int (0 : Int32)) := V60.keep Kq65 (ninS (Ne.symm ne_bz_12_br_30) nin0)
  have E82 : Exa Z T65.heap bf_30 "[B" := E61.keep Kq65
  have V83 : Arv Z T65.heap bf_30 kz_12 .byte v4 [(.int (if (0 : Int32) < v4 then (nar .byte (xb.toInt8.toInt32)) else (0 : Int32))), (.int (if (1 : Int32) < v4 then (nar .byte ((xb >>> ((8 : Int32) &&& 31)).toInt8.toInt32)) else (0 : Int32))), (.int (if (2 : Int32) < v4 then (nar .byte ((xb >>> ((16 : Int32) &&& 31)).toInt8.toInt32)) else (0 : Int32)))] (.int (0 : Int32)) := V62.keep Kq65 (ninS (Ne.symm ne_bz_12_bf_30) nin0)
  have E84 : Exa Z T65.heap bq_30 "[B" := E63.keep Kq65
  have V85 : Arv Z T65.heap bq_30 kz_20 .byte v5 [(.int (if (0 : Int32) < v5 then (nar .byte (xc.toInt8.toInt32)) else (0 : Int32))), (.int (if (1 : Int32) < v5 then (nar .byte ((xc >>> ((8 : Int32) &&& 31)).toInt8.toInt32)) else (0 : Int32))), (.int (if (2 : Int32) < v5 then (nar .byte ((xc >>> ((16 : Int32) &&& 31)).toInt8.toInt32)) else (0 : Int32)))] (.int (0 : Int32)) := V64.keep Kq65 (ninS (Ne.symm ne_bz_12_bq_30) nin0)
  have sz65 : n0 ≤ T65.heap.size := Nat.le_trans sz43 Kq65.1
  have K65 : Keep h0 T65.heap [] := (K43).trans Kq65 (allS (Or.inr sz_bz_12) all0)
  refine own_Goes.via (T' := T65) (g' := (mkF m 64 #[.val (.int xa), .val (.int xb), .val (.int xc), .val (.int xn), .val (.int v3), .val (.int v4), .val (.int v5), .val (.ref bz_6), .val (.ref bz_12), .val (.ref bz_20), .val (.ref bk_30)] [])) (st65) ?_
  refine own_Goes.via (T' := T65) (g' := (mkF m 66 #[.val (.int xa), .val (.int xb), .val (.int xc), .val (.int xn), .val (.int v3), .val (.int v4), .val (.int v5), .val (.ref bz_6), .val (.ref bz_12), .val (.ref bz_20), .val (.ref bk_30)] [(.ref bz_20)])) (fun t_ k_ => XS.aload X65.here hx rfl (hb hby at_64) rfl rfl k_) ?_
  obtain ⟨_, _, ⟨T86, L86, k86, n86⟩, -, X86, ⟨Lc86, hQ86, l86, y86, z86⟩, st86⟩ := Jvm.LawKit.callS X65 hx (y := (⟨"com/example/keysweep/keysweep/KeyFirstOfPinLaw", "scramble", "([B)V"⟩ : MethodName)) hown (mvT hZ (hw _ (List.mem_of_getElem? (i := 41) rfl))) (mvT hZ (hw _ (List.mem_of_getElem? (i := 42) rfl))) (mvT hZ (hw _ (List.mem_of_getElem? (i := 2) rfl))) (mvT hZ (hw _ (List.mem_of_getElem? (i := 43) rfl))) (by decide) (backOf (W := 0) (rm5 l Z a0 hw [] bz_20 kz_20 v5 (if (0 : Int32) < v5 then (nar .byte (xc.toInt8.toInt32)) else (0 : Int32)) (if (1 : Int32) < v5 then (nar .byte ((xc >>> ((8 : Int32) &&& 31)).toInt8.toInt32)) else (0 : Int32)) (if (2 : Int32) < v5 then (nar .byte ((xc >>> ((16 : Int32) &&& 31)).toInt8.toInt32)) else (0 : Int32)) T65.heap n0 sz65 E71 V72 ge_bz_20) hZ (hw _ (List.mem_of_getElem? (i := 43) rfl)) (hw _ (List.mem_of_getElem? (i := 2) rfl)) (by decide) (by decide)) (g := (mkF m 66 #[.val (.int xa), .val (.int xb), .val (.int xc), .val (.int xn), .val (.int v3), .val (.int v4), .val (.int v5), .val (.ref bz_6), .val (.ref bz_12), .val (.ref bz_20), .val (.ref bk_30)] [(.ref bz_20)])) rfl (by rw [hml]; rfl) (argsL := [(.ref bz_20)]) (rest := []) (lenOf pd_0_2 rfl) rfl (by show 2 * 0 + _ ≤ _; exact Nat.le_of_eq rfl) (hb hby at_66) (fun _ _ => ⟨rfl, rfl, (by decide : 7 + 0 ≤ _), (by decide : 24 + 0 ≤ _)⟩)
  dsimp only [Pt.U, Pt.locs, Pt.cells, Pt.slots] at X86 l86 y86 z86 st86 hQ86
  subst l86 y86 z86
  obtain ⟨rfl, Nq86, Kq86, pf86_0⟩ := hQ86
  have N86 := Fr.app N65 Nq86
  have O87 : Old Z n0 T86.heap := O66.keep Kq86 (allS ge_bz_20 all0)
  have E88 : Exa Z T86.heap s_EMPTY "[B" := E67.keep Kq86
  have V89 : Arv Z T86.heap s_EMPTY kE .byte (0 : Int32) [] (.int (0 : Int32)) := V68.keep Kq86 (ninS ne_s_EMPTY_bz_20 nin0)
  have E90 : Exa Z T86.heap bz_6 "[B" := E69.keep Kq86
  have E91 : Exa Z T86.heap bz_12 "[B" := pf65_0.keep Kq86
  have E92 : Exa Z T86.heap bz_20 "[B" := E71.keep Kq86
  have E93 : Exa Z T86.heap bk_30 "com/example/keysweep/keysweep/Key" := E73.keep Kq86
  have F94 : Fld Z T86.heap bk_30 "com/example/keysweep/keysweep/Key" "row" "[B" (.ref br_30) := F74.keep Kq86 (ninS (Ne.symm ne_bz_20_bk_30) nin0)
  have F95 : Fld Z T86.heap bk_30 "com/example/keysweep/keysweep/Key" "family" "[B" (.ref bf_30) := F75.keep Kq86 (ninS (Ne.symm ne_bz_20_bk_30) nin0)
  have F96 : Fld Z T86.heap bk_30 "com/example/keysweep/keysweep/Key" "qualifier" "[B" (.ref bq_30) := F76.keep Kq86 (ninS (Ne.symm ne_bz_20_bk_30) nin0)
  have F97 : Fld Z T86.heap bk_30 "com/example/keysweep/keysweep/Key" "visibility" "[B" (.ref s_EMPTY) := F77.keep Kq86 (ninS (Ne.symm ne_bz_20_bk_30) nin0)
  have F98 : Fld Z T86.heap bk_30 "com/example/keysweep/keysweep/Key" "timestamp" "J" (.long (9223372036854775807 : Int64)) := F78.keep Kq86 (ninS (Ne.symm ne_bz_20_bk_30) nin0)
  have F99 : Fld Z T86.heap bk_30 "com/example/keysweep/keysweep/Key" "deleteMarker" "Z" (.int (nar .boolean (1 : Int32))) := F79.keep Kq86 (ninS (Ne.symm ne_bz_20_bk_30) nin0)
  have E100 : Exa Z T86.heap br_30 "[B" := E80.keep Kq86
  have V101 : Arv Z T86.heap br_30 kz_6 .byte v3 [(.int (if (0 : Int32) < v3 then (nar .byte (xa.toInt8.toInt32)) else (0 : Int32))), (.int (if (1 : Int32) < v3 then (nar .byte ((xa >>> ((8 : Int32) &&& 31)).toInt8.toInt32)) else (0 : Int32))), (.int (if (2 : Int32) < v3 then (nar .byte ((xa >>> ((16 : Int32) &&& 31)).toInt8.toInt32)) else (0 : Int32)))] (.int (0 : Int32)) := V81.keep Kq86 (ninS (Ne.symm ne_bz_20_br_30) nin0)
  have E102 : Exa Z T86.heap bf_30 "[B" := E82.keep Kq86
  have V103 : Arv Z T86.heap bf_30 kz_12 .byte v4 [(.int (if (0 : Int32) < v4 then (nar .byte (xb.toInt8.toInt32)) else (0 : Int32))), (.int (if (1 : Int32) < v4 then (nar .byte ((xb >>> ((8 : Int32) &&& 31)).toInt8.toInt32)) else (0 : Int32))), (.int (if (2 : Int32) < v4 then (nar .byte ((xb >>> ((16 : Int32) &&& 31)).toInt8.toInt32)) else (0 : Int32)))] (.int (0 : Int32)) := V83.keep Kq86 (ninS (Ne.symm ne_bz_20_bf_30) nin0)
  have E104 : Exa Z T86.heap bq_30 "[B" := E84.keep Kq86
  have V105 : Arv Z T86.heap bq_30 kz_20 .byte v5 [(.int (if (0 : Int32) < v5 then (nar .byte (xc.toInt8.toInt32)) else (0 : Int32))), (.int (if (1 : Int32) < v5 then (nar .byte ((xc >>> ((8 : Int32) &&& 31)).toInt8.toInt32)) else (0 : Int32))), (.int (if (2 : Int32) < v5 then (nar .byte ((xc >>> ((16 : Int32) &&& 31)).toInt8.toInt32)) else (0 : Int32)))] (.int (0 : Int32)) := V85.keep Kq86 (ninS (Ne.symm ne_bz_20_bq_30) nin0)
  have sz86 : n0 ≤ T86.heap.size := Nat.le_trans sz65 Kq86.1
  have K86 : Keep h0 T86.heap [] := (K65).trans Kq86 (allS (Or.inr sz_bz_20) all0)
  refine own_Goes.via (T' := T86) (g' := (mkF m 69 #[.val (.int xa), .val (.int xb), .val (.int xc), .val (.int xn), .val (.int v3), .val (.int v4), .val (.int v5), .val (.ref bz_6), .val (.ref bz_12), .val (.ref bz_20), .val (.ref bk_30)] [])) (st86) ?_
  refine own_Goes.via (T' := T86) (g' := (mkF m 71 #[.val (.int xa), .val (.int xb), .val (.int xc), .val (.int xn), .val (.int v3), .val (.int v4), .val (.int v5), .val (.ref bz_6), .val (.ref bz_12), .val (.ref bz_20), .val (.ref bk_30)] [(.ref bk_30)])) (fun t_ k_ => XS.aload X86.here hx rfl (hb hby at_69) rfl rfl k_) ?_
  have cd71_107 : v3.toNatClampNeg ≤ 3 := own_pl0_9 hv3 hv4 hv5 cd22_7 cd22_8 cd30_13 cd30_14 cd38_21 cd38_22 cd49_31 cd49_32 cd49_33
  obtain ⟨cq106, kq106, q106a, q106b, q106c⟩ := isOf hZ rfl E93
  obtain ⟨_, _, ⟨T106, L106, k106, n106⟩, -, X106, ⟨Lc106, hQ106, l106, y106, z106⟩, st106⟩ := X86.virtualBack hx (y := (⟨"com/example/keysweep/keysweep/Key", "row", "()[B"⟩ : MethodName)) (z := (⟨"com/example/keysweep/keysweep/Key", "row", "()[B"⟩ : MethodName)) hown (mvT hZ (hw _ (List.mem_of_getElem? (i := 44) rfl))) (mvT hZ (hw _ (List.mem_of_getElem? (i := 45) rfl))) (notFace_of_selects (args := #[]) (mvT hZ (hw _ (List.mem_of_getElem? (i := 47) rfl)))) (mvT hZ (hw _ (List.mem_of_getElem? (i := 47) rfl))) (mvT hZ (hw _ (List.mem_of_getElem? (i := 46) rfl))) (by decide) (backOf (W := 0) (rm6 l Z a0 hw [] bk_30 br_30 kz_6 v3 (if (0 : Int32) < v3 then (nar .byte (xa.toInt8.toInt32)) else (0 : Int32)) (if (1 : Int32) < v3 then (nar .byte ((xa >>> ((8 : Int32) &&& 31)).toInt8.toInt32)) else (0 : Int32)) (if (2 : Int32) < v3 then (nar .byte ((xa >>> ((16 : Int32) &&& 31)).toInt8.toInt32)) else (0 : Int32)) T86.heap n0 sz86 F94 E100 V101 cd71_107) hZ (hw _ (List.mem_of_getElem? (i := 48) rfl)) (hw _ (List.mem_of_getElem? (i := 7) rfl)) (by decide) (by decide)) q106a q106c (g := (mkF m 71 #[.val (.int xa), .val (.int xb), .val (.int xc), .val (.int xn), .val (.int v3), .val (.int v4), .val (.int v5), .val (.ref bz_6), .val (.ref bz_12), .val (.ref bz_20), .val (.ref bk_30)] [(.ref bk_30)])) rfl (by rw [hml]; rfl) (Steps.refl _) (argsL := []) (rest := []) (lenOf pd_0_3 rfl) rfl (by show 2 * 0 + _ ≤ _; exact Nat.le_of_eq rfl) (hb hby at_71) (fun _ _ => ⟨rfl, rfl, (by decide : 7 + 1 ≤ _), (by decide : 24 + 3 ≤ _)⟩)
  dsimp only [Pt.U, Pt.locs, Pt.cells, Pt.slots] at X106 l106 y106 z106 st106 hQ106
  subst l106 y106 z106
  obtain ⟨bz_106, rfl, Nq106, Kq106, ⟨sq_bz_106, ge_bz_106⟩, pf106_0, pf106_1⟩ := hQ106
  have N106 := Fr.app N86 Nq106
  have sz_bz_106 : h0.size ≤ bz_106 := Nat.le_trans (K86).1 sq_bz_106
  have ne_s_EMPTY_bz_106 : s_EMPTY ≠ bz_106 := Nat.ne_of_lt (Nat.lt_of_lt_of_le E88.lt sq_bz_106)
  have ne_bz_6_bz_106 : bz_6 ≠ bz_106 := Nat.ne_of_lt (Nat.lt_of_lt_of_le E90.lt sq_bz_106)
  have ne_bz_12_bz_106 : bz_12 ≠ bz_106 := Nat.ne_of_lt (Nat.lt_of_lt_of_le E91.lt sq_bz_106)
  have ne_bz_20_bz_106 : bz_20 ≠ bz_106 := Nat.ne_of_lt (Nat.lt_of_lt_of_le pf86_0.lt sq_bz_106)
  have ne_bk_30_bz_106 : bk_30 ≠ bz_106 := Nat.ne_of_lt (Nat.lt_of_lt_of_le E93.lt sq_bz_106)
  have ne_br_30_bz_106 : br_30 ≠ bz_106 := Nat.ne_of_lt (Nat.lt_of_lt_of_le E100.lt sq_bz_106)
  have ne_bf_30_bz_106 : bf_30 ≠ bz_106 := Nat.ne_of_lt (Nat.lt_of_lt_of_le E102.lt sq_bz_106)
  have ne_bq_30_bz_106 : bq_30 ≠ bz_106 := Nat.ne_of_lt (Nat.lt_of_lt_of_le E104.lt sq_bz_106)
  have O108 : Old Z n0 T106.heap := O87.keep Kq106 all0
  have E109 : Exa Z T106.heap s_EMPTY "[B" := E88.keep Kq106
  have V110 : Arv Z T106.heap s_EMPTY kE .byte (0 : Int32) [] (.int (0 : Int32)) := V89.keep Kq106 nin0
  have E111 : Exa Z T106.heap bz_6 "[B" := E90.keep Kq106
  have E112 : Exa Z T106.heap bz_12 "[B" := E91.keep Kq106
  have E113 : Exa Z T106.heap bz_20 "[B" := pf86_0.keep Kq106
  have E114 : Exa Z T106.heap bk_30 "com/example/keysweep/keysweep/Key" := E93.keep Kq106
  have F115 : Fld Z T106.heap bk_30 "com/example/keysweep/keysweep/Key" "row" "[B" (.ref br_30) := F94.keep Kq106 nin0
  have F116 : Fld Z T106.heap bk_30 "com/example/keysweep/keysweep/Key" "family" "[B" (.ref bf_30) := F95.keep Kq106 nin0
  have F117 : Fld Z T106.heap bk_30 "com/example/keysweep/keysweep/Key" "qualifier" "[B" (.ref bq_30) := F96.keep Kq106 nin0
  have F118 : Fld Z T106.heap bk_30 "com/example/keysweep/keysweep/Key" "visibility" "[B" (.ref s_EMPTY) := F97.keep Kq106 nin0
  have F119 : Fld Z T106.heap bk_30 "com/example/keysweep/keysweep/Key" "timestamp" "J" (.long (9223372036854775807 : Int64)) := F98.keep Kq106 nin0
  have F120 : Fld Z T106.heap bk_30 "com/example/keysweep/keysweep/Key" "deleteMarker" "Z" (.int (nar .boolean (1 : Int32))) := F99.keep Kq106 nin0
  have E121 : Exa Z T106.heap br_30 "[B" := E100.keep Kq106
  have V122 : Arv Z T106.heap br_30 kz_6 .byte v3 [(.int (if (0 : Int32) < v3 then (nar .byte (xa.toInt8.toInt32)) else (0 : Int32))), (.int (if (1 : Int32) < v3 then (nar .byte ((xa >>> ((8 : Int32) &&& 31)).toInt8.toInt32)) else (0 : Int32))), (.int (if (2 : Int32) < v3 then (nar .byte ((xa >>> ((16 : Int32) &&& 31)).toInt8.toInt32)) else (0 : Int32)))] (.int (0 : Int32)) := V101.keep Kq106 nin0
  have E123 : Exa Z T106.heap bf_30 "[B" := E102.keep Kq106
  have V124 : Arv Z T106.heap bf_30 kz_12 .byte v4 [(.int (if (0 : Int32) < v4 then (nar .byte (xb.toInt8.toInt32)) else (0 : Int32))), (.int (if (1 : Int32) < v4 then (nar .byte ((xb >>> ((8 : Int32) &&& 31)).toInt8.toInt32)) else (0 : Int32))), (.int (if (2 : Int32) < v4 then (nar .byte ((xb >>> ((16 : Int32) &&& 31)).toInt8.toInt32)) else (0 : Int32)))] (.int (0 : Int32)) := V103.keep Kq106 nin0
  have E125 : Exa Z T106.heap bq_30 "[B" := E104.keep Kq106
  have V126 : Arv Z T106.heap bq_30 kz_20 .byte v5 [(.int (if (0 : Int32) < v5 then (nar .byte (xc.toInt8.toInt32)) else (0 : Int32))), (.int (if (1 : Int32) < v5 then (nar .byte ((xc >>> ((8 : Int32) &&& 31)).toInt8.toInt32)) else (0 : Int32))), (.int (if (2 : Int32) < v5 then (nar .byte ((xc >>> ((16 : Int32) &&& 31)).toInt8.toInt32)) else (0 : Int32)))] (.int (0 : Int32)) := V105.keep Kq106 nin0
  have sz106 : n0 ≤ T106.heap.size := Nat.le_trans sz86 Kq106.1
  have K106 : Keep h0 T106.heap [] := (K86).trans Kq106 all0
  refine own_Goes.via (T' := T106) (g' := (mkF m 74 #[.val (.int xa), .val (.int xb), .val (.int xc), .val (.int xn), .val (.int v3), .val (.int v4), .val (.int v5), .val (.ref bz_6), .val (.ref bz_12), .val (.ref bz_20), .val (.ref bk_30)] [(.ref bz_106)])) (fun t_ k_ => st106.trans k_) ?_
  refine own_Goes.via (T' := T106) (g' := (mkF m 75 #[.val (.int xa), .val (.int xb), .val (.int xc), .val (.int xn), .val (.int v3), .val (.int v4), .val (.int v5), .val (.ref bz_6), .val (.ref bz_12), .val (.ref bz_20), .val (.ref bk_30)] [(.int xa), (.ref bz_106)])) (fun t_ k_ => XS.iloadN X106.here hx rfl (hb hby at_74) rfl k_) ?_
  refine own_Goes.via (T' := T106) (g' := (mkF m 77 #[.val (.int xa), .val (.int xb), .val (.int xc), .val (.int xn), .val (.int v3), .val (.int v4), .val (.int v5), .val (.ref bz_6), .val (.ref bz_12), .val (.ref bz_20), .val (.ref bk_30)] [(.int v3), (.int xa), (.ref bz_106)])) (fun t_ k_ => XS.iload X106.here hx rfl (hb hby at_75) rfl k_) ?_
  obtain ⟨_, _, ⟨T127, L127, k127, n127⟩, -, X127, ⟨Lc127, hQ127, l127, y127, z127⟩, st127⟩ := Jvm.LawKit.callS X106 hx (y := (⟨"com/example/keysweep/keysweep/KeyFirstOfPinLaw", "same", "([BII)Z"⟩ : MethodName)) hown (mvT hZ (hw _ (List.mem_of_getElem? (i := 49) rfl))) (mvT hZ (hw _ (List.mem_of_getElem? (i := 50) rfl))) (mvT hZ (hw _ (List.mem_of_getElem? (i := 2) rfl))) (mvT hZ (hw _ (List.mem_of_getElem? (i := 51) rfl))) (by decide) (backOf (W := 0) (rm7 l Z a0 hw [] bz_106 xa v3 kz_6 v3 (if (0 : Int32) < v3 then (nar .byte (xa.toInt8.toInt32)) else (0 : Int32)) (if (1 : Int32) < v3 then (nar .byte ((xa >>> ((8 : Int32) &&& 31)).toInt8.toInt32)) else (0 : Int32)) (if (2 : Int32) < v3 then (nar .byte ((xa >>> ((16 : Int32) &&& 31)).toInt8.toInt32)) else (0 : Int32)) T106.heap n0 sz106 pf106_1) hZ (hw _ (List.mem_of_getElem? (i := 51) rfl)) (hw _ (List.mem_of_getElem? (i := 2) rfl)) (by decide) (by decide)) (g := (mkF m 77 #[.val (.int xa), .val (.int xb), .val (.int xc), .val (.int xn), .val (.int v3), .val (.int v4), .val (.int v5), .val (.ref bz_6), .val (.ref bz_12), .val (.ref bz_20), .val (.ref bk_30)] [(.int v3), (.int xa), (.ref bz_106)])) rfl (by rw [hml]; rfl) (argsL := [(.ref bz_106), (.int xa), (.int v3)]) (rest := []) (lenOf pd_0_4 rfl) rfl (by show 2 * 0 + _ ≤ _; exact Nat.le_of_eq rfl) (hb hby at_77) (fun _ _ => ⟨rfl, rfl, (by decide : 8 + 0 ≤ _), (by decide : 27 + 0 ≤ _)⟩)
  dsimp only [Pt.U, Pt.locs, Pt.cells, Pt.slots] at X127 l127 y127 z127 st127 hQ127
  subst l127 y127 z127
  obtain ⟨rfl, Nq127, hh127⟩ := hQ127
  have N127 := Fr.app N106 Nq127
  refine own_Goes.via (T' := T127) (g' := (mkF m 80 #[.val (.int xa), .val (.int xb), .val (.int xc), .val (.int xn), .val (.int v3), .val (.int v4), .val (.int v5), .val (.ref bz_6), .val (.ref bz_12), .val (.ref bz_20), .val (.ref bk_30)] [(.int (own_f7 xa v3 v3 (if (0 : Int32) < v3 then (nar .byte (xa.toInt8.toInt32)) else (0 : Int32)) (if (1 : Int32) < v3 then (nar .byte ((xa >>> ((8 : Int32) &&& 31)).toInt8.toInt32)) else (0 : Int32)) (if (2 : Int32) < v3 then (nar .byte ((xa >>> ((16 : Int32) &&& 31)).toInt8.toInt32)) else (0 : Int32))))])) (st127) ?_
  obtain ⟨v128, hv128⟩ : ∃ z : Int32, z = (own_f7 xa v3 v3 (if (0 : Int32) < v3 then (nar .byte (xa.toInt8.toInt32)) else (0 : Int32)) (if (1 : Int32) < v3 then (nar .byte ((xa >>> ((8 : Int32) &&& 31)).toInt8.toInt32)) else (0 : Int32)) (if (2 : Int32) < v3 then (nar .byte ((xa >>> ((16 : Int32) &&& 31)).toInt8.toInt32)) else (0 : Int32))) := ⟨_, rfl⟩
  rw [← hv128]
  suffices J145_132 : ∀ (T131 : State) (L131 : List Loc) (X131 : Stand p l e room_1 s m #[(.int xa), (.int xb), (.int xc), (.int xn)] below meth c T131 L131 11 36) (h131 : Heap) (e131 : T131.heap = h131) (N131 : Fr n0 L131) (sz131 : n0 ≤ h131.size) (K131 : Keep h0 h131 []) (v145_130 : Int32) (hv145_130 : v145_130 = (if v128 = (0 : Int32) then (0 : Int32) else (if (own_f7 xb v4 v4 (if (0 : Int32) < v4 then (nar .byte (xb.toInt8.toInt32)) else (0 : Int32)) (if (1 : Int32) < v4 then (nar .byte ((xb >>> ((8 : Int32) &&& 31)).toInt8.toInt32)) else (0 : Int32)) (if (2 : Int32) < v4 then (nar .byte ((xb >>> ((16 : Int32) &&& 31)).toInt8.toInt32)) else (0 : Int32))) = (0 : Int32) then (0 : Int32) else (if (own_f7 xc v5 v5 (if (0 : Int32) < v5 then (nar .byte (xc.toInt8.toInt32)) else (0 : Int32)) (if (1 : Int32) < v5 then (nar .byte ((xc >>> ((8 : Int32) &&& 31)).toInt8.toInt32)) else (0 : Int32)) (if (2 : Int32) < v5 then (nar .byte ((xc >>> ((16 : Int32) &&& 31)).toInt8.toInt32)) else (0 : Int32))) = (0 : Int32) then (0 : Int32) else (if (own_f11 (9223372036854775807 : Int64)) = (9223372036854775807 : Int64) then (if (own_f12 (nar .boolean (1 : Int32))) = (0 : Int32) then (0 : Int32) else (1 : Int32)) else (0 : Int32)))))), own_Goes p.tables e below P T131 (mkF m 145 #[.val (.int xa), .val (.int xb), .val (.int xc), .val (.int xn), .val (.int v3), .val (.int v4), .val (.int v5), .val (.ref bz_6), .val (.ref bz_12), .val (.ref bz_20), .val (.ref bk_30)] [(.int v145_130)]) by
    by_cases hc80_129 : v128 = (0 : Int32)
    · refine own_Goes.via (T' := T127) (g' := (mkF m 144 #[.val (.int xa), .val (.int xb), .val (.int xc), .val (.int xn), .val (.int v3), .val (.int v4), .val (.int v5), .val (.ref bz_6), .val (.ref bz_12), .val (.ref bz_20), .val (.ref bk_30)] [])) (fun t_ k_ => XS.ifYes X127.here hx rfl (pc0 := 80) (pc' := 144) rfl (hb hby at_80) rfl ((if0 _ _).trans (teq hc80_129).1) (by decide) (by decide) k_) ?_
      refine own_Goes.via (T' := T127) (g' := (mkF m 145 #[.val (.int xa), .val (.int xb), .val (.int xc), .val (.int xn), .val (.int v3), .val (.int v4), .val (.int v5), .val (.ref bz_6), .val (.ref bz_12), .val (.ref bz_20), .val (.ref bk_30)] [(.int (0 : Int32))])) (fun t_ k_ => XS.iconst X127.here hx rfl (hb hby at_144) k_) ?_
      exact J145_132 T127 _ (X127.more (by decide) (by decide)) T106.heap hh127 N127 sz106 K106 (0 : Int32) ((if_pos hc80_129)).symm
    · refine own_Goes.via (T' := T127) (g' := (mkF m 83 #[.val (.int xa), .val (.int xb), .val (.int xc), .val (.int xn), .val (.int v3), .val (.int v4), .val (.int v5), .val (.ref bz_6), .val (.ref bz_12), .val (.ref bz_20), .val (.ref bk_30)] [])) (fun t_ k_ => XS.ifNo X127.here hx rfl (hb hby at_80) rfl ((if0 _ _).trans (feq hc80_129).1) k_) ?_
      refine own_Goes.via (T' := T127) (g' := (mkF m 85 #[.val (.int xa), .val (.int xb), .val (.int xc), .val (.int xn), .val (.int v3), .val (.int v4), .val (.int v5), .val (.ref bz_6), .val (.ref bz_12), .val (.ref bz_20), .val (.ref bk_30)] [(.ref bk_30)])) (fun t_ k_ => XS.aload X127.here hx rfl (hb hby at_83) rfl rfl k_) ?_
      have cd85_134 : v4.toNatClampNeg ≤ 3 := own_pl0_10 hv3 hv4 hv5 hv128 hc80_129 cd22_7 cd22_8 cd30_13 cd30_14 cd38_21 cd38_22 cd49_31 cd49_32 cd49_33 cd71_107
      obtain ⟨cq133, kq133, q133a, q133b, q133c⟩ := isOf hZ hh127 E114
      obtain ⟨_, _, ⟨T133, L133, k133, n133⟩, -, X133, ⟨Lc133, hQ133, l133, y133, z133⟩, st133⟩ := X127.virtualBack hx (y := (⟨"com/example/keysweep/keysweep/Key", "family", "()[B"⟩ : MethodName)) (z := (⟨"com/example/keysweep/keysweep/Key", "family", "()[B"⟩ : MethodName)) hown (mvT hZ (hw _ (List.mem_of_getElem? (i := 52) rfl))) (mvT hZ (hw _ (List.mem_of_getElem? (i := 53) rfl))) (notFace_of_selects (args := #[]) (mvT hZ (hw _ (List.mem_of_getElem? (i := 55) rfl)))) (mvT hZ (hw _ (List.mem_of_getElem? (i := 55) rfl))) (mvT hZ (hw _ (List.mem_of_getElem? (i := 54) rfl))) (by decide) (backOf (W := 0) (rm8 l Z a0 hw [] bk_30 bf_30 kz_12 v4 (if (0 : Int32) < v4 then (nar .byte (xb.toInt8.toInt32)) else (0 : Int32)) (if (1 : Int32) < v4 then (nar .byte ((xb >>> ((8 : Int32) &&& 31)).toInt8.toInt32)) else (0 : Int32)) (if (2 : Int32) < v4 then (nar .byte ((xb >>> ((16 : Int32) &&& 31)).toInt8.toInt32)) else (0 : Int32)) T106.heap n0 sz106 F116 E123 V124 cd85_134) hZ (hw _ (List.mem_of_getElem? (i := 56) rfl)) (hw _ (List.mem_of_getElem? (i := 7) rfl)) (by decide) (by decide)) q133a q133c (g := (mkF m 85 #[.val (.int xa), .val (.int xb), .val (.int xc), .val (.int xn), .val (.int v3), .val (.int v4), .val (.int v5), .val (.ref bz_6), .val (.ref bz_12), .val (.ref bz_20), .val (.ref bk_30)] [(.ref bk_30)])) rfl (by rw [hml]; rfl) (Steps.refl _) (argsL := []) (rest := []) (lenOf pd_0_3 rfl) rfl (by show 2 * 0 + _ ≤ _; exact Nat.le_of_eq rfl) (hb hby at_85) (fun _ _ => ⟨rfl, hh127, (by decide : 8 + 1 ≤ _), (by decide : 27 + 3 ≤ _)⟩)
      dsimp only [Pt.U, Pt.locs, Pt.cells, Pt.slots] at X133 l133 y133 z133 st133 hQ133
      subst l133 y133 z133
      obtain ⟨bz_133, rfl, Nq133, Kq133, ⟨sq_bz_133, ge_bz_133⟩, pf133_0, pf133_1⟩ := hQ133
      have N133 := Fr.app N127 Nq133
      have sz_bz_133 : h0.size ≤ bz_133 := Nat.le_trans (K106).1 sq_bz_133
      have ne_s_EMPTY_bz_133 : s_EMPTY ≠ bz_133 := Nat.ne_of_lt (Nat.lt_of_lt_of_le E109.lt sq_bz_133)
      have ne_bz_6_bz_133 : bz_6 ≠ bz_133 := Nat.ne_of_lt (Nat.lt_of_lt_of_le E111.lt sq_bz_133)
      have ne_bz_12_bz_133 : bz_12 ≠ bz_133 := Nat.ne_of_lt (Nat.lt_of_lt_of_le E112.lt sq_bz_133)
      have ne_bz_20_bz_133 : bz_20 ≠ bz_133 := Nat.ne_of_lt (Nat.lt_of_lt_of_le E113.lt sq_bz_133)
      have ne_bk_30_bz_133 : bk_30 ≠ bz_133 := Nat.ne_of_lt (Nat.lt_of_lt_of_le E114.lt sq_bz_133)
      have ne_br_30_bz_133 : br_30 ≠ bz_133 := Nat.ne_of_lt (Nat.lt_of_lt_of_le E121.lt sq_bz_133)
      have ne_bf_30_bz_133 : bf_30 ≠ bz_133 := Nat.ne_of_lt (Nat.lt_of_lt_of_le E123.lt sq_bz_133)
      have ne_bq_30_bz_133 : bq_30 ≠ bz_133 := Nat.ne_of_lt (Nat.lt_of_lt_of_le E125.lt sq_bz_133)
      have ne_bz_106_bz_133 : bz_106 ≠ bz_133 := Nat.ne_of_lt (Nat.lt_of_lt_of_le pf106_0.lt sq_bz_133)
      have O135 : Old Z n0 T133.heap := O108.keep Kq133 all0
      have E136 : Exa Z T133.heap s_EMPTY "[B" := E109.keep Kq133
      have V137 : Arv Z T133.heap s_EMPTY kE .byte (0 : Int32) [] (.int (0 : Int32)) := V110.keep Kq133 nin0
      have E138 : Exa Z T133.heap bz_6 "[B" := E111.keep Kq133
      have E139 : Exa Z T133.heap bz_12 "[B" := E112.keep Kq133
      have E140 : Exa Z T133.heap bz_20 "[B" := E113.keep Kq133
      have E141 : Exa Z T133.heap bk_30 "com/example/keysweep/keysweep/Key" := E114.keep Kq133
      have F142 : Fld Z T133.heap bk_30 "com/example/keysweep/keysweep/Key" "row" "[B" (.ref br_30) := F115.keep Kq133 nin0
      have F143 : Fld Z T133.heap bk_30 "com/example/keysweep/keysweep/Key" "family" "[B" (.ref bf_30) := F116.keep Kq133 nin0
      have F144 : Fld Z T133.heap bk_30 "com/example/keysweep/keysweep/Key" "qualifier" "[B" (.ref bq_30) := F117.keep Kq133 nin0
      have F145 : Fld Z T133.heap bk_30 "com/example/keysweep/keysweep/Key" "visibility" "[B" (.ref s_EMPTY) := F118.keep Kq133 nin0
      have F146 : Fld Z T133.heap bk_30 "com/example/keysweep/keysweep/Key" "timestamp" "J" (.long (9223372036854775807 : Int64)) := F119.keep Kq133 nin0
      have F147 : Fld Z T133.heap bk_30 "com/example/keysweep/keysweep/Key" "deleteMarker" "Z" (.int (nar .boolean (1 : Int32))) := F120.keep Kq133 nin0
      have E148 : Exa Z T133.heap br_30 "[B" := E121.keep Kq133
      have V149 : Arv Z T133.heap br_30 kz_6 .byte v3 [(.int (if (0 : Int32) < v3 then (nar .byte (xa.toInt8.toInt32)) else (0 : Int32))), (.int (if (1 : Int32) < v3 then (nar .byte ((xa >>> ((8 : Int32) &&& 31)).toInt8.toInt32)) else (0 : Int32))), (.int (if (2 : Int32) < v3 then (nar .byte ((xa >>> ((16 : Int32) &&& 31)).toInt8.toInt32)) else (0 : Int32)))] (.int (0 : Int32)) := V122.keep Kq133 nin0
      have E150 : Exa Z T133.heap bf_30 "[B" := E123.keep Kq133
      have V151 : Arv Z T133.heap bf_30 kz_12 .byte v4 [(.int (if (0 : Int32) < v4 then (nar .byte (xb.toInt8.toInt32)) else (0 : Int32))), (.int (if (1 : Int32) < v4 then (nar .byte ((xb >>> ((8 : Int32) &&& 31)).toInt8.toInt32)) else (0 : Int32))), (.int (if (2 : Int32) < v4 then (nar .byte ((xb >>> ((16 : Int32) &&& 31)).toInt8.toInt32)) else (0 : Int32)))] (.int (0 : Int32)) := V124.keep Kq133 nin0
      have E152 : Exa Z T133.heap bq_30 "[B" := E125.keep Kq133
      have V153 : Arv Z T133.heap bq_30 kz_20 .byte v5 [(.int (if (0 : Int32) < v5 then (nar .byte (xc.toInt8.toInt32)) else (0 : Int32))), (.int (if (1 : Int32) < v5 then (nar .byte ((xc >>> ((8 : Int32) &&& 31)).toInt8.toInt32)) else (0 : Int32))), (.int (if (2 : Int32) < v5 then (nar .byte ((xc >>> ((16 : Int32) &&& 31)).toInt8.toInt32)) else (0 : Int32)))] (.int (0 : Int32)) := V126.keep Kq133 nin0
      have E154 : Exa Z T133.heap bz_106 "[B" := pf106_0.keep Kq133
      have V155 : Arv Z T133.heap bz_106 kz_6 .byte v3 [(.int (if (0 : Int32) < v3 then (nar .byte (xa.toInt8.toInt32)) else (0 : Int32))), (.int (if (1 : Int32) < v3 then (nar .byte ((xa >>> ((8 : Int32) &&& 31)).toInt8.toInt32)) else (0 : Int32))), (.int (if (2 : Int32) < v3 then (nar .byte ((xa >>> ((16 : Int32) &&& 31)).toInt8.toInt32)) else (0 : Int32)))] (.int (0 : Int32)) := pf106_1.keep Kq133 nin0
      have sz133 : n0 ≤ T133.heap.size := Nat.le_trans sz106 Kq133.1
      have K133 : Keep h0 T133.heap [] := (K106).trans Kq133 all0
      refine own_Goes.via (T' := T133) (g' := (mkF m 88 #[.val (.int xa), .val (.int xb), .val (.int xc), .val (.int xn), .val (.int v3), .val (.int v4), .val (.int v5), .val (.ref bz_6), .val (.ref bz_12), .val (.ref bz_20), .val (.ref bk_30)] [(.ref bz_133)])) (fun t_ k_ => st133.trans k_) ?_
      refine own_Goes.via (T' := T133) (g' := (mkF m 89 #[.val (.int xa), .val (.int xb), .val (.int xc), .val (.int xn), .val (.int v3), .val (.int v4), .val (.int v5), .val (.ref bz_6), .val (.ref bz_12), .val (.ref bz_20), .val (.ref bk_30)] [(.int xb), (.ref bz_133)])) (fun t_ k_ => XS.iloadN X133.here hx rfl (hb hby at_88) rfl k_) ?_
      refine own_Goes.via (T' := T133) (g' := (mkF m 91 #[.val (.int xa), .val (.int xb), .val (.int xc), .val (.int xn), .val (.int v3), .val (.int v4), .val (.int v5), .val (.ref bz_6), .val (.ref bz_12), .val (.ref bz_20), .val (.ref bk_30)] [(.int v4), (.int xb), (.ref bz_133)])) (fun t_ k_ => XS.iload X133.here hx rfl (hb hby at_89) rfl k_) ?_
      obtain ⟨_, _, ⟨T156, L156, k156, n156⟩, -, X156, ⟨Lc156, hQ156, l156, y156, z156⟩, st156⟩ := Jvm.LawKit.callS X133 hx (y := (⟨"com/example/keysweep/keysweep/KeyFirstOfPinLaw", "same", "([BII)Z"⟩ : MethodName)) hown (mvT hZ (hw _ (List.mem_of_getElem? (i := 49) rfl))) (mvT hZ (hw _ (List.mem_of_getElem? (i := 50) rfl))) (mvT hZ (hw _ (List.mem_of_getElem? (i := 2) rfl))) (mvT hZ (hw _ (List.mem_of_getElem? (i := 51) rfl))) (by decide) (backOf (W := 0) (rm7 l Z a0 hw [] bz_133 xb v4 kz_12 v4 (if (0 : Int32) < v4 then (nar .byte (xb.toInt8.toInt32)) else (0 : Int32)) (if (1 : Int32) < v4 then (nar .byte ((xb >>> ((8 : Int32) &&& 31)).toInt8.toInt32)) else (0 : Int32)) (if (2 : Int32) < v4 then (nar .byte ((xb >>> ((16 : Int32) &&& 31)).toInt8.toInt32)) else (0 : Int32)) T133.heap n0 sz133 pf133_1) hZ (hw _ (List.mem_of_getElem? (i := 51) rfl)) (hw _ (List.mem_of_getElem? (i := 2) rfl)) (by decide) (by decide)) (g := (mkF m 91 #[.val (.int xa), .val (.int xb), .val (.int xc), .val (.int xn), .val (.int v3), .val (.int v4), .val (.int v5), .val (.ref bz_6), .val (.ref bz_12), .val (.ref bz_20), .val (.ref bk_30)] [(.int v4), (.int xb), (.ref bz_133)])) rfl (by rw [hml]; rfl) (argsL := [(.ref bz_133), (.int xb), (.int v4)]) (rest := []) (lenOf pd_0_4 rfl) rfl (by show 2 * 0 + _ ≤ _; exact Nat.le_of_eq rfl) (hb hby at_91) (fun _ _ => ⟨rfl, rfl, (by decide : 9 + 0 ≤ _), (by decide : 30 + 0 ≤ _)⟩)
      dsimp only [Pt.U, Pt.locs, Pt.cells, Pt.slots] at X156 l156 y156 z156 st156 hQ156
      subst l156 y156 z156
      obtain ⟨rfl, Nq156, hh156⟩ := hQ156
      have N156 := Fr.app N133 Nq156
      refine own_Goes.via (T' := T156) (g' := (mkF m 94 #[.val (.int xa), .val (.int xb), .val (.int xc), .val (.int xn), .val (.int v3), .val (.int v4), .val (.int v5), .val (.ref bz_6), .val (.ref bz_12), .val (.ref bz_20), .val (.ref bk_30)] [(.int (own_f7 xb v4 v4 (if (0 : Int32) < v4 then (nar .byte (xb.toInt8.toInt32)) else (0 : Int32)) (if (1 : Int32) < v4 then (nar .byte ((xb >>> ((8 : Int32) &&& 31)).toInt8.toInt32)) else (0 : Int32)) (if (2 : Int32) < v4 then (nar .byte ((xb >>> ((16 : Int32) &&& 31)).toInt8.toInt32)) else (0 : Int32))))])) (st156) ?_
      by_cases hc94_157 : (own_f7 xb v4 v4 (if (0 : Int32) < v4 then (nar .byte (xb.toInt8.toInt32)) else (0 : Int32)) (if (1 : Int32) < v4 then (nar .byte ((xb >>> ((8 : Int32) &&& 31)).toInt8.toInt32)) else (0 : Int32)) (if (2 : Int32) < v4 then (nar .byte ((xb >>> ((16 : Int32) &&& 31)).toInt8.toInt32)) else (0 : Int32))) = (0 : Int32)
      · refine own_Goes.via (T' := T156) (g' := (mkF m 144 #[.val (.int xa), .val (.int xb), .val (.int xc), .val (.int xn), .val (.int v3), .val (.int v4), .val (.int v5), .val (.ref bz_6), .val (.ref bz_12), .val (.ref bz_20), .val (.ref bk_30)] [])) (fun t_ k_ => XS.ifYes X156.here hx rfl (pc0 := 94) (pc' := 144) rfl (hb hby at_94) rfl ((if0 _ _).trans (teq hc94_157).1) (by decide) (by decide) k_) ?_
        refine own_Goes.via (T' := T156) (g' := (mkF m 145 #[.val (.int xa), .val (.int xb), .val (.int xc), .val (.int xn), .val (.int v3), .val (.int v4), .val (.int v5), .val (.ref bz_6), .val (.ref bz_12), .val (.ref bz_20), .val (.ref bk_30)] [(.int (0 : Int32))])) (fun t_ k_ => XS.iconst X156.here hx rfl (hb hby at_144) k_) ?_
        exact J145_132 T156 _ (X156.more (by decide) (by decide)) T133.heap hh156 N156 sz133 K133 (0 : Int32) (((if_neg hc80_129).trans (if_pos hc94_157))).symm
      · refine own_Goes.via (T' := T156) (g' := (mkF m 97 #[.val (.int xa), .val (.int xb), .val (.int xc), .val (.int xn), .val (.int v3), .val (.int v4), .val (.int v5), .val (.ref bz_6), .val (.ref bz_12), .val (.ref bz_20), .val (.ref bk_30)] [])) (fun t_ k_ => XS.ifNo X156.here hx rfl (hb hby at_94) rfl ((if0 _ _).trans (feq hc94_157).1) k_) ?_
        refine own_Goes.via (T' := T156) (g' := (mkF m 99 #[.val (.int xa), .val (.int xb), .val (.int xc), .val (.int xn), .val (.int v3), .val (.int v4), .val (.int v5), .val (.ref bz_6), .val (.ref bz_12), .val (.ref bz_20), .val (.ref bk_30)] [(.ref bk_30)])) (fun t_ k_ => XS.aload X156.here hx rfl (hb hby at_97) rfl rfl k_) ?_
        have cd99_159 : v5.toNatClampNeg ≤ 3 := own_pl0_11 hv3 hv4 hv5 hv128 hc80_129 hc94_157 cd22_7 cd22_8 cd30_13 cd30_14 cd38_21 cd38_22 cd49_31 cd49_32 cd49_33 cd71_107 cd85_134
        obtain ⟨cq158, kq158, q158a, q158b, q158c⟩ := isOf hZ hh156 E141
        obtain ⟨_, _, ⟨T158, L158, k158, n158⟩, -, X158, ⟨Lc158, hQ158, l158, y158, z158⟩, st158⟩ := X156.virtualBack hx (y := (⟨"com/example/keysweep/keysweep/Key", "qualifier", "()[B"⟩ : MethodName)) (z := (⟨"com/example/keysweep/keysweep/Key", "qualifier", "()[B"⟩ : MethodName)) hown (mvT hZ (hw _ (List.mem_of_getElem? (i := 57) rfl))) (mvT hZ (hw _ (List.mem_of_getElem? (i := 58) rfl))) (notFace_of_selects (args := #[]) (mvT hZ (hw _ (List.mem_of_getElem? (i := 60) rfl)))) (mvT hZ (hw _ (List.mem_of_getElem? (i := 60) rfl))) (mvT hZ (hw _ (List.mem_of_getElem? (i := 59) rfl))) (by decide) (backOf (W := 0) (rm9 l Z a0 hw [] bk_30 bq_30 kz_20 v5 (if (0 : Int32) < v5 then (nar .byte (xc.toInt8.toInt32)) else (0 : Int32)) (if (1 : Int32) < v5 then (nar .byte ((xc >>> ((8 : Int32) &&& 31)).toInt8.toInt32)) else (0 : Int32)) (if (2 : Int32) < v5 then (nar .byte ((xc >>> ((16 : Int32) &&& 31)).toInt8.toInt32)) else (0 : Int32)) T133.heap n0 sz133 F144 E152 V153 cd99_159) hZ (hw _ (List.mem_of_getElem? (i := 61) rfl)) (hw _ (List.mem_of_getElem? (i := 7) rfl)) (by decide) (by decide)) q158a q158c (g := (mkF m 99 #[.val (.int xa), .val (.int xb), .val (.int xc), .val (.int xn), .val (.int v3), .val (.int v4), .val (.int v5), .val (.ref bz_6), .val (.ref bz_12), .val (.ref bz_20), .val (.ref bk_30)] [(.ref bk_30)])) rfl (by rw [hml]; rfl) (Steps.refl _) (argsL := []) (rest := []) (lenOf pd_0_3 rfl) rfl (by show 2 * 0 + _ ≤ _; exact Nat.le_of_eq rfl) (hb hby at_99) (fun _ _ => ⟨rfl, hh156, (by decide : 9 + 1 ≤ _), (by decide : 30 + 3 ≤ _)⟩)
        dsimp only [Pt.U, Pt.locs, Pt.cells, Pt.slots] at X158 l158 y158 z158 st158 hQ158
        subst l158 y158 z158
        obtain ⟨bz_158, rfl, Nq158, Kq158, ⟨sq_bz_158, ge_bz_158⟩, pf158_0, pf158_1⟩ := hQ158
        have N158 := Fr.app N156 Nq158
        have sz_bz_158 : h0.size ≤ bz_158 := Nat.le_trans (K133).1 sq_bz_158
        have ne_s_EMPTY_bz_158 : s_EMPTY ≠ bz_158 := Nat.ne_of_lt (Nat.lt_of_lt_of_le E136.lt sq_bz_158)
        have ne_bz_6_bz_158 : bz_6 ≠ bz_158 := Nat.ne_of_lt (Nat.lt_of_lt_of_le E138.lt sq_bz_158)
        have ne_bz_12_bz_158 : bz_12 ≠ bz_158 := Nat.ne_of_lt (Nat.lt_of_lt_of_le E139.lt sq_bz_158)
        have ne_bz_20_bz_158 : bz_20 ≠ bz_158 := Nat.ne_of_lt (Nat.lt_of_lt_of_le E140.lt sq_bz_158)
        have ne_bk_30_bz_158 : bk_30 ≠ bz_158 := Nat.ne_of_lt (Nat.lt_of_lt_of_le E141.lt sq_bz_158)
        have ne_br_30_bz_158 : br_30 ≠ bz_158 := Nat.ne_of_lt (Nat.lt_of_lt_of_le E148.lt sq_bz_158)
        have ne_bf_30_bz_158 : bf_30 ≠ bz_158 := Nat.ne_of_lt (Nat.lt_of_lt_of_le E150.lt sq_bz_158)
        have ne_bq_30_bz_158 : bq_30 ≠ bz_158 := Nat.ne_of_lt (Nat.lt_of_lt_of_le E152.lt sq_bz_158)
        have ne_bz_106_bz_158 : bz_106 ≠ bz_158 := Nat.ne_of_lt (Nat.lt_of_lt_of_le E154.lt sq_bz_158)
        have ne_bz_133_bz_158 : bz_133 ≠ bz_158 := Nat.ne_of_lt (Nat.lt_of_lt_of_le pf133_0.lt sq_bz_158)
        have O160 : Old Z n0 T158.heap := O135.keep Kq158 all0
        have E161 : Exa Z T158.heap s_EMPTY "[B" := E136.keep Kq158
        have V162 : Arv Z T158.heap s_EMPTY kE .byte (0 : Int32) [] (.int (0 : Int32)) := V137.keep Kq158 nin0
        have E163 : Exa Z T158.heap bz_6 "[B" := E138.keep Kq158
        have E164 : Exa Z T158.heap bz_12 "[B" := E139.keep Kq158
        have E165 : Exa Z T158.heap bz_20 "[B" := E140.keep Kq158
        have E166 : Exa Z T158.heap bk_30 "com/example/keysweep/keysweep/Key" := E141.keep Kq158
        have F167 : Fld Z T158.heap bk_30 "com/example/keysweep/keysweep/Key" "row" "[B" (.ref br_30) := F142.keep Kq158 nin0
        have F168 : Fld Z T158.heap bk_30 "com/example/keysweep/keysweep/Key" "family" "[B" (.ref bf_30) := F143.keep Kq158 nin0
        have F169 : Fld Z T158.heap bk_30 "com/example/keysweep/keysweep/Key" "qualifier" "[B" (.ref bq_30) := F144.keep Kq158 nin0
        have F170 : Fld Z T158.heap bk_30 "com/example/keysweep/keysweep/Key" "visibility" "[B" (.ref s_EMPTY) := F145.keep Kq158 nin0
        have F171 : Fld Z T158.heap bk_30 "com/example/keysweep/keysweep/Key" "timestamp" "J" (.long (9223372036854775807 : Int64)) := F146.keep Kq158 nin0
        have F172 : Fld Z T158.heap bk_30 "com/example/keysweep/keysweep/Key" "deleteMarker" "Z" (.int (nar .boolean (1 : Int32))) := F147.keep Kq158 nin0
        have E173 : Exa Z T158.heap br_30 "[B" := E148.keep Kq158
        have V174 : Arv Z T158.heap br_30 kz_6 .byte v3 [(.int (if (0 : Int32) < v3 then (nar .byte (xa.toInt8.toInt32)) else (0 : Int32))), (.int (if (1 : Int32) < v3 then (nar .byte ((xa >>> ((8 : Int32) &&& 31)).toInt8.toInt32)) else (0 : Int32))), (.int (if (2 : Int32) < v3 then (nar .byte ((xa >>> ((16 : Int32) &&& 31)).toInt8.toInt32)) else (0 : Int32)))] (.int (0 : Int32)) := V149.keep Kq158 nin0
        have E175 : Exa Z T158.heap bf_30 "[B" := E150.keep Kq158
        have V176 : Arv Z T158.heap bf_30 kz_12 .byte v4 [(.int (if (0 : Int32) < v4 then (nar .byte (xb.toInt8.toInt32)) else (0 : Int32))), (.int (if (1 : Int32) < v4 then (nar .byte ((xb >>> ((8 : Int32) &&& 31)).toInt8.toInt32)) else (0 : Int32))), (.int (if (2 : Int32) < v4 then (nar .byte ((xb >>> ((16 : Int32) &&& 31)).toInt8.toInt32)) else (0 : Int32)))] (.int (0 : Int32)) := V151.keep Kq158 nin0
        have E177 : Exa Z T158.heap bq_30 "[B" := E152.keep Kq158
        have V178 : Arv Z T158.heap bq_30 kz_20 .byte v5 [(.int (if (0 : Int32) < v5 then (nar .byte (xc.toInt8.toInt32)) else (0 : Int32))), (.int (if (1 : Int32) < v5 then (nar .byte ((xc >>> ((8 : Int32) &&& 31)).toInt8.toInt32)) else (0 : Int32))), (.int (if (2 : Int32) < v5 then (nar .byte ((xc >>> ((16 : Int32) &&& 31)).toInt8.toInt32)) else (0 : Int32)))] (.int (0 : Int32)) := V153.keep Kq158 nin0
        have E179 : Exa Z T158.heap bz_106 "[B" := E154.keep Kq158
        have V180 : Arv Z T158.heap bz_106 kz_6 .byte v3 [(.int (if (0 : Int32) < v3 then (nar .byte (xa.toInt8.toInt32)) else (0 : Int32))), (.int (if (1 : Int32) < v3 then (nar .byte ((xa >>> ((8 : Int32) &&& 31)).toInt8.toInt32)) else (0 : Int32))), (.int (if (2 : Int32) < v3 then (nar .byte ((xa >>> ((16 : Int32) &&& 31)).toInt8.toInt32)) else (0 : Int32)))] (.int (0 : Int32)) := V155.keep Kq158 nin0
        have E181 : Exa Z T158.heap bz_133 "[B" := pf133_0.keep Kq158
        have V182 : Arv Z T158.heap bz_133 kz_12 .byte v4 [(.int (if (0 : Int32) < v4 then (nar .byte (xb.toInt8.toInt32)) else (0 : Int32))), (.int (if (1 : Int32) < v4 then (nar .byte ((xb >>> ((8 : Int32) &&& 31)).toInt8.toInt32)) else (0 : Int32))), (.int (if (2 : Int32) < v4 then (nar .byte ((xb >>> ((16 : Int32) &&& 31)).toInt8.toInt32)) else (0 : Int32)))] (.int (0 : Int32)) := pf133_1.keep Kq158 nin0
        have sz158 : n0 ≤ T158.heap.size := Nat.le_trans sz133 Kq158.1
        have K158 : Keep h0 T158.heap [] := (K133).trans Kq158 all0
        refine own_Goes.via (T' := T158) (g' := (mkF m 102 #[.val (.int xa), .val (.int xb), .val (.int xc), .val (.int xn), .val (.int v3), .val (.int v4), .val (.int v5), .val (.ref bz_6), .val (.ref bz_12), .val (.ref bz_20), .val (.ref bk_30)] [(.ref bz_158)])) (fun t_ k_ => st158.trans k_) ?_
        refine own_Goes.via (T' := T158) (g' := (mkF m 103 #[.val (.int xa), .val (.int xb), .val (.int xc), .val (.int xn), .val (.int v3), .val (.int v4), .val (.int v5), .val (.ref bz_6), .val (.ref bz_12), .val (.ref bz_20), .val (.ref bk_30)] [(.int xc), (.ref bz_158)])) (fun t_ k_ => XS.iloadN X158.here hx rfl (hb hby at_102) rfl k_) ?_
        refine own_Goes.via (T' := T158) (g' := (mkF m 105 #[.val (.int xa), .val (.int xb), .val (.int xc), .val (.int xn), .val (.int v3), .val (.int v4), .val (.int v5), .val (.ref bz_6), .val (.ref bz_12), .val (.ref bz_20), .val (.ref bk_30)] [(.int v5), (.int xc), (.ref bz_158)])) (fun t_ k_ => XS.iload X158.here hx rfl (hb hby at_103) rfl k_) ?_
        obtain ⟨_, _, ⟨T183, L183, k183, n183⟩, -, X183, ⟨Lc183, hQ183, l183, y183, z183⟩, st183⟩ := Jvm.LawKit.callS X158 hx (y := (⟨"com/example/keysweep/keysweep/KeyFirstOfPinLaw", "same", "([BII)Z"⟩ : MethodName)) hown (mvT hZ (hw _ (List.mem_of_getElem? (i := 49) rfl))) (mvT hZ (hw _ (List.mem_of_getElem? (i := 50) rfl))) (mvT hZ (hw _ (List.mem_of_getElem? (i := 2) rfl))) (mvT hZ (hw _ (List.mem_of_getElem? (i := 51) rfl))) (by decide) (backOf (W := 0) (rm7 l Z a0 hw [] bz_158 xc v5 kz_20 v5 (if (0 : Int32) < v5 then (nar .byte (xc.toInt8.toInt32)) else (0 : Int32)) (if (1 : Int32) < v5 then (nar .byte ((xc >>> ((8 : Int32) &&& 31)).toInt8.toInt32)) else (0 : Int32)) (if (2 : Int32) < v5 then (nar .byte ((xc >>> ((16 : Int32) &&& 31)).toInt8.toInt32)) else (0 : Int32)) T158.heap n0 sz158 pf158_1) hZ (hw _ (List.mem_of_getElem? (i := 51) rfl)) (hw _ (List.mem_of_getElem? (i := 2) rfl)) (by decide) (by decide)) (g := (mkF m 105 #[.val (.int xa), .val (.int xb), .val (.int xc), .val (.int xn), .val (.int v3), .val (.int v4), .val (.int v5), .val (.ref bz_6), .val (.ref bz_12), .val (.ref bz_20), .val (.ref bk_30)] [(.int v5), (.int xc), (.ref bz_158)])) rfl (by rw [hml]; rfl) (argsL := [(.ref bz_158), (.int xc), (.int v5)]) (rest := []) (lenOf pd_0_4 rfl) rfl (by show 2 * 0 + _ ≤ _; exact Nat.le_of_eq rfl) (hb hby at_105) (fun _ _ => ⟨rfl, rfl, (by decide : 10 + 0 ≤ _), (by decide : 33 + 0 ≤ _)⟩)
        dsimp only [Pt.U, Pt.locs, Pt.cells, Pt.slots] at X183 l183 y183 z183 st183 hQ183
        subst l183 y183 z183
        obtain ⟨rfl, Nq183, hh183⟩ := hQ183
        have N183 := Fr.app N158 Nq183
        refine own_Goes.via (T' := T183) (g' := (mkF m 108 #[.val (.int xa), .val (.int xb), .val (.int xc), .val (.int xn), .val (.int v3), .val (.int v4), .val (.int v5), .val (.ref bz_6), .val (.ref bz_12), .val (.ref bz_20), .val (.ref bk_30)] [(.int (own_f7 xc v5 v5 (if (0 : Int32) < v5 then (nar .byte (xc.toInt8.toInt32)) else (0 : Int32)) (if (1 : Int32) < v5 then (nar .byte ((xc >>> ((8 : Int32) &&& 31)).toInt8.toInt32)) else (0 : Int32)) (if (2 : Int32) < v5 then (nar .byte ((xc >>> ((16 : Int32) &&& 31)).toInt8.toInt32)) else (0 : Int32))))])) (st183) ?_
        by_cases hc108_184 : (own_f7 xc v5 v5 (if (0 : Int32) < v5 then (nar .byte (xc.toInt8.toInt32)) else (0 : Int32)) (if (1 : Int32) < v5 then (nar .byte ((xc >>> ((8 : Int32) &&& 31)).toInt8.toInt32)) else (0 : Int32)) (if (2 : Int32) < v5 then (nar .byte ((xc >>> ((16 : Int32) &&& 31)).toInt8.toInt32)) else (0 : Int32))) = (0 : Int32)
        · refine own_Goes.via (T' := T183) (g' := (mkF m 144 #[.val (.int xa), .val (.int xb), .val (.int xc), .val (.int xn), .val (.int v3), .val (.int v4), .val (.int v5), .val (.ref bz_6), .val (.ref bz_12), .val (.ref bz_20), .val (.ref bk_30)] [])) (fun t_ k_ => XS.ifYes X183.here hx rfl (pc0 := 108) (pc' := 144) rfl (hb hby at_108) rfl ((if0 _ _).trans (teq hc108_184).1) (by decide) (by decide) k_) ?_
          refine own_Goes.via (T' := T183) (g' := (mkF m 145 #[.val (.int xa), .val (.int xb), .val (.int xc), .val (.int xn), .val (.int v3), .val (.int v4), .val (.int v5), .val (.ref bz_6), .val (.ref bz_12), .val (.ref bz_20), .val (.ref bk_30)] [(.int (0 : Int32))])) (fun t_ k_ => XS.iconst X183.here hx rfl (hb hby at_144) k_) ?_
          exact J145_132 T183 _ (X183.more (by decide) (by decide)) T158.heap hh183 N183 sz158 K158 (0 : Int32) (((if_neg hc80_129).trans ((if_neg hc94_157).trans (if_pos hc108_184)))).symm
        · refine own_Goes.via (T' := T183) (g' := (mkF m 111 #[.val (.int xa), .val (.int xb), .val (.int xc), .val (.int xn), .val (.int v3), .val (.int v4), .val (.int v5), .val (.ref bz_6), .val (.ref bz_12), .val (.ref bz_20), .val (.ref bk_30)] [])) (fun t_ k_ => XS.ifNo X183.here hx rfl (hb hby at_108) rfl ((if0 _ _).trans (feq hc108_184).1) k_) ?_
          refine own_Goes.via (T' := T183) (g' := (mkF m 113 #[.val (.int xa), .val (.int xb), .val (.int xc), .val (.int xn), .val (.int v3), .val (.int v4), .val (.int v5), .val (.ref bz_6), .val (.ref bz_12), .val (.ref bz_20), .val (.ref bk_30)] [(.ref bk_30)])) (fun t_ k_ => XS.aload X183.here hx rfl (hb hby at_111) rfl rfl k_) ?_
          have cd113_186 : (0 : Int32).toNatClampNeg ≤ 3 := own_pl0_12 hv3 hv4 hv5 hv128 hc80_129 hc94_157 hc108_184 cd22_7 cd22_8 cd30_13 cd30_14 cd38_21 cd38_22 cd49_31 cd49_32 cd49_33 cd71_107 cd85_134 cd99_159
          obtain ⟨cq185, kq185, q185a, q185b, q185c⟩ := isOf hZ hh183 E166
          obtain ⟨_, _, ⟨T185, L185, k185, n185⟩, -, X185, ⟨Lc185, hQ185, l185, y185, z185⟩, st185⟩ := X183.virtualBack hx (y := (⟨"com/example/keysweep/keysweep/Key", "visibility", "()[B"⟩ : MethodName)) (z := (⟨"com/example/keysweep/keysweep/Key", "visibility", "()[B"⟩ : MethodName)) hown (mvT hZ (hw _ (List.mem_of_getElem? (i := 62) rfl))) (mvT hZ (hw _ (List.mem_of_getElem? (i := 63) rfl))) (notFace_of_selects (args := #[]) (mvT hZ (hw _ (List.mem_of_getElem? (i := 65) rfl)))) (mvT hZ (hw _ (List.mem_of_getElem? (i := 65) rfl))) (mvT hZ (hw _ (List.mem_of_getElem? (i := 64) rfl))) (by decide) (backOf (W := 0) (rm10 l Z a0 hw [] bk_30 s_EMPTY kE (0 : Int32) T158.heap n0 sz158 F170 E161 V162 cd113_186) hZ (hw _ (List.mem_of_getElem? (i := 66) rfl)) (hw _ (List.mem_of_getElem? (i := 7) rfl)) (by decide) (by decide)) q185a q185c (g := (mkF m 113 #[.val (.int xa), .val (.int xb), .val (.int xc), .val (.int xn), .val (.int v3), .val (.int v4), .val (.int v5), .val (.ref bz_6), .val (.ref bz_12), .val (.ref bz_20), .val (.ref bk_30)] [(.ref bk_30)])) rfl (by rw [hml]; rfl) (Steps.refl _) (argsL := []) (rest := []) (lenOf pd_0_3 rfl) rfl (by show 2 * 0 + _ ≤ _; exact Nat.le_of_eq rfl) (hb hby at_113) (fun _ _ => ⟨rfl, hh183, (by decide : 10 + 1 ≤ _), (by decide : 33 + 3 ≤ _)⟩)
          dsimp only [Pt.U, Pt.locs, Pt.cells, Pt.slots] at X185 l185 y185 z185 st185 hQ185
          subst l185 y185 z185
          obtain ⟨bz_185, rfl, Nq185, Kq185, ⟨sq_bz_185, ge_bz_185⟩, pf185_0, pf185_1⟩ := hQ185
          have N185 := Fr.app N183 Nq185
          have sz_bz_185 : h0.size ≤ bz_185 := Nat.le_trans (K158).1 sq_bz_185
          have ne_s_EMPTY_bz_185 : s_EMPTY ≠ bz_185 := Nat.ne_of_lt (Nat.lt_of_lt_of_le E161.lt sq_bz_185)
          have ne_bz_6_bz_185 : bz_6 ≠ bz_185 := Nat.ne_of_lt (Nat.lt_of_lt_of_le E163.lt sq_bz_185)
          have ne_bz_12_bz_185 : bz_12 ≠ bz_185 := Nat.ne_of_lt (Nat.lt_of_lt_of_le E164.lt sq_bz_185)
          have ne_bz_20_bz_185 : bz_20 ≠ bz_185 := Nat.ne_of_lt (Nat.lt_of_lt_of_le E165.lt sq_bz_185)
          have ne_bk_30_bz_185 : bk_30 ≠ bz_185 := Nat.ne_of_lt (Nat.lt_of_lt_of_le E166.lt sq_bz_185)
          have ne_br_30_bz_185 : br_30 ≠ bz_185 := Nat.ne_of_lt (Nat.lt_of_lt_of_le E173.lt sq_bz_185)
          have ne_bf_30_bz_185 : bf_30 ≠ bz_185 := Nat.ne_of_lt (Nat.lt_of_lt_of_le E175.lt sq_bz_185)
          have ne_bq_30_bz_185 : bq_30 ≠ bz_185 := Nat.ne_of_lt (Nat.lt_of_lt_of_le E177.lt sq_bz_185)
          have ne_bz_106_bz_185 : bz_106 ≠ bz_185 := Nat.ne_of_lt (Nat.lt_of_lt_of_le E179.lt sq_bz_185)
          have ne_bz_133_bz_185 : bz_133 ≠ bz_185 := Nat.ne_of_lt (Nat.lt_of_lt_of_le E181.lt sq_bz_185)
          have ne_bz_158_bz_185 : bz_158 ≠ bz_185 := Nat.ne_of_lt (Nat.lt_of_lt_of_le pf158_0.lt sq_bz_185)
          have O187 : Old Z n0 T185.heap := O160.keep Kq185 all0
          have E188 : Exa Z T185.heap s_EMPTY "[B" := E161.keep Kq185
          have V189 : Arv Z T185.heap s_EMPTY kE .byte (0 : Int32) [] (.int (0 : Int32)) := V162.keep Kq185 nin0
          have E190 : Exa Z T185.heap bz_6 "[B" := E163.keep Kq185
          have E191 : Exa Z T185.heap bz_12 "[B" := E164.keep Kq185
          have E192 : Exa Z T185.heap bz_20 "[B" := E165.keep Kq185
          have E193 : Exa Z T185.heap bk_30 "com/example/keysweep/keysweep/Key" := E166.keep Kq185
          have F194 : Fld Z T185.heap bk_30 "com/example/keysweep/keysweep/Key" "row" "[B" (.ref br_30) := F167.keep Kq185 nin0
          have F195 : Fld Z T185.heap bk_30 "com/example/keysweep/keysweep/Key" "family" "[B" (.ref bf_30) := F168.keep Kq185 nin0
          have F196 : Fld Z T185.heap bk_30 "com/example/keysweep/keysweep/Key" "qualifier" "[B" (.ref bq_30) := F169.keep Kq185 nin0
          have F197 : Fld Z T185.heap bk_30 "com/example/keysweep/keysweep/Key" "visibility" "[B" (.ref s_EMPTY) := F170.keep Kq185 nin0
          have F198 : Fld Z T185.heap bk_30 "com/example/keysweep/keysweep/Key" "timestamp" "J" (.long (9223372036854775807 : Int64)) := F171.keep Kq185 nin0
          have F199 : Fld Z T185.heap bk_30 "com/example/keysweep/keysweep/Key" "deleteMarker" "Z" (.int (nar .boolean (1 : Int32))) := F172.keep Kq185 nin0
          have E200 : Exa Z T185.heap br_30 "[B" := E173.keep Kq185
          have V201 : Arv Z T185.heap br_30 kz_6 .byte v3 [(.int (if (0 : Int32) < v3 then (nar .byte (xa.toInt8.toInt32)) else (0 : Int32))), (.int (if (1 : Int32) < v3 then (nar .byte ((xa >>> ((8 : Int32) &&& 31)).toInt8.toInt32)) else (0 : Int32))), (.int (if (2 : Int32) < v3 then (nar .byte ((xa >>> ((16 : Int32) &&& 31)).toInt8.toInt32)) else (0 : Int32)))] (.int (0 : Int32)) := V174.keep Kq185 nin0
          have E202 : Exa Z T185.heap bf_30 "[B" := E175.keep Kq185
          have V203 : Arv Z T185.heap bf_30 kz_12 .byte v4 [(.int (if (0 : Int32) < v4 then (nar .byte (xb.toInt8.toInt32)) else (0 : Int32))), (.int (if (1 : Int32) < v4 then (nar .byte ((xb >>> ((8 : Int32) &&& 31)).toInt8.toInt32)) else (0 : Int32))), (.int (if (2 : Int32) < v4 then (nar .byte ((xb >>> ((16 : Int32) &&& 31)).toInt8.toInt32)) else (0 : Int32)))] (.int (0 : Int32)) := V176.keep Kq185 nin0
          have E204 : Exa Z T185.heap bq_30 "[B" := E177.keep Kq185
          have V205 : Arv Z T185.heap bq_30 kz_20 .byte v5 [(.int (if (0 : Int32) < v5 then (nar .byte (xc.toInt8.toInt32)) else (0 : Int32))), (.int (if (1 : Int32) < v5 then (nar .byte ((xc >>> ((8 : Int32) &&& 31)).toInt8.toInt32)) else (0 : Int32))), (.int (if (2 : Int32) < v5 then (nar .byte ((xc >>> ((16 : Int32) &&& 31)).toInt8.toInt32)) else (0 : Int32)))] (.int (0 : Int32)) := V178.keep Kq185 nin0
          have E206 : Exa Z T185.heap bz_106 "[B" := E179.keep Kq185
          have V207 : Arv Z T185.heap bz_106 kz_6 .byte v3 [(.int (if (0 : Int32) < v3 then (nar .byte (xa.toInt8.toInt32)) else (0 : Int32))), (.int (if (1 : Int32) < v3 then (nar .byte ((xa >>> ((8 : Int32) &&& 31)).toInt8.toInt32)) else (0 : Int32))), (.int (if (2 : Int32) < v3 then (nar .byte ((xa >>> ((16 : Int32) &&& 31)).toInt8.toInt32)) else (0 : Int32)))] (.int (0 : Int32)) := V180.keep Kq185 nin0
          have E208 : Exa Z T185.heap bz_133 "[B" := E181.keep Kq185
          have V209 : Arv Z T185.heap bz_133 kz_12 .byte v4 [(.int (if (0 : Int32) < v4 then (nar .byte (xb.toInt8.toInt32)) else (0 : Int32))), (.int (if (1 : Int32) < v4 then (nar .byte ((xb >>> ((8 : Int32) &&& 31)).toInt8.toInt32)) else (0 : Int32))), (.int (if (2 : Int32) < v4 then (nar .byte ((xb >>> ((16 : Int32) &&& 31)).toInt8.toInt32)) else (0 : Int32)))] (.int (0 : Int32)) := V182.keep Kq185 nin0
          have E210 : Exa Z T185.heap bz_158 "[B" := pf158_0.keep Kq185
          have V211 : Arv Z T185.heap bz_158 kz_20 .byte v5 [(.int (if (0 : Int32) < v5 then (nar .byte (xc.toInt8.toInt32)) else (0 : Int32))), (.int (if (1 : Int32) < v5 then (nar .byte ((xc >>> ((8 : Int32) &&& 31)).toInt8.toInt32)) else (0 : Int32))), (.int (if (2 : Int32) < v5 then (nar .byte ((xc >>> ((16 : Int32) &&& 31)).toInt8.toInt32)) else (0 : Int32)))] (.int (0 : Int32)) := pf158_1.keep Kq185 nin0
          have sz185 : n0 ≤ T185.heap.size := Nat.le_trans sz158 Kq185.1
          have K185 : Keep h0 T185.heap [] := (K158).trans Kq185 all0
          refine own_Goes.via (T' := T185) (g' := (mkF m 116 #[.val (.int xa), .val (.int xb), .val (.int xc), .val (.int xn), .val (.int v3), .val (.int v4), .val (.int v5), .val (.ref bz_6), .val (.ref bz_12), .val (.ref bz_20), .val (.ref bk_30)] [(.ref bz_185)])) (fun t_ k_ => st185.trans k_) ?_
          obtain ⟨cl212, Ar212, -, Sl212, Ng212, -, -⟩ := id pf185_1
          refine own_Goes.via (T' := T185) (g' := (mkF m 117 #[.val (.int xa), .val (.int xb), .val (.int xc), .val (.int xn), .val (.int v3), .val (.int v4), .val (.int v5), .val (.ref bz_6), .val (.ref bz_12), .val (.ref bz_20), .val (.ref bk_30)] [(.int (0 : Int32))])) (fun t_ k_ => X185.arraylength hx Ar212.1 (State.isArrayOf_alike hZ.alike Ar212.2.1) (g := (mkF m 116 #[.val (.int xa), .val (.int xb), .val (.int xc), .val (.int xn), .val (.int v3), .val (.int v4), .val (.int v5), .val (.ref bz_6), .val (.ref bz_12), .val (.ref bz_20), .val (.ref bk_30)] [(.ref bz_185)])) rfl rfl (hb hby at_116) _ (by rw [len_of Sl212 Ng212]; exact k_)) ?_
          refine own_Goes.via (T' := T185) (g' := (mkF m 120 #[.val (.int xa), .val (.int xb), .val (.int xc), .val (.int xn), .val (.int v3), .val (.int v4), .val (.int v5), .val (.ref bz_6), .val (.ref bz_12), .val (.ref bz_20), .val (.ref bk_30)] [])) (fun t_ k_ => XS.ifNo X185.here hx rfl (hb hby at_117) rfl ((if0 _ _).trans (teq (by decide : (0 : Int32) = (0 : Int32))).2) k_) ?_
          refine own_Goes.via (T' := T185) (g' := (mkF m 122 #[.val (.int xa), .val (.int xb), .val (.int xc), .val (.int xn), .val (.int v3), .val (.int v4), .val (.int v5), .val (.ref bz_6), .val (.ref bz_12), .val (.ref bz_20), .val (.ref bk_30)] [(.ref bk_30)])) (fun t_ k_ => XS.aload X185.here hx rfl (hb hby at_120) rfl rfl k_) ?_
          obtain ⟨cq213, kq213, q213a, q213b, q213c⟩ := isOf hZ rfl E193
          obtain ⟨_, _, ⟨T213, L213, k213, n213⟩, -, X213, ⟨Lc213, hQ213, l213, y213, z213⟩, st213⟩ := X185.virtualBack hx (y := (⟨"com/example/keysweep/keysweep/Key", "timestamp", "()J"⟩ : MethodName)) (z := (⟨"com/example/keysweep/keysweep/Key", "timestamp", "()J"⟩ : MethodName)) hown (mvT hZ (hw _ (List.mem_of_getElem? (i := 67) rfl))) (mvT hZ (hw _ (List.mem_of_getElem? (i := 68) rfl))) (notFace_of_selects (args := #[]) (mvT hZ (hw _ (List.mem_of_getElem? (i := 70) rfl)))) (mvT hZ (hw _ (List.mem_of_getElem? (i := 70) rfl))) (mvT hZ (hw _ (List.mem_of_getElem? (i := 69) rfl))) (by decide) (backOf (W := 0) (rm11 l Z a0 hw [] bk_30 (9223372036854775807 : Int64) T185.heap n0 sz185 F198) hZ (hw _ (List.mem_of_getElem? (i := 71) rfl)) (hw _ (List.mem_of_getElem? (i := 7) rfl)) (by decide) (by decide)) q213a q213c (g := (mkF m 122 #[.val (.int xa), .val (.int xb), .val (.int xc), .val (.int xn), .val (.int v3), .val (.int v4), .val (.int v5), .val (.ref bz_6), .val (.ref bz_12), .val (.ref bz_20), .val (.ref bk_30)] [(.ref bk_30)])) rfl (by rw [hml]; rfl) (Steps.refl _) (argsL := []) (rest := []) (lenOf pd_0_5 rfl) rfl (by show 2 * 0 + _ ≤ _; exact Nat.le_of_eq rfl) (hb hby at_122) (fun _ _ => ⟨rfl, rfl, (by decide : 11 + 0 ≤ _), (by decide : 36 + 0 ≤ _)⟩)
          dsimp only [Pt.U, Pt.locs, Pt.cells, Pt.slots] at X213 l213 y213 z213 st213 hQ213
          subst l213 y213 z213
          obtain ⟨rfl, Nq213, hh213⟩ := hQ213
          have N213 := Fr.app N185 Nq213
          refine own_Goes.via (T' := T213) (g' := (mkF m 125 #[.val (.int xa), .val (.int xb), .val (.int xc), .val (.int xn), .val (.int v3), .val (.int v4), .val (.int v5), .val (.ref bz_6), .val (.ref bz_12), .val (.ref bz_20), .val (.ref bk_30)] [(.long (own_f11 (9223372036854775807 : Int64)))])) (fun t_ k_ => st213.trans k_) ?_
          refine own_Goes.via (T' := T213) (g' := (mkF m 128 #[.val (.int xa), .val (.int xb), .val (.int xc), .val (.int xn), .val (.int v3), .val (.int v4), .val (.int v5), .val (.ref bz_6), .val (.ref bz_12), .val (.ref bz_20), .val (.ref bk_30)] [(.long (9223372036854775807 : Int64)), (.long (own_f11 (9223372036854775807 : Int64)))])) (X213.ldc2Long hx hown (mvT hZ (hw _ (List.mem_of_getElem? (i := 72) rfl))) (g := (mkF m 125 #[.val (.int xa), .val (.int xb), .val (.int xc), .val (.int xn), .val (.int v3), .val (.int v4), .val (.int v5), .val (.ref bz_6), .val (.ref bz_12), .val (.ref bz_20), .val (.ref bk_30)] [(.long (own_f11 (9223372036854775807 : Int64)))])) rfl (hb hby at_125)) ?_
          refine own_Goes.via (T' := T213) (g' := (mkF m 129 #[.val (.int xa), .val (.int xb), .val (.int xc), .val (.int xn), .val (.int v3), .val (.int v4), .val (.int v5), .val (.ref bz_6), .val (.ref bz_12), .val (.ref bz_20), .val (.ref bk_30)] [(.int (lcmpW (own_f11 (9223372036854775807 : Int64)) (9223372036854775807 : Int64)))])) (fun t_ k_ => XS.lcmp X213.here hx rfl (hb hby at_128) rfl k_) ?_
          by_cases hc129_214 : (own_f11 (9223372036854775807 : Int64)) = (9223372036854775807 : Int64)
          · refine own_Goes.via (T' := T213) (g' := (mkF m 132 #[.val (.int xa), .val (.int xb), .val (.int xc), .val (.int xn), .val (.int v3), .val (.int v4), .val (.int v5), .val (.ref bz_6), .val (.ref bz_12), .val (.ref bz_20), .val (.ref bk_30)] [])) (fun t_ k_ => XS.ifNo X213.here hx rfl (hb hby at_129) rfl (own_eqT hc129_214).2 k_) ?_
            refine own_Goes.via (T' := T213) (g' := (mkF m 134 #[.val (.int xa), .val (.int xb), .val (.int xc), .val (.int xn), .val (.int v3), .val (.int v4), .val (.int v5), .val (.ref bz_6), .val (.ref bz_12), .val (.ref bz_20), .val (.ref bk_30)] [(.ref bk_30)])) (fun t_ k_ => XS.aload X213.here hx rfl (hb hby at_132) rfl rfl k_) ?_
            have cd134_216 : nar .boolean (nar .boolean (1 : Int32)) = (nar .boolean (1 : Int32)) := own_pl0_13 hv3 hv4 hv5 hv128 hc80_129 hc94_157 hc108_184 hc129_214 cd22_7 cd22_8 cd30_13 cd30_14 cd38_21 cd38_22 cd49_31 cd49_32 cd49_33 cd71_107 cd85_134 cd99_159 cd113_186
            obtain ⟨cq215, kq215, q215a, q215b, q215c⟩ := isOf hZ hh213 E193
            obtain ⟨_, _, ⟨T215, L215, k215, n215⟩, -, X215, ⟨Lc215, hQ215, l215, y215, z215⟩, st215⟩ := X213.virtualBack hx (y := (⟨"com/example/keysweep/keysweep/Key", "isDeleteMarker", "()Z"⟩ : MethodName)) (z := (⟨"com/example/keysweep/keysweep/Key", "isDeleteMarker", "()Z"⟩ : MethodName)) hown (mvT hZ (hw _ (List.mem_of_getElem? (i := 73) rfl))) (mvT hZ (hw _ (List.mem_of_getElem? (i := 74) rfl))) (notFace_of_selects (args := #[]) (mvT hZ (hw _ (List.mem_of_getElem? (i := 76) rfl)))) (mvT hZ (hw _ (List.mem_of_getElem? (i := 76) rfl))) (mvT hZ (hw _ (List.mem_of_getElem? (i := 75) rfl))) (by decide) (backOf (W := 0) (rm12 l Z a0 hw [] bk_30 (nar .boolean (1 : Int32)) T185.heap n0 sz185 F199 cd134_216) hZ (hw _ (List.mem_of_getElem? (i := 77) rfl)) (hw _ (List.mem_of_getElem? (i := 7) rfl)) (by decide) (by decide)) q215a q215c (g := (mkF m 134 #[.val (.int xa), .val (.int xb), .val (.int xc), .val (.int xn), .val (.int v3), .val (.int v4), .val (.int v5), .val (.ref bz_6), .val (.ref bz_12), .val (.ref bz_20), .val (.ref bk_30)] [(.ref bk_30)])) rfl (by rw [hml]; rfl) (Steps.refl _) (argsL := []) (rest := []) (lenOf pd_0_6 rfl) rfl (by show 2 * 0 + _ ≤ _; exact Nat.le_of_eq rfl) (hb hby at_134) (fun _ _ => ⟨rfl, hh213, (by decide : 11 + 0 ≤ _), (by decide : 36 + 0 ≤ _)⟩)
            dsimp only [Pt.U, Pt.locs, Pt.cells, Pt.slots] at X215 l215 y215 z215 st215 hQ215
            subst l215 y215 z215
            obtain ⟨rfl, Nq215, hh215⟩ := hQ215
            have N215 := Fr.app N213 Nq215
            refine own_Goes.via (T' := T215) (g' := (mkF m 137 #[.val (.int xa), .val (.int xb), .val (.int xc), .val (.int xn), .val (.int v3), .val (.int v4), .val (.int v5), .val (.ref bz_6), .val (.ref bz_12), .val (.ref bz_20), .val (.ref bk_30)] [(.int (own_f12 (nar .boolean (1 : Int32))))])) (fun t_ k_ => st215.trans k_) ?_
            by_cases hc137_217 : (own_f12 (nar .boolean (1 : Int32))) = (0 : Int32)
            · refine own_Goes.via (T' := T215) (g' := (mkF m 144 #[.val (.int xa), .val (.int xb), .val (.int xc), .val (.int xn), .val (.int v3), .val (.int v4), .val (.int v5), .val (.ref bz_6), .val (.ref bz_12), .val (.ref bz_20), .val (.ref bk_30)] [])) (fun t_ k_ => XS.ifYes X215.here hx rfl (pc0 := 137) (pc' := 144) rfl (hb hby at_137) rfl ((if0 _ _).trans (teq hc137_217).1) (by decide) (by decide) k_) ?_
              refine own_Goes.via (T' := T215) (g' := (mkF m 145 #[.val (.int xa), .val (.int xb), .val (.int xc), .val (.int xn), .val (.int v3), .val (.int v4), .val (.int v5), .val (.ref bz_6), .val (.ref bz_12), .val (.ref bz_20), .val (.ref bk_30)] [(.int (0 : Int32))])) (fun t_ k_ => XS.iconst X215.here hx rfl (hb hby at_144) k_) ?_
              exact J145_132 T215 _ X215 T185.heap hh215 N215 sz185 K185 (0 : Int32) (((if_neg hc80_129).trans ((if_neg hc94_157).trans ((if_neg hc108_184).trans ((if_pos hc129_214).trans (if_pos hc137_217)))))).symm
            · refine own_Goes.via (T' := T215) (g' := (mkF m 140 #[.val (.int xa), .val (.int xb), .val (.int xc), .val (.int xn), .val (.int v3), .val (.int v4), .val (.int v5), .val (.ref bz_6), .val (.ref bz_12), .val (.ref bz_20), .val (.ref bk_30)] [])) (fun t_ k_ => XS.ifNo X215.here hx rfl (hb hby at_137) rfl ((if0 _ _).trans (feq hc137_217).1) k_) ?_
              refine own_Goes.via (T' := T215) (g' := (mkF m 141 #[.val (.int xa), .val (.int xb), .val (.int xc), .val (.int xn), .val (.int v3), .val (.int v4), .val (.int v5), .val (.ref bz_6), .val (.ref bz_12), .val (.ref bz_20), .val (.ref bk_30)] [(.int (1 : Int32))])) (fun t_ k_ => XS.iconst X215.here hx rfl (hb hby at_140) k_) ?_
              refine own_Goes.via (T' := T215) (g' := (mkF m 145 #[.val (.int xa), .val (.int xb), .val (.int xc), .val (.int xn), .val (.int v3), .val (.int v4), .val (.int v5), .val (.ref bz_6), .val (.ref bz_12), .val (.ref bz_20), .val (.ref bk_30)] [(.int (1 : Int32))])) (fun t_ k_ => XS.goto X215.here hx rfl (pc0 := 141) (pc' := 145) rfl (hb hby at_141) (by decide) (by decide) k_) ?_
              exact J145_132 T215 _ X215 T185.heap hh215 N215 sz185 K185 (1 : Int32) (((if_neg hc80_129).trans ((if_neg hc94_157).trans ((if_neg hc108_184).trans ((if_pos hc129_214).trans (if_neg hc137_217)))))).symm
          · refine own_Goes.via (T' := T213) (g' := (mkF m 144 #[.val (.int xa), .val (.int xb), .val (.int xc), .val (.int xn), .val (.int v3), .val (.int v4), .val (.int v5), .val (.ref bz_6), .val (.ref bz_12), .val (.ref bz_20), .val (.ref bk_30)] [])) (fun t_ k_ => XS.ifYes X213.here hx rfl (pc0 := 129) (pc' := 144) rfl (hb hby at_129) rfl (own_eqF hc129_214).2 (by decide) (by decide) k_) ?_
            refine own_Goes.via (T' := T213) (g' := (mkF m 145 #[.val (.int xa), .val (.int xb), .val (.int xc), .val (.int xn), .val (.int v3), .val (.int v4), .val (.int v5), .val (.ref bz_6), .val (.ref bz_12), .val (.ref bz_20), .val (.ref bk_30)] [(.int (0 : Int32))])) (fun t_ k_ => XS.iconst X213.here hx rfl (hb hby at_144) k_) ?_
            exact J145_132 T213 _ X213 T185.heap hh213 N213 sz185 K185 (0 : Int32) (((if_neg hc80_129).trans ((if_neg hc94_157).trans ((if_neg hc108_184).trans (if_neg hc129_214))))).symm
  intro T131 L131 X131 h131 e131 N131 sz131 K131 v145_130 hv145_130
  have hfin : v145_130 = 1 := own_pl0_14 hv3 hv4 hv5 hv128 hv145_130 cd22_7 cd22_8 cd30_13 cd30_14 cd38_21 cd38_22 cd49_31 cd49_32 cd49_33 cd71_107
  rw [hfin]
  obtain ⟨fs, hr, hrun, hended, hW, hsame⟩ := X131.leave (v := some (.int 1)) (fun h => by rw [Bd.returns] at h; cases h)
  refine own_Goes.fin (retN X131 hx (t := .boolean) Bd.returns (by simp) (hb hby at_145) hr) hrun hended ?_
  subst hPd
  refine ⟨_, _, rfl, ?_, ⟨_, rfl⟩, hW, hsame.mono (by decide) (by decide)⟩
  show Q0 Z xa xb xc xn s_EMPTY kE h0 n0 _ T131.heap _
  rw [e131]
  exact ⟨rfl, N131⟩
set_option maxRecDepth 65536 in
set_option maxHeartbeats 40000000 in
theorem comes_1 {Post : Tables → Env → Array Value → State → Outcome → State → Prop} (hpost : ∀ tb e args s v u, (limb_1_1.after args s (.returned v) u = true ∧ limb_1_2.after args s (.returned v) u = true ∧ True) → FrameEnd s (.returned v) u (Jvm.fieldLocs frame_1_writes args s ++ Jvm.arrayLocs frame_1_arrays args s ++ Jvm.staticLocs frame_1_statics s) 32 192 → Post tb e args s (.returned v) u) :
    ArmFor flags0 classFile x code maxLocals ret World_1 tables_1 room_1 Calls_1 rest_1 Pre_1 Post := by
  intro l hfl _ _ p e ha hc hk s m args below hf hA hF happ hP
  obtain ⟨hcalls, hrest, hpre⟩ := hP
  obtain ⟨-, -, -, hnamed, -, -, -, hat⟩ := (Spec.applies_iff hf).mp happ
  obtain ⟨hg, hn⟩ := and_e (Cond.before_iff.mp (show (Jvm.Cond.and given_1 narrow_1).before args s = true from hpre))
  obtain ⟨g1, g2⟩ := and_e hg
  obtain ⟨g3, g4⟩ := and_e g2
  obtain ⟨g5, g6⟩ := and_e g4
  obtain ⟨g7, g8⟩ := and_e g6
  obtain ⟨w0, w1, w2, w3, rfl⟩ : ∃ w0 w1 w2 w3 : Value, args = #[w0, w1, w2, w3] := by
    have hs : args.size = 4 := by simpa [Cond.value, given_1] using g1
    obtain ⟨L⟩ := args
    match L, hs with
    | [w0, w1, w2, w3], _ => exact ⟨w0, w1, w2, w3, rfl⟩
  have hw := fun d (hd : d ∈ tables_1) => atoms_spec (ws := Jvm.Cond.code x code maxLocals ret :: tables_1) hat d (List.mem_cons_of_mem _ hd)
  have hfit : Fit s := fun {y c} hc i hi => by
    obtain ⟨ha, rfl⟩ := Array.getElem?_eq_some_iff.mp hc
    have q := List.all_eq_true.mp ((Array.all_eq_true_iff_forall_mem.mp hF) _ (Array.getElem_mem ha)) i (List.mem_range.mpr hi)
    simpa [Array.getElem?_eq_getElem hi] using q
  obtain ⟨i0, ei0⟩ := is_v g3
  obtain rfl : w0 = (.int i0) := Option.some.inj ei0
  obtain ⟨i1, ei1⟩ := is_v g5
  obtain rfl : w1 = (.int i1) := Option.some.inj ei1
  obtain ⟨i2, ei2⟩ := is_v g7
  obtain rfl : w2 = (.int i2) := Option.some.inj ei2
  obtain ⟨i3, ei3⟩ := is_v g8
  obtain rfl : w3 = (.int i3) := Option.some.inj ei3
  obtain ⟨n1, n2⟩ := and_e hn
  obtain ⟨n3, n4⟩ := and_e n2
  obtain ⟨s_EMPTY, ev_EMPTY⟩ := exa_v n3
  have S_EMPTY : Sta s s.heap "com/example/keysweep/keysweep/Key" "EMPTY" "[B" (.ref s_EMPTY) := Sta.start ev_EMPTY (Or.inr ⟨(hw _ (List.mem_of_getElem? (i := 7) rfl)), (hw _ (List.mem_of_getElem? (i := 21) rfl))⟩)
  have E_EMPTY : Exa s s.heap s_EMPTY "[B" := Exa.start ev_EMPTY n3
  obtain ⟨cl_EMPTY, Ar_EMPTY⟩ := Arr.start ev_EMPTY n1
  have sz_EMPTY := own_len ev_EMPTY Ar_EMPTY (own_eqInt n4)
  have A_EMPTY : Arv s s.heap s_EMPTY cl_EMPTY.cls .byte (0 : Int32) [] (.int (0 : Int32)) := Arv.start hfit Ar_EMPTY sz_EMPTY.1 sz_EMPTY.2 (by decide) rfl trivial
  obtain ⟨n, o, h1, h2, h3, _, L, rfl, ⟨rfl, N⟩, hq⟩ := rm0 l s _ hw tables_1 i0 i1 i2 i3 s_EMPTY cl_EMPTY.cls s.heap s.heap.size (Nat.le_refl _) (Old.start s) S_EMPTY E_EMPTY A_EMPTY p e ha hc hk s m _ below hf ((Spec.applies_iff_loose hf).mp happ).1 ⟨rfl, State.Warmed39.refl s, rfl⟩ trivial
  refine ⟨n, _, h1, h2, h3, hpost _ _ _ _ _ _ ⟨Cond.after_iff.mpr rfl, Cond.after_iff.mpr (eq_i res_at (Term.int_eval (1)) rfl), trivial⟩ ⟨hq.1, hq.2.1, (hq.2.2.sift fun y hy => Or.inr (N y hy)).mono (by decide) (by decide)⟩⟩
theorem main_1_1 : Claimed_1_1 := comes_1 fun _ _ _ _ _ _ h hF => ⟨h.1, hF⟩
theorem main_1_2 : Claimed_1_2 := comes_1 fun _ _ _ _ _ _ h hF => ⟨h.2.1, hF⟩
end Jvm.Pilot.@@N@@
namespace Jvm.Pilot.@@N@@
open Jvm Jvm.ClassFile Sem Op Lib Jvm.Free Jvm.Stand Jvm.Pilot.@@N@@.Jvm.D
/-! MADE BY PROGRAM (witnessworld.py) out of the Statement's table words and the real class files: 10 classes; the members and pool entries that the words name. The judged class is class 1, her method 4. -/
namespace start1
open Jvm.ClassFile
def u (s : String) : CpInfo := .utf8 (stringToUtf16 s)
/-- a pool by its gaps: so many unusable entries, then the entry; so many at the end -/
def gap : Nat → List CpInfo → List CpInfo
  | 0, r => r
  | n + 1, r => .unusable :: gap n r
def poolList (es : List (Nat × CpInfo)) (last : Nat) : List CpInfo := es.foldr (fun e r => gap e.1 (e.2 :: r)) (gap last [])
def pool (es : List (Nat × CpInfo)) (last : Nat) : Array CpInfo := ⟨poolList es last⟩
def fileOf (pool : Array CpInfo) (this : Nat) (attrs : Array Attribute := #[]) (ms : Array MethodInfo := #[]) (fl : Nat := 33) (sup : Nat := 0) (ifs : Array Nat := #[]) (fds : Array FieldInfo := #[]) : ClassFile where
  minorVersion := 0
  majorVersion := 65
  constantPool := pool
  accessFlags := fl
  thisClass := this
  superClass := sup
  interfaces := ifs
  fields := fds
  methods := ms
  attributes := attrs
def plain (name : String) (sup : Option ClassId) : Class where
  name := name
  kind := .ordinary
  loader := none
  accessFlags := 33
  super := sup
  interfaces := #[]
  cf := none
  fields := #[]
  methods := #[]
  instanceTypes := #[]
  staticTypes := #[]
  resolved := #[]
  callSites := []
  init := .initialized
  statics := none
  mirror := none

def pool0 : Array CpInfo := pool [(5, u "<init>"), (0, u "()V"), (1, .class_ 10), (1, u "java/lang/Object"), (85, u "clone"), (0, u "()Ljava/lang/Object;")] 26

def k0c0 : Code := { maxStack := 0, maxLocals := 1, code := object_method_1_code, exceptionTable := #[], attributes := #[] }
def k0m0 : Method := { name := "<init>", desc := "()V", sig := { parameters := [], returnType := none }, accessFlags := 1, code := some k0c0 }
def k0m1 : Method := { name := "clone", desc := "()Ljava/lang/Object;", sig := { parameters := [], returnType := some (.object "java/lang/Object") }, accessFlags := 260, code := none }
/-- java/lang/Object -/
def k0 : Class := { plain "java/lang/Object" none with
  accessFlags := 33
  interfaces := #[]
  cf := some (fileOf pool0 8 #[] #[{ accessFlags := 1, nameIndex := 5, descriptorIndex := 6, attributes := #[] }, { accessFlags := 260, nameIndex := 96, descriptorIndex := 97, attributes := #[] }] 33 0 #[] #[])
  fields := #[]
  methods := #[k0m0, k0m1]
  instanceTypes := #[]
  staticTypes := #[]
  resolved := Array.replicate 124 none
  statics := none }

def pool1 : Array CpInfo := pool [(2, .class_ 4), (1, u "java/lang/Object"), (0, u "<init>"), (0, u "()V"), (0, .methodref 8 9), (0, .class_ 10), (0, .nameAndType 11 12), (0, u "com/example/keysweep/keysweep/KeyFirstOfPinLaw"), (0, u "make"), (0, u "(II)[B"), (0, .methodref 14 15), (0, .class_ 16), (0, .nameAndType 17 18), (0, u "com/example/keysweep/keysweep/Key"), (0, u "firstOf"), (0, u "([B[B[B)Lcom/example/keysweep/keysweep/Key;"), (0, .methodref 8 20), (0, .nameAndType 21 22), (0, u "scramble"), (0, u "([B)V"), (0, .methodref 14 24), (0, .nameAndType 25 26), (0, u "row"), (0, u "()[B"), (0, .methodref 8 28), (0, .nameAndType 29 30), (0, u "same"), (0, u "([BII)Z"), (0, .methodref 14 32), (0, .nameAndType 33 26), (0, u "family"), (0, .methodref 14 35), (0, .nameAndType 36 26), (0, u "qualifier"), (0, .methodref 14 38), (0, .nameAndType 39 26), (0, u "visibility"), (0, .methodref 14 41), (0, .nameAndType 42 43), (0, u "timestamp"), (0, u "()J"), (2, .long 9223372036854775807), (1, .methodref 14 49), (0, .nameAndType 50 51), (0, u "isDeleteMarker"), (0, u "()Z"), (5, u "law"), (0, u "(IIII)Z")] 2

def k1m0 : Method := { name := "<init>", desc := "()V", sig := { parameters := [], returnType := none }, accessFlags := 2, code := none }
def k1c1 : Code := { maxStack := 4, maxLocals := 3, code := method_2_code, exceptionTable := #[], attributes := #[] }
def k1m1 : Method := { name := "make", desc := "(II)[B", sig := { parameters := [.int, .int], returnType := some (.array .byte) }, accessFlags := 10, code := some k1c1 }
def k1c2 : Code := { maxStack := 4, maxLocals := 1, code := method_3_code, exceptionTable := #[], attributes := #[] }
def k1m2 : Method := { name := "scramble", desc := "([B)V", sig := { parameters := [(.array .byte)], returnType := none }, accessFlags := 10, code := some k1c2 }
def k1c3 : Code := { maxStack := 3, maxLocals := 3, code := method_4_code, exceptionTable := #[], attributes := #[] }
def k1m3 : Method := { name := "same", desc := "([BII)Z", sig := { parameters := [(.array .byte), .int, .int], returnType := some .boolean }, accessFlags := 10, code := some k1c3 }
def k1c4 : Code := { maxStack := 4, maxLocals := 11, code := code, exceptionTable := #[], attributes := #[] }
def k1m4 : Method := { name := "law", desc := "(IIII)Z", sig := { parameters := [.int, .int, .int, .int], returnType := some .boolean }, accessFlags := 9, code := some k1c4 }
/-- com/example/keysweep/keysweep/KeyFirstOfPinLaw -/
def k1 : Class := { plain "com/example/keysweep/keysweep/KeyFirstOfPinLaw" (some 0) with
  accessFlags := 49
  interfaces := #[]
  cf := some (fileOf pool1 8 #[] #[{ accessFlags := 2, nameIndex := 5, descriptorIndex := 6, attributes := #[] }, { accessFlags := 10, nameIndex := 11, descriptorIndex := 12, attributes := #[] }, { accessFlags := 10, nameIndex := 21, descriptorIndex := 22, attributes := #[] }, { accessFlags := 10, nameIndex := 29, descriptorIndex := 30, attributes := #[] }, { accessFlags := 9, nameIndex := 57, descriptorIndex := 58, attributes := #[] }] 49 2 #[] #[])
  fields := #[]
  methods := #[k1m0, k1m1, k1m2, k1m3, k1m4]
  instanceTypes := #[]
  staticTypes := #[]
  resolved := Array.replicate 61 none
  statics := none }

def pool2 : Array CpInfo := pool [(1, .class_ 2), (0, u "java/lang/Comparable"), (0, .class_ 4), (0, u "java/lang/Object")] 7

/-- java/lang/Comparable -/
def k2 : Class := { plain "java/lang/Comparable" (some 0) with
  accessFlags := 1537
  interfaces := #[]
  cf := some (fileOf pool2 1 #[] #[] 1537 3 #[] #[])
  fields := #[]
  methods := #[]
  instanceTypes := #[]
  staticTypes := #[]
  resolved := Array.replicate 12 none
  statics := none }

def pool3 : Array CpInfo := pool [(1, .methodref 2 3), (0, .class_ 4), (0, .nameAndType 5 6), (0, u "[B"), (0, u "clone"), (0, u "()Ljava/lang/Object;"), (0, .methodref 8 9), (0, .class_ 10), (0, .nameAndType 11 12), (0, u "com/example/keysweep/keysweep/Key"), (0, u "<init>"), (0, u "([B[B[B[BJZ)V"), (0, .methodref 14 15), (0, .class_ 16), (0, .nameAndType 11 17), (0, u "java/lang/Object"), (0, u "()V"), (0, .fieldref 8 19), (0, .nameAndType 20 4), (0, u "row"), (0, .fieldref 8 22), (0, .nameAndType 23 4), (0, u "family"), (0, .fieldref 8 25), (0, .nameAndType 26 4), (0, u "qualifier"), (0, .fieldref 8 28), (0, .nameAndType 29 4), (0, u "visibility"), (0, .fieldref 8 31), (0, .nameAndType 32 33), (0, u "timestamp"), (0, u "J"), (0, .fieldref 8 35), (0, .nameAndType 36 37), (0, u "deleteMarker"), (0, u "Z"), (47, .long 9223372036854775807), (5, .fieldref 8 92), (0, .nameAndType 93 4), (0, u "EMPTY"), (24, .class_ 119), (0, u "java/lang/Comparable"), (3, u "()[B"), (0, u "()J"), (0, u "isDeleteMarker"), (0, u "()Z"), (8, u "firstOf"), (0, u "([B[B[B)Lcom/example/keysweep/keysweep/Key;")] 8

def k3c0 : Code := { maxStack := 3, maxLocals := 8, code := prog_18_method_2_code, exceptionTable := #[], attributes := #[] }
def k3m0 : Method := { name := "<init>", desc := "([B[B[B[BJZ)V", sig := { parameters := [(.array .byte), (.array .byte), (.array .byte), (.array .byte), .long, .boolean], returnType := none }, accessFlags := 2, code := some k3c0 }
def k3c1 : Code := { maxStack := 1, maxLocals := 1, code := prog_18_method_3_code, exceptionTable := #[], attributes := #[] }
def k3m1 : Method := { name := "row", desc := "()[B", sig := { parameters := [], returnType := some (.array .byte) }, accessFlags := 1, code := some k3c1 }
def k3c2 : Code := { maxStack := 1, maxLocals := 1, code := prog_18_method_4_code, exceptionTable := #[], attributes := #[] }
def k3m2 : Method := { name := "family", desc := "()[B", sig := { parameters := [], returnType := some (.array .byte) }, accessFlags := 1, code := some k3c2 }
def k3c3 : Code := { maxStack := 1, maxLocals := 1, code := prog_18_method_5_code, exceptionTable := #[], attributes := #[] }
def k3m3 : Method := { name := "qualifier", desc := "()[B", sig := { parameters := [], returnType := some (.array .byte) }, accessFlags := 1, code := some k3c3 }
def k3c4 : Code := { maxStack := 1, maxLocals := 1, code := prog_18_method_6_code, exceptionTable := #[], attributes := #[] }
def k3m4 : Method := { name := "visibility", desc := "()[B", sig := { parameters := [], returnType := some (.array .byte) }, accessFlags := 1, code := some k3c4 }
def k3c5 : Code := { maxStack := 2, maxLocals := 1, code := prog_18_method_7_code, exceptionTable := #[], attributes := #[] }
def k3m5 : Method := { name := "timestamp", desc := "()J", sig := { parameters := [], returnType := some .long }, accessFlags := 1, code := some k3c5 }
def k3c6 : Code := { maxStack := 1, maxLocals := 1, code := prog_18_method_8_code, exceptionTable := #[], attributes := #[] }
def k3m6 : Method := { name := "isDeleteMarker", desc := "()Z", sig := { parameters := [], returnType := some .boolean }, accessFlags := 1, code := some k3c6 }
def k3c7 : Code := { maxStack := 9, maxLocals := 3, code := prog_18_method_16_code, exceptionTable := #[], attributes := #[] }
def k3m7 : Method := { name := "firstOf", desc := "([B[B[B)Lcom/example/keysweep/keysweep/Key;", sig := { parameters := [(.array .byte), (.array .byte), (.array .byte)], returnType := some (.object "com/example/keysweep/keysweep/Key") }, accessFlags := 8, code := some k3c7 }
/-- com/example/keysweep/keysweep/Key -/
def k3 : Class := { plain "com/example/keysweep/keysweep/Key" (some 0) with
  accessFlags := 49
  interfaces := #[2]
  cf := some (fileOf pool3 8 #[] #[{ accessFlags := 2, nameIndex := 11, descriptorIndex := 12, attributes := #[] }, { accessFlags := 1, nameIndex := 20, descriptorIndex := 123, attributes := #[] }, { accessFlags := 1, nameIndex := 23, descriptorIndex := 123, attributes := #[] }, { accessFlags := 1, nameIndex := 26, descriptorIndex := 123, attributes := #[] }, { accessFlags := 1, nameIndex := 29, descriptorIndex := 123, attributes := #[] }, { accessFlags := 1, nameIndex := 32, descriptorIndex := 124, attributes := #[] }, { accessFlags := 1, nameIndex := 125, descriptorIndex := 126, attributes := #[] }, { accessFlags := 8, nameIndex := 135, descriptorIndex := 136, attributes := #[] }] 49 14 #[118] #[{ accessFlags := 26, nameIndex := 93, descriptorIndex := 4, attributes := #[] }, { accessFlags := 16, nameIndex := 20, descriptorIndex := 4, attributes := #[] }, { accessFlags := 16, nameIndex := 23, descriptorIndex := 4, attributes := #[] }, { accessFlags := 16, nameIndex := 26, descriptorIndex := 4, attributes := #[] }, { accessFlags := 16, nameIndex := 29, descriptorIndex := 4, attributes := #[] }, { accessFlags := 16, nameIndex := 32, descriptorIndex := 33, attributes := #[] }, { accessFlags := 18, nameIndex := 36, descriptorIndex := 37, attributes := #[] }])
  fields := #[{ name := "EMPTY", type := (.array .byte), accessFlags := 26, slot := 0, constantValue := 0 }, { name := "row", type := (.array .byte), accessFlags := 16, slot := 0, constantValue := 0 }, { name := "family", type := (.array .byte), accessFlags := 16, slot := 1, constantValue := 0 }, { name := "qualifier", type := (.array .byte), accessFlags := 16, slot := 2, constantValue := 0 }, { name := "visibility", type := (.array .byte), accessFlags := 16, slot := 3, constantValue := 0 }, { name := "timestamp", type := .long, accessFlags := 16, slot := 4, constantValue := 0 }, { name := "deleteMarker", type := .boolean, accessFlags := 18, slot := 5, constantValue := 0 }]
  methods := #[k3m0, k3m1, k3m2, k3m3, k3m4, k3m5, k3m6, k3m7]
  instanceTypes := #[(.array .byte), (.array .byte), (.array .byte), (.array .byte), .long, .boolean]
  staticTypes := #[(.array .byte)]
  resolved := Array.replicate 145 none
  statics := some 0 }

def pool4 : Array CpInfo := pool [(1, .class_ 2), (0, u "java/lang/Cloneable"), (0, .class_ 4), (0, u "java/lang/Object")] 2

/-- java/lang/Cloneable -/
def k4 : Class := { plain "java/lang/Cloneable" (some 0) with
  accessFlags := 1537
  interfaces := #[]
  cf := some (fileOf pool4 1 #[] #[] 1537 3 #[] #[])
  fields := #[]
  methods := #[]
  instanceTypes := #[]
  staticTypes := #[]
  resolved := Array.replicate 7 none
  statics := none }

def pool5 : Array CpInfo := pool [(1, u "java/io/Serializable"), (0, .class_ 1), (0, u "java/lang/Object"), (0, .class_ 3)] 3

/-- java/io/Serializable -/
def k5 : Class := { plain "java/io/Serializable" (some 0) with
  accessFlags := 1537
  interfaces := #[]
  cf := some (fileOf pool5 2 #[] #[] 1537 4 #[] #[])
  fields := #[]
  methods := #[]
  instanceTypes := #[]
  staticTypes := #[]
  resolved := Array.replicate 8 none
  statics := none }

/-- the primitive byte -/
def k6 : Class := { plain "byte" none with kind := .primitive 'B', accessFlags := 0x411 }
/-- [B -/
def k7 : Class := { plain "[B" (some 0) with kind := .array 6 .byte, interfaces := #[4, 5], accessFlags := 1041 }

/-- the primitive int -/
def k8 : Class := { plain "int" none with kind := .primitive 'I', accessFlags := 0x411 }
/-- [I -/
def k9 : Class := { plain "[I" (some 0) with kind := .array 8 .int, interfaces := #[4, 5], accessFlags := 1041 }

def heap : Heap := #[{ cls := 3, slots := #[.ref 1], vm := .statics 3 },
  { cls := 7, slots := #[], vm := .none }]
def classes : Array Class := #[k0, k1, k2, k3, k4, k5, k6, k7, k8, k9]
def interned : List (Array UInt16 × Addr) := []
def slotsUsed : Nat := 1
def theMethod : MethodId := ⟨1, 4⟩
def args0 : Array Value := #[.int 5, .int 7, .int 7, .int 7]
def aboutOver (below : List Frame) : State where
  vm := { classes := classes, interned := interned.toArray }
  heap := heap
  slotsUsed := slotsUsed
  threads := #[{ frames := .invoking theMethod args0 :: below }]
def below0 : List Frame := [.native { method := ⟨0, 0⟩, args := #[] }]
def about1 : State := aboutOver below0
def p0 : Program := .bare "" "" ""
def e0 : Env := launch0.env 0 0 0
theorem w_frames : about1.frames = Frame.invoking theMethod args0 :: below0 := rfl
set_option maxRecDepth 65536 in
theorem w_args : argsFit about1.vm theMethod args0 = true := by decide +kernel
set_option maxRecDepth 65536 in
theorem w_heap : heapFits about1 = true := by decide +kernel
set_option maxRecDepth 65536 in
theorem w_runnable : about1.curStatus? = some .runnable := by decide +kernel
set_option maxRecDepth 65536 in
theorem w_alone : about1.alone = true := by decide +kernel
set_option maxRecDepth 65536 in
theorem w_named : about1.methodNamed? x = some theMethod := by decide +kernel
set_option maxRecDepth 65536 in
theorem w_hears : about1.hears theMethod below0 = true := by decide +kernel
set_option maxRecDepth 65536 in
theorem w_ripe : about1.ripe theMethod args0 below0 = true := by decide +kernel
theorem w_running : about1.status = .running := rfl
set_option maxRecDepth 65536 in
theorem w_room : about1.hasRoom e0.platform room_1 = true :=
  launch0.hasRoom_least _ room_1 (by decide +kernel) (by decide +kernel) (by decide +kernel) (by decide +kernel) (by decide +kernel) (by decide +kernel)
theorem allAtoms_all (ts : List Jvm.Cond) (a : Array Jvm.Value) (st : Jvm.State) : (allAtoms ts).before a st = ts.all (fun c => c.before a st) := by
  induction ts with
  | nil => rfl
  | cons c t ih =>
    show (Jvm.Cond.and c (allAtoms t)).before a st = _
    rw [Jvm.Cond.before_and, ih, List.all_cons]
def words1 : List Jvm.Cond := Jvm.Cond.code x code maxLocals ret :: tables_1
/-- a 'code' word, met by the world's own term for the bytes: nothing is compared byte by byte -/
theorem code_word {y : MethodName} {bytes : ByteArray} {mx : Nat} {rt : Option FieldType} {a : Array Value} {s : State} {m : MethodId} {meth : Method} {c : Code} (h1 : s.methodNamed? y = some m) (h2 : s.vm.method? m = some meth) (h3 : meth.code = some c) (h4 : c.code = bytes)
    (h5 : (c.maxLocals == mx && c.exceptionTable.isEmpty && decide (c.maxStack ≤ mostOperands) && decide (meth.sig.returnType = rt) && !meth.locks && decide (parseMethodDescriptor y.desc = some meth.sig)) = true) : (Jvm.Cond.code y bytes mx rt).before a s = true := by
  simp only [Bool.and_eq_true, beq_iff_eq, Bool.not_eq_true', decide_eq_true_eq] at h5
  obtain ⟨⟨⟨⟨⟨g1, g2⟩, g3⟩, g4⟩, g5⟩, g6⟩ := h5
  simp [Cond.before, Cond.holds, Cond.value, h1, h2, h3, h4, g1, g2, g3, g4, g5, g6]
def isCode : Jvm.Cond → Bool
  | .code _ _ _ _ => true
  | _ => false
theorem all_split {L : List Jvm.Cond} {P : Jvm.Cond → Bool} (h1 : L.all (fun c => isCode c || P c) = true) (h2 : ∀ c ∈ L.filter isCode, P c = true) : L.all P = true := by
  refine List.all_eq_true.mpr fun c hc => ?_
  have h := List.all_eq_true.mp h1 c hc
  rcases Bool.eq_false_or_eq_true (isCode c) with hi | hi
  · exact h2 c (List.mem_filter.mpr ⟨hc, hi⟩)
  · simpa [hi] using h
set_option maxRecDepth 65536 in
theorem w_c0 : (Jvm.Cond.code x code maxLocals ret).before args0 about1 = true := code_word (m := ⟨1, 4⟩) (meth := k1m4) (c := k1c4) (by decide +kernel) rfl rfl rfl (by decide +kernel)
set_option maxRecDepth 65536 in
theorem w_c1 : (Jvm.Cond.code ({ cls := "com/example/keysweep/keysweep/KeyFirstOfPinLaw", name := "make", desc := "(II)[B" } : Jvm.MethodName) method_2_code (3 : Nat) (Option.some (Jvm.ClassFile.FieldType.array Jvm.ClassFile.FieldType.byte))).before args0 about1 = true := code_word (m := ⟨1, 1⟩) (meth := k1m1) (c := k1c1) (by decide +kernel) rfl rfl rfl (by decide +kernel)
set_option maxRecDepth 65536 in
theorem w_c2 : (Jvm.Cond.code ({ cls := "com/example/keysweep/keysweep/Key", name := "firstOf", desc := "([B[B[B)Lcom/example/keysweep/keysweep/Key;" } : Jvm.MethodName) prog_18_method_16_code (3 : Nat) (Option.some (Jvm.ClassFile.FieldType.object "com/example/keysweep/keysweep/Key"))).before args0 about1 = true := code_word (m := ⟨3, 7⟩) (meth := k3m7) (c := k3c7) (by decide +kernel) rfl rfl rfl (by decide +kernel)
set_option maxRecDepth 65536 in
theorem w_c3 : (Jvm.Cond.code ({ cls := "com/example/keysweep/keysweep/Key", name := "<init>", desc := "([B[B[B[BJZ)V" } : Jvm.MethodName) prog_18_method_2_code (8 : Nat) (Option.none : Option Jvm.ClassFile.FieldType)).before args0 about1 = true := code_word (m := ⟨3, 0⟩) (meth := k3m0) (c := k3c0) (by decide +kernel) rfl rfl rfl (by decide +kernel)
set_option maxRecDepth 65536 in
theorem w_c4 : (Jvm.Cond.code ({ cls := "java/lang/Object", name := "<init>", desc := "()V" } : Jvm.MethodName) object_method_1_code (1 : Nat) (Option.none : Option Jvm.ClassFile.FieldType)).before args0 about1 = true := code_word (m := ⟨0, 0⟩) (meth := k0m0) (c := k0c0) (by decide +kernel) rfl rfl rfl (by decide +kernel)
set_option maxRecDepth 65536 in
theorem w_c5 : (Jvm.Cond.code ({ cls := "com/example/keysweep/keysweep/KeyFirstOfPinLaw", name := "scramble", desc := "([B)V" } : Jvm.MethodName) method_3_code (1 : Nat) (Option.none : Option Jvm.ClassFile.FieldType)).before args0 about1 = true := code_word (m := ⟨1, 2⟩) (meth := k1m2) (c := k1c2) (by decide +kernel) rfl rfl rfl (by decide +kernel)
set_option maxRecDepth 65536 in
theorem w_c6 : (Jvm.Cond.code ({ cls := "com/example/keysweep/keysweep/Key", name := "row", desc := "()[B" } : Jvm.MethodName) prog_18_method_3_code (1 : Nat) (Option.some (Jvm.ClassFile.FieldType.array Jvm.ClassFile.FieldType.byte))).before args0 about1 = true := code_word (m := ⟨3, 1⟩) (meth := k3m1) (c := k3c1) (by decide +kernel) rfl rfl rfl (by decide +kernel)
set_option maxRecDepth 65536 in
theorem w_c7 : (Jvm.Cond.code ({ cls := "com/example/keysweep/keysweep/KeyFirstOfPinLaw", name := "same", desc := "([BII)Z" } : Jvm.MethodName) method_4_code (3 : Nat) (Option.some Jvm.ClassFile.FieldType.boolean)).before args0 about1 = true := code_word (m := ⟨1, 3⟩) (meth := k1m3) (c := k1c3) (by decide +kernel) rfl rfl rfl (by decide +kernel)
set_option maxRecDepth 65536 in
theorem w_c8 : (Jvm.Cond.code ({ cls := "com/example/keysweep/keysweep/Key", name := "family", desc := "()[B" } : Jvm.MethodName) prog_18_method_4_code (1 : Nat) (Option.some (Jvm.ClassFile.FieldType.array Jvm.ClassFile.FieldType.byte))).before args0 about1 = true := code_word (m := ⟨3, 2⟩) (meth := k3m2) (c := k3c2) (by decide +kernel) rfl rfl rfl (by decide +kernel)
set_option maxRecDepth 65536 in
theorem w_c9 : (Jvm.Cond.code ({ cls := "com/example/keysweep/keysweep/Key", name := "qualifier", desc := "()[B" } : Jvm.MethodName) prog_18_method_5_code (1 : Nat) (Option.some (Jvm.ClassFile.FieldType.array Jvm.ClassFile.FieldType.byte))).before args0 about1 = true := code_word (m := ⟨3, 3⟩) (meth := k3m3) (c := k3c3) (by decide +kernel) rfl rfl rfl (by decide +kernel)
set_option maxRecDepth 65536 in
theorem w_c10 : (Jvm.Cond.code ({ cls := "com/example/keysweep/keysweep/Key", name := "visibility", desc := "()[B" } : Jvm.MethodName) prog_18_method_6_code (1 : Nat) (Option.some (Jvm.ClassFile.FieldType.array Jvm.ClassFile.FieldType.byte))).before args0 about1 = true := code_word (m := ⟨3, 4⟩) (meth := k3m4) (c := k3c4) (by decide +kernel) rfl rfl rfl (by decide +kernel)
set_option maxRecDepth 65536 in
theorem w_c11 : (Jvm.Cond.code ({ cls := "com/example/keysweep/keysweep/Key", name := "timestamp", desc := "()J" } : Jvm.MethodName) prog_18_method_7_code (1 : Nat) (Option.some Jvm.ClassFile.FieldType.long)).before args0 about1 = true := code_word (m := ⟨3, 5⟩) (meth := k3m5) (c := k3c5) (by decide +kernel) rfl rfl rfl (by decide +kernel)
set_option maxRecDepth 65536 in
theorem w_c12 : (Jvm.Cond.code ({ cls := "com/example/keysweep/keysweep/Key", name := "isDeleteMarker", desc := "()Z" } : Jvm.MethodName) prog_18_method_8_code (1 : Nat) (Option.some Jvm.ClassFile.FieldType.boolean)).before args0 about1 = true := code_word (m := ⟨3, 6⟩) (meth := k3m6) (c := k3c6) (by decide +kernel) rfl rfl rfl (by decide +kernel)
def codes1 : List Jvm.Cond := [Jvm.Cond.code x code maxLocals ret, Jvm.Cond.code ({ cls := "com/example/keysweep/keysweep/KeyFirstOfPinLaw", name := "make", desc := "(II)[B" } : Jvm.MethodName) method_2_code (3 : Nat) (Option.some (Jvm.ClassFile.FieldType.array Jvm.ClassFile.FieldType.byte)), Jvm.Cond.code ({ cls := "com/example/keysweep/keysweep/Key", name := "firstOf", desc := "([B[B[B)Lcom/example/keysweep/keysweep/Key;" } : Jvm.MethodName) prog_18_method_16_code (3 : Nat) (Option.some (Jvm.ClassFile.FieldType.object "com/example/keysweep/keysweep/Key")), Jvm.Cond.code ({ cls := "com/example/keysweep/keysweep/Key", name := "<init>", desc := "([B[B[B[BJZ)V" } : Jvm.MethodName) prog_18_method_2_code (8 : Nat) (Option.none : Option Jvm.ClassFile.FieldType), Jvm.Cond.code ({ cls := "java/lang/Object", name := "<init>", desc := "()V" } : Jvm.MethodName) object_method_1_code (1 : Nat) (Option.none : Option Jvm.ClassFile.FieldType), Jvm.Cond.code ({ cls := "com/example/keysweep/keysweep/KeyFirstOfPinLaw", name := "scramble", desc := "([B)V" } : Jvm.MethodName) method_3_code (1 : Nat) (Option.none : Option Jvm.ClassFile.FieldType), Jvm.Cond.code ({ cls := "com/example/keysweep/keysweep/Key", name := "row", desc := "()[B" } : Jvm.MethodName) prog_18_method_3_code (1 : Nat) (Option.some (Jvm.ClassFile.FieldType.array Jvm.ClassFile.FieldType.byte)), Jvm.Cond.code ({ cls := "com/example/keysweep/keysweep/KeyFirstOfPinLaw", name := "same", desc := "([BII)Z" } : Jvm.MethodName) method_4_code (3 : Nat) (Option.some Jvm.ClassFile.FieldType.boolean), Jvm.Cond.code ({ cls := "com/example/keysweep/keysweep/Key", name := "family", desc := "()[B" } : Jvm.MethodName) prog_18_method_4_code (1 : Nat) (Option.some (Jvm.ClassFile.FieldType.array Jvm.ClassFile.FieldType.byte)), Jvm.Cond.code ({ cls := "com/example/keysweep/keysweep/Key", name := "qualifier", desc := "()[B" } : Jvm.MethodName) prog_18_method_5_code (1 : Nat) (Option.some (Jvm.ClassFile.FieldType.array Jvm.ClassFile.FieldType.byte)), Jvm.Cond.code ({ cls := "com/example/keysweep/keysweep/Key", name := "visibility", desc := "()[B" } : Jvm.MethodName) prog_18_method_6_code (1 : Nat) (Option.some (Jvm.ClassFile.FieldType.array Jvm.ClassFile.FieldType.byte)), Jvm.Cond.code ({ cls := "com/example/keysweep/keysweep/Key", name := "timestamp", desc := "()J" } : Jvm.MethodName) prog_18_method_7_code (1 : Nat) (Option.some Jvm.ClassFile.FieldType.long), Jvm.Cond.code ({ cls := "com/example/keysweep/keysweep/Key", name := "isDeleteMarker", desc := "()Z" } : Jvm.MethodName) prog_18_method_8_code (1 : Nat) (Option.some Jvm.ClassFile.FieldType.boolean)]
set_option maxRecDepth 65536 in
theorem codes_eq : words1.filter isCode = codes1 := rfl
theorem w_codes : ∀ c ∈ words1.filter isCode, c.before args0 about1 = true := by
  rw [codes_eq]
  intro c hc
  simp only [codes1, List.mem_cons, List.not_mem_nil, or_false] at hc
  rcases hc with rfl | rfl | rfl | rfl | rfl | rfl | rfl | rfl | rfl | rfl | rfl | rfl | rfl
  · exact w_c0
  · exact w_c1
  · exact w_c2
  · exact w_c3
  · exact w_c4
  · exact w_c5
  · exact w_c6
  · exact w_c7
  · exact w_c8
  · exact w_c9
  · exact w_c10
  · exact w_c11
  · exact w_c12
set_option maxRecDepth 65536 in
theorem w_t1 : (words1.take 24).all (fun c => isCode c || c.before args0 about1) = true := by decide +kernel
set_option maxRecDepth 65536 in
theorem w_t2 : ((words1.drop 24).take 24).all (fun c => isCode c || c.before args0 about1) = true := by decide +kernel
set_option maxRecDepth 65536 in
theorem w_t3 : (((words1.drop 24).drop 24).take 24).all (fun c => isCode c || c.before args0 about1) = true := by decide +kernel
set_option maxRecDepth 65536 in
theorem w_t4 : (((words1.drop 24).drop 24).drop 24).all (fun c => isCode c || c.before args0 about1) = true := by decide +kernel
theorem w_tables : (allAtoms (Jvm.Cond.code x code maxLocals ret :: tables_1)).before args0 about1 = true := by
  rw [allAtoms_all]
  show words1.all (fun c => c.before args0 about1) = true
  refine all_split ?_ w_codes
  rw [← List.take_append_drop 24 words1, List.all_append, w_t1, ← List.take_append_drop 24 (words1.drop 24), List.all_append, w_t2, ← List.take_append_drop 24 ((words1.drop 24).drop 24), List.all_append, w_t3, w_t4]
  rfl
set_option maxRecDepth 65536 in
theorem w_case : (Jvm.Cond.and given_1 narrow_1).before args0 about1 = true := by decide +kernel
theorem w_applies : (headSpec (Jvm.Cond.code x code maxLocals ret :: tables_1) room_1).applies x e0.platform about1 = true :=
  (Spec.applies_iff w_frames).mpr ⟨w_running, w_runnable, w_alone, w_named, w_hears, w_ripe, w_room, w_tables⟩
theorem atStart : AtStart classFile x code maxLocals ret World_1 tables_1 room_1 Calls_1 rest_1 Pre_1 launch0 p0 e0 about1 theMethod args0 below0 :=
  ⟨lists_1, trivial, launch0.admits_env _ _ _, launch0.least_env, fairChoices_fair.cas, fairChoices_fair.clock, w_frames, w_args, w_heap, w_applies, trivial, trivial, w_case⟩
end start1
theorem witness_1 : WitnessClaimed_1 := ⟨start1.p0, start1.e0, start1.about1, start1.theMethod, start1.args0, start1.below0, start1.atStart⟩
end Jvm.Pilot.@@N@@
