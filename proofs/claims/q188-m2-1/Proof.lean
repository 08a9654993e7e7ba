import JvmDerived
import JvmDerived.Pilot.@@N@@Statement
import JvmDerived.Pilot.@@N@@Code
set_option linter.unusedVariables false
set_option linter.unusedSimpArgs false
@@BLOCK:NumsL.lean.txt@@
namespace Jvm.Pilot.@@N@@
open Jvm Jvm.ClassFile Sem Op Lib Jvm.Free Jvm.Stand Jvm.LawKit Jvm.RoadKit Bundle Jvm.Pilot.@@N@@.Jvm.D
/-- from the state T with the frame g the run comes to an end that P speaks of -/
def own_Goes (tb : Tables) (e : Env) (below : List Frame) (P : Outcome → State → Prop) (T : State) (g : JFrame) : Prop :=
  ∃ s₂ o, Steps tb e below (T.setTop g) s₂ ∧ s₂.status = .running ∧ Ended s₂ below o ∧ P o s₂
theorem own_Goes.via {tb : Tables} {e : Env} {below : List Frame} {P : Outcome → State → Prop} {T T' : State} {g g' : JFrame} (h : ∀ t, Steps tb e below (T'.setTop g') t → Steps tb e below (T.setTop g) t) (k : own_Goes tb e below P T' g') : own_Goes tb e below P T g := by
  obtain ⟨s₂, o, a, b⟩ := k
  exact ⟨s₂, o, h _ a, b⟩
theorem own_Goes.fin {tb : Tables} {e : Env} {below : List Frame} {P : Outcome → State → Prop} {T s₂ : State} {g : JFrame} {o : Outcome} (h1 : Steps tb e below (T.setTop g) s₂) (h2 : s₂.status = .running) (h3 : Ended s₂ below o) (h4 : P o s₂) : own_Goes tb e below P T g := ⟨s₂, o, h1, h2, h3, h4⟩
theorem own_ltT {x y : Int64} (h : x < y) : ifCond.holds .lt (lcmpW x y) = true ∧ ifCond.holds .ge (lcmpW x y) = false := by
  have q : lcmpW x y < 0 := by rw [lcW]; exact (lc_lt x y).mpr h
  exact ⟨(if0 _ _).trans (tlt q).1, (if0 _ _).trans (tlt q).2.1⟩
theorem own_ltF {x y : Int64} (h : ¬ x < y) : ifCond.holds .lt (lcmpW x y) = false ∧ ifCond.holds .ge (lcmpW x y) = true := by
  have q : ¬ lcmpW x y < 0 := by rw [lcW]; exact fun z => h ((lc_lt x y).mp z)
  exact ⟨(if0 _ _).trans (flt q).1, (if0 _ _).trans (flt q).2.1⟩
theorem own_gtT {x y : Int64} (h : y < x) : ifCond.holds .gt (lcmpW x y) = true ∧ ifCond.holds .le (lcmpW x y) = false := by
  have q : 0 < lcmpW x y := by rw [lcW]; exact (lc_gt x y).mpr h
  exact ⟨(if0 _ _).trans (tlt q).2.2.1, (if0 _ _).trans (tlt q).2.2.2⟩
theorem own_gtF {x y : Int64} (h : ¬ y < x) : ifCond.holds .gt (lcmpW x y) = false ∧ ifCond.holds .le (lcmpW x y) = true := by
  have q : ¬ 0 < lcmpW x y := by rw [lcW]; exact fun z => h ((lc_gt x y).mp z)
  exact ⟨(if0 _ _).trans (flt q).2.2.1, (if0 _ _).trans (flt q).2.2.2⟩
theorem own_eqT {x y : Int64} (h : x = y) : ifCond.holds .eq (lcmpW x y) = true ∧ ifCond.holds .ne (lcmpW x y) = false := by
  have q : lcmpW x y = 0 := by rw [lcW]; exact (lc_eq x y).mpr h
  exact ⟨(if0 _ _).trans (teq q).1, (if0 _ _).trans (teq q).2⟩
theorem own_eqF {x y : Int64} (h : ¬ x = y) : ifCond.holds .eq (lcmpW x y) = false ∧ ifCond.holds .ne (lcmpW x y) = true := by
  have q : ¬ lcmpW x y = 0 := by rw [lcW]; exact fun z => h ((lc_eq x y).mp z)
  exact ⟨(if0 _ _).trans (feq q).1, (if0 _ _).trans (feq q).2⟩
theorem own_lrem (x y : Int64) : x - (x / y) * y = x % y := Int64.toInt_inj.mp (by rw [Jvm.Kit.i64_rem, Int64.toInt_mod])
theorem own_ushr (x : Int64) (n : UInt64) {k : Nat} (hk : (n.toBitVec % 64).toNat = k) : ((x.toUInt64 >>> n).toInt64).toBitVec = x.toBitVec >>> k := by
  subst hk
  show (x.toUInt64 >>> n).toBitVec = _
  rw [UInt64.toBitVec_shiftRight]
  rfl
theorem own_xor5 (x a b : BitVec 64) : ((x ^^^ a) ^^^ (a ^^^ b)) ^^^ b = x := by
  rw [BitVec.xor_assoc (x ^^^ a), BitVec.xor_assoc a, BitVec.xor_self, BitVec.xor_zero, BitVec.xor_assoc, BitVec.xor_self, BitVec.xor_zero]
theorem own_bx2 (x : BitVec 64) (k : Nat) (h : 64 ≤ k + k) : (x ^^^ x >>> k) ^^^ (x ^^^ x >>> k) >>> k = x := by
  rw [BitVec.ushiftRight_xor_distrib, ← BitVec.shiftRight_add, BitVec.ushiftRight_eq_zero h, BitVec.xor_zero, BitVec.xor_assoc, BitVec.xor_self, BitVec.xor_zero]
theorem own_bx3 (x : BitVec 64) (k l : Nat) (hl : l = k + k) (h : 64 ≤ k + l) : ((x ^^^ x >>> k) ^^^ (x ^^^ x >>> k) >>> k) ^^^ (x ^^^ x >>> k) >>> l = x := by
  rw [BitVec.ushiftRight_xor_distrib, BitVec.ushiftRight_xor_distrib, ← BitVec.shiftRight_add, ← BitVec.shiftRight_add, BitVec.ushiftRight_eq_zero h, BitVec.xor_zero, ← hl, own_xor5]
theorem d1_0 : decode prog_7_method_3_code 0 = .ok (.lload_n 0, 1) := by decide +kernel
theorem d1_1 : decode prog_7_method_3_code 1 = .ok (.iload_n 2, 1) := by decide +kernel
theorem d1_2 : decode prog_7_method_3_code 2 = .ok (.lushr, 1) := by decide +kernel
theorem d1_3 : decode prog_7_method_3_code 3 = .ok (.lconst 1, 1) := by decide +kernel
theorem d1_4 : decode prog_7_method_3_code 4 = .ok (.land, 1) := by decide +kernel
theorem d1_5 : decode prog_7_method_3_code 5 = .ok (.lconst 0, 1) := by decide +kernel
theorem d1_6 : decode prog_7_method_3_code 6 = .ok (.lcmp, 1) := by decide +kernel
theorem d1_7 : decode prog_7_method_3_code 7 = .ok (.ifCond .eq 7, 3) := by decide +kernel
theorem d1_10 : decode prog_7_method_3_code 10 = .ok (.iconst 1, 1) := by decide +kernel
theorem d1_11 : decode prog_7_method_3_code 11 = .ok (.goto 4, 3) := by decide +kernel
theorem d1_14 : decode prog_7_method_3_code 14 = .ok (.iconst 0, 1) := by decide +kernel
theorem d1_15 : decode prog_7_method_3_code 15 = .ok (.ireturn, 1) := by decide +kernel
theorem pn_1 : plainName "com/example/wildsuit/wildsuit/game/CardSet" = true := by first | (simp [plainName, overriddenIn]; done) | decide +kernel
theorem ef_1 (m : MethodId) (xs : Int64) (xc : Int32) : entryFrame m #[(.long xs), (.int xc)] 3 = mkF m 0 #[.val (.long xs), .second, .val (.int xc)] [] := by first | (simp [entryFrame, mkF, argsToLocals, Value.category]; done) | rfl
def own_f1 (xs : Int64) (xc : Int32) : Int32 := (if (((xs.toUInt64 >>> (xc &&& 0x3f).toInt64.toUInt64).toInt64) &&& (1 : Int64)) = (0 : Int64) then (0 : Int32) else (1 : Int32))
def Q1 (Z : State) (xs : Int64) (xc : Int32) (h0 : Heap) (n0 : Nat) (v : Option Value) (h : Heap) (L : List Loc) : Prop := v = some (.int (own_f1 xs xc)) ∧ Fr n0 L ∧ h = h0
set_option maxRecDepth 65536 in
set_option maxHeartbeats 40000000 in
theorem rm1 (l : Launch) (Z : State) (a0 : Array Value) (hw : ∀ d ∈ tables_1, d.before a0 Z = true) (ws : List Jvm.Cond) (xs : Int64) (xc : Int32) (h0 : Heap) (n0 : Nat) (Z0 : n0 ≤ h0.size) :
    MetFree l (⟨"com/example/wildsuit/wildsuit/game/CardSet", "contains", "(JI)Z"⟩ : MethodName) (head1 (Jvm.Cond.code (⟨"com/example/wildsuit/wildsuit/game/CardSet", "contains", "(JI)Z"⟩ : MethodName) prog_7_method_3_code 3 (some .boolean) :: ws) ({ frames := 0, cells := 0, slots := 0, locals := 0 } : Room)) (fun a U => a = #[(.long xs), (.int xc)] ∧ Z.Warmed39 U.vm ∧ U.heap = h0) (fun _ _ _ _ _ => True) (fun _ U o U' => ∃ v L, o = .returned v ∧ Q1 Z xs xc h0 n0 v U'.heap L ∧ FrameEnd U o U' L ({ frames := 0, cells := 0, slots := 0, locals := 0 } : Room).cells ({ frames := 0, cells := 0, slots := 0, locals := 0 } : Room).slots) := by
  refine MetFree.of_bodySF (plainFor_of_name pn_1) hisR ?_
  intro p e s m args below meth c s₁ Bd hml0 hP hK
  obtain ⟨rfl, hZ, hh⟩ := hP
  have hx := Bd.exec
  have hby := Bd.bytes
  have hml : c.maxLocals = 3 := hml0
  have hown : s.vm.findClass "com/example/wildsuit/wildsuit/game/CardSet" = some m.cls := findClass_of_methodNamed Bd.named
  have hnm := (name_of_methodNamed Bd.named Bd.method).1
  have X0 : Stand p l e ({ frames := 0, cells := 0, slots := 0, locals := 0 } : Room) s m #[(.long xs), (.int xc)] below meth c s₁ [] 0 0 := Stand.of_body Bd
  have e0 : s₁.heap = h0 := by rw [← hh, Bd.state]; rfl
  have N0 := Fr.nil n0
  suffices G : own_Goes p.tables e below (fun o U' => ∃ v L, o = .returned v ∧ Q1 Z xs xc h0 n0 v U'.heap L ∧ FrameEnd s o U' L ({ frames := 0, cells := 0, slots := 0, locals := 0 } : Room).cells ({ frames := 0, cells := 0, slots := 0, locals := 0 } : Room).slots) s₁ (mkF m 0 #[.val (.long xs), .second, .val (.int xc)] []) by
    obtain ⟨t2_, o2_, z1_, z2_, z3_, z4_⟩ := G
    exact ⟨t2_, o2_, castTop (ef_1 m xs xc) z1_, z2_, z3_, z4_⟩
  generalize hPd : (fun (o : Outcome) (U' : State) => ∃ v L, o = .returned v ∧ Q1 Z xs xc h0 n0 v U'.heap L ∧ FrameEnd s o U' L ({ frames := 0, cells := 0, slots := 0, locals := 0 } : Room).cells ({ frames := 0, cells := 0, slots := 0, locals := 0 } : Room).slots) = P
  refine own_Goes.via (T' := s₁) (g' := (mkF m 1 #[.val (.long xs), .second, .val (.int xc)] [(.long xs)])) (fun t_ k_ => XS.lloadN X0.here hx rfl (hb hby d1_0) rfl k_) ?_
  refine own_Goes.via (T' := s₁) (g' := (mkF m 2 #[.val (.long xs), .second, .val (.int xc)] [(.int xc), (.long xs)])) (fun t_ k_ => XS.iloadN X0.here hx rfl (hb hby d1_1) rfl k_) ?_
  refine own_Goes.via (T' := s₁) (g' := (mkF m 3 #[.val (.long xs), .second, .val (.int xc)] [(.long ((xs.toUInt64 >>> (xc &&& 0x3f).toInt64.toUInt64).toInt64))])) (fun t_ k_ => XS.lushr X0.here hx rfl (hb hby d1_2) rfl k_) ?_
  refine own_Goes.via (T' := s₁) (g' := (mkF m 4 #[.val (.long xs), .second, .val (.int xc)] [(.long (1 : Int64)), (.long ((xs.toUInt64 >>> (xc &&& 0x3f).toInt64.toUInt64).toInt64))])) (fun t_ k_ => XS.lconst X0.here hx rfl (hb hby d1_3) k_) ?_
  refine own_Goes.via (T' := s₁) (g' := (mkF m 5 #[.val (.long xs), .second, .val (.int xc)] [(.long (((xs.toUInt64 >>> (xc &&& 0x3f).toInt64.toUInt64).toInt64) &&& (1 : Int64)))])) (fun t_ k_ => XS.land X0.here hx rfl (hb hby d1_4) rfl k_) ?_
  refine own_Goes.via (T' := s₁) (g' := (mkF m 6 #[.val (.long xs), .second, .val (.int xc)] [(.long (0 : Int64)), (.long (((xs.toUInt64 >>> (xc &&& 0x3f).toInt64.toUInt64).toInt64) &&& (1 : Int64)))])) (fun t_ k_ => XS.lconst X0.here hx rfl (hb hby d1_5) k_) ?_
  refine own_Goes.via (T' := s₁) (g' := (mkF m 7 #[.val (.long xs), .second, .val (.int xc)] [(.int (lcmpW (((xs.toUInt64 >>> (xc &&& 0x3f).toInt64.toUInt64).toInt64) &&& (1 : Int64)) (0 : Int64)))])) (fun t_ k_ => XS.lcmp X0.here hx rfl (hb hby d1_6) rfl k_) ?_
  suffices J15_4 : ∀ (v15_2 : Int32) (hv15_2 : v15_2 = (if (((xs.toUInt64 >>> (xc &&& 0x3f).toInt64.toUInt64).toInt64) &&& (1 : Int64)) = (0 : Int64) then (0 : Int32) else (1 : Int32))), own_Goes p.tables e below P s₁ (mkF m 15 #[.val (.long xs), .second, .val (.int xc)] [(.int v15_2)]) by
    by_cases hc7_1 : (((xs.toUInt64 >>> (xc &&& 0x3f).toInt64.toUInt64).toInt64) &&& (1 : Int64)) = (0 : Int64)
    · refine own_Goes.via (T' := s₁) (g' := (mkF m 14 #[.val (.long xs), .second, .val (.int xc)] [])) (fun t_ k_ => XS.ifYes X0.here hx rfl (pc0 := 7) (pc' := 14) rfl (hb hby d1_7) rfl (own_eqT hc7_1).1 (by decide) (by decide) k_) ?_
      refine own_Goes.via (T' := s₁) (g' := (mkF m 15 #[.val (.long xs), .second, .val (.int xc)] [(.int (0 : Int32))])) (fun t_ k_ => XS.iconst X0.here hx rfl (hb hby d1_14) k_) ?_
      exact J15_4 (0 : Int32) ((if_pos hc7_1)).symm
    · refine own_Goes.via (T' := s₁) (g' := (mkF m 10 #[.val (.long xs), .second, .val (.int xc)] [])) (fun t_ k_ => XS.ifNo X0.here hx rfl (hb hby d1_7) rfl (own_eqF hc7_1).1 k_) ?_
      refine own_Goes.via (T' := s₁) (g' := (mkF m 11 #[.val (.long xs), .second, .val (.int xc)] [(.int (1 : Int32))])) (fun t_ k_ => XS.iconst X0.here hx rfl (hb hby d1_10) k_) ?_
      refine own_Goes.via (T' := s₁) (g' := (mkF m 15 #[.val (.long xs), .second, .val (.int xc)] [(.int (1 : Int32))])) (fun t_ k_ => XS.goto X0.here hx rfl (pc0 := 11) (pc' := 15) rfl (hb hby d1_11) (by decide) (by decide) k_) ?_
      exact J15_4 (1 : Int32) ((if_neg hc7_1)).symm
  intro v15_2 hv15_2
  have hnar5 : nar .boolean v15_2 = v15_2 := by rw [hv15_2]; (repeat' split) <;> rfl
  obtain ⟨fs, hr, hrun, hended, hW, hsame⟩ := X0.leave (v := some (.int v15_2)) (fun h => by rw [Bd.returns] at h; cases h)
  refine own_Goes.fin (retN X0 hx (t := .boolean) Bd.returns (by simp) (hb hby d1_15) (by rw [hnar5]; exact hr)) hrun hended ?_
  subst hPd
  refine ⟨_, _, rfl, ?_, ⟨_, rfl⟩, hW, hsame.mono (by decide) (by decide)⟩
  show Q1 Z xs xc h0 n0 _ s₁.heap _
  rw [e0]
  exact ⟨(by subst hv15_2; first | rfl | (simp only [own_f1])), N0, rfl⟩
theorem own_card {x v : Int32} (hv : v = ((x &&& (2147483647 : Int32)) % (52 : Int32))) : ∃ n : Fin 64, v = Int32.ofNat n.1 ∧ n.1 < 52 := by
  have m := Jvm.Kit.i32_mask x (2147483647 : Int32) (k := 31) (by decide) (by decide)
  have t : (52 : Int32).toInt = 52 := rfl
  have r : ((x &&& (2147483647 : Int32)) % (52 : Int32)).toInt = (x &&& (2147483647 : Int32)).toInt % 52 := Jvm.Kit.i32_rem_nonneg (by omega)
  rw [← hv] at r
  have h : v.toInt.toNat < 52 := by omega
  refine ⟨⟨v.toInt.toNat, by omega⟩, Int32.toInt_inj.mp ?_, h⟩
  show v.toInt = (Int32.ofNat v.toInt.toNat).toInt
  rw [Int32.toInt_ofNat_of_lt (by omega)]
  omega
theorem own_bit : ∀ n : Fin 64, ((1 : Int64) <<< (Int32.ofNat n.1 &&& 0x3f).toInt64).toBitVec = BitVec.twoPow 64 n.1 := by decide
theorem own_sh : ∀ n : Fin 64, ((Int32.ofNat n.1 &&& 0x3f).toInt64.toUInt64.toBitVec % 64).toNat = n.1 := by decide
theorem own_has (s : Int64) (n : Fin 64) : own_f1 s (Int32.ofNat n.1) = (if s.toBitVec.getLsbD n.1 = true then (1 : Int32) else (0 : Int32)) := by
  have e : ((((s.toUInt64 >>> (Int32.ofNat n.1 &&& 0x3f).toInt64.toUInt64).toInt64) &&& (1 : Int64)) = (0 : Int64)) ↔ s.toBitVec.getLsbD n.1 = false := by
    rw [← Int64.toBitVec_inj]
    show ((s.toUInt64 >>> (Int32.ofNat n.1 &&& 0x3f).toInt64.toUInt64).toInt64).toBitVec &&& BitVec.twoPow 64 0 = 0#64 ↔ _
    rw [own_ushr s _ (own_sh n), BitVec.and_twoPow, BitVec.getLsbD_ushiftRight, Nat.add_zero]
    cases s.toBitVec.getLsbD n.1 <;> decide
  unfold own_f1
  cases h : s.toBitVec.getLsbD n.1
  · rw [if_pos (e.mpr h)]; rfl
  · rw [if_neg (fun q => by rw [e.mp q] at h; cases h)]; rfl
theorem own_hold (s : Int64) (n : Fin 64) : (s &&& ((1 : Int64) <<< (Int32.ofNat n.1 &&& 0x3f).toInt64)) = (0 : Int64) ↔ s.toBitVec.getLsbD n.1 = false := by
  rw [← Int64.toBitVec_inj, Int64.toBitVec_and, own_bit, BitVec.and_twoPow]
  show _ = 0#64 ↔ _
  cases h : s.toBitVec.getLsbD n.1
  · simp
  · simp only [if_true, Bool.true_eq_false, iff_false]
    intro q
    have q' := congrArg (fun z => z.getLsbD n.1) q
    simp [BitVec.getLsbD_twoPow] at q'
theorem pn_0 : plainName "com/example/wildsuit/wildsuit/game/CardSetContainsPinLaw" = true := by first | (simp [plainName, overriddenIn]; done) | decide +kernel
theorem pd_0_0 : parseMethodDescriptor "(JI)Z" = some ⟨[.long, .int], some .boolean⟩ := by decide +kernel
theorem ef_0 (m : MethodId) (xs : Int64) (xa : Int32) (xb : Int32) : entryFrame m #[(.long xs), (.int xa), (.int xb)] maxLocals = mkF m 0 #[.val (.long xs), .second, .val (.int xa), .val (.int xb), .unset, .unset, .unset, .unset, .unset, .unset, .unset, .unset] [] := by first | (simp [entryFrame, mkF, argsToLocals, Value.category, maxLocals]; done) | rfl
def Q0 (Z : State) (xs : Int64) (xa : Int32) (xb : Int32) (h0 : Heap) (n0 : Nat) (v : Option Value) (h : Heap) (L : List Loc) : Prop := v = some (.int 1) ∧ Fr n0 L
set_option maxRecDepth 65536 in
theorem own_pl0_0 {xs : Int64} {xa : Int32} {xb : Int32} {v2 : Int32} {v4 : Int32} {v5 : Int64} {v38_7 : Int32} {v11 : Int32} {v14 : Int32} (hv2 : v2 = ((xa &&& (2147483647 : Int32)) % (52 : Int32))) (hv4 : v4 = ((xb &&& (2147483647 : Int32)) % (52 : Int32))) (hv5 : v5 = ((1 : Int64) <<< (v2 &&& 0x3f).toInt64)) (hv38_7 : v38_7 = (if (xs &&& v5) = (0 : Int64) then (0 : Int32) else (1 : Int32))) (hv11 : v11 = (own_f1 xs v2)) (hv14 : v14 = (own_f1 (xs ||| v5) v2)) (hc48_12 : v11 = v38_7) (hc62_15 : v14 = (0 : Int32)) (nz6_1 : (52 : Int32) ≠ (0 : Int32)) (nz15_3 : (52 : Int32) ≠ (0 : Int32)) : False := by
  obtain ⟨n, rfl, hn⟩ := own_card hv2
  rw [hv14, own_has, hv5, Int64.toBitVec_or, own_bit, BitVec.getLsbD_or, BitVec.getLsbD_twoPow] at hc62_15
  simp at hc62_15
set_option maxRecDepth 65536 in
theorem own_pl0_1 {xs : Int64} {xa : Int32} {xb : Int32} {v2 : Int32} {v4 : Int32} {v5 : Int64} {v38_7 : Int32} {v11 : Int32} {v14 : Int32} {v17 : Int32} {v101_20 : Int32} {v24 : Int32} {v136_26 : Int32} {v150_31 : Int32} (hv2 : v2 = ((xa &&& (2147483647 : Int32)) % (52 : Int32))) (hv4 : v4 = ((xb &&& (2147483647 : Int32)) % (52 : Int32))) (hv5 : v5 = ((1 : Int64) <<< (v2 &&& 0x3f).toInt64)) (hv38_7 : v38_7 = (if (xs &&& v5) = (0 : Int64) then (0 : Int32) else (1 : Int32))) (hv11 : v11 = (own_f1 xs v2)) (hv14 : v14 = (own_f1 (xs ||| v5) v2)) (hv17 : v17 = (own_f1 (xs &&& (v5 ^^^ (-1 : Int64))) v2)) (hv101_20 : v101_20 = (if (xs &&& ((1 : Int64) <<< (v4 &&& 0x3f).toInt64)) = (0 : Int64) then (0 : Int32) else (1 : Int32))) (hv24 : v24 = (own_f1 (xs ^^^ v5) v4)) (hv136_26 : v136_26 = (if v2 = v4 then (if v101_20 = (0 : Int32) then (1 : Int32) else (0 : Int32)) else v101_20)) (hv150_31 : v150_31 = (if v24 = v136_26 then (1 : Int32) else (0 : Int32))) (hc48_12 : v11 = v38_7) (hc62_15 : ¬ (v14 = (0 : Int32))) (hc80_18 : v17 = (0 : Int32)) (nz6_1 : (52 : Int32) ≠ (0 : Int32)) (nz15_3 : (52 : Int32) ≠ (0 : Int32)) : v150_31 = 1 := by
  obtain ⟨n, rfl, hn⟩ := own_card hv2
  obtain ⟨d, rfl, hd⟩ := own_card hv4
  have e1 : v101_20 = (if xs.toBitVec.getLsbD d.1 = true then (1 : Int32) else (0 : Int32)) := by
    rw [hv101_20]
    cases h : xs.toBitVec.getLsbD d.1
    · have hq := (own_hold xs d).mpr h
      rw [if_pos hq]; rfl
    · have hq : ¬ (xs &&& ((1 : Int64) <<< (Int32.ofNat d.1 &&& 0x3f).toInt64)) = (0 : Int64) := fun q => by rw [(own_hold xs d).mp q] at h; cases h
      rw [if_neg hq]; rfl
  have e2 : (Int32.ofNat n.1 = Int32.ofNat d.1) ↔ n.1 = d.1 := by
    constructor
    · intro q
      have q' := congrArg Int32.toInt q
      rw [Int32.toInt_ofNat_of_lt (by omega), Int32.toInt_ofNat_of_lt (by omega)] at q'
      omega
    · intro q; rw [q]
  rw [hv150_31, hv24, own_has, hv5, Int64.toBitVec_xor, own_bit, BitVec.getLsbD_xor, BitVec.getLsbD_twoPow, hv136_26, e1]
  by_cases h : n.1 = d.1
  · rw [if_pos (e2.mpr h)]
    cases xs.toBitVec.getLsbD d.1 <;> simp [h]
  · rw [if_neg (fun q => h (e2.mp q))]
    cases xs.toBitVec.getLsbD d.1 <;> simp [h]
set_option maxRecDepth 65536 in
theorem own_pl0_2 {xs : Int64} {xa : Int32} {xb : Int32} {v2 : Int32} {v4 : Int32} {v5 : Int64} {v38_7 : Int32} {v11 : Int32} {v14 : Int32} {v17 : Int32} (hv2 : v2 = ((xa &&& (2147483647 : Int32)) % (52 : Int32))) (hv4 : v4 = ((xb &&& (2147483647 : Int32)) % (52 : Int32))) (hv5 : v5 = ((1 : Int64) <<< (v2 &&& 0x3f).toInt64)) (hv38_7 : v38_7 = (if (xs &&& v5) = (0 : Int64) then (0 : Int32) else (1 : Int32))) (hv11 : v11 = (own_f1 xs v2)) (hv14 : v14 = (own_f1 (xs ||| v5) v2)) (hv17 : v17 = (own_f1 (xs &&& (v5 ^^^ (-1 : Int64))) v2)) (hc48_12 : v11 = v38_7) (hc62_15 : ¬ (v14 = (0 : Int32))) (hc80_18 : ¬ (v17 = (0 : Int32))) (nz6_1 : (52 : Int32) ≠ (0 : Int32)) (nz15_3 : (52 : Int32) ≠ (0 : Int32)) : False := by
  obtain ⟨n, rfl, hn⟩ := own_card hv2
  apply hc80_18
  rw [hv17, own_has, hv5, Int64.toBitVec_and, Int64.toBitVec_xor, own_bit, BitVec.getLsbD_and, BitVec.getLsbD_xor, BitVec.getLsbD_twoPow]
  rw [if_neg]
  have e : (-1 : Int64).toBitVec = BitVec.allOnes 64 := by decide
  rw [e, BitVec.getLsbD_allOnes]
  simp
set_option maxRecDepth 65536 in
theorem own_pl0_3 {xs : Int64} {xa : Int32} {xb : Int32} {v2 : Int32} {v4 : Int32} {v5 : Int64} {v38_7 : Int32} {v11 : Int32} (hv2 : v2 = ((xa &&& (2147483647 : Int32)) % (52 : Int32))) (hv4 : v4 = ((xb &&& (2147483647 : Int32)) % (52 : Int32))) (hv5 : v5 = ((1 : Int64) <<< (v2 &&& 0x3f).toInt64)) (hv38_7 : v38_7 = (if (xs &&& v5) = (0 : Int64) then (0 : Int32) else (1 : Int32))) (hv11 : v11 = (own_f1 xs v2)) (hc48_12 : ¬ (v11 = v38_7)) (nz6_1 : (52 : Int32) ≠ (0 : Int32)) (nz15_3 : (52 : Int32) ≠ (0 : Int32)) : False := by
  obtain ⟨n, rfl, hn⟩ := own_card hv2
  apply hc48_12
  rw [hv11, hv38_7, hv5, own_has]
  cases h : xs.toBitVec.getLsbD n.1
  · have hq := (own_hold xs n).mpr h
    rw [if_pos hq]; rfl
  · have hq : ¬ (xs &&& ((1 : Int64) <<< (Int32.ofNat n.1 &&& 0x3f).toInt64)) = (0 : Int64) := fun q => by rw [(own_hold xs n).mp q] at h; cases h
    rw [if_neg hq]; rfl
set_option maxRecDepth 65536 in
set_option maxHeartbeats 40000000 in
theorem rm0 (l : Launch) (Z : State) (a0 : Array Value) (hw : ∀ d ∈ tables_1, d.before a0 Z = true) (ws : List Jvm.Cond) (xs : Int64) (xa : Int32) (xb : Int32) (h0 : Heap) (n0 : Nat) (Z0 : n0 ≤ h0.size) :
    MetFree l x (head1 (Jvm.Cond.code x code maxLocals ret :: ws) room_1) (fun a U => a = #[(.long xs), (.int xa), (.int xb)] ∧ Z.Warmed39 U.vm ∧ U.heap = h0) (fun _ _ _ _ _ => True) (fun _ U o U' => ∃ v L, o = .returned v ∧ Q0 Z xs xa xb h0 n0 v U'.heap L ∧ FrameEnd U o U' L 0 0) := by
  refine MetFree.of_bodySF (plainFor_of_name pn_0) hisR ?_
  intro p e s m args below meth c s₁ Bd hml0 hP hK
  obtain ⟨rfl, hZ, hh⟩ := hP
  have hx := Bd.exec
  have hby := Bd.bytes
  have hml : c.maxLocals = 12 := hml0
  have hown : s.vm.findClass "com/example/wildsuit/wildsuit/game/CardSetContainsPinLaw" = some m.cls := findClass_of_methodNamed Bd.named
  have hnm := (name_of_methodNamed Bd.named Bd.method).1
  have X0 : Stand p l e room_1 s m #[(.long xs), (.int xa), (.int xb)] below meth c s₁ [] 0 0 := Stand.of_body Bd
  have e0 : s₁.heap = h0 := by rw [← hh, Bd.state]; rfl
  have N0 := Fr.nil n0
  suffices G : own_Goes p.tables e below (fun o U' => ∃ v L, o = .returned v ∧ Q0 Z xs xa xb h0 n0 v U'.heap L ∧ FrameEnd s o U' L 0 0) s₁ (mkF m 0 #[.val (.long xs), .second, .val (.int xa), .val (.int xb), .unset, .unset, .unset, .unset, .unset, .unset, .unset, .unset] []) by
    obtain ⟨t2_, o2_, z1_, z2_, z3_, z4_⟩ := G
    exact ⟨t2_, o2_, castTop (ef_0 m xs xa xb) z1_, z2_, z3_, z4_⟩
  generalize hPd : (fun (o : Outcome) (U' : State) => ∃ v L, o = .returned v ∧ Q0 Z xs xa xb h0 n0 v U'.heap L ∧ FrameEnd s o U' L 0 0) = P
  refine own_Goes.via (T' := s₁) (g' := (mkF m 1 #[.val (.long xs), .second, .val (.int xa), .val (.int xb), .unset, .unset, .unset, .unset, .unset, .unset, .unset, .unset] [(.int xa)])) (fun t_ k_ => XS.iloadN X0.here hx rfl (hb hby at_0) rfl k_) ?_
  refine own_Goes.via (T' := s₁) (g' := (mkF m 3 #[.val (.long xs), .second, .val (.int xa), .val (.int xb), .unset, .unset, .unset, .unset, .unset, .unset, .unset, .unset] [(.int (2147483647 : Int32)), (.int xa)])) (X0.ldcInt hx hown (mvT hZ (hw _ (List.mem_of_getElem? (i := 0) rfl))) (g := (mkF m 1 #[.val (.long xs), .second, .val (.int xa), .val (.int xb), .unset, .unset, .unset, .unset, .unset, .unset, .unset, .unset] [(.int xa)])) rfl (hb hby at_1)) ?_
  refine own_Goes.via (T' := s₁) (g' := (mkF m 4 #[.val (.long xs), .second, .val (.int xa), .val (.int xb), .unset, .unset, .unset, .unset, .unset, .unset, .unset, .unset] [(.int (xa &&& (2147483647 : Int32)))])) (fun t_ k_ => XS.iand X0.here hx rfl (hb hby at_3) rfl k_) ?_
  refine own_Goes.via (T' := s₁) (g' := (mkF m 6 #[.val (.long xs), .second, .val (.int xa), .val (.int xb), .unset, .unset, .unset, .unset, .unset, .unset, .unset, .unset] [(.int (52 : Int32)), (.int (xa &&& (2147483647 : Int32)))])) (fun t_ k_ => XS.bipush X0.here hx rfl (hb hby at_4) k_) ?_
  have nz6_1 : (52 : Int32) ≠ (0 : Int32) := by decide
  refine own_Goes.via (T' := s₁) (g' := (mkF m 7 #[.val (.long xs), .second, .val (.int xa), .val (.int xb), .unset, .unset, .unset, .unset, .unset, .unset, .unset, .unset] [(.int ((xa &&& (2147483647 : Int32)) % (52 : Int32)))])) (fun t_ k_ => iremM X0 hx rfl (hb hby at_6) rfl nz6_1 k_) ?_
  refine own_Goes.via (T' := s₁) (g' := (mkF m 9 #[.val (.long xs), .second, .val (.int xa), .val (.int xb), .val (.int ((xa &&& (2147483647 : Int32)) % (52 : Int32))), .unset, .unset, .unset, .unset, .unset, .unset, .unset] [])) (fun t_ k_ => XS.istore X0.here hx rfl (hb hby at_7) rfl (l' := #[.val (.long xs), .second, .val (.int xa), .val (.int xb), .val (.int ((xa &&& (2147483647 : Int32)) % (52 : Int32))), .unset, .unset, .unset, .unset, .unset, .unset, .unset]) rfl k_) ?_
  obtain ⟨v2, hv2⟩ : ∃ z : Int32, z = ((xa &&& (2147483647 : Int32)) % (52 : Int32)) := ⟨_, rfl⟩
  rw [← hv2]
  refine own_Goes.via (T' := s₁) (g' := (mkF m 10 #[.val (.long xs), .second, .val (.int xa), .val (.int xb), .val (.int v2), .unset, .unset, .unset, .unset, .unset, .unset, .unset] [(.int xb)])) (fun t_ k_ => XS.iloadN X0.here hx rfl (hb hby at_9) rfl k_) ?_
  refine own_Goes.via (T' := s₁) (g' := (mkF m 12 #[.val (.long xs), .second, .val (.int xa), .val (.int xb), .val (.int v2), .unset, .unset, .unset, .unset, .unset, .unset, .unset] [(.int (2147483647 : Int32)), (.int xb)])) (X0.ldcInt hx hown (mvT hZ (hw _ (List.mem_of_getElem? (i := 0) rfl))) (g := (mkF m 10 #[.val (.long xs), .second, .val (.int xa), .val (.int xb), .val (.int v2), .unset, .unset, .unset, .unset, .unset, .unset, .unset] [(.int xb)])) rfl (hb hby at_10)) ?_
  refine own_Goes.via (T' := s₁) (g' := (mkF m 13 #[.val (.long xs), .second, .val (.int xa), .val (.int xb), .val (.int v2), .unset, .unset, .unset, .unset, .unset, .unset, .unset] [(.int (xb &&& (2147483647 : Int32)))])) (fun t_ k_ => XS.iand X0.here hx rfl (hb hby at_12) rfl k_) ?_
  refine own_Goes.via (T' := s₁) (g' := (mkF m 15 #[.val (.long xs), .second, .val (.int xa), .val (.int xb), .val (.int v2), .unset, .unset, .unset, .unset, .unset, .unset, .unset] [(.int (52 : Int32)), (.int (xb &&& (2147483647 : Int32)))])) (fun t_ k_ => XS.bipush X0.here hx rfl (hb hby at_13) k_) ?_
  have nz15_3 : (52 : Int32) ≠ (0 : Int32) := by decide
  refine own_Goes.via (T' := s₁) (g' := (mkF m 16 #[.val (.long xs), .second, .val (.int xa), .val (.int xb), .val (.int v2), .unset, .unset, .unset, .unset, .unset, .unset, .unset] [(.int ((xb &&& (2147483647 : Int32)) % (52 : Int32)))])) (fun t_ k_ => iremM X0 hx rfl (hb hby at_15) rfl nz15_3 k_) ?_
  refine own_Goes.via (T' := s₁) (g' := (mkF m 18 #[.val (.long xs), .second, .val (.int xa), .val (.int xb), .val (.int v2), .val (.int ((xb &&& (2147483647 : Int32)) % (52 : Int32))), .unset, .unset, .unset, .unset, .unset, .unset] [])) (fun t_ k_ => XS.istore X0.here hx rfl (hb hby at_16) rfl (l' := #[.val (.long xs), .second, .val (.int xa), .val (.int xb), .val (.int v2), .val (.int ((xb &&& (2147483647 : Int32)) % (52 : Int32))), .unset, .unset, .unset, .unset, .unset, .unset]) rfl k_) ?_
  obtain ⟨v4, hv4⟩ : ∃ z : Int32, z = ((xb &&& (2147483647 : Int32)) % (52 : Int32)) := ⟨_, rfl⟩
  rw [← hv4]
  refine own_Goes.via (T' := s₁) (g' := (mkF m 19 #[.val (.long xs), .second, .val (.int xa), .val (.int xb), .val (.int v2), .val (.int v4), .unset, .unset, .unset, .unset, .unset, .unset] [(.long (1 : Int64))])) (fun t_ k_ => XS.lconst X0.here hx rfl (hb hby at_18) k_) ?_
  refine own_Goes.via (T' := s₁) (g' := (mkF m 21 #[.val (.long xs), .second, .val (.int xa), .val (.int xb), .val (.int v2), .val (.int v4), .unset, .unset, .unset, .unset, .unset, .unset] [(.int v2), (.long (1 : Int64))])) (fun t_ k_ => XS.iload X0.here hx rfl (hb hby at_19) rfl k_) ?_
  refine own_Goes.via (T' := s₁) (g' := (mkF m 22 #[.val (.long xs), .second, .val (.int xa), .val (.int xb), .val (.int v2), .val (.int v4), .unset, .unset, .unset, .unset, .unset, .unset] [(.long ((1 : Int64) <<< (v2 &&& 0x3f).toInt64))])) (fun t_ k_ => XS.lshl X0.here hx rfl (hb hby at_21) rfl k_) ?_
  refine own_Goes.via (T' := s₁) (g' := (mkF m 24 #[.val (.long xs), .second, .val (.int xa), .val (.int xb), .val (.int v2), .val (.int v4), .val (.long ((1 : Int64) <<< (v2 &&& 0x3f).toInt64)), .second, .unset, .unset, .unset, .unset] [])) (fun t_ k_ => XS.lstore X0.here hx rfl (hb hby at_22) rfl (l' := #[.val (.long xs), .second, .val (.int xa), .val (.int xb), .val (.int v2), .val (.int v4), .val (.long ((1 : Int64) <<< (v2 &&& 0x3f).toInt64)), .second, .unset, .unset, .unset, .unset]) rfl k_) ?_
  obtain ⟨v5, hv5⟩ : ∃ z : Int64, z = ((1 : Int64) <<< (v2 &&& 0x3f).toInt64) := ⟨_, rfl⟩
  rw [← hv5]
  refine own_Goes.via (T' := s₁) (g' := (mkF m 25 #[.val (.long xs), .second, .val (.int xa), .val (.int xb), .val (.int v2), .val (.int v4), .val (.long v5), .second, .unset, .unset, .unset, .unset] [(.long xs)])) (fun t_ k_ => XS.lloadN X0.here hx rfl (hb hby at_24) rfl k_) ?_
  refine own_Goes.via (T' := s₁) (g' := (mkF m 27 #[.val (.long xs), .second, .val (.int xa), .val (.int xb), .val (.int v2), .val (.int v4), .val (.long v5), .second, .unset, .unset, .unset, .unset] [(.long v5), (.long xs)])) (fun t_ k_ => XS.lload X0.here hx rfl (hb hby at_25) rfl k_) ?_
  refine own_Goes.via (T' := s₁) (g' := (mkF m 28 #[.val (.long xs), .second, .val (.int xa), .val (.int xb), .val (.int v2), .val (.int v4), .val (.long v5), .second, .unset, .unset, .unset, .unset] [(.long (xs &&& v5))])) (fun t_ k_ => XS.land X0.here hx rfl (hb hby at_27) rfl k_) ?_
  refine own_Goes.via (T' := s₁) (g' := (mkF m 29 #[.val (.long xs), .second, .val (.int xa), .val (.int xb), .val (.int v2), .val (.int v4), .val (.long v5), .second, .unset, .unset, .unset, .unset] [(.long (0 : Int64)), (.long (xs &&& v5))])) (fun t_ k_ => XS.lconst X0.here hx rfl (hb hby at_28) k_) ?_
  refine own_Goes.via (T' := s₁) (g' := (mkF m 30 #[.val (.long xs), .second, .val (.int xa), .val (.int xb), .val (.int v2), .val (.int v4), .val (.long v5), .second, .unset, .unset, .unset, .unset] [(.int (lcmpW (xs &&& v5) (0 : Int64)))])) (fun t_ k_ => XS.lcmp X0.here hx rfl (hb hby at_29) rfl k_) ?_
  suffices J38_9 : ∀ (v38_7 : Int32) (hv38_7 : v38_7 = (if (xs &&& v5) = (0 : Int64) then (0 : Int32) else (1 : Int32))), own_Goes p.tables e below P s₁ (mkF m 38 #[.val (.long xs), .second, .val (.int xa), .val (.int xb), .val (.int v2), .val (.int v4), .val (.long v5), .second, .unset, .unset, .unset, .unset] [(.int v38_7)]) by
    by_cases hc30_6 : (xs &&& v5) = (0 : Int64)
    · refine own_Goes.via (T' := s₁) (g' := (mkF m 37 #[.val (.long xs), .second, .val (.int xa), .val (.int xb), .val (.int v2), .val (.int v4), .val (.long v5), .second, .unset, .unset, .unset, .unset] [])) (fun t_ k_ => XS.ifYes X0.here hx rfl (pc0 := 30) (pc' := 37) rfl (hb hby at_30) rfl (own_eqT hc30_6).1 (by decide) (by decide) k_) ?_
      refine own_Goes.via (T' := s₁) (g' := (mkF m 38 #[.val (.long xs), .second, .val (.int xa), .val (.int xb), .val (.int v2), .val (.int v4), .val (.long v5), .second, .unset, .unset, .unset, .unset] [(.int (0 : Int32))])) (fun t_ k_ => XS.iconst X0.here hx rfl (hb hby at_37) k_) ?_
      exact J38_9 (0 : Int32) ((if_pos hc30_6)).symm
    · refine own_Goes.via (T' := s₁) (g' := (mkF m 33 #[.val (.long xs), .second, .val (.int xa), .val (.int xb), .val (.int v2), .val (.int v4), .val (.long v5), .second, .unset, .unset, .unset, .unset] [])) (fun t_ k_ => XS.ifNo X0.here hx rfl (hb hby at_30) rfl (own_eqF hc30_6).1 k_) ?_
      refine own_Goes.via (T' := s₁) (g' := (mkF m 34 #[.val (.long xs), .second, .val (.int xa), .val (.int xb), .val (.int v2), .val (.int v4), .val (.long v5), .second, .unset, .unset, .unset, .unset] [(.int (1 : Int32))])) (fun t_ k_ => XS.iconst X0.here hx rfl (hb hby at_33) k_) ?_
      refine own_Goes.via (T' := s₁) (g' := (mkF m 38 #[.val (.long xs), .second, .val (.int xa), .val (.int xb), .val (.int v2), .val (.int v4), .val (.long v5), .second, .unset, .unset, .unset, .unset] [(.int (1 : Int32))])) (fun t_ k_ => XS.goto X0.here hx rfl (pc0 := 34) (pc' := 38) rfl (hb hby at_34) (by decide) (by decide) k_) ?_
      exact J38_9 (1 : Int32) ((if_neg hc30_6)).symm
  intro v38_7 hv38_7
  refine own_Goes.via (T' := s₁) (g' := (mkF m 40 #[.val (.long xs), .second, .val (.int xa), .val (.int xb), .val (.int v2), .val (.int v4), .val (.long v5), .second, .val (.int v38_7), .unset, .unset, .unset] [])) (fun t_ k_ => XS.istore X0.here hx rfl (hb hby at_38) rfl (l' := #[.val (.long xs), .second, .val (.int xa), .val (.int xb), .val (.int v2), .val (.int v4), .val (.long v5), .second, .val (.int v38_7), .unset, .unset, .unset]) rfl k_) ?_
  refine own_Goes.via (T' := s₁) (g' := (mkF m 41 #[.val (.long xs), .second, .val (.int xa), .val (.int xb), .val (.int v2), .val (.int v4), .val (.long v5), .second, .val (.int v38_7), .unset, .unset, .unset] [(.long xs)])) (fun t_ k_ => XS.lloadN X0.here hx rfl (hb hby at_40) rfl k_) ?_
  refine own_Goes.via (T' := s₁) (g' := (mkF m 43 #[.val (.long xs), .second, .val (.int xa), .val (.int xb), .val (.int v2), .val (.int v4), .val (.long v5), .second, .val (.int v38_7), .unset, .unset, .unset] [(.int v2), (.long xs)])) (fun t_ k_ => XS.iload X0.here hx rfl (hb hby at_41) rfl k_) ?_
  obtain ⟨_, _, ⟨T10, L10, k10, n10⟩, -, X10, ⟨Lc10, hQ10, l10, y10, z10⟩, st10⟩ := Jvm.LawKit.callS X0 hx (y := (⟨"com/example/wildsuit/wildsuit/game/CardSet", "contains", "(JI)Z"⟩ : MethodName)) hown (mvT hZ (hw _ (List.mem_of_getElem? (i := 1) rfl))) (mvT hZ (hw _ (List.mem_of_getElem? (i := 2) rfl))) (mvT hZ (hw _ (List.mem_of_getElem? (i := 3) rfl))) (mvT hZ (hw _ (List.mem_of_getElem? (i := 4) rfl))) (by decide) (backOf (W := 0) (rm1 l Z a0 hw [] xs v2 h0 n0 Z0 ) hZ (hw _ (List.mem_of_getElem? (i := 4) rfl)) (hw _ (List.mem_of_getElem? (i := 3) rfl)) (by decide) (by decide)) (g := (mkF m 43 #[.val (.long xs), .second, .val (.int xa), .val (.int xb), .val (.int v2), .val (.int v4), .val (.long v5), .second, .val (.int v38_7), .unset, .unset, .unset] [(.int v2), (.long xs)])) rfl (by rw [hml]; rfl) (argsL := [(.long xs), (.int v2)]) (rest := []) (lenOf pd_0_0 rfl) rfl (by show 2 * 0 + _ ≤ _; exact Nat.le_of_eq rfl) (hb hby at_43) (fun _ _ => ⟨rfl, e0, (by decide : 0 + 0 ≤ _), (by decide : 0 + 0 ≤ _)⟩)
  dsimp only [Pt.U, Pt.locs, Pt.cells, Pt.slots] at X10 l10 y10 z10 st10 hQ10
  subst l10 y10 z10
  obtain ⟨rfl, Nq10, hh10⟩ := hQ10
  have N10 := Fr.app N0 Nq10
  refine own_Goes.via (T' := T10) (g' := (mkF m 46 #[.val (.long xs), .second, .val (.int xa), .val (.int xb), .val (.int v2), .val (.int v4), .val (.long v5), .second, .val (.int v38_7), .unset, .unset, .unset] [(.int (own_f1 xs v2))])) (st10) ?_
  obtain ⟨v11, hv11⟩ : ∃ z : Int32, z = (own_f1 xs v2) := ⟨_, rfl⟩
  rw [← hv11]
  refine own_Goes.via (T' := T10) (g' := (mkF m 48 #[.val (.long xs), .second, .val (.int xa), .val (.int xb), .val (.int v2), .val (.int v4), .val (.long v5), .second, .val (.int v38_7), .unset, .unset, .unset] [(.int v38_7), (.int v11)])) (fun t_ k_ => XS.iload X10.here hx rfl (hb hby at_46) rfl k_) ?_
  by_cases hc48_12 : v11 = v38_7
  · refine own_Goes.via (T' := T10) (g' := (mkF m 53 #[.val (.long xs), .second, .val (.int xa), .val (.int xb), .val (.int v2), .val (.int v4), .val (.long v5), .second, .val (.int v38_7), .unset, .unset, .unset] [])) (fun t_ k_ => XS.icmpYes X10.here hx rfl (pc0 := 48) (pc' := 53) rfl (hb hby at_48) rfl (teq hc48_12).1 (by decide) (by decide) k_) ?_
    refine own_Goes.via (T' := T10) (g' := (mkF m 54 #[.val (.long xs), .second, .val (.int xa), .val (.int xb), .val (.int v2), .val (.int v4), .val (.long v5), .second, .val (.int v38_7), .unset, .unset, .unset] [(.long xs)])) (fun t_ k_ => XS.lloadN X10.here hx rfl (hb hby at_53) rfl k_) ?_
    refine own_Goes.via (T' := T10) (g' := (mkF m 56 #[.val (.long xs), .second, .val (.int xa), .val (.int xb), .val (.int v2), .val (.int v4), .val (.long v5), .second, .val (.int v38_7), .unset, .unset, .unset] [(.long v5), (.long xs)])) (fun t_ k_ => XS.lload X10.here hx rfl (hb hby at_54) rfl k_) ?_
    refine own_Goes.via (T' := T10) (g' := (mkF m 57 #[.val (.long xs), .second, .val (.int xa), .val (.int xb), .val (.int v2), .val (.int v4), .val (.long v5), .second, .val (.int v38_7), .unset, .unset, .unset] [(.long (xs ||| v5))])) (fun t_ k_ => XS.lor X10.here hx rfl (hb hby at_56) rfl k_) ?_
    refine own_Goes.via (T' := T10) (g' := (mkF m 59 #[.val (.long xs), .second, .val (.int xa), .val (.int xb), .val (.int v2), .val (.int v4), .val (.long v5), .second, .val (.int v38_7), .unset, .unset, .unset] [(.int v2), (.long (xs ||| v5))])) (fun t_ k_ => XS.iload X10.here hx rfl (hb hby at_57) rfl k_) ?_
    obtain ⟨_, _, ⟨T13, L13, k13, n13⟩, -, X13, ⟨Lc13, hQ13, l13, y13, z13⟩, st13⟩ := Jvm.LawKit.callS X10 hx (y := (⟨"com/example/wildsuit/wildsuit/game/CardSet", "contains", "(JI)Z"⟩ : MethodName)) hown (mvT hZ (hw _ (List.mem_of_getElem? (i := 1) rfl))) (mvT hZ (hw _ (List.mem_of_getElem? (i := 2) rfl))) (mvT hZ (hw _ (List.mem_of_getElem? (i := 3) rfl))) (mvT hZ (hw _ (List.mem_of_getElem? (i := 4) rfl))) (by decide) (backOf (W := 0) (rm1 l Z a0 hw [] (xs ||| v5) v2 h0 n0 Z0 ) hZ (hw _ (List.mem_of_getElem? (i := 4) rfl)) (hw _ (List.mem_of_getElem? (i := 3) rfl)) (by decide) (by decide)) (g := (mkF m 59 #[.val (.long xs), .second, .val (.int xa), .val (.int xb), .val (.int v2), .val (.int v4), .val (.long v5), .second, .val (.int v38_7), .unset, .unset, .unset] [(.int v2), (.long (xs ||| v5))])) rfl (by rw [hml]; rfl) (argsL := [(.long (xs ||| v5)), (.int v2)]) (rest := []) (lenOf pd_0_0 rfl) rfl (by show 2 * 0 + _ ≤ _; exact Nat.le_of_eq rfl) (hb hby at_59) (fun _ _ => ⟨rfl, hh10, (by decide : 0 + 0 ≤ _), (by decide : 0 + 0 ≤ _)⟩)
    dsimp only [Pt.U, Pt.locs, Pt.cells, Pt.slots] at X13 l13 y13 z13 st13 hQ13
    subst l13 y13 z13
    obtain ⟨rfl, Nq13, hh13⟩ := hQ13
    have N13 := Fr.app N10 Nq13
    refine own_Goes.via (T' := T13) (g' := (mkF m 62 #[.val (.long xs), .second, .val (.int xa), .val (.int xb), .val (.int v2), .val (.int v4), .val (.long v5), .second, .val (.int v38_7), .unset, .unset, .unset] [(.int (own_f1 (xs ||| v5) v2))])) (st13) ?_
    obtain ⟨v14, hv14⟩ : ∃ z : Int32, z = (own_f1 (xs ||| v5) v2) := ⟨_, rfl⟩
    rw [← hv14]
    by_cases hc62_15 : v14 = (0 : Int32)
    · refine own_Goes.via (T' := T13) (g' := (mkF m 65 #[.val (.long xs), .second, .val (.int xa), .val (.int xb), .val (.int v2), .val (.int v4), .val (.long v5), .second, .val (.int v38_7), .unset, .unset, .unset] [])) (fun t_ k_ => XS.ifNo X13.here hx rfl (hb hby at_62) rfl ((if0 _ _).trans (teq hc62_15).2) k_) ?_
      refine own_Goes.via (T' := T13) (g' := (mkF m 66 #[.val (.long xs), .second, .val (.int xa), .val (.int xb), .val (.int v2), .val (.int v4), .val (.long v5), .second, .val (.int v38_7), .unset, .unset, .unset] [(.int (0 : Int32))])) (fun t_ k_ => XS.iconst X13.here hx rfl (hb hby at_65) k_) ?_
      exfalso
      exact own_pl0_0 hv2 hv4 hv5 hv38_7 hv11 hv14 hc48_12 hc62_15 nz6_1 nz15_3
    · refine own_Goes.via (T' := T13) (g' := (mkF m 67 #[.val (.long xs), .second, .val (.int xa), .val (.int xb), .val (.int v2), .val (.int v4), .val (.long v5), .second, .val (.int v38_7), .unset, .unset, .unset] [])) (fun t_ k_ => XS.ifYes X13.here hx rfl (pc0 := 62) (pc' := 67) rfl (hb hby at_62) rfl ((if0 _ _).trans (feq hc62_15).2) (by decide) (by decide) k_) ?_
      refine own_Goes.via (T' := T13) (g' := (mkF m 68 #[.val (.long xs), .second, .val (.int xa), .val (.int xb), .val (.int v2), .val (.int v4), .val (.long v5), .second, .val (.int v38_7), .unset, .unset, .unset] [(.long xs)])) (fun t_ k_ => XS.lloadN X13.here hx rfl (hb hby at_67) rfl k_) ?_
      refine own_Goes.via (T' := T13) (g' := (mkF m 70 #[.val (.long xs), .second, .val (.int xa), .val (.int xb), .val (.int v2), .val (.int v4), .val (.long v5), .second, .val (.int v38_7), .unset, .unset, .unset] [(.long v5), (.long xs)])) (fun t_ k_ => XS.lload X13.here hx rfl (hb hby at_68) rfl k_) ?_
      refine own_Goes.via (T' := T13) (g' := (mkF m 73 #[.val (.long xs), .second, .val (.int xa), .val (.int xb), .val (.int v2), .val (.int v4), .val (.long v5), .second, .val (.int v38_7), .unset, .unset, .unset] [(.long (-1 : Int64)), (.long v5), (.long xs)])) (X13.ldc2Long hx hown (mvT hZ (hw _ (List.mem_of_getElem? (i := 5) rfl))) (g := (mkF m 70 #[.val (.long xs), .second, .val (.int xa), .val (.int xb), .val (.int v2), .val (.int v4), .val (.long v5), .second, .val (.int v38_7), .unset, .unset, .unset] [(.long v5), (.long xs)])) rfl (hb hby at_70)) ?_
      refine own_Goes.via (T' := T13) (g' := (mkF m 74 #[.val (.long xs), .second, .val (.int xa), .val (.int xb), .val (.int v2), .val (.int v4), .val (.long v5), .second, .val (.int v38_7), .unset, .unset, .unset] [(.long (v5 ^^^ (-1 : Int64))), (.long xs)])) (fun t_ k_ => XS.lxor X13.here hx rfl (hb hby at_73) rfl k_) ?_
      refine own_Goes.via (T' := T13) (g' := (mkF m 75 #[.val (.long xs), .second, .val (.int xa), .val (.int xb), .val (.int v2), .val (.int v4), .val (.long v5), .second, .val (.int v38_7), .unset, .unset, .unset] [(.long (xs &&& (v5 ^^^ (-1 : Int64))))])) (fun t_ k_ => XS.land X13.here hx rfl (hb hby at_74) rfl k_) ?_
      refine own_Goes.via (T' := T13) (g' := (mkF m 77 #[.val (.long xs), .second, .val (.int xa), .val (.int xb), .val (.int v2), .val (.int v4), .val (.long v5), .second, .val (.int v38_7), .unset, .unset, .unset] [(.int v2), (.long (xs &&& (v5 ^^^ (-1 : Int64))))])) (fun t_ k_ => XS.iload X13.here hx rfl (hb hby at_75) rfl k_) ?_
      obtain ⟨_, _, ⟨T16, L16, k16, n16⟩, -, X16, ⟨Lc16, hQ16, l16, y16, z16⟩, st16⟩ := Jvm.LawKit.callS X13 hx (y := (⟨"com/example/wildsuit/wildsuit/game/CardSet", "contains", "(JI)Z"⟩ : MethodName)) hown (mvT hZ (hw _ (List.mem_of_getElem? (i := 1) rfl))) (mvT hZ (hw _ (List.mem_of_getElem? (i := 2) rfl))) (mvT hZ (hw _ (List.mem_of_getElem? (i := 3) rfl))) (mvT hZ (hw _ (List.mem_of_getElem? (i := 4) rfl))) (by decide) (backOf (W := 0) (rm1 l Z a0 hw [] (xs &&& (v5 ^^^ (-1 : Int64))) v2 h0 n0 Z0 ) hZ (hw _ (List.mem_of_getElem? (i := 4) rfl)) (hw _ (List.mem_of_getElem? (i := 3) rfl)) (by decide) (by decide)) (g := (mkF m 77 #[.val (.long xs), .second, .val (.int xa), .val (.int xb), .val (.int v2), .val (.int v4), .val (.long v5), .second, .val (.int v38_7), .unset, .unset, .unset] [(.int v2), (.long (xs &&& (v5 ^^^ (-1 : Int64))))])) rfl (by rw [hml]; rfl) (argsL := [(.long (xs &&& (v5 ^^^ (-1 : Int64)))), (.int v2)]) (rest := []) (lenOf pd_0_0 rfl) rfl (by show 2 * 0 + _ ≤ _; exact Nat.le_of_eq rfl) (hb hby at_77) (fun _ _ => ⟨rfl, hh13, (by decide : 0 + 0 ≤ _), (by decide : 0 + 0 ≤ _)⟩)
      dsimp only [Pt.U, Pt.locs, Pt.cells, Pt.slots] at X16 l16 y16 z16 st16 hQ16
      subst l16 y16 z16
      obtain ⟨rfl, Nq16, hh16⟩ := hQ16
      have N16 := Fr.app N13 Nq16
      refine own_Goes.via (T' := T16) (g' := (mkF m 80 #[.val (.long xs), .second, .val (.int xa), .val (.int xb), .val (.int v2), .val (.int v4), .val (.long v5), .second, .val (.int v38_7), .unset, .unset, .unset] [(.int (own_f1 (xs &&& (v5 ^^^ (-1 : Int64))) v2))])) (st16) ?_
      obtain ⟨v17, hv17⟩ : ∃ z : Int32, z = (own_f1 (xs &&& (v5 ^^^ (-1 : Int64))) v2) := ⟨_, rfl⟩
      rw [← hv17]
      by_cases hc80_18 : v17 = (0 : Int32)
      · refine own_Goes.via (T' := T16) (g' := (mkF m 85 #[.val (.long xs), .second, .val (.int xa), .val (.int xb), .val (.int v2), .val (.int v4), .val (.long v5), .second, .val (.int v38_7), .unset, .unset, .unset] [])) (fun t_ k_ => XS.ifYes X16.here hx rfl (pc0 := 80) (pc' := 85) rfl (hb hby at_80) rfl ((if0 _ _).trans (teq hc80_18).1) (by decide) (by decide) k_) ?_
        refine own_Goes.via (T' := T16) (g' := (mkF m 86 #[.val (.long xs), .second, .val (.int xa), .val (.int xb), .val (.int v2), .val (.int v4), .val (.long v5), .second, .val (.int v38_7), .unset, .unset, .unset] [(.long xs)])) (fun t_ k_ => XS.lloadN X16.here hx rfl (hb hby at_85) rfl k_) ?_
        refine own_Goes.via (T' := T16) (g' := (mkF m 87 #[.val (.long xs), .second, .val (.int xa), .val (.int xb), .val (.int v2), .val (.int v4), .val (.long v5), .second, .val (.int v38_7), .unset, .unset, .unset] [(.long (1 : Int64)), (.long xs)])) (fun t_ k_ => XS.lconst X16.here hx rfl (hb hby at_86) k_) ?_
        refine own_Goes.via (T' := T16) (g' := (mkF m 89 #[.val (.long xs), .second, .val (.int xa), .val (.int xb), .val (.int v2), .val (.int v4), .val (.long v5), .second, .val (.int v38_7), .unset, .unset, .unset] [(.int v4), (.long (1 : Int64)), (.long xs)])) (fun t_ k_ => XS.iload X16.here hx rfl (hb hby at_87) rfl k_) ?_
        refine own_Goes.via (T' := T16) (g' := (mkF m 90 #[.val (.long xs), .second, .val (.int xa), .val (.int xb), .val (.int v2), .val (.int v4), .val (.long v5), .second, .val (.int v38_7), .unset, .unset, .unset] [(.long ((1 : Int64) <<< (v4 &&& 0x3f).toInt64)), (.long xs)])) (fun t_ k_ => XS.lshl X16.here hx rfl (hb hby at_89) rfl k_) ?_
        refine own_Goes.via (T' := T16) (g' := (mkF m 91 #[.val (.long xs), .second, .val (.int xa), .val (.int xb), .val (.int v2), .val (.int v4), .val (.long v5), .second, .val (.int v38_7), .unset, .unset, .unset] [(.long (xs &&& ((1 : Int64) <<< (v4 &&& 0x3f).toInt64)))])) (fun t_ k_ => XS.land X16.here hx rfl (hb hby at_90) rfl k_) ?_
        refine own_Goes.via (T' := T16) (g' := (mkF m 92 #[.val (.long xs), .second, .val (.int xa), .val (.int xb), .val (.int v2), .val (.int v4), .val (.long v5), .second, .val (.int v38_7), .unset, .unset, .unset] [(.long (0 : Int64)), (.long (xs &&& ((1 : Int64) <<< (v4 &&& 0x3f).toInt64)))])) (fun t_ k_ => XS.lconst X16.here hx rfl (hb hby at_91) k_) ?_
        refine own_Goes.via (T' := T16) (g' := (mkF m 93 #[.val (.long xs), .second, .val (.int xa), .val (.int xb), .val (.int v2), .val (.int v4), .val (.long v5), .second, .val (.int v38_7), .unset, .unset, .unset] [(.int (lcmpW (xs &&& ((1 : Int64) <<< (v4 &&& 0x3f).toInt64)) (0 : Int64)))])) (fun t_ k_ => XS.lcmp X16.here hx rfl (hb hby at_92) rfl k_) ?_
        suffices J101_22 : ∀ (v101_20 : Int32) (hv101_20 : v101_20 = (if (xs &&& ((1 : Int64) <<< (v4 &&& 0x3f).toInt64)) = (0 : Int64) then (0 : Int32) else (1 : Int32))), own_Goes p.tables e below P T16 (mkF m 101 #[.val (.long xs), .second, .val (.int xa), .val (.int xb), .val (.int v2), .val (.int v4), .val (.long v5), .second, .val (.int v38_7), .unset, .unset, .unset] [(.int v101_20)]) by
          by_cases hc93_19 : (xs &&& ((1 : Int64) <<< (v4 &&& 0x3f).toInt64)) = (0 : Int64)
          · refine own_Goes.via (T' := T16) (g' := (mkF m 100 #[.val (.long xs), .second, .val (.int xa), .val (.int xb), .val (.int v2), .val (.int v4), .val (.long v5), .second, .val (.int v38_7), .unset, .unset, .unset] [])) (fun t_ k_ => XS.ifYes X16.here hx rfl (pc0 := 93) (pc' := 100) rfl (hb hby at_93) rfl (own_eqT hc93_19).1 (by decide) (by decide) k_) ?_
            refine own_Goes.via (T' := T16) (g' := (mkF m 101 #[.val (.long xs), .second, .val (.int xa), .val (.int xb), .val (.int v2), .val (.int v4), .val (.long v5), .second, .val (.int v38_7), .unset, .unset, .unset] [(.int (0 : Int32))])) (fun t_ k_ => XS.iconst X16.here hx rfl (hb hby at_100) k_) ?_
            exact J101_22 (0 : Int32) ((if_pos hc93_19)).symm
          · refine own_Goes.via (T' := T16) (g' := (mkF m 96 #[.val (.long xs), .second, .val (.int xa), .val (.int xb), .val (.int v2), .val (.int v4), .val (.long v5), .second, .val (.int v38_7), .unset, .unset, .unset] [])) (fun t_ k_ => XS.ifNo X16.here hx rfl (hb hby at_93) rfl (own_eqF hc93_19).1 k_) ?_
            refine own_Goes.via (T' := T16) (g' := (mkF m 97 #[.val (.long xs), .second, .val (.int xa), .val (.int xb), .val (.int v2), .val (.int v4), .val (.long v5), .second, .val (.int v38_7), .unset, .unset, .unset] [(.int (1 : Int32))])) (fun t_ k_ => XS.iconst X16.here hx rfl (hb hby at_96) k_) ?_
            refine own_Goes.via (T' := T16) (g' := (mkF m 101 #[.val (.long xs), .second, .val (.int xa), .val (.int xb), .val (.int v2), .val (.int v4), .val (.long v5), .second, .val (.int v38_7), .unset, .unset, .unset] [(.int (1 : Int32))])) (fun t_ k_ => XS.goto X16.here hx rfl (pc0 := 97) (pc' := 101) rfl (hb hby at_97) (by decide) (by decide) k_) ?_
            exact J101_22 (1 : Int32) ((if_neg hc93_19)).symm
        intro v101_20 hv101_20
        refine own_Goes.via (T' := T16) (g' := (mkF m 103 #[.val (.long xs), .second, .val (.int xa), .val (.int xb), .val (.int v2), .val (.int v4), .val (.long v5), .second, .val (.int v38_7), .val (.int v101_20), .unset, .unset] [])) (fun t_ k_ => XS.istore X16.here hx rfl (hb hby at_101) rfl (l' := #[.val (.long xs), .second, .val (.int xa), .val (.int xb), .val (.int v2), .val (.int v4), .val (.long v5), .second, .val (.int v38_7), .val (.int v101_20), .unset, .unset]) rfl k_) ?_
        refine own_Goes.via (T' := T16) (g' := (mkF m 104 #[.val (.long xs), .second, .val (.int xa), .val (.int xb), .val (.int v2), .val (.int v4), .val (.long v5), .second, .val (.int v38_7), .val (.int v101_20), .unset, .unset] [(.long xs)])) (fun t_ k_ => XS.lloadN X16.here hx rfl (hb hby at_103) rfl k_) ?_
        refine own_Goes.via (T' := T16) (g' := (mkF m 106 #[.val (.long xs), .second, .val (.int xa), .val (.int xb), .val (.int v2), .val (.int v4), .val (.long v5), .second, .val (.int v38_7), .val (.int v101_20), .unset, .unset] [(.long v5), (.long xs)])) (fun t_ k_ => XS.lload X16.here hx rfl (hb hby at_104) rfl k_) ?_
        refine own_Goes.via (T' := T16) (g' := (mkF m 107 #[.val (.long xs), .second, .val (.int xa), .val (.int xb), .val (.int v2), .val (.int v4), .val (.long v5), .second, .val (.int v38_7), .val (.int v101_20), .unset, .unset] [(.long (xs ^^^ v5))])) (fun t_ k_ => XS.lxor X16.here hx rfl (hb hby at_106) rfl k_) ?_
        refine own_Goes.via (T' := T16) (g' := (mkF m 109 #[.val (.long xs), .second, .val (.int xa), .val (.int xb), .val (.int v2), .val (.int v4), .val (.long v5), .second, .val (.int v38_7), .val (.int v101_20), .unset, .unset] [(.int v4), (.long (xs ^^^ v5))])) (fun t_ k_ => XS.iload X16.here hx rfl (hb hby at_107) rfl k_) ?_
        obtain ⟨_, _, ⟨T23, L23, k23, n23⟩, -, X23, ⟨Lc23, hQ23, l23, y23, z23⟩, st23⟩ := Jvm.LawKit.callS X16 hx (y := (⟨"com/example/wildsuit/wildsuit/game/CardSet", "contains", "(JI)Z"⟩ : MethodName)) hown (mvT hZ (hw _ (List.mem_of_getElem? (i := 1) rfl))) (mvT hZ (hw _ (List.mem_of_getElem? (i := 2) rfl))) (mvT hZ (hw _ (List.mem_of_getElem? (i := 3) rfl))) (mvT hZ (hw _ (List.mem_of_getElem? (i := 4) rfl))) (by decide) (backOf (W := 0) (rm1 l Z a0 hw [] (xs ^^^ v5) v4 h0 n0 Z0 ) hZ (hw _ (List.mem_of_getElem? (i := 4) rfl)) (hw _ (List.mem_of_getElem? (i := 3) rfl)) (by decide) (by decide)) (g := (mkF m 109 #[.val (.long xs), .second, .val (.int xa), .val (.int xb), .val (.int v2), .val (.int v4), .val (.long v5), .second, .val (.int v38_7), .val (.int v101_20), .unset, .unset] [(.int v4), (.long (xs ^^^ v5))])) rfl (by rw [hml]; rfl) (argsL := [(.long (xs ^^^ v5)), (.int v4)]) (rest := []) (lenOf pd_0_0 rfl) rfl (by show 2 * 0 + _ ≤ _; exact Nat.le_of_eq rfl) (hb hby at_109) (fun _ _ => ⟨rfl, hh16, (by decide : 0 + 0 ≤ _), (by decide : 0 + 0 ≤ _)⟩)
        dsimp only [Pt.U, Pt.locs, Pt.cells, Pt.slots] at X23 l23 y23 z23 st23 hQ23
        subst l23 y23 z23
        obtain ⟨rfl, Nq23, hh23⟩ := hQ23
        have N23 := Fr.app N16 Nq23
        refine own_Goes.via (T' := T23) (g' := (mkF m 112 #[.val (.long xs), .second, .val (.int xa), .val (.int xb), .val (.int v2), .val (.int v4), .val (.long v5), .second, .val (.int v38_7), .val (.int v101_20), .unset, .unset] [(.int (own_f1 (xs ^^^ v5) v4))])) (st23) ?_
        obtain ⟨v24, hv24⟩ : ∃ z : Int32, z = (own_f1 (xs ^^^ v5) v4) := ⟨_, rfl⟩
        rw [← hv24]
        refine own_Goes.via (T' := T23) (g' := (mkF m 114 #[.val (.long xs), .second, .val (.int xa), .val (.int xb), .val (.int v2), .val (.int v4), .val (.long v5), .second, .val (.int v38_7), .val (.int v101_20), .val (.int v24), .unset] [])) (fun t_ k_ => XS.istore X23.here hx rfl (hb hby at_112) rfl (l' := #[.val (.long xs), .second, .val (.int xa), .val (.int xb), .val (.int v2), .val (.int v4), .val (.long v5), .second, .val (.int v38_7), .val (.int v101_20), .val (.int v24), .unset]) rfl k_) ?_
        refine own_Goes.via (T' := T23) (g' := (mkF m 116 #[.val (.long xs), .second, .val (.int xa), .val (.int xb), .val (.int v2), .val (.int v4), .val (.long v5), .second, .val (.int v38_7), .val (.int v101_20), .val (.int v24), .unset] [(.int v2)])) (fun t_ k_ => XS.iload X23.here hx rfl (hb hby at_114) rfl k_) ?_
        refine own_Goes.via (T' := T23) (g' := (mkF m 118 #[.val (.long xs), .second, .val (.int xa), .val (.int xb), .val (.int v2), .val (.int v4), .val (.long v5), .second, .val (.int v38_7), .val (.int v101_20), .val (.int v24), .unset] [(.int v4), (.int v2)])) (fun t_ k_ => XS.iload X23.here hx rfl (hb hby at_116) rfl k_) ?_
        suffices J136_28 : ∀ (v136_26 : Int32) (hv136_26 : v136_26 = (if v2 = v4 then (if v101_20 = (0 : Int32) then (1 : Int32) else (0 : Int32)) else v101_20)), own_Goes p.tables e below P T23 (mkF m 136 #[.val (.long xs), .second, .val (.int xa), .val (.int xb), .val (.int v2), .val (.int v4), .val (.long v5), .second, .val (.int v38_7), .val (.int v101_20), .val (.int v24), .unset] [(.int v136_26)]) by
          by_cases hc118_25 : v2 = v4
          · refine own_Goes.via (T' := T23) (g' := (mkF m 121 #[.val (.long xs), .second, .val (.int xa), .val (.int xb), .val (.int v2), .val (.int v4), .val (.long v5), .second, .val (.int v38_7), .val (.int v101_20), .val (.int v24), .unset] [])) (fun t_ k_ => XS.icmpNo X23.here hx rfl (hb hby at_118) rfl (teq hc118_25).2 k_) ?_
            refine own_Goes.via (T' := T23) (g' := (mkF m 123 #[.val (.long xs), .second, .val (.int xa), .val (.int xb), .val (.int v2), .val (.int v4), .val (.long v5), .second, .val (.int v38_7), .val (.int v101_20), .val (.int v24), .unset] [(.int v101_20)])) (fun t_ k_ => XS.iload X23.here hx rfl (hb hby at_121) rfl k_) ?_
            by_cases hc123_29 : v101_20 = (0 : Int32)
            · refine own_Goes.via (T' := T23) (g' := (mkF m 126 #[.val (.long xs), .second, .val (.int xa), .val (.int xb), .val (.int v2), .val (.int v4), .val (.long v5), .second, .val (.int v38_7), .val (.int v101_20), .val (.int v24), .unset] [])) (fun t_ k_ => XS.ifNo X23.here hx rfl (hb hby at_123) rfl ((if0 _ _).trans (teq hc123_29).2) k_) ?_
              refine own_Goes.via (T' := T23) (g' := (mkF m 127 #[.val (.long xs), .second, .val (.int xa), .val (.int xb), .val (.int v2), .val (.int v4), .val (.long v5), .second, .val (.int v38_7), .val (.int v101_20), .val (.int v24), .unset] [(.int (1 : Int32))])) (fun t_ k_ => XS.iconst X23.here hx rfl (hb hby at_126) k_) ?_
              refine own_Goes.via (T' := T23) (g' := (mkF m 136 #[.val (.long xs), .second, .val (.int xa), .val (.int xb), .val (.int v2), .val (.int v4), .val (.long v5), .second, .val (.int v38_7), .val (.int v101_20), .val (.int v24), .unset] [(.int (1 : Int32))])) (fun t_ k_ => XS.goto X23.here hx rfl (pc0 := 127) (pc' := 136) rfl (hb hby at_127) (by decide) (by decide) k_) ?_
              exact J136_28 (1 : Int32) (((if_pos hc118_25).trans (if_pos hc123_29))).symm
            · refine own_Goes.via (T' := T23) (g' := (mkF m 130 #[.val (.long xs), .second, .val (.int xa), .val (.int xb), .val (.int v2), .val (.int v4), .val (.long v5), .second, .val (.int v38_7), .val (.int v101_20), .val (.int v24), .unset] [])) (fun t_ k_ => XS.ifYes X23.here hx rfl (pc0 := 123) (pc' := 130) rfl (hb hby at_123) rfl ((if0 _ _).trans (feq hc123_29).2) (by decide) (by decide) k_) ?_
              refine own_Goes.via (T' := T23) (g' := (mkF m 131 #[.val (.long xs), .second, .val (.int xa), .val (.int xb), .val (.int v2), .val (.int v4), .val (.long v5), .second, .val (.int v38_7), .val (.int v101_20), .val (.int v24), .unset] [(.int (0 : Int32))])) (fun t_ k_ => XS.iconst X23.here hx rfl (hb hby at_130) k_) ?_
              refine own_Goes.via (T' := T23) (g' := (mkF m 136 #[.val (.long xs), .second, .val (.int xa), .val (.int xb), .val (.int v2), .val (.int v4), .val (.long v5), .second, .val (.int v38_7), .val (.int v101_20), .val (.int v24), .unset] [(.int (0 : Int32))])) (fun t_ k_ => XS.goto X23.here hx rfl (pc0 := 131) (pc' := 136) rfl (hb hby at_131) (by decide) (by decide) k_) ?_
              exact J136_28 (0 : Int32) (((if_pos hc118_25).trans (if_neg hc123_29))).symm
          · refine own_Goes.via (T' := T23) (g' := (mkF m 134 #[.val (.long xs), .second, .val (.int xa), .val (.int xb), .val (.int v2), .val (.int v4), .val (.long v5), .second, .val (.int v38_7), .val (.int v101_20), .val (.int v24), .unset] [])) (fun t_ k_ => XS.icmpYes X23.here hx rfl (pc0 := 118) (pc' := 134) rfl (hb hby at_118) rfl (feq hc118_25).2 (by decide) (by decide) k_) ?_
            refine own_Goes.via (T' := T23) (g' := (mkF m 136 #[.val (.long xs), .second, .val (.int xa), .val (.int xb), .val (.int v2), .val (.int v4), .val (.long v5), .second, .val (.int v38_7), .val (.int v101_20), .val (.int v24), .unset] [(.int v101_20)])) (fun t_ k_ => XS.iload X23.here hx rfl (hb hby at_134) rfl k_) ?_
            exact J136_28 v101_20 ((if_neg hc118_25)).symm
        intro v136_26 hv136_26
        refine own_Goes.via (T' := T23) (g' := (mkF m 138 #[.val (.long xs), .second, .val (.int xa), .val (.int xb), .val (.int v2), .val (.int v4), .val (.long v5), .second, .val (.int v38_7), .val (.int v101_20), .val (.int v24), .val (.int v136_26)] [])) (fun t_ k_ => XS.istore X23.here hx rfl (hb hby at_136) rfl (l' := #[.val (.long xs), .second, .val (.int xa), .val (.int xb), .val (.int v2), .val (.int v4), .val (.long v5), .second, .val (.int v38_7), .val (.int v101_20), .val (.int v24), .val (.int v136_26)]) rfl k_) ?_
        refine own_Goes.via (T' := T23) (g' := (mkF m 140 #[.val (.long xs), .second, .val (.int xa), .val (.int xb), .val (.int v2), .val (.int v4), .val (.long v5), .second, .val (.int v38_7), .val (.int v101_20), .val (.int v24), .val (.int v136_26)] [(.int v24)])) (fun t_ k_ => XS.iload X23.here hx rfl (hb hby at_138) rfl k_) ?_
        refine own_Goes.via (T' := T23) (g' := (mkF m 142 #[.val (.long xs), .second, .val (.int xa), .val (.int xb), .val (.int v2), .val (.int v4), .val (.long v5), .second, .val (.int v38_7), .val (.int v101_20), .val (.int v24), .val (.int v136_26)] [(.int v136_26), (.int v24)])) (fun t_ k_ => XS.iload X23.here hx rfl (hb hby at_140) rfl k_) ?_
        suffices J150_33 : ∀ (v150_31 : Int32) (hv150_31 : v150_31 = (if v24 = v136_26 then (1 : Int32) else (0 : Int32))), own_Goes p.tables e below P T23 (mkF m 150 #[.val (.long xs), .second, .val (.int xa), .val (.int xb), .val (.int v2), .val (.int v4), .val (.long v5), .second, .val (.int v38_7), .val (.int v101_20), .val (.int v24), .val (.int v136_26)] [(.int v150_31)]) by
          by_cases hc142_30 : v24 = v136_26
          · refine own_Goes.via (T' := T23) (g' := (mkF m 145 #[.val (.long xs), .second, .val (.int xa), .val (.int xb), .val (.int v2), .val (.int v4), .val (.long v5), .second, .val (.int v38_7), .val (.int v101_20), .val (.int v24), .val (.int v136_26)] [])) (fun t_ k_ => XS.icmpNo X23.here hx rfl (hb hby at_142) rfl (teq hc142_30).2 k_) ?_
            refine own_Goes.via (T' := T23) (g' := (mkF m 146 #[.val (.long xs), .second, .val (.int xa), .val (.int xb), .val (.int v2), .val (.int v4), .val (.long v5), .second, .val (.int v38_7), .val (.int v101_20), .val (.int v24), .val (.int v136_26)] [(.int (1 : Int32))])) (fun t_ k_ => XS.iconst X23.here hx rfl (hb hby at_145) k_) ?_
            refine own_Goes.via (T' := T23) (g' := (mkF m 150 #[.val (.long xs), .second, .val (.int xa), .val (.int xb), .val (.int v2), .val (.int v4), .val (.long v5), .second, .val (.int v38_7), .val (.int v101_20), .val (.int v24), .val (.int v136_26)] [(.int (1 : Int32))])) (fun t_ k_ => XS.goto X23.here hx rfl (pc0 := 146) (pc' := 150) rfl (hb hby at_146) (by decide) (by decide) k_) ?_
            exact J150_33 (1 : Int32) ((if_pos hc142_30)).symm
          · refine own_Goes.via (T' := T23) (g' := (mkF m 149 #[.val (.long xs), .second, .val (.int xa), .val (.int xb), .val (.int v2), .val (.int v4), .val (.long v5), .second, .val (.int v38_7), .val (.int v101_20), .val (.int v24), .val (.int v136_26)] [])) (fun t_ k_ => XS.icmpYes X23.here hx rfl (pc0 := 142) (pc' := 149) rfl (hb hby at_142) rfl (feq hc142_30).2 (by decide) (by decide) k_) ?_
            refine own_Goes.via (T' := T23) (g' := (mkF m 150 #[.val (.long xs), .second, .val (.int xa), .val (.int xb), .val (.int v2), .val (.int v4), .val (.long v5), .second, .val (.int v38_7), .val (.int v101_20), .val (.int v24), .val (.int v136_26)] [(.int (0 : Int32))])) (fun t_ k_ => XS.iconst X23.here hx rfl (hb hby at_149) k_) ?_
            exact J150_33 (0 : Int32) ((if_neg hc142_30)).symm
        intro v150_31 hv150_31
        have hfin : v150_31 = 1 := own_pl0_1 hv2 hv4 hv5 hv38_7 hv11 hv14 hv17 hv101_20 hv24 hv136_26 hv150_31 hc48_12 hc62_15 hc80_18 nz6_1 nz15_3
        rw [hfin]
        obtain ⟨fs, hr, hrun, hended, hW, hsame⟩ := X23.leave (v := some (.int 1)) (fun h => by rw [Bd.returns] at h; cases h)
        refine own_Goes.fin (retN X23 hx (t := .boolean) Bd.returns (by simp) (hb hby at_150) hr) hrun hended ?_
        subst hPd
        refine ⟨_, _, rfl, ?_, ⟨_, rfl⟩, hW, hsame.mono (by decide) (by decide)⟩
        show Q0 Z xs xa xb h0 n0 _ T23.heap _
        rw [hh23]
        exact ⟨rfl, N23⟩
      · refine own_Goes.via (T' := T16) (g' := (mkF m 83 #[.val (.long xs), .second, .val (.int xa), .val (.int xb), .val (.int v2), .val (.int v4), .val (.long v5), .second, .val (.int v38_7), .unset, .unset, .unset] [])) (fun t_ k_ => XS.ifNo X16.here hx rfl (hb hby at_80) rfl ((if0 _ _).trans (feq hc80_18).1) k_) ?_
        refine own_Goes.via (T' := T16) (g' := (mkF m 84 #[.val (.long xs), .second, .val (.int xa), .val (.int xb), .val (.int v2), .val (.int v4), .val (.long v5), .second, .val (.int v38_7), .unset, .unset, .unset] [(.int (0 : Int32))])) (fun t_ k_ => XS.iconst X16.here hx rfl (hb hby at_83) k_) ?_
        exfalso
        exact own_pl0_2 hv2 hv4 hv5 hv38_7 hv11 hv14 hv17 hc48_12 hc62_15 hc80_18 nz6_1 nz15_3
  · refine own_Goes.via (T' := T10) (g' := (mkF m 51 #[.val (.long xs), .second, .val (.int xa), .val (.int xb), .val (.int v2), .val (.int v4), .val (.long v5), .second, .val (.int v38_7), .unset, .unset, .unset] [])) (fun t_ k_ => XS.icmpNo X10.here hx rfl (hb hby at_48) rfl (feq hc48_12).1 k_) ?_
    refine own_Goes.via (T' := T10) (g' := (mkF m 52 #[.val (.long xs), .second, .val (.int xa), .val (.int xb), .val (.int v2), .val (.int v4), .val (.long v5), .second, .val (.int v38_7), .unset, .unset, .unset] [(.int (0 : Int32))])) (fun t_ k_ => XS.iconst X10.here hx rfl (hb hby at_51) k_) ?_
    exfalso
    exact own_pl0_3 hv2 hv4 hv5 hv38_7 hv11 hc48_12 nz6_1 nz15_3
set_option maxRecDepth 65536 in
set_option maxHeartbeats 40000000 in
theorem comes_1 {Post : Tables → Env → Array Value → State → Outcome → State → Prop} (hpost : ∀ tb e args s v u, (limb_1_1.after args s (.returned v) u = true ∧ limb_1_2.after args s (.returned v) u = true ∧ True) → FrameEnd s (.returned v) u (Jvm.fieldLocs frame_1_writes args s ++ Jvm.arrayLocs frame_1_arrays args s ++ Jvm.staticLocs frame_1_statics s) 0 0 → Post tb e args s (.returned v) u) :
    ArmFor flags0 classFile x code maxLocals ret World_1 tables_1 room_1 Calls_1 rest_1 Pre_1 Post := by
  intro l hfl _ _ p e ha hc hk s m args below hf hA hF happ hP
  obtain ⟨hcalls, hrest, hpre⟩ := hP
  obtain ⟨-, -, -, hnamed, -, -, -, hat⟩ := (Spec.applies_iff hf).mp happ
  obtain ⟨hg, hn⟩ := and_e (Cond.before_iff.mp (show (Jvm.Cond.and given_1 narrow_1).before args s = true from hpre))
  obtain ⟨g1, g2⟩ := and_e hg
  obtain ⟨g3, g4⟩ := and_e g2
  obtain ⟨g5, g6⟩ := and_e g4
  obtain ⟨w0, w1, w2, rfl⟩ : ∃ w0 w1 w2 : Value, args = #[w0, w1, w2] := by
    have hs : args.size = 3 := by simpa [Cond.value, given_1] using g1
    obtain ⟨L⟩ := args
    match L, hs with
    | [w0, w1, w2], _ => exact ⟨w0, w1, w2, rfl⟩
  have hw := fun d (hd : d ∈ tables_1) => atoms_spec (ws := Jvm.Cond.code x code maxLocals ret :: tables_1) hat d (List.mem_cons_of_mem _ hd)
  have hfit : Fit s := fun {y c} hc i hi => by
    obtain ⟨ha, rfl⟩ := Array.getElem?_eq_some_iff.mp hc
    have q := List.all_eq_true.mp ((Array.all_eq_true_iff_forall_mem.mp hF) _ (Array.getElem_mem ha)) i (List.mem_range.mpr hi)
    simpa [Array.getElem?_eq_getElem hi] using q
  obtain ⟨i0, ei0⟩ := isL_v g3
  obtain rfl : w0 = (.long i0) := Option.some.inj ei0
  obtain ⟨i1, ei1⟩ := is_v g5
  obtain rfl : w1 = (.int i1) := Option.some.inj ei1
  obtain ⟨i2, ei2⟩ := is_v g6
  obtain rfl : w2 = (.int i2) := Option.some.inj ei2
  obtain ⟨n, o, h1, h2, h3, _, L, rfl, ⟨rfl, N⟩, hq⟩ := rm0 l s _ hw tables_1 i0 i1 i2  s.heap s.heap.size (Nat.le_refl _)  p e ha hc hk s m _ below hf ((Spec.applies_iff_loose hf).mp happ).1 ⟨rfl, State.Warmed39.refl s, rfl⟩ trivial
  refine ⟨n, _, h1, h2, h3, hpost _ _ _ _ _ _ ⟨Cond.after_iff.mpr rfl, Cond.after_iff.mpr (eq_i res_at (Term.int_eval (1)) rfl), trivial⟩ ⟨hq.1, hq.2.1, (hq.2.2.sift fun y hy => Or.inr (N y hy)).mono (by decide) (by decide)⟩⟩
theorem main_1_1 : Claimed_1_1 := comes_1 fun _ _ _ _ _ _ h hF => ⟨h.1, hF⟩
theorem main_1_2 : Claimed_1_2 := comes_1 fun _ _ _ _ _ _ h hF => ⟨h.2.1, hF⟩
end Jvm.Pilot.@@N@@
namespace Jvm.Pilot.@@N@@
open Jvm Jvm.ClassFile Sem Op Lib Jvm.Free Jvm.Stand Jvm.Pilot.@@N@@.Jvm.D
/-! MADE BY PROGRAM (witnessworld.py) out of the Statement's table words and the real class files: 9 classes; the members and pool entries that the words name. The judged class is class 1, her method 1. -/
namespace start1
open Jvm.ClassFile
def u (s : String) : CpInfo := .utf8 (stringToUtf16 s)
/-- a pool by its gaps: so many unusable entries, then the entry; so many at the end -/
def gap : Nat → List CpInfo → List CpInfo
  | 0, r => r
  | n + 1, r => .unusable :: gap n r
def poolList (es : List (Nat × CpInfo)) (last : Nat) : List CpInfo := es.foldr (fun e r => gap e.1 (e.2 :: r)) (gap last [])
def pool (es : List (Nat × CpInfo)) (last : Nat) : Array CpInfo := ⟨poolList es last⟩
def fileOf (pool : Array CpInfo) (this : Nat) (attrs : Array Attribute := #[]) (ms : Array MethodInfo := #[]) (fl : Nat := 33) (sup : Nat := 0) (ifs : Array Nat := #[]) (fds : Array FieldInfo := #[]) : ClassFile where
  minorVersion := 0
  majorVersion := 65
  constantPool := pool
  accessFlags := fl
  thisClass := this
  superClass := sup
  interfaces := ifs
  fields := fds
  methods := ms
  attributes := attrs
def plain (name : String) (sup : Option ClassId) : Class where
  name := name
  kind := .ordinary
  loader := none
  accessFlags := 33
  super := sup
  interfaces := #[]
  cf := none
  fields := #[]
  methods := #[]
  instanceTypes := #[]
  staticTypes := #[]
  resolved := #[]
  callSites := []
  init := .initialized
  statics := none
  mirror := none

def pool0 : Array CpInfo := pool [(5, u "<init>"), (0, u "()V"), (1, .class_ 10), (1, u "java/lang/Object")] 113

def k0m0 : Method := { name := "<init>", desc := "()V", sig := { parameters := [], returnType := none }, accessFlags := 1, code := none }
/-- java/lang/Object -/
def k0 : Class := { plain "java/lang/Object" none with
  accessFlags := 33
  interfaces := #[]
  cf := some (fileOf pool0 8 #[] #[{ accessFlags := 1, nameIndex := 5, descriptorIndex := 6, attributes := #[] }] 33 0 #[] #[])
  fields := #[]
  methods := #[k0m0]
  instanceTypes := #[]
  staticTypes := #[]
  resolved := Array.replicate 124 none
  statics := none }

def pool1 : Array CpInfo := pool [(2, .class_ 4), (1, u "java/lang/Object"), (0, u "<init>"), (0, u "()V"), (0, .integer 2147483647), (0, .methodref 9 10), (0, .class_ 11), (0, .nameAndType 12 13), (0, u "com/example/wildsuit/wildsuit/game/CardSet"), (0, u "contains"), (0, u "(JI)Z"), (0, .long 18446744073709551615), (1, .class_ 17), (0, u "com/example/wildsuit/wildsuit/game/CardSetContainsPinLaw"), (2, u "law"), (0, u "(JII)Z")] 3

def k1m0 : Method := { name := "<init>", desc := "()V", sig := { parameters := [], returnType := none }, accessFlags := 2, code := none }
def k1c1 : Code := { maxStack := 6, maxLocals := 12, code := code, exceptionTable := #[], attributes := #[] }
def k1m1 : Method := { name := "law", desc := "(JII)Z", sig := { parameters := [.long, .int, .int], returnType := some .boolean }, accessFlags := 9, code := some k1c1 }
/-- com/example/wildsuit/wildsuit/game/CardSetContainsPinLaw -/
def k1 : Class := { plain "com/example/wildsuit/wildsuit/game/CardSetContainsPinLaw" (some 0) with
  accessFlags := 49
  interfaces := #[]
  cf := some (fileOf pool1 16 #[] #[{ accessFlags := 2, nameIndex := 5, descriptorIndex := 6, attributes := #[] }, { accessFlags := 9, nameIndex := 20, descriptorIndex := 21, attributes := #[] }] 49 2 #[] #[])
  fields := #[]
  methods := #[k1m0, k1m1]
  instanceTypes := #[]
  staticTypes := #[]
  resolved := Array.replicate 25 none
  statics := none }

def pool2 : Array CpInfo := pool [(4, .class_ 6), (1, u "java/lang/Object"), (0, u "<init>"), (0, u "()V"), (0, .class_ 10), (0, u "com/example/wildsuit/wildsuit/game/CardSet"), (24, u "NONE"), (0, u "J"), (3, u "EVERY_CARD"), (4, u "contains"), (0, u "(JI)Z")] 11

def k2m0 : Method := { name := "<init>", desc := "()V", sig := { parameters := [], returnType := none }, accessFlags := 2, code := none }
def k2c1 : Code := { maxStack := 4, maxLocals := 3, code := prog_7_method_3_code, exceptionTable := #[], attributes := #[] }
def k2m1 : Method := { name := "contains", desc := "(JI)Z", sig := { parameters := [.long, .int], returnType := some .boolean }, accessFlags := 8, code := some k2c1 }
/-- com/example/wildsuit/wildsuit/game/CardSet -/
def k2 : Class := { plain "com/example/wildsuit/wildsuit/game/CardSet" (some 0) with
  accessFlags := 48
  interfaces := #[]
  cf := some (fileOf pool2 9 #[] #[{ accessFlags := 2, nameIndex := 7, descriptorIndex := 8, attributes := #[] }, { accessFlags := 8, nameIndex := 45, descriptorIndex := 46, attributes := #[] }] 48 4 #[] #[{ accessFlags := 24, nameIndex := 35, descriptorIndex := 36, attributes := #[] }, { accessFlags := 24, nameIndex := 40, descriptorIndex := 36, attributes := #[] }])
  fields := #[{ name := "NONE", type := .long, accessFlags := 24, slot := 0, constantValue := 0 }, { name := "EVERY_CARD", type := .long, accessFlags := 24, slot := 1, constantValue := 0 }]
  methods := #[k2m0, k2m1]
  instanceTypes := #[]
  staticTypes := #[.long, .long]
  resolved := Array.replicate 58 none
  statics := none }

def pool3 : Array CpInfo := pool [(1, u "java/lang/Cloneable"), (0, .class_ 1), (0, u "java/lang/Object"), (0, .class_ 3)] 3

/-- java/lang/Cloneable -/
def k3 : Class := { plain "java/lang/Cloneable" (some 0) with
  accessFlags := 1537
  interfaces := #[]
  cf := some (fileOf pool3 2 #[] #[] 1537 4 #[] #[])
  fields := #[]
  methods := #[]
  instanceTypes := #[]
  staticTypes := #[]
  resolved := Array.replicate 8 none
  statics := none }

def pool4 : Array CpInfo := pool [(1, u "java/io/Serializable"), (0, .class_ 1), (0, u "java/lang/Object"), (0, .class_ 3)] 3

/-- java/io/Serializable -/
def k4 : Class := { plain "java/io/Serializable" (some 0) with
  accessFlags := 1537
  interfaces := #[]
  cf := some (fileOf pool4 2 #[] #[] 1537 4 #[] #[])
  fields := #[]
  methods := #[]
  instanceTypes := #[]
  staticTypes := #[]
  resolved := Array.replicate 8 none
  statics := none }

/-- the primitive byte -/
def k5 : Class := { plain "byte" none with kind := .primitive 'B', accessFlags := 0x411 }
/-- [B -/
def k6 : Class := { plain "[B" (some 0) with kind := .array 5 .byte, interfaces := #[3, 4], accessFlags := 1041 }

/-- the primitive int -/
def k7 : Class := { plain "int" none with kind := .primitive 'I', accessFlags := 0x411 }
/-- [I -/
def k8 : Class := { plain "[I" (some 0) with kind := .array 7 .int, interfaces := #[3, 4], accessFlags := 1041 }

def heap : Heap := #[]
def classes : Array Class := #[k0, k1, k2, k3, k4, k5, k6, k7, k8]
def interned : List (Array UInt16 × Addr) := []
def slotsUsed : Nat := 0
def theMethod : MethodId := ⟨1, 1⟩
def args0 : Array Value := #[.long 5, .int 7, .int 9]
def aboutOver (below : List Frame) : State where
  vm := { classes := classes, interned := interned.toArray }
  heap := heap
  slotsUsed := slotsUsed
  threads := #[{ frames := .invoking theMethod args0 :: below }]
def below0 : List Frame := [.native { method := ⟨0, 0⟩, args := #[] }]
def about1 : State := aboutOver below0
def p0 : Program := .bare "" "" ""
def e0 : Env := launch0.env 0 0 0
theorem w_frames : about1.frames = Frame.invoking theMethod args0 :: below0 := rfl
set_option maxRecDepth 65536 in
theorem w_args : argsFit about1.vm theMethod args0 = true := by decide +kernel
set_option maxRecDepth 65536 in
theorem w_heap : heapFits about1 = true := by decide +kernel
set_option maxRecDepth 65536 in
theorem w_runnable : about1.curStatus? = some .runnable := by decide +kernel
set_option maxRecDepth 65536 in
theorem w_alone : about1.alone = true := by decide +kernel
set_option maxRecDepth 65536 in
theorem w_named : about1.methodNamed? x = some theMethod := by decide +kernel
set_option maxRecDepth 65536 in
theorem w_hears : about1.hears theMethod below0 = true := by decide +kernel
set_option maxRecDepth 65536 in
theorem w_ripe : about1.ripe theMethod args0 below0 = true := by decide +kernel
theorem w_running : about1.status = .running := rfl
set_option maxRecDepth 65536 in
theorem w_room : about1.hasRoom e0.platform room_1 = true :=
  launch0.hasRoom_least _ room_1 (by decide +kernel) (by decide +kernel) (by decide +kernel) (by decide +kernel) (by decide +kernel) (by decide +kernel)
theorem allAtoms_all (ts : List Jvm.Cond) (a : Array Jvm.Value) (st : Jvm.State) : (allAtoms ts).before a st = ts.all (fun c => c.before a st) := by
  induction ts with
  | nil => rfl
  | cons c t ih =>
    show (Jvm.Cond.and c (allAtoms t)).before a st = _
    rw [Jvm.Cond.before_and, ih, List.all_cons]
def words1 : List Jvm.Cond := Jvm.Cond.code x code maxLocals ret :: tables_1
/-- a 'code' word, met by the world's own term for the bytes: nothing is compared byte by byte -/
theorem code_word {y : MethodName} {bytes : ByteArray} {mx : Nat} {rt : Option FieldType} {a : Array Value} {s : State} {m : MethodId} {meth : Method} {c : Code} (h1 : s.methodNamed? y = some m) (h2 : s.vm.method? m = some meth) (h3 : meth.code = some c) (h4 : c.code = bytes)
    (h5 : (c.maxLocals == mx && c.exceptionTable.isEmpty && decide (c.maxStack ≤ mostOperands) && decide (meth.sig.returnType = rt) && !meth.locks && decide (parseMethodDescriptor y.desc = some meth.sig)) = true) : (Jvm.Cond.code y bytes mx rt).before a s = true := by
  simp only [Bool.and_eq_true, beq_iff_eq, Bool.not_eq_true', decide_eq_true_eq] at h5
  obtain ⟨⟨⟨⟨⟨g1, g2⟩, g3⟩, g4⟩, g5⟩, g6⟩ := h5
  simp [Cond.before, Cond.holds, Cond.value, h1, h2, h3, h4, g1, g2, g3, g4, g5, g6]
def isCode : Jvm.Cond → Bool
  | .code _ _ _ _ => true
  | _ => false
theorem all_split {L : List Jvm.Cond} {P : Jvm.Cond → Bool} (h1 : L.all (fun c => isCode c || P c) = true) (h2 : ∀ c ∈ L.filter isCode, P c = true) : L.all P = true := by
  refine List.all_eq_true.mpr fun c hc => ?_
  have h := List.all_eq_true.mp h1 c hc
  rcases Bool.eq_false_or_eq_true (isCode c) with hi | hi
  · exact h2 c (List.mem_filter.mpr ⟨hc, hi⟩)
  · simpa [hi] using h
set_option maxRecDepth 65536 in
theorem w_c0 : (Jvm.Cond.code x code maxLocals ret).before args0 about1 = true := code_word (m := ⟨1, 1⟩) (meth := k1m1) (c := k1c1) (by decide +kernel) rfl rfl rfl (by decide +kernel)
set_option maxRecDepth 65536 in
theorem w_c1 : (Jvm.Cond.code ({ cls := "com/example/wildsuit/wildsuit/game/CardSet", name := "contains", desc := "(JI)Z" } : Jvm.MethodName) prog_7_method_3_code (3 : Nat) (Option.some Jvm.ClassFile.FieldType.boolean)).before args0 about1 = true := code_word (m := ⟨2, 1⟩) (meth := k2m1) (c := k2c1) (by decide +kernel) rfl rfl rfl (by decide +kernel)
def codes1 : List Jvm.Cond := [Jvm.Cond.code x code maxLocals ret, Jvm.Cond.code ({ cls := "com/example/wildsuit/wildsuit/game/CardSet", name := "contains", desc := "(JI)Z" } : Jvm.MethodName) prog_7_method_3_code (3 : Nat) (Option.some Jvm.ClassFile.FieldType.boolean)]
set_option maxRecDepth 65536 in
theorem codes_eq : words1.filter isCode = codes1 := rfl
theorem w_codes : ∀ c ∈ words1.filter isCode, c.before args0 about1 = true := by
  rw [codes_eq]
  intro c hc
  simp only [codes1, List.mem_cons, List.not_mem_nil, or_false] at hc
  rcases hc with rfl | rfl
  · exact w_c0
  · exact w_c1
set_option maxRecDepth 65536 in
theorem w_t1 : words1.all (fun c => isCode c || c.before args0 about1) = true := by decide +kernel
theorem w_tables : (allAtoms (Jvm.Cond.code x code maxLocals ret :: tables_1)).before args0 about1 = true := by
  rw [allAtoms_all]
  show words1.all (fun c => c.before args0 about1) = true
  refine all_split ?_ w_codes
  rw [w_t1]
set_option maxRecDepth 65536 in
theorem w_case : (Jvm.Cond.and given_1 narrow_1).before args0 about1 = true := by decide +kernel
theorem w_applies : (headSpec (Jvm.Cond.code x code maxLocals ret :: tables_1) room_1).applies x e0.platform about1 = true :=
  (Spec.applies_iff w_frames).mpr ⟨w_running, w_runnable, w_alone, w_named, w_hears, w_ripe, w_room, w_tables⟩
theorem atStart : AtStart classFile x code maxLocals ret World_1 tables_1 room_1 Calls_1 rest_1 Pre_1 launch0 p0 e0 about1 theMethod args0 below0 :=
  ⟨lists_1, trivial, launch0.admits_env _ _ _, launch0.least_env, fairChoices_fair.cas, fairChoices_fair.clock, w_frames, w_args, w_heap, w_applies, trivial, trivial, w_case⟩
end start1
theorem witness_1 : WitnessClaimed_1 := ⟨start1.p0, start1.e0, start1.about1, start1.theMethod, start1.args0, start1.below0, start1.atStart⟩
end Jvm.Pilot.@@N@@
