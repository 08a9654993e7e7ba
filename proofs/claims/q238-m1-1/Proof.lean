import JvmDerived
import JvmDerived.Pilot.@@N@@Statement
import JvmDerived.Pilot.@@N@@Code
set_option linter.unusedVariables false
set_option linter.unusedSimpArgs false
@@BLOCK:NumsL.lean.txt@@
namespace Jvm.Pilot.@@N@@
open Jvm Jvm.ClassFile Sem Op Lib Jvm.Free Jvm.Stand Jvm.LawKit Jvm.RoadKit Bundle Jvm.Pilot.@@N@@.Jvm.D
/-- from the state T with the frame g the run comes to an end that P speaks of -/
def own_Goes (tb : Tables) (e : Env) (below : List Frame) (P : Outcome → State → Prop) (T : State) (g : JFrame) : Prop :=
  ∃ s₂ o, Steps tb e below (T.setTop g) s₂ ∧ s₂.status = .running ∧ Ended s₂ below o ∧ P o s₂
theorem own_Goes.via {tb : Tables} {e : Env} {below : List Frame} {P : Outcome → State → Prop} {T T' : State} {g g' : JFrame} (h : ∀ t, Steps tb e below (T'.setTop g') t → Steps tb e below (T.setTop g) t) (k : own_Goes tb e below P T' g') : own_Goes tb e below P T g := by
  obtain ⟨s₂, o, a, b⟩ := k
  exact ⟨s₂, o, h _ a, b⟩
theorem own_Goes.fin {tb : Tables} {e : Env} {below : List Frame} {P : Outcome → State → Prop} {T s₂ : State} {g : JFrame} {o : Outcome} (h1 : Steps tb e below (T.setTop g) s₂) (h2 : s₂.status = .running) (h3 : Ended s₂ below o) (h4 : P o s₂) : own_Goes tb e below P T g := ⟨s₂, o, h1, h2, h3, h4⟩
theorem own_ltT {x y : Int64} (h : x < y) : ifCond.holds .lt (lcmpW x y) = true ∧ ifCond.holds .ge (lcmpW x y) = false := by
  have q : lcmpW x y < 0 := by rw [lcW]; exact (lc_lt x y).mpr h
  exact ⟨(if0 _ _).trans (tlt q).1, (if0 _ _).trans (tlt q).2.1⟩
theorem own_ltF {x y : Int64} (h : ¬ x < y) : ifCond.holds .lt (lcmpW x y) = false ∧ ifCond.holds .ge (lcmpW x y) = true := by
  have q : ¬ lcmpW x y < 0 := by rw [lcW]; exact fun z => h ((lc_lt x y).mp z)
  exact ⟨(if0 _ _).trans (flt q).1, (if0 _ _).trans (flt q).2.1⟩
theorem own_gtT {x y : Int64} (h : y < x) : ifCond.holds .gt (lcmpW x y) = true ∧ ifCond.holds .le (lcmpW x y) = false := by
  have q : 0 < lcmpW x y := by rw [lcW]; exact (lc_gt x y).mpr h
  exact ⟨(if0 _ _).trans (tlt q).2.2.1, (if0 _ _).trans (tlt q).2.2.2⟩
theorem own_gtF {x y : Int64} (h : ¬ y < x) : ifCond.holds .gt (lcmpW x y) = false ∧ ifCond.holds .le (lcmpW x y) = true := by
  have q : ¬ 0 < lcmpW x y := by rw [lcW]; exact fun z => h ((lc_gt x y).mp z)
  exact ⟨(if0 _ _).trans (flt q).2.2.1, (if0 _ _).trans (flt q).2.2.2⟩
theorem own_eqT {x y : Int64} (h : x = y) : ifCond.holds .eq (lcmpW x y) = true ∧ ifCond.holds .ne (lcmpW x y) = false := by
  have q : lcmpW x y = 0 := by rw [lcW]; exact (lc_eq x y).mpr h
  exact ⟨(if0 _ _).trans (teq q).1, (if0 _ _).trans (teq q).2⟩
theorem own_eqF {x y : Int64} (h : ¬ x = y) : ifCond.holds .eq (lcmpW x y) = false ∧ ifCond.holds .ne (lcmpW x y) = true := by
  have q : ¬ lcmpW x y = 0 := by rw [lcW]; exact fun z => h ((lc_eq x y).mp z)
  exact ⟨(if0 _ _).trans (feq q).1, (if0 _ _).trans (feq q).2⟩
theorem own_lrem (x y : Int64) : x - (x / y) * y = x % y := Int64.toInt_inj.mp (by rw [Jvm.Kit.i64_rem, Int64.toInt_mod])
theorem own_ushr (x : Int64) (n : UInt64) {k : Nat} (hk : (n.toBitVec % 64).toNat = k) : ((x.toUInt64 >>> n).toInt64).toBitVec = x.toBitVec >>> k := by
  subst hk
  show (x.toUInt64 >>> n).toBitVec = _
  rw [UInt64.toBitVec_shiftRight]
  rfl
theorem own_xor5 (x a b : BitVec 64) : ((x ^^^ a) ^^^ (a ^^^ b)) ^^^ b = x := by
  rw [BitVec.xor_assoc (x ^^^ a), BitVec.xor_assoc a, BitVec.xor_self, BitVec.xor_zero, BitVec.xor_assoc, BitVec.xor_self, BitVec.xor_zero]
theorem own_bx2 (x : BitVec 64) (k : Nat) (h : 64 ≤ k + k) : (x ^^^ x >>> k) ^^^ (x ^^^ x >>> k) >>> k = x := by
  rw [BitVec.ushiftRight_xor_distrib, ← BitVec.shiftRight_add, BitVec.ushiftRight_eq_zero h, BitVec.xor_zero, BitVec.xor_assoc, BitVec.xor_self, BitVec.xor_zero]
theorem own_bx3 (x : BitVec 64) (k l : Nat) (hl : l = k + k) (h : 64 ≤ k + l) : ((x ^^^ x >>> k) ^^^ (x ^^^ x >>> k) >>> k) ^^^ (x ^^^ x >>> k) >>> l = x := by
  rw [BitVec.ushiftRight_xor_distrib, BitVec.ushiftRight_xor_distrib, ← BitVec.shiftRight_add, ← BitVec.shiftRight_add, BitVec.ushiftRight_eq_zero h, BitVec.xor_zero, ← hl, own_xor5]
def own_X33 (x : Int64) : Int64 := (x ^^^ ((x.toUInt64 >>> ((33 : Int32) &&& 0x3f).toInt64.toUInt64).toInt64))
theorem own_Xb33 (x : Int64) : (own_X33 x).toBitVec = x.toBitVec ^^^ x.toBitVec >>> 33 := by
  show x.toBitVec ^^^ _ = _
  rw [own_ushr x _ (k := 33) (by decide)]
theorem own_X33_inv (x : Int64) : own_X33 (own_X33 x) = x := by
  apply Int64.toBitVec_inj.mp
  rw [own_Xb33, own_Xb33]
  exact own_bx2 _ _ (by decide)
theorem d1_0 : decode method_2_code 0 = .ok (.lload_n 0, 1) := by decide +kernel
theorem d1_1 : decode method_2_code 1 = .ok (.lstore_n 2, 1) := by decide +kernel
theorem d1_2 : decode method_2_code 2 = .ok (.lload_n 2, 1) := by decide +kernel
theorem d1_3 : decode method_2_code 3 = .ok (.ldc2_w 7, 3) := by decide +kernel
theorem d1_6 : decode method_2_code 6 = .ok (.lload_n 0, 1) := by decide +kernel
theorem d1_7 : decode method_2_code 7 = .ok (.lload_n 2, 1) := by decide +kernel
theorem d1_8 : decode method_2_code 8 = .ok (.lmul, 1) := by decide +kernel
theorem d1_9 : decode method_2_code 9 = .ok (.lsub, 1) := by decide +kernel
theorem d1_10 : decode method_2_code 10 = .ok (.lmul, 1) := by decide +kernel
theorem d1_11 : decode method_2_code 11 = .ok (.lstore_n 2, 1) := by decide +kernel
theorem d1_12 : decode method_2_code 12 = .ok (.lload_n 2, 1) := by decide +kernel
theorem d1_13 : decode method_2_code 13 = .ok (.ldc2_w 7, 3) := by decide +kernel
theorem d1_16 : decode method_2_code 16 = .ok (.lload_n 0, 1) := by decide +kernel
theorem d1_17 : decode method_2_code 17 = .ok (.lload_n 2, 1) := by decide +kernel
theorem d1_18 : decode method_2_code 18 = .ok (.lmul, 1) := by decide +kernel
theorem d1_19 : decode method_2_code 19 = .ok (.lsub, 1) := by decide +kernel
theorem d1_20 : decode method_2_code 20 = .ok (.lmul, 1) := by decide +kernel
theorem d1_21 : decode method_2_code 21 = .ok (.lstore_n 2, 1) := by decide +kernel
theorem d1_22 : decode method_2_code 22 = .ok (.lload_n 2, 1) := by decide +kernel
theorem d1_23 : decode method_2_code 23 = .ok (.ldc2_w 7, 3) := by decide +kernel
theorem d1_26 : decode method_2_code 26 = .ok (.lload_n 0, 1) := by decide +kernel
theorem d1_27 : decode method_2_code 27 = .ok (.lload_n 2, 1) := by decide +kernel
theorem d1_28 : decode method_2_code 28 = .ok (.lmul, 1) := by decide +kernel
theorem d1_29 : decode method_2_code 29 = .ok (.lsub, 1) := by decide +kernel
theorem d1_30 : decode method_2_code 30 = .ok (.lmul, 1) := by decide +kernel
theorem d1_31 : decode method_2_code 31 = .ok (.lstore_n 2, 1) := by decide +kernel
theorem d1_32 : decode method_2_code 32 = .ok (.lload_n 2, 1) := by decide +kernel
theorem d1_33 : decode method_2_code 33 = .ok (.ldc2_w 7, 3) := by decide +kernel
theorem d1_36 : decode method_2_code 36 = .ok (.lload_n 0, 1) := by decide +kernel
theorem d1_37 : decode method_2_code 37 = .ok (.lload_n 2, 1) := by decide +kernel
theorem d1_38 : decode method_2_code 38 = .ok (.lmul, 1) := by decide +kernel
theorem d1_39 : decode method_2_code 39 = .ok (.lsub, 1) := by decide +kernel
theorem d1_40 : decode method_2_code 40 = .ok (.lmul, 1) := by decide +kernel
theorem d1_41 : decode method_2_code 41 = .ok (.lstore_n 2, 1) := by decide +kernel
theorem d1_42 : decode method_2_code 42 = .ok (.lload_n 2, 1) := by decide +kernel
theorem d1_43 : decode method_2_code 43 = .ok (.ldc2_w 7, 3) := by decide +kernel
theorem d1_46 : decode method_2_code 46 = .ok (.lload_n 0, 1) := by decide +kernel
theorem d1_47 : decode method_2_code 47 = .ok (.lload_n 2, 1) := by decide +kernel
theorem d1_48 : decode method_2_code 48 = .ok (.lmul, 1) := by decide +kernel
theorem d1_49 : decode method_2_code 49 = .ok (.lsub, 1) := by decide +kernel
theorem d1_50 : decode method_2_code 50 = .ok (.lmul, 1) := by decide +kernel
theorem d1_51 : decode method_2_code 51 = .ok (.lstore_n 2, 1) := by decide +kernel
theorem d1_52 : decode method_2_code 52 = .ok (.lload_n 2, 1) := by decide +kernel
theorem d1_53 : decode method_2_code 53 = .ok (.lreturn, 1) := by decide +kernel
theorem pn_1 : plainName "com/example/danaid/danaid/hashing/MurmurHash3Fmix64PinLaw" = true := by first | (simp [plainName, overriddenIn]; done) | decide +kernel
theorem ef_1 (m : MethodId) (xa : Int64) : entryFrame m #[(.long xa)] 4 = mkF m 0 #[.val (.long xa), .second, .unset, .unset] [] := by first | (simp [entryFrame, mkF, argsToLocals, Value.category]; done) | rfl
def own_f1 (xa : Int64) : Int64 := (((((xa * ((2 : Int64) - (xa * xa))) * ((2 : Int64) - (xa * (xa * ((2 : Int64) - (xa * xa)))))) * ((2 : Int64) - (xa * ((xa * ((2 : Int64) - (xa * xa))) * ((2 : Int64) - (xa * (xa * ((2 : Int64) - (xa * xa))))))))) * ((2 : Int64) - (xa * (((xa * ((2 : Int64) - (xa * xa))) * ((2 : Int64) - (xa * (xa * ((2 : Int64) - (xa * xa)))))) * ((2 : Int64) - (xa * ((xa * ((2 : Int64) - (xa * xa))) * ((2 : Int64) - (xa * (xa * ((2 : Int64) - (xa * xa)))))))))))) * ((2 : Int64) - (xa * ((((xa * ((2 : Int64) - (xa * xa))) * ((2 : Int64) - (xa * (xa * ((2 : Int64) - (xa * xa)))))) * ((2 : Int64) - (xa * ((xa * ((2 : Int64) - (xa * xa))) * ((2 : Int64) - (xa * (xa * ((2 : Int64) - (xa * xa))))))))) * ((2 : Int64) - (xa * (((xa * ((2 : Int64) - (xa * xa))) * ((2 : Int64) - (xa * (xa * ((2 : Int64) - (xa * xa)))))) * ((2 : Int64) - (xa * ((xa * ((2 : Int64) - (xa * xa))) * ((2 : Int64) - (xa * (xa * ((2 : Int64) - (xa * xa)))))))))))))))
def Q1 (Z : State) (xa : Int64) (h0 : Heap) (n0 : Nat) (v : Option Value) (h : Heap) (L : List Loc) : Prop := v = some (.long (own_f1 xa)) ∧ Fr n0 L ∧ h = h0
set_option maxRecDepth 65536 in
set_option maxHeartbeats 40000000 in
theorem rm1 (l : Launch) (Z : State) (a0 : Array Value) (hw : ∀ d ∈ tables_1, d.before a0 Z = true) (ws : List Jvm.Cond) (xa : Int64) (h0 : Heap) (n0 : Nat) (Z0 : n0 ≤ h0.size) :
    MetFree l (⟨"com/example/danaid/danaid/hashing/MurmurHash3Fmix64PinLaw", "inverseOdd", "(J)J"⟩ : MethodName) (head1 (Jvm.Cond.code (⟨"com/example/danaid/danaid/hashing/MurmurHash3Fmix64PinLaw", "inverseOdd", "(J)J"⟩ : MethodName) method_2_code 4 (some .long) :: ws) ({ frames := 0, cells := 0, slots := 0, locals := 0 } : Room)) (fun a U => a = #[(.long xa)] ∧ Z.Warmed39 U.vm ∧ U.heap = h0) (fun _ _ _ _ _ => True) (fun _ U o U' => ∃ v L, o = .returned v ∧ Q1 Z xa h0 n0 v U'.heap L ∧ FrameEnd U o U' L ({ frames := 0, cells := 0, slots := 0, locals := 0 } : Room).cells ({ frames := 0, cells := 0, slots := 0, locals := 0 } : Room).slots) := by
  refine MetFree.of_bodySF (plainFor_of_name pn_1) hisR ?_
  intro p e s m args below meth c s₁ Bd hml0 hP hK
  obtain ⟨rfl, hZ, hh⟩ := hP
  have hx := Bd.exec
  have hby := Bd.bytes
  have hml : c.maxLocals = 4 := hml0
  have hown : s.vm.findClass "com/example/danaid/danaid/hashing/MurmurHash3Fmix64PinLaw" = some m.cls := findClass_of_methodNamed Bd.named
  have hnm := (name_of_methodNamed Bd.named Bd.method).1
  have X0 : Stand p l e ({ frames := 0, cells := 0, slots := 0, locals := 0 } : Room) s m #[(.long xa)] below meth c s₁ [] 0 0 := Stand.of_body Bd
  have e0 : s₁.heap = h0 := by rw [← hh, Bd.state]; rfl
  have N0 := Fr.nil n0
  suffices G : own_Goes p.tables e below (fun o U' => ∃ v L, o = .returned v ∧ Q1 Z xa h0 n0 v U'.heap L ∧ FrameEnd s o U' L ({ frames := 0, cells := 0, slots := 0, locals := 0 } : Room).cells ({ frames := 0, cells := 0, slots := 0, locals := 0 } : Room).slots) s₁ (mkF m 0 #[.val (.long xa), .second, .unset, .unset] []) by
    obtain ⟨t2_, o2_, z1_, z2_, z3_, z4_⟩ := G
    exact ⟨t2_, o2_, castTop (ef_1 m xa) z1_, z2_, z3_, z4_⟩
  generalize hPd : (fun (o : Outcome) (U' : State) => ∃ v L, o = .returned v ∧ Q1 Z xa h0 n0 v U'.heap L ∧ FrameEnd s o U' L ({ frames := 0, cells := 0, slots := 0, locals := 0 } : Room).cells ({ frames := 0, cells := 0, slots := 0, locals := 0 } : Room).slots) = P
  refine own_Goes.via (T' := s₁) (g' := (mkF m 1 #[.val (.long xa), .second, .unset, .unset] [(.long xa)])) (fun t_ k_ => XS.lloadN X0.here hx rfl (hb hby d1_0) rfl k_) ?_
  refine own_Goes.via (T' := s₁) (g' := (mkF m 2 #[.val (.long xa), .second, .val (.long xa), .second] [])) (fun t_ k_ => XS.lstoreN X0.here hx rfl (hb hby d1_1) rfl (l' := #[.val (.long xa), .second, .val (.long xa), .second]) rfl k_) ?_
  refine own_Goes.via (T' := s₁) (g' := (mkF m 3 #[.val (.long xa), .second, .val (.long xa), .second] [(.long xa)])) (fun t_ k_ => XS.lloadN X0.here hx rfl (hb hby d1_2) rfl k_) ?_
  refine own_Goes.via (T' := s₁) (g' := (mkF m 6 #[.val (.long xa), .second, .val (.long xa), .second] [(.long (2 : Int64)), (.long xa)])) (X0.ldc2Long hx hown (mvT hZ (hw _ (List.mem_of_getElem? (i := 6) rfl))) (g := (mkF m 3 #[.val (.long xa), .second, .val (.long xa), .second] [(.long xa)])) rfl (hb hby d1_3)) ?_
  refine own_Goes.via (T' := s₁) (g' := (mkF m 7 #[.val (.long xa), .second, .val (.long xa), .second] [(.long xa), (.long (2 : Int64)), (.long xa)])) (fun t_ k_ => XS.lloadN X0.here hx rfl (hb hby d1_6) rfl k_) ?_
  refine own_Goes.via (T' := s₁) (g' := (mkF m 8 #[.val (.long xa), .second, .val (.long xa), .second] [(.long xa), (.long xa), (.long (2 : Int64)), (.long xa)])) (fun t_ k_ => XS.lloadN X0.here hx rfl (hb hby d1_7) rfl k_) ?_
  refine own_Goes.via (T' := s₁) (g' := (mkF m 9 #[.val (.long xa), .second, .val (.long xa), .second] [(.long (xa * xa)), (.long (2 : Int64)), (.long xa)])) (fun t_ k_ => XS.lmul X0.here hx rfl (hb hby d1_8) rfl k_) ?_
  refine own_Goes.via (T' := s₁) (g' := (mkF m 10 #[.val (.long xa), .second, .val (.long xa), .second] [(.long ((2 : Int64) - (xa * xa))), (.long xa)])) (fun t_ k_ => XS.lsub X0.here hx rfl (hb hby d1_9) rfl k_) ?_
  refine own_Goes.via (T' := s₁) (g' := (mkF m 11 #[.val (.long xa), .second, .val (.long xa), .second] [(.long (xa * ((2 : Int64) - (xa * xa))))])) (fun t_ k_ => XS.lmul X0.here hx rfl (hb hby d1_10) rfl k_) ?_
  refine own_Goes.via (T' := s₁) (g' := (mkF m 12 #[.val (.long xa), .second, .val (.long (xa * ((2 : Int64) - (xa * xa)))), .second] [])) (fun t_ k_ => XS.lstoreN X0.here hx rfl (hb hby d1_11) rfl (l' := #[.val (.long xa), .second, .val (.long (xa * ((2 : Int64) - (xa * xa)))), .second]) rfl k_) ?_
  obtain ⟨v1, hv1⟩ : ∃ z : Int64, z = (xa * ((2 : Int64) - (xa * xa))) := ⟨_, rfl⟩
  rw [← hv1]
  refine own_Goes.via (T' := s₁) (g' := (mkF m 13 #[.val (.long xa), .second, .val (.long v1), .second] [(.long v1)])) (fun t_ k_ => XS.lloadN X0.here hx rfl (hb hby d1_12) rfl k_) ?_
  refine own_Goes.via (T' := s₁) (g' := (mkF m 16 #[.val (.long xa), .second, .val (.long v1), .second] [(.long (2 : Int64)), (.long v1)])) (X0.ldc2Long hx hown (mvT hZ (hw _ (List.mem_of_getElem? (i := 6) rfl))) (g := (mkF m 13 #[.val (.long xa), .second, .val (.long v1), .second] [(.long v1)])) rfl (hb hby d1_13)) ?_
  refine own_Goes.via (T' := s₁) (g' := (mkF m 17 #[.val (.long xa), .second, .val (.long v1), .second] [(.long xa), (.long (2 : Int64)), (.long v1)])) (fun t_ k_ => XS.lloadN X0.here hx rfl (hb hby d1_16) rfl k_) ?_
  refine own_Goes.via (T' := s₁) (g' := (mkF m 18 #[.val (.long xa), .second, .val (.long v1), .second] [(.long v1), (.long xa), (.long (2 : Int64)), (.long v1)])) (fun t_ k_ => XS.lloadN X0.here hx rfl (hb hby d1_17) rfl k_) ?_
  refine own_Goes.via (T' := s₁) (g' := (mkF m 19 #[.val (.long xa), .second, .val (.long v1), .second] [(.long (xa * v1)), (.long (2 : Int64)), (.long v1)])) (fun t_ k_ => XS.lmul X0.here hx rfl (hb hby d1_18) rfl k_) ?_
  refine own_Goes.via (T' := s₁) (g' := (mkF m 20 #[.val (.long xa), .second, .val (.long v1), .second] [(.long ((2 : Int64) - (xa * v1))), (.long v1)])) (fun t_ k_ => XS.lsub X0.here hx rfl (hb hby d1_19) rfl k_) ?_
  refine own_Goes.via (T' := s₁) (g' := (mkF m 21 #[.val (.long xa), .second, .val (.long v1), .second] [(.long (v1 * ((2 : Int64) - (xa * v1))))])) (fun t_ k_ => XS.lmul X0.here hx rfl (hb hby d1_20) rfl k_) ?_
  refine own_Goes.via (T' := s₁) (g' := (mkF m 22 #[.val (.long xa), .second, .val (.long (v1 * ((2 : Int64) - (xa * v1)))), .second] [])) (fun t_ k_ => XS.lstoreN X0.here hx rfl (hb hby d1_21) rfl (l' := #[.val (.long xa), .second, .val (.long (v1 * ((2 : Int64) - (xa * v1)))), .second]) rfl k_) ?_
  obtain ⟨v2, hv2⟩ : ∃ z : Int64, z = (v1 * ((2 : Int64) - (xa * v1))) := ⟨_, rfl⟩
  rw [← hv2]
  refine own_Goes.via (T' := s₁) (g' := (mkF m 23 #[.val (.long xa), .second, .val (.long v2), .second] [(.long v2)])) (fun t_ k_ => XS.lloadN X0.here hx rfl (hb hby d1_22) rfl k_) ?_
  refine own_Goes.via (T' := s₁) (g' := (mkF m 26 #[.val (.long xa), .second, .val (.long v2), .second] [(.long (2 : Int64)), (.long v2)])) (X0.ldc2Long hx hown (mvT hZ (hw _ (List.mem_of_getElem? (i := 6) rfl))) (g := (mkF m 23 #[.val (.long xa), .second, .val (.long v2), .second] [(.long v2)])) rfl (hb hby d1_23)) ?_
  refine own_Goes.via (T' := s₁) (g' := (mkF m 27 #[.val (.long xa), .second, .val (.long v2), .second] [(.long xa), (.long (2 : Int64)), (.long v2)])) (fun t_ k_ => XS.lloadN X0.here hx rfl (hb hby d1_26) rfl k_) ?_
  refine own_Goes.via (T' := s₁) (g' := (mkF m 28 #[.val (.long xa), .second, .val (.long v2), .second] [(.long v2), (.long xa), (.long (2 : Int64)), (.long v2)])) (fun t_ k_ => XS.lloadN X0.here hx rfl (hb hby d1_27) rfl k_) ?_
  refine own_Goes.via (T' := s₁) (g' := (mkF m 29 #[.val (.long xa), .second, .val (.long v2), .second] [(.long (xa * v2)), (.long (2 : Int64)), (.long v2)])) (fun t_ k_ => XS.lmul X0.here hx rfl (hb hby d1_28) rfl k_) ?_
  refine own_Goes.via (T' := s₁) (g' := (mkF m 30 #[.val (.long xa), .second, .val (.long v2), .second] [(.long ((2 : Int64) - (xa * v2))), (.long v2)])) (fun t_ k_ => XS.lsub X0.here hx rfl (hb hby d1_29) rfl k_) ?_
  refine own_Goes.via (T' := s₁) (g' := (mkF m 31 #[.val (.long xa), .second, .val (.long v2), .second] [(.long (v2 * ((2 : Int64) - (xa * v2))))])) (fun t_ k_ => XS.lmul X0.here hx rfl (hb hby d1_30) rfl k_) ?_
  refine own_Goes.via (T' := s₁) (g' := (mkF m 32 #[.val (.long xa), .second, .val (.long (v2 * ((2 : Int64) - (xa * v2)))), .second] [])) (fun t_ k_ => XS.lstoreN X0.here hx rfl (hb hby d1_31) rfl (l' := #[.val (.long xa), .second, .val (.long (v2 * ((2 : Int64) - (xa * v2)))), .second]) rfl k_) ?_
  obtain ⟨v3, hv3⟩ : ∃ z : Int64, z = (v2 * ((2 : Int64) - (xa * v2))) := ⟨_, rfl⟩
  rw [← hv3]
  refine own_Goes.via (T' := s₁) (g' := (mkF m 33 #[.val (.long xa), .second, .val (.long v3), .second] [(.long v3)])) (fun t_ k_ => XS.lloadN X0.here hx rfl (hb hby d1_32) rfl k_) ?_
  refine own_Goes.via (T' := s₁) (g' := (mkF m 36 #[.val (.long xa), .second, .val (.long v3), .second] [(.long (2 : Int64)), (.long v3)])) (X0.ldc2Long hx hown (mvT hZ (hw _ (List.mem_of_getElem? (i := 6) rfl))) (g := (mkF m 33 #[.val (.long xa), .second, .val (.long v3), .second] [(.long v3)])) rfl (hb hby d1_33)) ?_
  refine own_Goes.via (T' := s₁) (g' := (mkF m 37 #[.val (.long xa), .second, .val (.long v3), .second] [(.long xa), (.long (2 : Int64)), (.long v3)])) (fun t_ k_ => XS.lloadN X0.here hx rfl (hb hby d1_36) rfl k_) ?_
  refine own_Goes.via (T' := s₁) (g' := (mkF m 38 #[.val (.long xa), .second, .val (.long v3), .second] [(.long v3), (.long xa), (.long (2 : Int64)), (.long v3)])) (fun t_ k_ => XS.lloadN X0.here hx rfl (hb hby d1_37) rfl k_) ?_
  refine own_Goes.via (T' := s₁) (g' := (mkF m 39 #[.val (.long xa), .second, .val (.long v3), .second] [(.long (xa * v3)), (.long (2 : Int64)), (.long v3)])) (fun t_ k_ => XS.lmul X0.here hx rfl (hb hby d1_38) rfl k_) ?_
  refine own_Goes.via (T' := s₁) (g' := (mkF m 40 #[.val (.long xa), .second, .val (.long v3), .second] [(.long ((2 : Int64) - (xa * v3))), (.long v3)])) (fun t_ k_ => XS.lsub X0.here hx rfl (hb hby d1_39) rfl k_) ?_
  refine own_Goes.via (T' := s₁) (g' := (mkF m 41 #[.val (.long xa), .second, .val (.long v3), .second] [(.long (v3 * ((2 : Int64) - (xa * v3))))])) (fun t_ k_ => XS.lmul X0.here hx rfl (hb hby d1_40) rfl k_) ?_
  refine own_Goes.via (T' := s₁) (g' := (mkF m 42 #[.val (.long xa), .second, .val (.long (v3 * ((2 : Int64) - (xa * v3)))), .second] [])) (fun t_ k_ => XS.lstoreN X0.here hx rfl (hb hby d1_41) rfl (l' := #[.val (.long xa), .second, .val (.long (v3 * ((2 : Int64) - (xa * v3)))), .second]) rfl k_) ?_
  obtain ⟨v4, hv4⟩ : ∃ z : Int64, z = (v3 * ((2 : Int64) - (xa * v3))) := ⟨_, rfl⟩
  rw [← hv4]
  refine own_Goes.via (T' := s₁) (g' := (mkF m 43 #[.val (.long xa), .second, .val (.long v4), .second] [(.long v4)])) (fun t_ k_ => XS.lloadN X0.here hx rfl (hb hby d1_42) rfl k_) ?_
  refine own_Goes.via (T' := s₁) (g' := (mkF m 46 #[.val (.long xa), .second, .val (.long v4), .second] [(.long (2 : Int64)), (.long v4)])) (X0.ldc2Long hx hown (mvT hZ (hw _ (List.mem_of_getElem? (i := 6) rfl))) (g := (mkF m 43 #[.val (.long xa), .second, .val (.long v4), .second] [(.long v4)])) rfl (hb hby d1_43)) ?_
  refine own_Goes.via (T' := s₁) (g' := (mkF m 47 #[.val (.long xa), .second, .val (.long v4), .second] [(.long xa), (.long (2 : Int64)), (.long v4)])) (fun t_ k_ => XS.lloadN X0.here hx rfl (hb hby d1_46) rfl k_) ?_
  refine own_Goes.via (T' := s₁) (g' := (mkF m 48 #[.val (.long xa), .second, .val (.long v4), .second] [(.long v4), (.long xa), (.long (2 : Int64)), (.long v4)])) (fun t_ k_ => XS.lloadN X0.here hx rfl (hb hby d1_47) rfl k_) ?_
  refine own_Goes.via (T' := s₁) (g' := (mkF m 49 #[.val (.long xa), .second, .val (.long v4), .second] [(.long (xa * v4)), (.long (2 : Int64)), (.long v4)])) (fun t_ k_ => XS.lmul X0.here hx rfl (hb hby d1_48) rfl k_) ?_
  refine own_Goes.via (T' := s₁) (g' := (mkF m 50 #[.val (.long xa), .second, .val (.long v4), .second] [(.long ((2 : Int64) - (xa * v4))), (.long v4)])) (fun t_ k_ => XS.lsub X0.here hx rfl (hb hby d1_49) rfl k_) ?_
  refine own_Goes.via (T' := s₁) (g' := (mkF m 51 #[.val (.long xa), .second, .val (.long v4), .second] [(.long (v4 * ((2 : Int64) - (xa * v4))))])) (fun t_ k_ => XS.lmul X0.here hx rfl (hb hby d1_50) rfl k_) ?_
  refine own_Goes.via (T' := s₁) (g' := (mkF m 52 #[.val (.long xa), .second, .val (.long (v4 * ((2 : Int64) - (xa * v4)))), .second] [])) (fun t_ k_ => XS.lstoreN X0.here hx rfl (hb hby d1_51) rfl (l' := #[.val (.long xa), .second, .val (.long (v4 * ((2 : Int64) - (xa * v4)))), .second]) rfl k_) ?_
  obtain ⟨v5, hv5⟩ : ∃ z : Int64, z = (v4 * ((2 : Int64) - (xa * v4))) := ⟨_, rfl⟩
  rw [← hv5]
  refine own_Goes.via (T' := s₁) (g' := (mkF m 53 #[.val (.long xa), .second, .val (.long v5), .second] [(.long v5)])) (fun t_ k_ => XS.lloadN X0.here hx rfl (hb hby d1_52) rfl k_) ?_
  obtain ⟨fs, hr, hrun, hended, hW, hsame⟩ := X0.leave (v := some (.long v5)) (fun h => by rw [Bd.returns] at h; cases h)
  refine own_Goes.fin (retOut X0 hx Bd.returns rfl (Or.inr (Or.inl ⟨rfl, rfl, _, rfl⟩)) (hb hby d1_53) hr) hrun hended ?_
  subst hPd
  refine ⟨_, _, rfl, ?_, ⟨_, rfl⟩, hW, hsame.mono (by decide) (by decide)⟩
  show Q1 Z xa h0 n0 _ s₁.heap _
  rw [e0]
  exact ⟨(by subst hv5; subst hv4; subst hv3; subst hv2; subst hv1; first | rfl | (simp only [own_f1])), N0, rfl⟩
theorem d2_0 : decode prog_10_method_7_code 0 = .ok (.lload_n 0, 1) := by decide +kernel
theorem d2_1 : decode prog_10_method_7_code 1 = .ok (.lload_n 0, 1) := by decide +kernel
theorem d2_2 : decode prog_10_method_7_code 2 = .ok (.bipush 33, 2) := by decide +kernel
theorem d2_4 : decode prog_10_method_7_code 4 = .ok (.lushr, 1) := by decide +kernel
theorem d2_5 : decode prog_10_method_7_code 5 = .ok (.lxor, 1) := by decide +kernel
theorem d2_6 : decode prog_10_method_7_code 6 = .ok (.lstore_n 0, 1) := by decide +kernel
theorem d2_7 : decode prog_10_method_7_code 7 = .ok (.lload_n 0, 1) := by decide +kernel
theorem d2_8 : decode prog_10_method_7_code 8 = .ok (.ldc2_w 79, 3) := by decide +kernel
theorem d2_11 : decode prog_10_method_7_code 11 = .ok (.lmul, 1) := by decide +kernel
theorem d2_12 : decode prog_10_method_7_code 12 = .ok (.lstore_n 0, 1) := by decide +kernel
theorem d2_13 : decode prog_10_method_7_code 13 = .ok (.lload_n 0, 1) := by decide +kernel
theorem d2_14 : decode prog_10_method_7_code 14 = .ok (.lload_n 0, 1) := by decide +kernel
theorem d2_15 : decode prog_10_method_7_code 15 = .ok (.bipush 33, 2) := by decide +kernel
theorem d2_17 : decode prog_10_method_7_code 17 = .ok (.lushr, 1) := by decide +kernel
theorem d2_18 : decode prog_10_method_7_code 18 = .ok (.lxor, 1) := by decide +kernel
theorem d2_19 : decode prog_10_method_7_code 19 = .ok (.lstore_n 0, 1) := by decide +kernel
theorem d2_20 : decode prog_10_method_7_code 20 = .ok (.lload_n 0, 1) := by decide +kernel
theorem d2_21 : decode prog_10_method_7_code 21 = .ok (.ldc2_w 81, 3) := by decide +kernel
theorem d2_24 : decode prog_10_method_7_code 24 = .ok (.lmul, 1) := by decide +kernel
theorem d2_25 : decode prog_10_method_7_code 25 = .ok (.lstore_n 0, 1) := by decide +kernel
theorem d2_26 : decode prog_10_method_7_code 26 = .ok (.lload_n 0, 1) := by decide +kernel
theorem d2_27 : decode prog_10_method_7_code 27 = .ok (.lload_n 0, 1) := by decide +kernel
theorem d2_28 : decode prog_10_method_7_code 28 = .ok (.bipush 33, 2) := by decide +kernel
theorem d2_30 : decode prog_10_method_7_code 30 = .ok (.lushr, 1) := by decide +kernel
theorem d2_31 : decode prog_10_method_7_code 31 = .ok (.lxor, 1) := by decide +kernel
theorem d2_32 : decode prog_10_method_7_code 32 = .ok (.lstore_n 0, 1) := by decide +kernel
theorem d2_33 : decode prog_10_method_7_code 33 = .ok (.lload_n 0, 1) := by decide +kernel
theorem d2_34 : decode prog_10_method_7_code 34 = .ok (.lreturn, 1) := by decide +kernel
theorem pn_2 : plainName "com/example/danaid/danaid/hashing/MurmurHash3" = true := by first | (simp [plainName, overriddenIn]; done) | decide +kernel
theorem ef_2 (m : MethodId) (xk : Int64) : entryFrame m #[(.long xk)] 2 = mkF m 0 #[.val (.long xk), .second] [] := by first | (simp [entryFrame, mkF, argsToLocals, Value.category]; done) | rfl
def own_f2 (xk : Int64) : Int64 := (((((xk ^^^ ((xk.toUInt64 >>> ((33 : Int32) &&& 0x3f).toInt64.toUInt64).toInt64)) * (-49064778989728563 : Int64)) ^^^ ((((xk ^^^ ((xk.toUInt64 >>> ((33 : Int32) &&& 0x3f).toInt64.toUInt64).toInt64)) * (-49064778989728563 : Int64)).toUInt64 >>> ((33 : Int32) &&& 0x3f).toInt64.toUInt64).toInt64)) * (-4265267296055464877 : Int64)) ^^^ ((((((xk ^^^ ((xk.toUInt64 >>> ((33 : Int32) &&& 0x3f).toInt64.toUInt64).toInt64)) * (-49064778989728563 : Int64)) ^^^ ((((xk ^^^ ((xk.toUInt64 >>> ((33 : Int32) &&& 0x3f).toInt64.toUInt64).toInt64)) * (-49064778989728563 : Int64)).toUInt64 >>> ((33 : Int32) &&& 0x3f).toInt64.toUInt64).toInt64)) * (-4265267296055464877 : Int64)).toUInt64 >>> ((33 : Int32) &&& 0x3f).toInt64.toUInt64).toInt64))
def Q2 (Z : State) (xk : Int64) (h0 : Heap) (n0 : Nat) (v : Option Value) (h : Heap) (L : List Loc) : Prop := v = some (.long (own_f2 xk)) ∧ Fr n0 L ∧ h = h0
set_option maxRecDepth 65536 in
set_option maxHeartbeats 40000000 in
theorem rm2 (l : Launch) (Z : State) (a0 : Array Value) (hw : ∀ d ∈ tables_1, d.before a0 Z = true) (ws : List Jvm.Cond) (xk : Int64) (h0 : Heap) (n0 : Nat) (Z0 : n0 ≤ h0.size) :
    MetFree l (⟨"com/example/danaid/danaid/hashing/MurmurHash3", "fmix64", "(J)J"⟩ : MethodName) (head1 (Jvm.Cond.code (⟨"com/example/danaid/danaid/hashing/MurmurHash3", "fmix64", "(J)J"⟩ : MethodName) prog_10_method_7_code 2 (some .long) :: ws) ({ frames := 0, cells := 0, slots := 0, locals := 0 } : Room)) (fun a U => a = #[(.long xk)] ∧ Z.Warmed39 U.vm ∧ U.heap = h0) (fun _ _ _ _ _ => True) (fun _ U o U' => ∃ v L, o = .returned v ∧ Q2 Z xk h0 n0 v U'.heap L ∧ FrameEnd U o U' L ({ frames := 0, cells := 0, slots := 0, locals := 0 } : Room).cells ({ frames := 0, cells := 0, slots := 0, locals := 0 } : Room).slots) := by
  refine MetFree.of_bodySF (plainFor_of_name pn_2) hisR ?_
  intro p e s m args below meth c s₁ Bd hml0 hP hK
  obtain ⟨rfl, hZ, hh⟩ := hP
  have hx := Bd.exec
  have hby := Bd.bytes
  have hml : c.maxLocals = 2 := hml0
  have hown : s.vm.findClass "com/example/danaid/danaid/hashing/MurmurHash3" = some m.cls := findClass_of_methodNamed Bd.named
  have hnm := (name_of_methodNamed Bd.named Bd.method).1
  have X0 : Stand p l e ({ frames := 0, cells := 0, slots := 0, locals := 0 } : Room) s m #[(.long xk)] below meth c s₁ [] 0 0 := Stand.of_body Bd
  have e0 : s₁.heap = h0 := by rw [← hh, Bd.state]; rfl
  have N0 := Fr.nil n0
  suffices G : own_Goes p.tables e below (fun o U' => ∃ v L, o = .returned v ∧ Q2 Z xk h0 n0 v U'.heap L ∧ FrameEnd s o U' L ({ frames := 0, cells := 0, slots := 0, locals := 0 } : Room).cells ({ frames := 0, cells := 0, slots := 0, locals := 0 } : Room).slots) s₁ (mkF m 0 #[.val (.long xk), .second] []) by
    obtain ⟨t2_, o2_, z1_, z2_, z3_, z4_⟩ := G
    exact ⟨t2_, o2_, castTop (ef_2 m xk) z1_, z2_, z3_, z4_⟩
  generalize hPd : (fun (o : Outcome) (U' : State) => ∃ v L, o = .returned v ∧ Q2 Z xk h0 n0 v U'.heap L ∧ FrameEnd s o U' L ({ frames := 0, cells := 0, slots := 0, locals := 0 } : Room).cells ({ frames := 0, cells := 0, slots := 0, locals := 0 } : Room).slots) = P
  refine own_Goes.via (T' := s₁) (g' := (mkF m 1 #[.val (.long xk), .second] [(.long xk)])) (fun t_ k_ => XS.lloadN X0.here hx rfl (hb hby d2_0) rfl k_) ?_
  refine own_Goes.via (T' := s₁) (g' := (mkF m 2 #[.val (.long xk), .second] [(.long xk), (.long xk)])) (fun t_ k_ => XS.lloadN X0.here hx rfl (hb hby d2_1) rfl k_) ?_
  refine own_Goes.via (T' := s₁) (g' := (mkF m 4 #[.val (.long xk), .second] [(.int (33 : Int32)), (.long xk), (.long xk)])) (fun t_ k_ => XS.bipush X0.here hx rfl (hb hby d2_2) k_) ?_
  refine own_Goes.via (T' := s₁) (g' := (mkF m 5 #[.val (.long xk), .second] [(.long ((xk.toUInt64 >>> ((33 : Int32) &&& 0x3f).toInt64.toUInt64).toInt64)), (.long xk)])) (fun t_ k_ => XS.lushr X0.here hx rfl (hb hby d2_4) rfl k_) ?_
  refine own_Goes.via (T' := s₁) (g' := (mkF m 6 #[.val (.long xk), .second] [(.long (xk ^^^ ((xk.toUInt64 >>> ((33 : Int32) &&& 0x3f).toInt64.toUInt64).toInt64)))])) (fun t_ k_ => XS.lxor X0.here hx rfl (hb hby d2_5) rfl k_) ?_
  refine own_Goes.via (T' := s₁) (g' := (mkF m 7 #[.val (.long (xk ^^^ ((xk.toUInt64 >>> ((33 : Int32) &&& 0x3f).toInt64.toUInt64).toInt64))), .second] [])) (fun t_ k_ => XS.lstoreN X0.here hx rfl (hb hby d2_6) rfl (l' := #[.val (.long (xk ^^^ ((xk.toUInt64 >>> ((33 : Int32) &&& 0x3f).toInt64.toUInt64).toInt64))), .second]) rfl k_) ?_
  obtain ⟨v1, hv1⟩ : ∃ z : Int64, z = (xk ^^^ ((xk.toUInt64 >>> ((33 : Int32) &&& 0x3f).toInt64.toUInt64).toInt64)) := ⟨_, rfl⟩
  rw [← hv1]
  refine own_Goes.via (T' := s₁) (g' := (mkF m 8 #[.val (.long v1), .second] [(.long v1)])) (fun t_ k_ => XS.lloadN X0.here hx rfl (hb hby d2_7) rfl k_) ?_
  refine own_Goes.via (T' := s₁) (g' := (mkF m 11 #[.val (.long v1), .second] [(.long (-49064778989728563 : Int64)), (.long v1)])) (X0.ldc2Long hx hown (mvT hZ (hw _ (List.mem_of_getElem? (i := 11) rfl))) (g := (mkF m 8 #[.val (.long v1), .second] [(.long v1)])) rfl (hb hby d2_8)) ?_
  refine own_Goes.via (T' := s₁) (g' := (mkF m 12 #[.val (.long v1), .second] [(.long (v1 * (-49064778989728563 : Int64)))])) (fun t_ k_ => XS.lmul X0.here hx rfl (hb hby d2_11) rfl k_) ?_
  refine own_Goes.via (T' := s₁) (g' := (mkF m 13 #[.val (.long (v1 * (-49064778989728563 : Int64))), .second] [])) (fun t_ k_ => XS.lstoreN X0.here hx rfl (hb hby d2_12) rfl (l' := #[.val (.long (v1 * (-49064778989728563 : Int64))), .second]) rfl k_) ?_
  obtain ⟨v2, hv2⟩ : ∃ z : Int64, z = (v1 * (-49064778989728563 : Int64)) := ⟨_, rfl⟩
  rw [← hv2]
  refine own_Goes.via (T' := s₁) (g' := (mkF m 14 #[.val (.long v2), .second] [(.long v2)])) (fun t_ k_ => XS.lloadN X0.here hx rfl (hb hby d2_13) rfl k_) ?_
  refine own_Goes.via (T' := s₁) (g' := (mkF m 15 #[.val (.long v2), .second] [(.long v2), (.long v2)])) (fun t_ k_ => XS.lloadN X0.here hx rfl (hb hby d2_14) rfl k_) ?_
  refine own_Goes.via (T' := s₁) (g' := (mkF m 17 #[.val (.long v2), .second] [(.int (33 : Int32)), (.long v2), (.long v2)])) (fun t_ k_ => XS.bipush X0.here hx rfl (hb hby d2_15) k_) ?_
  refine own_Goes.via (T' := s₁) (g' := (mkF m 18 #[.val (.long v2), .second] [(.long ((v2.toUInt64 >>> ((33 : Int32) &&& 0x3f).toInt64.toUInt64).toInt64)), (.long v2)])) (fun t_ k_ => XS.lushr X0.here hx rfl (hb hby d2_17) rfl k_) ?_
  refine own_Goes.via (T' := s₁) (g' := (mkF m 19 #[.val (.long v2), .second] [(.long (v2 ^^^ ((v2.toUInt64 >>> ((33 : Int32) &&& 0x3f).toInt64.toUInt64).toInt64)))])) (fun t_ k_ => XS.lxor X0.here hx rfl (hb hby d2_18) rfl k_) ?_
  refine own_Goes.via (T' := s₁) (g' := (mkF m 20 #[.val (.long (v2 ^^^ ((v2.toUInt64 >>> ((33 : Int32) &&& 0x3f).toInt64.toUInt64).toInt64))), .second] [])) (fun t_ k_ => XS.lstoreN X0.here hx rfl (hb hby d2_19) rfl (l' := #[.val (.long (v2 ^^^ ((v2.toUInt64 >>> ((33 : Int32) &&& 0x3f).toInt64.toUInt64).toInt64))), .second]) rfl k_) ?_
  obtain ⟨v3, hv3⟩ : ∃ z : Int64, z = (v2 ^^^ ((v2.toUInt64 >>> ((33 : Int32) &&& 0x3f).toInt64.toUInt64).toInt64)) := ⟨_, rfl⟩
  rw [← hv3]
  refine own_Goes.via (T' := s₁) (g' := (mkF m 21 #[.val (.long v3), .second] [(.long v3)])) (fun t_ k_ => XS.lloadN X0.here hx rfl (hb hby d2_20) rfl k_) ?_
  refine own_Goes.via (T' := s₁) (g' := (mkF m 24 #[.val (.long v3), .second] [(.long (-4265267296055464877 : Int64)), (.long v3)])) (X0.ldc2Long hx hown (mvT hZ (hw _ (List.mem_of_getElem? (i := 12) rfl))) (g := (mkF m 21 #[.val (.long v3), .second] [(.long v3)])) rfl (hb hby d2_21)) ?_
  refine own_Goes.via (T' := s₁) (g' := (mkF m 25 #[.val (.long v3), .second] [(.long (v3 * (-4265267296055464877 : Int64)))])) (fun t_ k_ => XS.lmul X0.here hx rfl (hb hby d2_24) rfl k_) ?_
  refine own_Goes.via (T' := s₁) (g' := (mkF m 26 #[.val (.long (v3 * (-4265267296055464877 : Int64))), .second] [])) (fun t_ k_ => XS.lstoreN X0.here hx rfl (hb hby d2_25) rfl (l' := #[.val (.long (v3 * (-4265267296055464877 : Int64))), .second]) rfl k_) ?_
  obtain ⟨v4, hv4⟩ : ∃ z : Int64, z = (v3 * (-4265267296055464877 : Int64)) := ⟨_, rfl⟩
  rw [← hv4]
  refine own_Goes.via (T' := s₁) (g' := (mkF m 27 #[.val (.long v4), .second] [(.long v4)])) (fun t_ k_ => XS.lloadN X0.here hx rfl (hb hby d2_26) rfl k_) ?_
  refine own_Goes.via (T' := s₁) (g' := (mkF m 28 #[.val (.long v4), .second] [(.long v4), (.long v4)])) (fun t_ k_ => XS.lloadN X0.here hx rfl (hb hby d2_27) rfl k_) ?_
  refine own_Goes.via (T' := s₁) (g' := (mkF m 30 #[.val (.long v4), .second] [(.int (33 : Int32)), (.long v4), (.long v4)])) (fun t_ k_ => XS.bipush X0.here hx rfl (hb hby d2_28) k_) ?_
  refine own_Goes.via (T' := s₁) (g' := (mkF m 31 #[.val (.long v4), .second] [(.long ((v4.toUInt64 >>> ((33 : Int32) &&& 0x3f).toInt64.toUInt64).toInt64)), (.long v4)])) (fun t_ k_ => XS.lushr X0.here hx rfl (hb hby d2_30) rfl k_) ?_
  refine own_Goes.via (T' := s₁) (g' := (mkF m 32 #[.val (.long v4), .second] [(.long (v4 ^^^ ((v4.toUInt64 >>> ((33 : Int32) &&& 0x3f).toInt64.toUInt64).toInt64)))])) (fun t_ k_ => XS.lxor X0.here hx rfl (hb hby d2_31) rfl k_) ?_
  refine own_Goes.via (T' := s₁) (g' := (mkF m 33 #[.val (.long (v4 ^^^ ((v4.toUInt64 >>> ((33 : Int32) &&& 0x3f).toInt64.toUInt64).toInt64))), .second] [])) (fun t_ k_ => XS.lstoreN X0.here hx rfl (hb hby d2_32) rfl (l' := #[.val (.long (v4 ^^^ ((v4.toUInt64 >>> ((33 : Int32) &&& 0x3f).toInt64.toUInt64).toInt64))), .second]) rfl k_) ?_
  obtain ⟨v5, hv5⟩ : ∃ z : Int64, z = (v4 ^^^ ((v4.toUInt64 >>> ((33 : Int32) &&& 0x3f).toInt64.toUInt64).toInt64)) := ⟨_, rfl⟩
  rw [← hv5]
  refine own_Goes.via (T' := s₁) (g' := (mkF m 34 #[.val (.long v5), .second] [(.long v5)])) (fun t_ k_ => XS.lloadN X0.here hx rfl (hb hby d2_33) rfl k_) ?_
  obtain ⟨fs, hr, hrun, hended, hW, hsame⟩ := X0.leave (v := some (.long v5)) (fun h => by rw [Bd.returns] at h; cases h)
  refine own_Goes.fin (retOut X0 hx Bd.returns rfl (Or.inr (Or.inl ⟨rfl, rfl, _, rfl⟩)) (hb hby d2_34) hr) hrun hended ?_
  subst hPd
  refine ⟨_, _, rfl, ?_, ⟨_, rfl⟩, hW, hsame.mono (by decide) (by decide)⟩
  show Q2 Z xk h0 n0 _ s₁.heap _
  rw [e0]
  exact ⟨(by subst hv5; subst hv4; subst hv3; subst hv2; subst hv1; first | rfl | (simp only [own_f2])), N0, rfl⟩
theorem own_m1 : own_f1 (-49064778989728563 : Int64) * (-49064778989728563 : Int64) = 1 := by decide +kernel
theorem own_m2 : own_f1 (-4265267296055464877 : Int64) * (-4265267296055464877 : Int64) = 1 := by decide +kernel
theorem pn_0 : plainName "com/example/danaid/danaid/hashing/MurmurHash3Fmix64PinLaw" = true := by first | (simp [plainName, overriddenIn]; done) | decide +kernel
theorem pd_0_0 : parseMethodDescriptor "(J)J" = some ⟨[.long], some .long⟩ := by decide +kernel
theorem ef_0 (m : MethodId) (xk : Int64) : entryFrame m #[(.long xk)] maxLocals = mkF m 0 #[.val (.long xk), .second, .unset, .unset, .unset, .unset, .unset, .unset, .unset, .unset, .unset, .unset, .unset, .unset] [] := by first | (simp [entryFrame, mkF, argsToLocals, Value.category, maxLocals]; done) | rfl
def Q0 (Z : State) (xk : Int64) (h0 : Heap) (n0 : Nat) (v : Option Value) (h : Heap) (L : List Loc) : Prop := v = some (.int 1) ∧ Fr n0 L
set_option maxRecDepth 65536 in
theorem own_pl0_0 {xk : Int64} {v2 : Int64} {v4 : Int64} {v6 : Int64} {v7 : Int64} {v8 : Int64} {v9 : Int64} {v10 : Int64} {v11 : Int64} {v107_13 : Int32} (hv2 : v2 = (own_f1 (-49064778989728563 : Int64))) (hv4 : v4 = (own_f1 (-4265267296055464877 : Int64))) (hv6 : v6 = (own_f2 xk)) (hv7 : v7 = (v6 ^^^ ((v6.toUInt64 >>> ((33 : Int32) &&& 0x3f).toInt64.toUInt64).toInt64))) (hv8 : v8 = (v7 * v4)) (hv9 : v9 = (v8 ^^^ ((v8.toUInt64 >>> ((33 : Int32) &&& 0x3f).toInt64.toUInt64).toInt64))) (hv10 : v10 = (v9 * v2)) (hv11 : v11 = (v10 ^^^ ((v10.toUInt64 >>> ((33 : Int32) &&& 0x3f).toInt64.toUInt64).toInt64))) (hv107_13 : v107_13 = (if (v2 * (-49064778989728563 : Int64)) = (1 : Int64) then (if (v4 * (-4265267296055464877 : Int64)) = (1 : Int64) then (if v11 = xk then (1 : Int32) else (0 : Int32)) else (0 : Int32)) else (0 : Int32))) : v107_13 = 1 := by
  have h2 : own_f2 xk = own_X33 (own_X33 (own_X33 xk * (-49064778989728563 : Int64)) * (-4265267296055464877 : Int64)) := rfl
  have a7 : v7 = own_X33 (own_X33 xk * (-49064778989728563 : Int64)) * (-4265267296055464877 : Int64) := by
    rw [hv7]; show own_X33 v6 = _; rw [hv6, h2, own_X33_inv]
  have a8 : v8 = own_X33 (own_X33 xk * (-49064778989728563 : Int64)) := by
    rw [hv8, a7, hv4, Int64.mul_assoc, Int64.mul_comm (-4265267296055464877 : Int64), own_m2, Int64.mul_one]
  have a9 : v9 = own_X33 xk * (-49064778989728563 : Int64) := by
    rw [hv9]; show own_X33 v8 = _; rw [a8, own_X33_inv]
  have a10 : v10 = own_X33 xk := by
    rw [hv10, a9, hv2, Int64.mul_assoc, Int64.mul_comm (-49064778989728563 : Int64), own_m1, Int64.mul_one]
  have a11 : v11 = xk := by
    rw [hv11]; show own_X33 v10 = xk; rw [a10, own_X33_inv]
  rw [hv107_13, hv2, hv4, a11, own_m1, own_m2, if_pos rfl, if_pos rfl, if_pos rfl]
set_option maxRecDepth 65536 in
set_option maxHeartbeats 40000000 in
theorem rm0 (l : Launch) (Z : State) (a0 : Array Value) (hw : ∀ d ∈ tables_1, d.before a0 Z = true) (ws : List Jvm.Cond) (xk : Int64) (h0 : Heap) (n0 : Nat) (Z0 : n0 ≤ h0.size) :
    MetFree l x (head1 (Jvm.Cond.code x code maxLocals ret :: ws) room_1) (fun a U => a = #[(.long xk)] ∧ Z.Warmed39 U.vm ∧ U.heap = h0) (fun _ _ _ _ _ => True) (fun _ U o U' => ∃ v L, o = .returned v ∧ Q0 Z xk h0 n0 v U'.heap L ∧ FrameEnd U o U' L 0 0) := by
  refine MetFree.of_bodySF (plainFor_of_name pn_0) hisR ?_
  intro p e s m args below meth c s₁ Bd hml0 hP hK
  obtain ⟨rfl, hZ, hh⟩ := hP
  have hx := Bd.exec
  have hby := Bd.bytes
  have hml : c.maxLocals = 14 := hml0
  have hown : s.vm.findClass "com/example/danaid/danaid/hashing/MurmurHash3Fmix64PinLaw" = some m.cls := findClass_of_methodNamed Bd.named
  have hnm := (name_of_methodNamed Bd.named Bd.method).1
  have X0 : Stand p l e room_1 s m #[(.long xk)] below meth c s₁ [] 0 0 := Stand.of_body Bd
  have e0 : s₁.heap = h0 := by rw [← hh, Bd.state]; rfl
  have N0 := Fr.nil n0
  suffices G : own_Goes p.tables e below (fun o U' => ∃ v L, o = .returned v ∧ Q0 Z xk h0 n0 v U'.heap L ∧ FrameEnd s o U' L 0 0) s₁ (mkF m 0 #[.val (.long xk), .second, .unset, .unset, .unset, .unset, .unset, .unset, .unset, .unset, .unset, .unset, .unset, .unset] []) by
    obtain ⟨t2_, o2_, z1_, z2_, z3_, z4_⟩ := G
    exact ⟨t2_, o2_, castTop (ef_0 m xk) z1_, z2_, z3_, z4_⟩
  generalize hPd : (fun (o : Outcome) (U' : State) => ∃ v L, o = .returned v ∧ Q0 Z xk h0 n0 v U'.heap L ∧ FrameEnd s o U' L 0 0) = P
  refine own_Goes.via (T' := s₁) (g' := (mkF m 3 #[.val (.long xk), .second, .unset, .unset, .unset, .unset, .unset, .unset, .unset, .unset, .unset, .unset, .unset, .unset] [(.long (-49064778989728563 : Int64))])) (X0.ldc2Long hx hown (mvT hZ (hw _ (List.mem_of_getElem? (i := 0) rfl))) (g := (mkF m 0 #[.val (.long xk), .second, .unset, .unset, .unset, .unset, .unset, .unset, .unset, .unset, .unset, .unset, .unset, .unset] [])) rfl (hb hby at_0)) ?_
  refine own_Goes.via (T' := s₁) (g' := (mkF m 4 #[.val (.long xk), .second, .val (.long (-49064778989728563 : Int64)), .second, .unset, .unset, .unset, .unset, .unset, .unset, .unset, .unset, .unset, .unset] [])) (fun t_ k_ => XS.lstoreN X0.here hx rfl (hb hby at_3) rfl (l' := #[.val (.long xk), .second, .val (.long (-49064778989728563 : Int64)), .second, .unset, .unset, .unset, .unset, .unset, .unset, .unset, .unset, .unset, .unset]) rfl k_) ?_
  refine own_Goes.via (T' := s₁) (g' := (mkF m 7 #[.val (.long xk), .second, .val (.long (-49064778989728563 : Int64)), .second, .unset, .unset, .unset, .unset, .unset, .unset, .unset, .unset, .unset, .unset] [(.long (-4265267296055464877 : Int64))])) (X0.ldc2Long hx hown (mvT hZ (hw _ (List.mem_of_getElem? (i := 1) rfl))) (g := (mkF m 4 #[.val (.long xk), .second, .val (.long (-49064778989728563 : Int64)), .second, .unset, .unset, .unset, .unset, .unset, .unset, .unset, .unset, .unset, .unset] [])) rfl (hb hby at_4)) ?_
  refine own_Goes.via (T' := s₁) (g' := (mkF m 9 #[.val (.long xk), .second, .val (.long (-49064778989728563 : Int64)), .second, .val (.long (-4265267296055464877 : Int64)), .second, .unset, .unset, .unset, .unset, .unset, .unset, .unset, .unset] [])) (fun t_ k_ => XS.lstore X0.here hx rfl (hb hby at_7) rfl (l' := #[.val (.long xk), .second, .val (.long (-49064778989728563 : Int64)), .second, .val (.long (-4265267296055464877 : Int64)), .second, .unset, .unset, .unset, .unset, .unset, .unset, .unset, .unset]) rfl k_) ?_
  refine own_Goes.via (T' := s₁) (g' := (mkF m 10 #[.val (.long xk), .second, .val (.long (-49064778989728563 : Int64)), .second, .val (.long (-4265267296055464877 : Int64)), .second, .unset, .unset, .unset, .unset, .unset, .unset, .unset, .unset] [(.long (-49064778989728563 : Int64))])) (fun t_ k_ => XS.lloadN X0.here hx rfl (hb hby at_9) rfl k_) ?_
  obtain ⟨_, _, ⟨T1, L1, k1, n1⟩, -, X1, ⟨Lc1, hQ1, l1, y1, z1⟩, st1⟩ := Jvm.LawKit.callS X0 hx (y := (⟨"com/example/danaid/danaid/hashing/MurmurHash3Fmix64PinLaw", "inverseOdd", "(J)J"⟩ : MethodName)) hown (mvT hZ (hw _ (List.mem_of_getElem? (i := 2) rfl))) (mvT hZ (hw _ (List.mem_of_getElem? (i := 3) rfl))) (mvT hZ (hw _ (List.mem_of_getElem? (i := 4) rfl))) (mvT hZ (hw _ (List.mem_of_getElem? (i := 5) rfl))) (by decide) (backOf (W := 0) (rm1 l Z a0 hw [] (-49064778989728563 : Int64) h0 n0 Z0 ) hZ (hw _ (List.mem_of_getElem? (i := 5) rfl)) (hw _ (List.mem_of_getElem? (i := 4) rfl)) (by decide) (by decide)) (g := (mkF m 10 #[.val (.long xk), .second, .val (.long (-49064778989728563 : Int64)), .second, .val (.long (-4265267296055464877 : Int64)), .second, .unset, .unset, .unset, .unset, .unset, .unset, .unset, .unset] [(.long (-49064778989728563 : Int64))])) rfl (by rw [hml]; rfl) (argsL := [(.long (-49064778989728563 : Int64))]) (rest := []) (lenOf pd_0_0 rfl) rfl (by show 2 * 0 + _ ≤ _; exact Nat.le_of_eq rfl) (hb hby at_10) (fun _ _ => ⟨rfl, e0, (by decide : 0 + 0 ≤ _), (by decide : 0 + 0 ≤ _)⟩)
  dsimp only [Pt.U, Pt.locs, Pt.cells, Pt.slots] at X1 l1 y1 z1 st1 hQ1
  subst l1 y1 z1
  obtain ⟨rfl, Nq1, hh1⟩ := hQ1
  have N1 := Fr.app N0 Nq1
  refine own_Goes.via (T' := T1) (g' := (mkF m 13 #[.val (.long xk), .second, .val (.long (-49064778989728563 : Int64)), .second, .val (.long (-4265267296055464877 : Int64)), .second, .unset, .unset, .unset, .unset, .unset, .unset, .unset, .unset] [(.long (own_f1 (-49064778989728563 : Int64)))])) (st1) ?_
  obtain ⟨v2, hv2⟩ : ∃ z : Int64, z = (own_f1 (-49064778989728563 : Int64)) := ⟨_, rfl⟩
  rw [← hv2]
  refine own_Goes.via (T' := T1) (g' := (mkF m 15 #[.val (.long xk), .second, .val (.long (-49064778989728563 : Int64)), .second, .val (.long (-4265267296055464877 : Int64)), .second, .val (.long v2), .second, .unset, .unset, .unset, .unset, .unset, .unset] [])) (fun t_ k_ => XS.lstore X1.here hx rfl (hb hby at_13) rfl (l' := #[.val (.long xk), .second, .val (.long (-49064778989728563 : Int64)), .second, .val (.long (-4265267296055464877 : Int64)), .second, .val (.long v2), .second, .unset, .unset, .unset, .unset, .unset, .unset]) rfl k_) ?_
  refine own_Goes.via (T' := T1) (g' := (mkF m 17 #[.val (.long xk), .second, .val (.long (-49064778989728563 : Int64)), .second, .val (.long (-4265267296055464877 : Int64)), .second, .val (.long v2), .second, .unset, .unset, .unset, .unset, .unset, .unset] [(.long (-4265267296055464877 : Int64))])) (fun t_ k_ => XS.lload X1.here hx rfl (hb hby at_15) rfl k_) ?_
  obtain ⟨_, _, ⟨T3, L3, k3, n3⟩, -, X3, ⟨Lc3, hQ3, l3, y3, z3⟩, st3⟩ := Jvm.LawKit.callS X1 hx (y := (⟨"com/example/danaid/danaid/hashing/MurmurHash3Fmix64PinLaw", "inverseOdd", "(J)J"⟩ : MethodName)) hown (mvT hZ (hw _ (List.mem_of_getElem? (i := 2) rfl))) (mvT hZ (hw _ (List.mem_of_getElem? (i := 3) rfl))) (mvT hZ (hw _ (List.mem_of_getElem? (i := 4) rfl))) (mvT hZ (hw _ (List.mem_of_getElem? (i := 5) rfl))) (by decide) (backOf (W := 0) (rm1 l Z a0 hw [] (-4265267296055464877 : Int64) h0 n0 Z0 ) hZ (hw _ (List.mem_of_getElem? (i := 5) rfl)) (hw _ (List.mem_of_getElem? (i := 4) rfl)) (by decide) (by decide)) (g := (mkF m 17 #[.val (.long xk), .second, .val (.long (-49064778989728563 : Int64)), .second, .val (.long (-4265267296055464877 : Int64)), .second, .val (.long v2), .second, .unset, .unset, .unset, .unset, .unset, .unset] [(.long (-4265267296055464877 : Int64))])) rfl (by rw [hml]; rfl) (argsL := [(.long (-4265267296055464877 : Int64))]) (rest := []) (lenOf pd_0_0 rfl) rfl (by show 2 * 0 + _ ≤ _; exact Nat.le_of_eq rfl) (hb hby at_17) (fun _ _ => ⟨rfl, hh1, (by decide : 0 + 0 ≤ _), (by decide : 0 + 0 ≤ _)⟩)
  dsimp only [Pt.U, Pt.locs, Pt.cells, Pt.slots] at X3 l3 y3 z3 st3 hQ3
  subst l3 y3 z3
  obtain ⟨rfl, Nq3, hh3⟩ := hQ3
  have N3 := Fr.app N1 Nq3
  refine own_Goes.via (T' := T3) (g' := (mkF m 20 #[.val (.long xk), .second, .val (.long (-49064778989728563 : Int64)), .second, .val (.long (-4265267296055464877 : Int64)), .second, .val (.long v2), .second, .unset, .unset, .unset, .unset, .unset, .unset] [(.long (own_f1 (-4265267296055464877 : Int64)))])) (st3) ?_
  obtain ⟨v4, hv4⟩ : ∃ z : Int64, z = (own_f1 (-4265267296055464877 : Int64)) := ⟨_, rfl⟩
  rw [← hv4]
  refine own_Goes.via (T' := T3) (g' := (mkF m 22 #[.val (.long xk), .second, .val (.long (-49064778989728563 : Int64)), .second, .val (.long (-4265267296055464877 : Int64)), .second, .val (.long v2), .second, .val (.long v4), .second, .unset, .unset, .unset, .unset] [])) (fun t_ k_ => XS.lstore X3.here hx rfl (hb hby at_20) rfl (l' := #[.val (.long xk), .second, .val (.long (-49064778989728563 : Int64)), .second, .val (.long (-4265267296055464877 : Int64)), .second, .val (.long v2), .second, .val (.long v4), .second, .unset, .unset, .unset, .unset]) rfl k_) ?_
  refine own_Goes.via (T' := T3) (g' := (mkF m 23 #[.val (.long xk), .second, .val (.long (-49064778989728563 : Int64)), .second, .val (.long (-4265267296055464877 : Int64)), .second, .val (.long v2), .second, .val (.long v4), .second, .unset, .unset, .unset, .unset] [(.long xk)])) (fun t_ k_ => XS.lloadN X3.here hx rfl (hb hby at_22) rfl k_) ?_
  obtain ⟨_, _, ⟨T5, L5, k5, n5⟩, -, X5, ⟨Lc5, hQ5, l5, y5, z5⟩, st5⟩ := Jvm.LawKit.callS X3 hx (y := (⟨"com/example/danaid/danaid/hashing/MurmurHash3", "fmix64", "(J)J"⟩ : MethodName)) hown (mvT hZ (hw _ (List.mem_of_getElem? (i := 7) rfl))) (mvT hZ (hw _ (List.mem_of_getElem? (i := 8) rfl))) (mvT hZ (hw _ (List.mem_of_getElem? (i := 9) rfl))) (mvT hZ (hw _ (List.mem_of_getElem? (i := 10) rfl))) (by decide) (backOf (W := 0) (rm2 l Z a0 hw [] xk h0 n0 Z0 ) hZ (hw _ (List.mem_of_getElem? (i := 10) rfl)) (hw _ (List.mem_of_getElem? (i := 9) rfl)) (by decide) (by decide)) (g := (mkF m 23 #[.val (.long xk), .second, .val (.long (-49064778989728563 : Int64)), .second, .val (.long (-4265267296055464877 : Int64)), .second, .val (.long v2), .second, .val (.long v4), .second, .unset, .unset, .unset, .unset] [(.long xk)])) rfl (by rw [hml]; rfl) (argsL := [(.long xk)]) (rest := []) (lenOf pd_0_0 rfl) rfl (by show 2 * 0 + _ ≤ _; exact Nat.le_of_eq rfl) (hb hby at_23) (fun _ _ => ⟨rfl, hh3, (by decide : 0 + 0 ≤ _), (by decide : 0 + 0 ≤ _)⟩)
  dsimp only [Pt.U, Pt.locs, Pt.cells, Pt.slots] at X5 l5 y5 z5 st5 hQ5
  subst l5 y5 z5
  obtain ⟨rfl, Nq5, hh5⟩ := hQ5
  have N5 := Fr.app N3 Nq5
  refine own_Goes.via (T' := T5) (g' := (mkF m 26 #[.val (.long xk), .second, .val (.long (-49064778989728563 : Int64)), .second, .val (.long (-4265267296055464877 : Int64)), .second, .val (.long v2), .second, .val (.long v4), .second, .unset, .unset, .unset, .unset] [(.long (own_f2 xk))])) (st5) ?_
  obtain ⟨v6, hv6⟩ : ∃ z : Int64, z = (own_f2 xk) := ⟨_, rfl⟩
  rw [← hv6]
  refine own_Goes.via (T' := T5) (g' := (mkF m 28 #[.val (.long xk), .second, .val (.long (-49064778989728563 : Int64)), .second, .val (.long (-4265267296055464877 : Int64)), .second, .val (.long v2), .second, .val (.long v4), .second, .val (.long v6), .second, .unset, .unset] [])) (fun t_ k_ => XS.lstore X5.here hx rfl (hb hby at_26) rfl (l' := #[.val (.long xk), .second, .val (.long (-49064778989728563 : Int64)), .second, .val (.long (-4265267296055464877 : Int64)), .second, .val (.long v2), .second, .val (.long v4), .second, .val (.long v6), .second, .unset, .unset]) rfl k_) ?_
  refine own_Goes.via (T' := T5) (g' := (mkF m 30 #[.val (.long xk), .second, .val (.long (-49064778989728563 : Int64)), .second, .val (.long (-4265267296055464877 : Int64)), .second, .val (.long v2), .second, .val (.long v4), .second, .val (.long v6), .second, .unset, .unset] [(.long v6)])) (fun t_ k_ => XS.lload X5.here hx rfl (hb hby at_28) rfl k_) ?_
  refine own_Goes.via (T' := T5) (g' := (mkF m 32 #[.val (.long xk), .second, .val (.long (-49064778989728563 : Int64)), .second, .val (.long (-4265267296055464877 : Int64)), .second, .val (.long v2), .second, .val (.long v4), .second, .val (.long v6), .second, .val (.long v6), .second] [])) (fun t_ k_ => XS.lstore X5.here hx rfl (hb hby at_30) rfl (l' := #[.val (.long xk), .second, .val (.long (-49064778989728563 : Int64)), .second, .val (.long (-4265267296055464877 : Int64)), .second, .val (.long v2), .second, .val (.long v4), .second, .val (.long v6), .second, .val (.long v6), .second]) rfl k_) ?_
  refine own_Goes.via (T' := T5) (g' := (mkF m 34 #[.val (.long xk), .second, .val (.long (-49064778989728563 : Int64)), .second, .val (.long (-4265267296055464877 : Int64)), .second, .val (.long v2), .second, .val (.long v4), .second, .val (.long v6), .second, .val (.long v6), .second] [(.long v6)])) (fun t_ k_ => XS.lload X5.here hx rfl (hb hby at_32) rfl k_) ?_
  refine own_Goes.via (T' := T5) (g' := (mkF m 36 #[.val (.long xk), .second, .val (.long (-49064778989728563 : Int64)), .second, .val (.long (-4265267296055464877 : Int64)), .second, .val (.long v2), .second, .val (.long v4), .second, .val (.long v6), .second, .val (.long v6), .second] [(.long v6), (.long v6)])) (fun t_ k_ => XS.lload X5.here hx rfl (hb hby at_34) rfl k_) ?_
  refine own_Goes.via (T' := T5) (g' := (mkF m 38 #[.val (.long xk), .second, .val (.long (-49064778989728563 : Int64)), .second, .val (.long (-4265267296055464877 : Int64)), .second, .val (.long v2), .second, .val (.long v4), .second, .val (.long v6), .second, .val (.long v6), .second] [(.int (33 : Int32)), (.long v6), (.long v6)])) (fun t_ k_ => XS.bipush X5.here hx rfl (hb hby at_36) k_) ?_
  refine own_Goes.via (T' := T5) (g' := (mkF m 39 #[.val (.long xk), .second, .val (.long (-49064778989728563 : Int64)), .second, .val (.long (-4265267296055464877 : Int64)), .second, .val (.long v2), .second, .val (.long v4), .second, .val (.long v6), .second, .val (.long v6), .second] [(.long ((v6.toUInt64 >>> ((33 : Int32) &&& 0x3f).toInt64.toUInt64).toInt64)), (.long v6)])) (fun t_ k_ => XS.lushr X5.here hx rfl (hb hby at_38) rfl k_) ?_
  refine own_Goes.via (T' := T5) (g' := (mkF m 40 #[.val (.long xk), .second, .val (.long (-49064778989728563 : Int64)), .second, .val (.long (-4265267296055464877 : Int64)), .second, .val (.long v2), .second, .val (.long v4), .second, .val (.long v6), .second, .val (.long v6), .second] [(.long (v6 ^^^ ((v6.toUInt64 >>> ((33 : Int32) &&& 0x3f).toInt64.toUInt64).toInt64)))])) (fun t_ k_ => XS.lxor X5.here hx rfl (hb hby at_39) rfl k_) ?_
  refine own_Goes.via (T' := T5) (g' := (mkF m 42 #[.val (.long xk), .second, .val (.long (-49064778989728563 : Int64)), .second, .val (.long (-4265267296055464877 : Int64)), .second, .val (.long v2), .second, .val (.long v4), .second, .val (.long v6), .second, .val (.long (v6 ^^^ ((v6.toUInt64 >>> ((33 : Int32) &&& 0x3f).toInt64.toUInt64).toInt64))), .second] [])) (fun t_ k_ => XS.lstore X5.here hx rfl (hb hby at_40) rfl (l' := #[.val (.long xk), .second, .val (.long (-49064778989728563 : Int64)), .second, .val (.long (-4265267296055464877 : Int64)), .second, .val (.long v2), .second, .val (.long v4), .second, .val (.long v6), .second, .val (.long (v6 ^^^ ((v6.toUInt64 >>> ((33 : Int32) &&& 0x3f).toInt64.toUInt64).toInt64))), .second]) rfl k_) ?_
  obtain ⟨v7, hv7⟩ : ∃ z : Int64, z = (v6 ^^^ ((v6.toUInt64 >>> ((33 : Int32) &&& 0x3f).toInt64.toUInt64).toInt64)) := ⟨_, rfl⟩
  rw [← hv7]
  refine own_Goes.via (T' := T5) (g' := (mkF m 44 #[.val (.long xk), .second, .val (.long (-49064778989728563 : Int64)), .second, .val (.long (-4265267296055464877 : Int64)), .second, .val (.long v2), .second, .val (.long v4), .second, .val (.long v6), .second, .val (.long v7), .second] [(.long v7)])) (fun t_ k_ => XS.lload X5.here hx rfl (hb hby at_42) rfl k_) ?_
  refine own_Goes.via (T' := T5) (g' := (mkF m 46 #[.val (.long xk), .second, .val (.long (-49064778989728563 : Int64)), .second, .val (.long (-4265267296055464877 : Int64)), .second, .val (.long v2), .second, .val (.long v4), .second, .val (.long v6), .second, .val (.long v7), .second] [(.long v4), (.long v7)])) (fun t_ k_ => XS.lload X5.here hx rfl (hb hby at_44) rfl k_) ?_
  refine own_Goes.via (T' := T5) (g' := (mkF m 47 #[.val (.long xk), .second, .val (.long (-49064778989728563 : Int64)), .second, .val (.long (-4265267296055464877 : Int64)), .second, .val (.long v2), .second, .val (.long v4), .second, .val (.long v6), .second, .val (.long v7), .second] [(.long (v7 * v4))])) (fun t_ k_ => XS.lmul X5.here hx rfl (hb hby at_46) rfl k_) ?_
  refine own_Goes.via (T' := T5) (g' := (mkF m 49 #[.val (.long xk), .second, .val (.long (-49064778989728563 : Int64)), .second, .val (.long (-4265267296055464877 : Int64)), .second, .val (.long v2), .second, .val (.long v4), .second, .val (.long v6), .second, .val (.long (v7 * v4)), .second] [])) (fun t_ k_ => XS.lstore X5.here hx rfl (hb hby at_47) rfl (l' := #[.val (.long xk), .second, .val (.long (-49064778989728563 : Int64)), .second, .val (.long (-4265267296055464877 : Int64)), .second, .val (.long v2), .second, .val (.long v4), .second, .val (.long v6), .second, .val (.long (v7 * v4)), .second]) rfl k_) ?_
  obtain ⟨v8, hv8⟩ : ∃ z : Int64, z = (v7 * v4) := ⟨_, rfl⟩
  rw [← hv8]
  refine own_Goes.via (T' := T5) (g' := (mkF m 51 #[.val (.long xk), .second, .val (.long (-49064778989728563 : Int64)), .second, .val (.long (-4265267296055464877 : Int64)), .second, .val (.long v2), .second, .val (.long v4), .second, .val (.long v6), .second, .val (.long v8), .second] [(.long v8)])) (fun t_ k_ => XS.lload X5.here hx rfl (hb hby at_49) rfl k_) ?_
  refine own_Goes.via (T' := T5) (g' := (mkF m 53 #[.val (.long xk), .second, .val (.long (-49064778989728563 : Int64)), .second, .val (.long (-4265267296055464877 : Int64)), .second, .val (.long v2), .second, .val (.long v4), .second, .val (.long v6), .second, .val (.long v8), .second] [(.long v8), (.long v8)])) (fun t_ k_ => XS.lload X5.here hx rfl (hb hby at_51) rfl k_) ?_
  refine own_Goes.via (T' := T5) (g' := (mkF m 55 #[.val (.long xk), .second, .val (.long (-49064778989728563 : Int64)), .second, .val (.long (-4265267296055464877 : Int64)), .second, .val (.long v2), .second, .val (.long v4), .second, .val (.long v6), .second, .val (.long v8), .second] [(.int (33 : Int32)), (.long v8), (.long v8)])) (fun t_ k_ => XS.bipush X5.here hx rfl (hb hby at_53) k_) ?_
  refine own_Goes.via (T' := T5) (g' := (mkF m 56 #[.val (.long xk), .second, .val (.long (-49064778989728563 : Int64)), .second, .val (.long (-4265267296055464877 : Int64)), .second, .val (.long v2), .second, .val (.long v4), .second, .val (.long v6), .second, .val (.long v8), .second] [(.long ((v8.toUInt64 >>> ((33 : Int32) &&& 0x3f).toInt64.toUInt64).toInt64)), (.long v8)])) (fun t_ k_ => XS.lushr X5.here hx rfl (hb hby at_55) rfl k_) ?_
  refine own_Goes.via (T' := T5) (g' := (mkF m 57 #[.val (.long xk), .second, .val (.long (-49064778989728563 : Int64)), .second, .val (.long (-4265267296055464877 : Int64)), .second, .val (.long v2), .second, .val (.long v4), .second, .val (.long v6), .second, .val (.long v8), .second] [(.long (v8 ^^^ ((v8.toUInt64 >>> ((33 : Int32) &&& 0x3f).toInt64.toUInt64).toInt64)))])) (fun t_ k_ => XS.lxor X5.here hx rfl (hb hby at_56) rfl k_) ?_
  refine own_Goes.via (T' := T5) (g' := (mkF m 59 #[.val (.long xk), .second, .val (.long (-49064778989728563 : Int64)), .second, .val (.long (-4265267296055464877 : Int64)), .second, .val (.long v2), .second, .val (.long v4), .second, .val (.long v6), .second, .val (.long (v8 ^^^ ((v8.toUInt64 >>> ((33 : Int32) &&& 0x3f).toInt64.toUInt64).toInt64))), .second] [])) (fun t_ k_ => XS.lstore X5.here hx rfl (hb hby at_57) rfl (l' := #[.val (.long xk), .second, .val (.long (-49064778989728563 : Int64)), .second, .val (.long (-4265267296055464877 : Int64)), .second, .val (.long v2), .second, .val (.long v4), .second, .val (.long v6), .second, .val (.long (v8 ^^^ ((v8.toUInt64 >>> ((33 : Int32) &&& 0x3f).toInt64.toUInt64).toInt64))), .second]) rfl k_) ?_
  obtain ⟨v9, hv9⟩ : ∃ z : Int64, z = (v8 ^^^ ((v8.toUInt64 >>> ((33 : Int32) &&& 0x3f).toInt64.toUInt64).toInt64)) := ⟨_, rfl⟩
  rw [← hv9]
  refine own_Goes.via (T' := T5) (g' := (mkF m 61 #[.val (.long xk), .second, .val (.long (-49064778989728563 : Int64)), .second, .val (.long (-4265267296055464877 : Int64)), .second, .val (.long v2), .second, .val (.long v4), .second, .val (.long v6), .second, .val (.long v9), .second] [(.long v9)])) (fun t_ k_ => XS.lload X5.here hx rfl (hb hby at_59) rfl k_) ?_
  refine own_Goes.via (T' := T5) (g' := (mkF m 63 #[.val (.long xk), .second, .val (.long (-49064778989728563 : Int64)), .second, .val (.long (-4265267296055464877 : Int64)), .second, .val (.long v2), .second, .val (.long v4), .second, .val (.long v6), .second, .val (.long v9), .second] [(.long v2), (.long v9)])) (fun t_ k_ => XS.lload X5.here hx rfl (hb hby at_61) rfl k_) ?_
  refine own_Goes.via (T' := T5) (g' := (mkF m 64 #[.val (.long xk), .second, .val (.long (-49064778989728563 : Int64)), .second, .val (.long (-4265267296055464877 : Int64)), .second, .val (.long v2), .second, .val (.long v4), .second, .val (.long v6), .second, .val (.long v9), .second] [(.long (v9 * v2))])) (fun t_ k_ => XS.lmul X5.here hx rfl (hb hby at_63) rfl k_) ?_
  refine own_Goes.via (T' := T5) (g' := (mkF m 66 #[.val (.long xk), .second, .val (.long (-49064778989728563 : Int64)), .second, .val (.long (-4265267296055464877 : Int64)), .second, .val (.long v2), .second, .val (.long v4), .second, .val (.long v6), .second, .val (.long (v9 * v2)), .second] [])) (fun t_ k_ => XS.lstore X5.here hx rfl (hb hby at_64) rfl (l' := #[.val (.long xk), .second, .val (.long (-49064778989728563 : Int64)), .second, .val (.long (-4265267296055464877 : Int64)), .second, .val (.long v2), .second, .val (.long v4), .second, .val (.long v6), .second, .val (.long (v9 * v2)), .second]) rfl k_) ?_
  obtain ⟨v10, hv10⟩ : ∃ z : Int64, z = (v9 * v2) := ⟨_, rfl⟩
  rw [← hv10]
  refine own_Goes.via (T' := T5) (g' := (mkF m 68 #[.val (.long xk), .second, .val (.long (-49064778989728563 : Int64)), .second, .val (.long (-4265267296055464877 : Int64)), .second, .val (.long v2), .second, .val (.long v4), .second, .val (.long v6), .second, .val (.long v10), .second] [(.long v10)])) (fun t_ k_ => XS.lload X5.here hx rfl (hb hby at_66) rfl k_) ?_
  refine own_Goes.via (T' := T5) (g' := (mkF m 70 #[.val (.long xk), .second, .val (.long (-49064778989728563 : Int64)), .second, .val (.long (-4265267296055464877 : Int64)), .second, .val (.long v2), .second, .val (.long v4), .second, .val (.long v6), .second, .val (.long v10), .second] [(.long v10), (.long v10)])) (fun t_ k_ => XS.lload X5.here hx rfl (hb hby at_68) rfl k_) ?_
  refine own_Goes.via (T' := T5) (g' := (mkF m 72 #[.val (.long xk), .second, .val (.long (-49064778989728563 : Int64)), .second, .val (.long (-4265267296055464877 : Int64)), .second, .val (.long v2), .second, .val (.long v4), .second, .val (.long v6), .second, .val (.long v10), .second] [(.int (33 : Int32)), (.long v10), (.long v10)])) (fun t_ k_ => XS.bipush X5.here hx rfl (hb hby at_70) k_) ?_
  refine own_Goes.via (T' := T5) (g' := (mkF m 73 #[.val (.long xk), .second, .val (.long (-49064778989728563 : Int64)), .second, .val (.long (-4265267296055464877 : Int64)), .second, .val (.long v2), .second, .val (.long v4), .second, .val (.long v6), .second, .val (.long v10), .second] [(.long ((v10.toUInt64 >>> ((33 : Int32) &&& 0x3f).toInt64.toUInt64).toInt64)), (.long v10)])) (fun t_ k_ => XS.lushr X5.here hx rfl (hb hby at_72) rfl k_) ?_
  refine own_Goes.via (T' := T5) (g' := (mkF m 74 #[.val (.long xk), .second, .val (.long (-49064778989728563 : Int64)), .second, .val (.long (-4265267296055464877 : Int64)), .second, .val (.long v2), .second, .val (.long v4), .second, .val (.long v6), .second, .val (.long v10), .second] [(.long (v10 ^^^ ((v10.toUInt64 >>> ((33 : Int32) &&& 0x3f).toInt64.toUInt64).toInt64)))])) (fun t_ k_ => XS.lxor X5.here hx rfl (hb hby at_73) rfl k_) ?_
  refine own_Goes.via (T' := T5) (g' := (mkF m 76 #[.val (.long xk), .second, .val (.long (-49064778989728563 : Int64)), .second, .val (.long (-4265267296055464877 : Int64)), .second, .val (.long v2), .second, .val (.long v4), .second, .val (.long v6), .second, .val (.long (v10 ^^^ ((v10.toUInt64 >>> ((33 : Int32) &&& 0x3f).toInt64.toUInt64).toInt64))), .second] [])) (fun t_ k_ => XS.lstore X5.here hx rfl (hb hby at_74) rfl (l' := #[.val (.long xk), .second, .val (.long (-49064778989728563 : Int64)), .second, .val (.long (-4265267296055464877 : Int64)), .second, .val (.long v2), .second, .val (.long v4), .second, .val (.long v6), .second, .val (.long (v10 ^^^ ((v10.toUInt64 >>> ((33 : Int32) &&& 0x3f).toInt64.toUInt64).toInt64))), .second]) rfl k_) ?_
  obtain ⟨v11, hv11⟩ : ∃ z : Int64, z = (v10 ^^^ ((v10.toUInt64 >>> ((33 : Int32) &&& 0x3f).toInt64.toUInt64).toInt64)) := ⟨_, rfl⟩
  rw [← hv11]
  refine own_Goes.via (T' := T5) (g' := (mkF m 78 #[.val (.long xk), .second, .val (.long (-49064778989728563 : Int64)), .second, .val (.long (-4265267296055464877 : Int64)), .second, .val (.long v2), .second, .val (.long v4), .second, .val (.long v6), .second, .val (.long v11), .second] [(.long v2)])) (fun t_ k_ => XS.lload X5.here hx rfl (hb hby at_76) rfl k_) ?_
  refine own_Goes.via (T' := T5) (g' := (mkF m 79 #[.val (.long xk), .second, .val (.long (-49064778989728563 : Int64)), .second, .val (.long (-4265267296055464877 : Int64)), .second, .val (.long v2), .second, .val (.long v4), .second, .val (.long v6), .second, .val (.long v11), .second] [(.long (-49064778989728563 : Int64)), (.long v2)])) (fun t_ k_ => XS.lloadN X5.here hx rfl (hb hby at_78) rfl k_) ?_
  refine own_Goes.via (T' := T5) (g' := (mkF m 80 #[.val (.long xk), .second, .val (.long (-49064778989728563 : Int64)), .second, .val (.long (-4265267296055464877 : Int64)), .second, .val (.long v2), .second, .val (.long v4), .second, .val (.long v6), .second, .val (.long v11), .second] [(.long (v2 * (-49064778989728563 : Int64)))])) (fun t_ k_ => XS.lmul X5.here hx rfl (hb hby at_79) rfl k_) ?_
  refine own_Goes.via (T' := T5) (g' := (mkF m 81 #[.val (.long xk), .second, .val (.long (-49064778989728563 : Int64)), .second, .val (.long (-4265267296055464877 : Int64)), .second, .val (.long v2), .second, .val (.long v4), .second, .val (.long v6), .second, .val (.long v11), .second] [(.long (1 : Int64)), (.long (v2 * (-49064778989728563 : Int64)))])) (fun t_ k_ => XS.lconst X5.here hx rfl (hb hby at_80) k_) ?_
  refine own_Goes.via (T' := T5) (g' := (mkF m 82 #[.val (.long xk), .second, .val (.long (-49064778989728563 : Int64)), .second, .val (.long (-4265267296055464877 : Int64)), .second, .val (.long v2), .second, .val (.long v4), .second, .val (.long v6), .second, .val (.long v11), .second] [(.int (lcmpW (v2 * (-49064778989728563 : Int64)) (1 : Int64)))])) (fun t_ k_ => XS.lcmp X5.here hx rfl (hb hby at_81) rfl k_) ?_
  suffices J107_15 : ∀ (v107_13 : Int32) (hv107_13 : v107_13 = (if (v2 * (-49064778989728563 : Int64)) = (1 : Int64) then (if (v4 * (-4265267296055464877 : Int64)) = (1 : Int64) then (if v11 = xk then (1 : Int32) else (0 : Int32)) else (0 : Int32)) else (0 : Int32))), own_Goes p.tables e below P T5 (mkF m 107 #[.val (.long xk), .second, .val (.long (-49064778989728563 : Int64)), .second, .val (.long (-4265267296055464877 : Int64)), .second, .val (.long v2), .second, .val (.long v4), .second, .val (.long v6), .second, .val (.long v11), .second] [(.int v107_13)]) by
    by_cases hc82_12 : (v2 * (-49064778989728563 : Int64)) = (1 : Int64)
    · refine own_Goes.via (T' := T5) (g' := (mkF m 85 #[.val (.long xk), .second, .val (.long (-49064778989728563 : Int64)), .second, .val (.long (-4265267296055464877 : Int64)), .second, .val (.long v2), .second, .val (.long v4), .second, .val (.long v6), .second, .val (.long v11), .second] [])) (fun t_ k_ => XS.ifNo X5.here hx rfl (hb hby at_82) rfl (own_eqT hc82_12).2 k_) ?_
      refine own_Goes.via (T' := T5) (g' := (mkF m 87 #[.val (.long xk), .second, .val (.long (-49064778989728563 : Int64)), .second, .val (.long (-4265267296055464877 : Int64)), .second, .val (.long v2), .second, .val (.long v4), .second, .val (.long v6), .second, .val (.long v11), .second] [(.long v4)])) (fun t_ k_ => XS.lload X5.here hx rfl (hb hby at_85) rfl k_) ?_
      refine own_Goes.via (T' := T5) (g' := (mkF m 89 #[.val (.long xk), .second, .val (.long (-49064778989728563 : Int64)), .second, .val (.long (-4265267296055464877 : Int64)), .second, .val (.long v2), .second, .val (.long v4), .second, .val (.long v6), .second, .val (.long v11), .second] [(.long (-4265267296055464877 : Int64)), (.long v4)])) (fun t_ k_ => XS.lload X5.here hx rfl (hb hby at_87) rfl k_) ?_
      refine own_Goes.via (T' := T5) (g' := (mkF m 90 #[.val (.long xk), .second, .val (.long (-49064778989728563 : Int64)), .second, .val (.long (-4265267296055464877 : Int64)), .second, .val (.long v2), .second, .val (.long v4), .second, .val (.long v6), .second, .val (.long v11), .second] [(.long (v4 * (-4265267296055464877 : Int64)))])) (fun t_ k_ => XS.lmul X5.here hx rfl (hb hby at_89) rfl k_) ?_
      refine own_Goes.via (T' := T5) (g' := (mkF m 91 #[.val (.long xk), .second, .val (.long (-49064778989728563 : Int64)), .second, .val (.long (-4265267296055464877 : Int64)), .second, .val (.long v2), .second, .val (.long v4), .second, .val (.long v6), .second, .val (.long v11), .second] [(.long (1 : Int64)), (.long (v4 * (-4265267296055464877 : Int64)))])) (fun t_ k_ => XS.lconst X5.here hx rfl (hb hby at_90) k_) ?_
      refine own_Goes.via (T' := T5) (g' := (mkF m 92 #[.val (.long xk), .second, .val (.long (-49064778989728563 : Int64)), .second, .val (.long (-4265267296055464877 : Int64)), .second, .val (.long v2), .second, .val (.long v4), .second, .val (.long v6), .second, .val (.long v11), .second] [(.int (lcmpW (v4 * (-4265267296055464877 : Int64)) (1 : Int64)))])) (fun t_ k_ => XS.lcmp X5.here hx rfl (hb hby at_91) rfl k_) ?_
      by_cases hc92_16 : (v4 * (-4265267296055464877 : Int64)) = (1 : Int64)
      · refine own_Goes.via (T' := T5) (g' := (mkF m 95 #[.val (.long xk), .second, .val (.long (-49064778989728563 : Int64)), .second, .val (.long (-4265267296055464877 : Int64)), .second, .val (.long v2), .second, .val (.long v4), .second, .val (.long v6), .second, .val (.long v11), .second] [])) (fun t_ k_ => XS.ifNo X5.here hx rfl (hb hby at_92) rfl (own_eqT hc92_16).2 k_) ?_
        refine own_Goes.via (T' := T5) (g' := (mkF m 97 #[.val (.long xk), .second, .val (.long (-49064778989728563 : Int64)), .second, .val (.long (-4265267296055464877 : Int64)), .second, .val (.long v2), .second, .val (.long v4), .second, .val (.long v6), .second, .val (.long v11), .second] [(.long v11)])) (fun t_ k_ => XS.lload X5.here hx rfl (hb hby at_95) rfl k_) ?_
        refine own_Goes.via (T' := T5) (g' := (mkF m 98 #[.val (.long xk), .second, .val (.long (-49064778989728563 : Int64)), .second, .val (.long (-4265267296055464877 : Int64)), .second, .val (.long v2), .second, .val (.long v4), .second, .val (.long v6), .second, .val (.long v11), .second] [(.long xk), (.long v11)])) (fun t_ k_ => XS.lloadN X5.here hx rfl (hb hby at_97) rfl k_) ?_
        refine own_Goes.via (T' := T5) (g' := (mkF m 99 #[.val (.long xk), .second, .val (.long (-49064778989728563 : Int64)), .second, .val (.long (-4265267296055464877 : Int64)), .second, .val (.long v2), .second, .val (.long v4), .second, .val (.long v6), .second, .val (.long v11), .second] [(.int (lcmpW v11 xk))])) (fun t_ k_ => XS.lcmp X5.here hx rfl (hb hby at_98) rfl k_) ?_
        by_cases hc99_17 : v11 = xk
        · refine own_Goes.via (T' := T5) (g' := (mkF m 102 #[.val (.long xk), .second, .val (.long (-49064778989728563 : Int64)), .second, .val (.long (-4265267296055464877 : Int64)), .second, .val (.long v2), .second, .val (.long v4), .second, .val (.long v6), .second, .val (.long v11), .second] [])) (fun t_ k_ => XS.ifNo X5.here hx rfl (hb hby at_99) rfl (own_eqT hc99_17).2 k_) ?_
          refine own_Goes.via (T' := T5) (g' := (mkF m 103 #[.val (.long xk), .second, .val (.long (-49064778989728563 : Int64)), .second, .val (.long (-4265267296055464877 : Int64)), .second, .val (.long v2), .second, .val (.long v4), .second, .val (.long v6), .second, .val (.long v11), .second] [(.int (1 : Int32))])) (fun t_ k_ => XS.iconst X5.here hx rfl (hb hby at_102) k_) ?_
          refine own_Goes.via (T' := T5) (g' := (mkF m 107 #[.val (.long xk), .second, .val (.long (-49064778989728563 : Int64)), .second, .val (.long (-4265267296055464877 : Int64)), .second, .val (.long v2), .second, .val (.long v4), .second, .val (.long v6), .second, .val (.long v11), .second] [(.int (1 : Int32))])) (fun t_ k_ => XS.goto X5.here hx rfl (pc0 := 103) (pc' := 107) rfl (hb hby at_103) (by decide) (by decide) k_) ?_
          exact J107_15 (1 : Int32) (((if_pos hc82_12).trans ((if_pos hc92_16).trans (if_pos hc99_17)))).symm
        · refine own_Goes.via (T' := T5) (g' := (mkF m 106 #[.val (.long xk), .second, .val (.long (-49064778989728563 : Int64)), .second, .val (.long (-4265267296055464877 : Int64)), .second, .val (.long v2), .second, .val (.long v4), .second, .val (.long v6), .second, .val (.long v11), .second] [])) (fun t_ k_ => XS.ifYes X5.here hx rfl (pc0 := 99) (pc' := 106) rfl (hb hby at_99) rfl (own_eqF hc99_17).2 (by decide) (by decide) k_) ?_
          refine own_Goes.via (T' := T5) (g' := (mkF m 107 #[.val (.long xk), .second, .val (.long (-49064778989728563 : Int64)), .second, .val (.long (-4265267296055464877 : Int64)), .second, .val (.long v2), .second, .val (.long v4), .second, .val (.long v6), .second, .val (.long v11), .second] [(.int (0 : Int32))])) (fun t_ k_ => XS.iconst X5.here hx rfl (hb hby at_106) k_) ?_
          exact J107_15 (0 : Int32) (((if_pos hc82_12).trans ((if_pos hc92_16).trans (if_neg hc99_17)))).symm
      · refine own_Goes.via (T' := T5) (g' := (mkF m 106 #[.val (.long xk), .second, .val (.long (-49064778989728563 : Int64)), .second, .val (.long (-4265267296055464877 : Int64)), .second, .val (.long v2), .second, .val (.long v4), .second, .val (.long v6), .second, .val (.long v11), .second] [])) (fun t_ k_ => XS.ifYes X5.here hx rfl (pc0 := 92) (pc' := 106) rfl (hb hby at_92) rfl (own_eqF hc92_16).2 (by decide) (by decide) k_) ?_
        refine own_Goes.via (T' := T5) (g' := (mkF m 107 #[.val (.long xk), .second, .val (.long (-49064778989728563 : Int64)), .second, .val (.long (-4265267296055464877 : Int64)), .second, .val (.long v2), .second, .val (.long v4), .second, .val (.long v6), .second, .val (.long v11), .second] [(.int (0 : Int32))])) (fun t_ k_ => XS.iconst X5.here hx rfl (hb hby at_106) k_) ?_
        exact J107_15 (0 : Int32) (((if_pos hc82_12).trans (if_neg hc92_16))).symm
    · refine own_Goes.via (T' := T5) (g' := (mkF m 106 #[.val (.long xk), .second, .val (.long (-49064778989728563 : Int64)), .second, .val (.long (-4265267296055464877 : Int64)), .second, .val (.long v2), .second, .val (.long v4), .second, .val (.long v6), .second, .val (.long v11), .second] [])) (fun t_ k_ => XS.ifYes X5.here hx rfl (pc0 := 82) (pc' := 106) rfl (hb hby at_82) rfl (own_eqF hc82_12).2 (by decide) (by decide) k_) ?_
      refine own_Goes.via (T' := T5) (g' := (mkF m 107 #[.val (.long xk), .second, .val (.long (-49064778989728563 : Int64)), .second, .val (.long (-4265267296055464877 : Int64)), .second, .val (.long v2), .second, .val (.long v4), .second, .val (.long v6), .second, .val (.long v11), .second] [(.int (0 : Int32))])) (fun t_ k_ => XS.iconst X5.here hx rfl (hb hby at_106) k_) ?_
      exact J107_15 (0 : Int32) ((if_neg hc82_12)).symm
  intro v107_13 hv107_13
  have hfin : v107_13 = 1 := own_pl0_0 hv2 hv4 hv6 hv7 hv8 hv9 hv10 hv11 hv107_13
  rw [hfin]
  obtain ⟨fs, hr, hrun, hended, hW, hsame⟩ := X5.leave (v := some (.int 1)) (fun h => by rw [Bd.returns] at h; cases h)
  refine own_Goes.fin (retN X5 hx (t := .boolean) Bd.returns (by simp) (hb hby at_107) hr) hrun hended ?_
  subst hPd
  refine ⟨_, _, rfl, ?_, ⟨_, rfl⟩, hW, hsame.mono (by decide) (by decide)⟩
  show Q0 Z xk h0 n0 _ T5.heap _
  rw [hh5]
  exact ⟨rfl, N5⟩
set_option maxRecDepth 65536 in
set_option maxHeartbeats 40000000 in
theorem comes_1 {Post : Tables → Env → Array Value → State → Outcome → State → Prop} (hpost : ∀ tb e args s v u, (limb_1_1.after args s (.returned v) u = true ∧ limb_1_2.after args s (.returned v) u = true ∧ True) → FrameEnd s (.returned v) u (Jvm.fieldLocs frame_1_writes args s ++ Jvm.arrayLocs frame_1_arrays args s ++ Jvm.staticLocs frame_1_statics s) 0 0 → Post tb e args s (.returned v) u) :
    ArmFor flags0 classFile x code maxLocals ret World_1 tables_1 room_1 Calls_1 rest_1 Pre_1 Post := by
  intro l hfl _ _ p e ha hc hk s m args below hf hA hF happ hP
  obtain ⟨hcalls, hrest, hpre⟩ := hP
  obtain ⟨-, -, -, hnamed, -, -, -, hat⟩ := (Spec.applies_iff hf).mp happ
  obtain ⟨hg, hn⟩ := and_e (Cond.before_iff.mp (show (Jvm.Cond.and given_1 narrow_1).before args s = true from hpre))
  obtain ⟨g1, g2⟩ := and_e hg
  obtain ⟨w0, rfl⟩ : ∃ w0 : Value, args = #[w0] := by
    have hs : args.size = 1 := by simpa [Cond.value, given_1] using g1
    obtain ⟨L⟩ := args
    match L, hs with
    | [w0], _ => exact ⟨w0, rfl⟩
  have hw := fun d (hd : d ∈ tables_1) => atoms_spec (ws := Jvm.Cond.code x code maxLocals ret :: tables_1) hat d (List.mem_cons_of_mem _ hd)
  have hfit : Fit s := fun {y c} hc i hi => by
    obtain ⟨ha, rfl⟩ := Array.getElem?_eq_some_iff.mp hc
    have q := List.all_eq_true.mp ((Array.all_eq_true_iff_forall_mem.mp hF) _ (Array.getElem_mem ha)) i (List.mem_range.mpr hi)
    simpa [Array.getElem?_eq_getElem hi] using q
  obtain ⟨i0, ei0⟩ := isL_v g2
  obtain rfl : w0 = (.long i0) := Option.some.inj ei0
  obtain ⟨n, o, h1, h2, h3, _, L, rfl, ⟨rfl, N⟩, hq⟩ := rm0 l s _ hw tables_1 i0  s.heap s.heap.size (Nat.le_refl _)  p e ha hc hk s m _ below hf ((Spec.applies_iff_loose hf).mp happ).1 ⟨rfl, State.Warmed39.refl s, rfl⟩ trivial
  refine ⟨n, _, h1, h2, h3, hpost _ _ _ _ _ _ ⟨Cond.after_iff.mpr rfl, Cond.after_iff.mpr (eq_i res_at (Term.int_eval (1)) rfl), trivial⟩ ⟨hq.1, hq.2.1, (hq.2.2.sift fun y hy => Or.inr (N y hy)).mono (by decide) (by decide)⟩⟩
theorem main_1_1 : Claimed_1_1 := comes_1 fun _ _ _ _ _ _ h hF => ⟨h.1, hF⟩
theorem main_1_2 : Claimed_1_2 := comes_1 fun _ _ _ _ _ _ h hF => ⟨h.2.1, hF⟩
end Jvm.Pilot.@@N@@
namespace Jvm.Pilot.@@N@@
open Jvm Jvm.ClassFile Sem Op Lib Jvm.Free Jvm.Stand Jvm.Pilot.@@N@@.Jvm.D
/-! MADE BY PROGRAM (witnessworld.py) out of the Statement's table words and the real class files: 9 classes; the members and pool entries that the words name. The judged class is class 1, her method 2. -/
namespace start1
open Jvm.ClassFile
def u (s : String) : CpInfo := .utf8 (stringToUtf16 s)
/-- a pool by its gaps: so many unusable entries, then the entry; so many at the end -/
def gap : Nat → List CpInfo → List CpInfo
  | 0, r => r
  | n + 1, r => .unusable :: gap n r
def poolList (es : List (Nat × CpInfo)) (last : Nat) : List CpInfo := es.foldr (fun e r => gap e.1 (e.2 :: r)) (gap last [])
def pool (es : List (Nat × CpInfo)) (last : Nat) : Array CpInfo := ⟨poolList es last⟩
def fileOf (pool : Array CpInfo) (this : Nat) (attrs : Array Attribute := #[]) (ms : Array MethodInfo := #[]) (fl : Nat := 33) (sup : Nat := 0) (ifs : Array Nat := #[]) (fds : Array FieldInfo := #[]) : ClassFile where
  minorVersion := 0
  majorVersion := 65
  constantPool := pool
  accessFlags := fl
  thisClass := this
  superClass := sup
  interfaces := ifs
  fields := fds
  methods := ms
  attributes := attrs
def plain (name : String) (sup : Option ClassId) : Class where
  name := name
  kind := .ordinary
  loader := none
  accessFlags := 33
  super := sup
  interfaces := #[]
  cf := none
  fields := #[]
  methods := #[]
  instanceTypes := #[]
  staticTypes := #[]
  resolved := #[]
  callSites := []
  init := .initialized
  statics := none
  mirror := none

def pool0 : Array CpInfo := pool [(5, u "<init>"), (0, u "()V"), (1, .class_ 10), (1, u "java/lang/Object")] 113

def k0m0 : Method := { name := "<init>", desc := "()V", sig := { parameters := [], returnType := none }, accessFlags := 1, code := none }
/-- java/lang/Object -/
def k0 : Class := { plain "java/lang/Object" none with
  accessFlags := 33
  interfaces := #[]
  cf := some (fileOf pool0 8 #[] #[{ accessFlags := 1, nameIndex := 5, descriptorIndex := 6, attributes := #[] }] 33 0 #[] #[])
  fields := #[]
  methods := #[k0m0]
  instanceTypes := #[]
  staticTypes := #[]
  resolved := Array.replicate 124 none
  statics := none }

def pool1 : Array CpInfo := pool [(2, .class_ 4), (1, u "java/lang/Object"), (0, u "<init>"), (0, u "()V"), (0, .long 2), (1, .long 18397679294719823053), (1, .long 14181476777654086739), (1, .methodref 14 15), (0, .class_ 16), (0, .nameAndType 17 18), (0, u "com/example/danaid/danaid/hashing/MurmurHash3Fmix64PinLaw"), (0, u "inverseOdd"), (0, u "(J)J"), (0, .methodref 20 21), (0, .class_ 22), (0, .nameAndType 23 18), (0, u "com/example/danaid/danaid/hashing/MurmurHash3"), (0, u "fmix64"), (2, u "law"), (0, u "(J)Z")] 3

def k1m0 : Method := { name := "<init>", desc := "()V", sig := { parameters := [], returnType := none }, accessFlags := 2, code := none }
def k1c1 : Code := { maxStack := 8, maxLocals := 4, code := method_2_code, exceptionTable := #[], attributes := #[] }
def k1m1 : Method := { name := "inverseOdd", desc := "(J)J", sig := { parameters := [.long], returnType := some .long }, accessFlags := 10, code := some k1c1 }
def k1c2 : Code := { maxStack := 5, maxLocals := 14, code := code, exceptionTable := #[], attributes := #[] }
def k1m2 : Method := { name := "law", desc := "(J)Z", sig := { parameters := [.long], returnType := some .boolean }, accessFlags := 9, code := some k1c2 }
/-- com/example/danaid/danaid/hashing/MurmurHash3Fmix64PinLaw -/
def k1 : Class := { plain "com/example/danaid/danaid/hashing/MurmurHash3Fmix64PinLaw" (some 0) with
  accessFlags := 49
  interfaces := #[]
  cf := some (fileOf pool1 14 #[] #[{ accessFlags := 2, nameIndex := 5, descriptorIndex := 6, attributes := #[] }, { accessFlags := 10, nameIndex := 17, descriptorIndex := 18, attributes := #[] }, { accessFlags := 9, nameIndex := 26, descriptorIndex := 27, attributes := #[] }] 49 2 #[] #[])
  fields := #[]
  methods := #[k1m0, k1m1, k1m2]
  instanceTypes := #[]
  staticTypes := #[]
  resolved := Array.replicate 31 none
  statics := none }

def pool2 : Array CpInfo := pool [(2, .class_ 4), (1, u "java/lang/Object"), (0, u "<init>"), (0, u "()V"), (18, .class_ 27), (1, u "com/example/danaid/danaid/hashing/MurmurHash3"), (10, u "LONG_LE"), (0, u "Ljava/lang/invoke/VarHandle;"), (9, u "(J)J"), (19, u "fmix64"), (9, .long 18397679294719823053), (1, .long 14181476777654086739), (15, u "BLOCK_BYTES"), (0, u "I"), (2, u "C1"), (0, u "J"), (0, u "C2")] 12

def k2m0 : Method := { name := "<init>", desc := "()V", sig := { parameters := [], returnType := none }, accessFlags := 2, code := none }
def k2c1 : Code := { maxStack := 5, maxLocals := 2, code := prog_10_method_7_code, exceptionTable := #[], attributes := #[] }
def k2m1 : Method := { name := "fmix64", desc := "(J)J", sig := { parameters := [.long], returnType := some .long }, accessFlags := 8, code := some k2c1 }
/-- com/example/danaid/danaid/hashing/MurmurHash3 -/
def k2 : Class := { plain "com/example/danaid/danaid/hashing/MurmurHash3" (some 0) with
  accessFlags := 33
  interfaces := #[]
  cf := some (fileOf pool2 25 #[] #[{ accessFlags := 2, nameIndex := 5, descriptorIndex := 6, attributes := #[] }, { accessFlags := 8, nameIndex := 69, descriptorIndex := 49, attributes := #[] }] 33 2 #[] #[{ accessFlags := 26, nameIndex := 97, descriptorIndex := 98, attributes := #[] }, { accessFlags := 26, nameIndex := 101, descriptorIndex := 102, attributes := #[] }, { accessFlags := 26, nameIndex := 103, descriptorIndex := 102, attributes := #[] }, { accessFlags := 26, nameIndex := 38, descriptorIndex := 39, attributes := #[] }])
  fields := #[{ name := "BLOCK_BYTES", type := .int, accessFlags := 26, slot := 0, constantValue := 0 }, { name := "C1", type := .long, accessFlags := 26, slot := 1, constantValue := 0 }, { name := "C2", type := .long, accessFlags := 26, slot := 2, constantValue := 0 }, { name := "LONG_LE", type := (.object "java/lang/invoke/VarHandle"), accessFlags := 26, slot := 3, constantValue := 0 }]
  methods := #[k2m0, k2m1]
  instanceTypes := #[]
  staticTypes := #[.int, .long, .long, (.object "java/lang/invoke/VarHandle")]
  resolved := Array.replicate 116 none
  statics := none }

def pool3 : Array CpInfo := pool [(1, u "java/lang/Cloneable"), (0, .class_ 1), (0, u "java/lang/Object"), (0, .class_ 3)] 3

/-- java/lang/Cloneable -/
def k3 : Class := { plain "java/lang/Cloneable" (some 0) with
  accessFlags := 1537
  interfaces := #[]
  cf := some (fileOf pool3 2 #[] #[] 1537 4 #[] #[])
  fields := #[]
  methods := #[]
  instanceTypes := #[]
  staticTypes := #[]
  resolved := Array.replicate 8 none
  statics := none }

def pool4 : Array CpInfo := pool [(1, u "java/io/Serializable"), (0, .class_ 1), (0, u "java/lang/Object"), (0, .class_ 3)] 3

/-- java/io/Serializable -/
def k4 : Class := { plain "java/io/Serializable" (some 0) with
  accessFlags := 1537
  interfaces := #[]
  cf := some (fileOf pool4 2 #[] #[] 1537 4 #[] #[])
  fields := #[]
  methods := #[]
  instanceTypes := #[]
  staticTypes := #[]
  resolved := Array.replicate 8 none
  statics := none }

/-- the primitive byte -/
def k5 : Class := { plain "byte" none with kind := .primitive 'B', accessFlags := 0x411 }
/-- [B -/
def k6 : Class := { plain "[B" (some 0) with kind := .array 5 .byte, interfaces := #[3, 4], accessFlags := 1041 }

/-- the primitive int -/
def k7 : Class := { plain "int" none with kind := .primitive 'I', accessFlags := 0x411 }
/-- [I -/
def k8 : Class := { plain "[I" (some 0) with kind := .array 7 .int, interfaces := #[3, 4], accessFlags := 1041 }

def heap : Heap := #[]
def classes : Array Class := #[k0, k1, k2, k3, k4, k5, k6, k7, k8]
def interned : List (Array UInt16 × Addr) := []
def slotsUsed : Nat := 0
def theMethod : MethodId := ⟨1, 2⟩
def args0 : Array Value := #[.long 5]
def aboutOver (below : List Frame) : State where
  vm := { classes := classes, interned := interned.toArray }
  heap := heap
  slotsUsed := slotsUsed
  threads := #[{ frames := .invoking theMethod args0 :: below }]
def below0 : List Frame := [.native { method := ⟨0, 0⟩, args := #[] }]
def about1 : State := aboutOver below0
def p0 : Program := .bare "" "" ""
def e0 : Env := launch0.env 0 0 0
theorem w_frames : about1.frames = Frame.invoking theMethod args0 :: below0 := rfl
set_option maxRecDepth 65536 in
theorem w_args : argsFit about1.vm theMethod args0 = true := by decide +kernel
set_option maxRecDepth 65536 in
theorem w_heap : heapFits about1 = true := by decide +kernel
set_option maxRecDepth 65536 in
theorem w_runnable : about1.curStatus? = some .runnable := by decide +kernel
set_option maxRecDepth 65536 in
theorem w_alone : about1.alone = true := by decide +kernel
set_option maxRecDepth 65536 in
theorem w_named : about1.methodNamed? x = some theMethod := by decide +kernel
set_option maxRecDepth 65536 in
theorem w_hears : about1.hears theMethod below0 = true := by decide +kernel
set_option maxRecDepth 65536 in
theorem w_ripe : about1.ripe theMethod args0 below0 = true := by decide +kernel
theorem w_running : about1.status = .running := rfl
set_option maxRecDepth 65536 in
theorem w_room : about1.hasRoom e0.platform room_1 = true :=
  launch0.hasRoom_least _ room_1 (by decide +kernel) (by decide +kernel) (by decide +kernel) (by decide +kernel) (by decide +kernel) (by decide +kernel)
theorem allAtoms_all (ts : List Jvm.Cond) (a : Array Jvm.Value) (st : Jvm.State) : (allAtoms ts).before a st = ts.all (fun c => c.before a st) := by
  induction ts with
  | nil => rfl
  | cons c t ih =>
    show (Jvm.Cond.and c (allAtoms t)).before a st = _
    rw [Jvm.Cond.before_and, ih, List.all_cons]
def words1 : List Jvm.Cond := Jvm.Cond.code x code maxLocals ret :: tables_1
/-- a 'code' word, met by the world's own term for the bytes: nothing is compared byte by byte -/
theorem code_word {y : MethodName} {bytes : ByteArray} {mx : Nat} {rt : Option FieldType} {a : Array Value} {s : State} {m : MethodId} {meth : Method} {c : Code} (h1 : s.methodNamed? y = some m) (h2 : s.vm.method? m = some meth) (h3 : meth.code = some c) (h4 : c.code = bytes)
    (h5 : (c.maxLocals == mx && c.exceptionTable.isEmpty && decide (c.maxStack ≤ mostOperands) && decide (meth.sig.returnType = rt) && !meth.locks && decide (parseMethodDescriptor y.desc = some meth.sig)) = true) : (Jvm.Cond.code y bytes mx rt).before a s = true := by
  simp only [Bool.and_eq_true, beq_iff_eq, Bool.not_eq_true', decide_eq_true_eq] at h5
  obtain ⟨⟨⟨⟨⟨g1, g2⟩, g3⟩, g4⟩, g5⟩, g6⟩ := h5
  simp [Cond.before, Cond.holds, Cond.value, h1, h2, h3, h4, g1, g2, g3, g4, g5, g6]
def isCode : Jvm.Cond → Bool
  | .code _ _ _ _ => true
  | _ => false
theorem all_split {L : List Jvm.Cond} {P : Jvm.Cond → Bool} (h1 : L.all (fun c => isCode c || P c) = true) (h2 : ∀ c ∈ L.filter isCode, P c = true) : L.all P = true := by
  refine List.all_eq_true.mpr fun c hc => ?_
  have h := List.all_eq_true.mp h1 c hc
  rcases Bool.eq_false_or_eq_true (isCode c) with hi | hi
  · exact h2 c (List.mem_filter.mpr ⟨hc, hi⟩)
  · simpa [hi] using h
set_option maxRecDepth 65536 in
theorem w_c0 : (Jvm.Cond.code x code maxLocals ret).before args0 about1 = true := code_word (m := ⟨1, 2⟩) (meth := k1m2) (c := k1c2) (by decide +kernel) rfl rfl rfl (by decide +kernel)
set_option maxRecDepth 65536 in
theorem w_c1 : (Jvm.Cond.code ({ cls := "com/example/danaid/danaid/hashing/MurmurHash3Fmix64PinLaw", name := "inverseOdd", desc := "(J)J" } : Jvm.MethodName) method_2_code (4 : Nat) (Option.some Jvm.ClassFile.FieldType.long)).before args0 about1 = true := code_word (m := ⟨1, 1⟩) (meth := k1m1) (c := k1c1) (by decide +kernel) rfl rfl rfl (by decide +kernel)
set_option maxRecDepth 65536 in
theorem w_c2 : (Jvm.Cond.code ({ cls := "com/example/danaid/danaid/hashing/MurmurHash3", name := "fmix64", desc := "(J)J" } : Jvm.MethodName) prog_10_method_7_code (2 : Nat) (Option.some Jvm.ClassFile.FieldType.long)).before args0 about1 = true := code_word (m := ⟨2, 1⟩) (meth := k2m1) (c := k2c1) (by decide +kernel) rfl rfl rfl (by decide +kernel)
def codes1 : List Jvm.Cond := [Jvm.Cond.code x code maxLocals ret, Jvm.Cond.code ({ cls := "com/example/danaid/danaid/hashing/MurmurHash3Fmix64PinLaw", name := "inverseOdd", desc := "(J)J" } : Jvm.MethodName) method_2_code (4 : Nat) (Option.some Jvm.ClassFile.FieldType.long), Jvm.Cond.code ({ cls := "com/example/danaid/danaid/hashing/MurmurHash3", name := "fmix64", desc := "(J)J" } : Jvm.MethodName) prog_10_method_7_code (2 : Nat) (Option.some Jvm.ClassFile.FieldType.long)]
set_option maxRecDepth 65536 in
theorem codes_eq : words1.filter isCode = codes1 := rfl
theorem w_codes : ∀ c ∈ words1.filter isCode, c.before args0 about1 = true := by
  rw [codes_eq]
  intro c hc
  simp only [codes1, List.mem_cons, List.not_mem_nil, or_false] at hc
  rcases hc with rfl | rfl | rfl
  · exact w_c0
  · exact w_c1
  · exact w_c2
set_option maxRecDepth 65536 in
theorem w_t1 : words1.all (fun c => isCode c || c.before args0 about1) = true := by decide +kernel
theorem w_tables : (allAtoms (Jvm.Cond.code x code maxLocals ret :: tables_1)).before args0 about1 = true := by
  rw [allAtoms_all]
  show words1.all (fun c => c.before args0 about1) = true
  refine all_split ?_ w_codes
  rw [w_t1]
set_option maxRecDepth 65536 in
theorem w_case : (Jvm.Cond.and given_1 narrow_1).before args0 about1 = true := by decide +kernel
theorem w_applies : (headSpec (Jvm.Cond.code x code maxLocals ret :: tables_1) room_1).applies x e0.platform about1 = true :=
  (Spec.applies_iff w_frames).mpr ⟨w_running, w_runnable, w_alone, w_named, w_hears, w_ripe, w_room, w_tables⟩
theorem atStart : AtStart classFile x code maxLocals ret World_1 tables_1 room_1 Calls_1 rest_1 Pre_1 launch0 p0 e0 about1 theMethod args0 below0 :=
  ⟨lists_1, trivial, launch0.admits_env _ _ _, launch0.least_env, fairChoices_fair.cas, fairChoices_fair.clock, w_frames, w_args, w_heap, w_applies, trivial, trivial, w_case⟩
end start1
theorem witness_1 : WitnessClaimed_1 := ⟨start1.p0, start1.e0, start1.about1, start1.theMethod, start1.args0, start1.below0, start1.atStart⟩
end Jvm.Pilot.@@N@@
