import JvmDerived
import JvmDerived.Pilot.@@N@@Statement
import JvmDerived.Pilot.@@N@@Code
set_option linter.unusedVariables false
set_option linter.unusedSimpArgs false
@@BLOCK:NumsL.lean.txt@@
namespace Jvm.Pilot.@@N@@
open Jvm Jvm.ClassFile Sem Op Lib Jvm.Free Jvm.Stand Jvm.LawKit Jvm.RoadKit Bundle Jvm.Pilot.@@N@@.Jvm.D
/-- from the state T with the frame g the run comes to an end that P speaks of -/
def own_Goes (tb : Tables) (e : Env) (below : List Frame) (P : Outcome → State → Prop) (T : State) (g : JFrame) : Prop :=
  ∃ s₂ o, Steps tb e below (T.setTop g) s₂ ∧ s₂.status = .running ∧ Ended s₂ below o ∧ P o s₂
theorem own_Goes.via {tb : Tables} {e : Env} {below : List Frame} {P : Outcome → State → Prop} {T T' : State} {g g' : JFrame} (h : ∀ t, Steps tb e below (T'.setTop g') t → Steps tb e below (T.setTop g) t) (k : own_Goes tb e below P T' g') : own_Goes tb e below P T g := by
  obtain ⟨s₂, o, a, b⟩ := k
  exact ⟨s₂, o, h _ a, b⟩
theorem own_Goes.fin {tb : Tables} {e : Env} {below : List Frame} {P : Outcome → State → Prop} {T s₂ : State} {g : JFrame} {o : Outcome} (h1 : Steps tb e below (T.setTop g) s₂) (h2 : s₂.status = .running) (h3 : Ended s₂ below o) (h4 : P o s₂) : own_Goes tb e below P T g := ⟨s₂, o, h1, h2, h3, h4⟩
theorem own_ltT {x y : Int64} (h : x < y) : ifCond.holds .lt (lcmpW x y) = true ∧ ifCond.holds .ge (lcmpW x y) = false := by
  have q : lcmpW x y < 0 := by rw [lcW]; exact (lc_lt x y).mpr h
  exact ⟨(if0 _ _).trans (tlt q).1, (if0 _ _).trans (tlt q).2.1⟩
theorem own_ltF {x y : Int64} (h : ¬ x < y) : ifCond.holds .lt (lcmpW x y) = false ∧ ifCond.holds .ge (lcmpW x y) = true := by
  have q : ¬ lcmpW x y < 0 := by rw [lcW]; exact fun z => h ((lc_lt x y).mp z)
  exact ⟨(if0 _ _).trans (flt q).1, (if0 _ _).trans (flt q).2.1⟩
theorem own_gtT {x y : Int64} (h : y < x) : ifCond.holds .gt (lcmpW x y) = true ∧ ifCond.holds .le (lcmpW x y) = false := by
  have q : 0 < lcmpW x y := by rw [lcW]; exact (lc_gt x y).mpr h
  exact ⟨(if0 _ _).trans (tlt q).2.2.1, (if0 _ _).trans (tlt q).2.2.2⟩
theorem own_gtF {x y : Int64} (h : ¬ y < x) : ifCond.holds .gt (lcmpW x y) = false ∧ ifCond.holds .le (lcmpW x y) = true := by
  have q : ¬ 0 < lcmpW x y := by rw [lcW]; exact fun z => h ((lc_gt x y).mp z)
  exact ⟨(if0 _ _).trans (flt q).2.2.1, (if0 _ _).trans (flt q).2.2.2⟩
theorem own_eqT {x y : Int64} (h : x = y) : ifCond.holds .eq (lcmpW x y) = true ∧ ifCond.holds .ne (lcmpW x y) = false := by
  have q : lcmpW x y = 0 := by rw [lcW]; exact (lc_eq x y).mpr h
  exact ⟨(if0 _ _).trans (teq q).1, (if0 _ _).trans (teq q).2⟩
theorem own_eqF {x y : Int64} (h : ¬ x = y) : ifCond.holds .eq (lcmpW x y) = false ∧ ifCond.holds .ne (lcmpW x y) = true := by
  have q : ¬ lcmpW x y = 0 := by rw [lcW]; exact fun z => h ((lc_eq x y).mp z)
  exact ⟨(if0 _ _).trans (feq q).1, (if0 _ _).trans (feq q).2⟩
theorem own_lrem (x y : Int64) : x - (x / y) * y = x % y := Int64.toInt_inj.mp (by rw [Jvm.Kit.i64_rem, Int64.toInt_mod])
theorem own_eqInt {args : Array Value} {s : State} {t : Term} {k : Int32} (h : (Cond.eq t (.int k)).value args s none s [] = some true) : t.eval args s none [] s = some (.int k) := by
  simp only [Cond.value, Term.eval] at h
  cases ht : t.eval args s none [] s with
  | none => simp [ht] at h
  | some x => cases x <;> simp [ht] at h ⊢ <;> exact h
theorem own_eqRef {args : Array Value} {s : State} {t u : Term} {x : Addr} (h : (Cond.eq t u).value args s none s [] = some true) (hu : u.eval args s none [] s = some (.ref x)) : t.eval args s none [] s = some (.ref x) := by
  simp only [Cond.value, hu] at h
  cases ht : t.eval args s none [] s with
  | none => simp [ht] at h
  | some y => cases y <;> simp [ht] at h ⊢ <;> exact h
theorem own_len {args : Array Value} {s : State} {t : Term} {x : Addr} {cl : Cell} {ty : FieldType} {n : Int32} (ht : t.eval args s none [] s = some (.ref x)) (A : Arr s s.heap x cl ty) (h : (Term.length t).eval args s none [] s = some (.int n)) : cl.slots.size < 2 ^ 31 ∧ cl.slots.size.toInt32 = n := by
  have q := A.fin (Vm.Alike.refl _)
  simp only [Term.eval, ht, Option.bind_eq_bind, Option.bind_some, q] at h
  by_cases g : cl.slots.size < 2 ^ 31
  · simp [g] at h
    exact ⟨g, h⟩
  · simp [g] at h
theorem own_wS {Z : State} {a0 : Array Value} (hw : ∀ d ∈ tables_1, d.before a0 Z = true) : ∀ a ∈ Bundle.stringAtoms, a.before a0 Z = true := fun d hd => by
  simp only [Bundle.stringAtoms, List.mem_cons, List.not_mem_nil, or_false] at hd
  rcases hd with rfl | rfl | rfl | rfl | rfl | rfl | rfl
  · exact (hw _ (List.mem_of_getElem? (i := 29) rfl))
  · exact (hw _ (List.mem_of_getElem? (i := 30) rfl))
  · exact (hw _ (List.mem_of_getElem? (i := 31) rfl))
  · exact (hw _ (List.mem_of_getElem? (i := 32) rfl))
  · exact (hw _ (List.mem_of_getElem? (i := 33) rfl))
  · exact (hw _ (List.mem_of_getElem? (i := 34) rfl))
  · exact (hw _ (List.mem_of_getElem? (i := 35) rfl))
def own_rank (s_ACE s_TWO s_THREE s_FOUR s_FIVE s_SIX s_SEVEN s_EIGHT s_NINE s_TEN s_JACK s_QUEEN s_KING : Addr) (xi : Int32) : Addr := if xi = (0 : Int32) then s_ACE else (if xi = (1 : Int32) then s_TWO else (if xi = (2 : Int32) then s_THREE else (if xi = (3 : Int32) then s_FOUR else (if xi = (4 : Int32) then s_FIVE else (if xi = (5 : Int32) then s_SIX else (if xi = (6 : Int32) then s_SEVEN else (if xi = (7 : Int32) then s_EIGHT else (if xi = (8 : Int32) then s_NINE else (if xi = (9 : Int32) then s_TEN else (if xi = (10 : Int32) then s_JACK else (if xi = (11 : Int32) then s_QUEEN else (s_KING))))))))))))
def own_suit (s_CLUBS s_DIAMONDS s_HEARTS s_SPADES : Addr) (xi : Int32) : Addr := if xi = (0 : Int32) then s_CLUBS else (if xi = (1 : Int32) then s_DIAMONDS else (if xi = (2 : Int32) then s_HEARTS else (s_SPADES)))
theorem own_root {Z : State} {a0 : Array Value} {O K : String} {n : Nat} (w : (Cond.noSuperclass O).before a0 Z = true) (wi : (Cond.instantiable K n).before a0 Z = true) (hn : O ≠ K) : NS Z O K := by
  obtain ⟨c, k, h1, h2, h3, -, -⟩ := Cond.noSuperclass_spec w
  obtain ⟨t, k', g1, -⟩ := Cond.instantiable_spec wi
  have ne := ids_ne h1 g1 hn
  refine ⟨c, t, h1, g1, fun fuel => ?_⟩
  cases fuel with
  | zero => rfl
  | succ f => simp [Vm.isSubclassAux, ne, h2, h3]
theorem own_no {Z : State} {a0 : Array Value} {C S K : String} {n : Nat} (w : (Cond.superclass C S).before a0 Z = true) (wi : (Cond.instantiable K n).before a0 Z = true) (ns : NS Z C K) (hn : C ≠ K) : ∃ c t, Z.vm.findClass C = some c ∧ Z.vm.findClass K = some t ∧ Z.vm.assignable c t = false := by
  obtain ⟨c, t, h0, g0, n3⟩ := ns
  obtain ⟨p, k, kp, h1, h2, h3, h4, h5, -, h7⟩ := Cond.superclass_spec h0 w
  obtain ⟨t', k', g1, g2, g5, g6, -⟩ := Cond.instantiable_spec wi
  cases g0.symm.trans g1
  have g7 : k'.isInterface = false := (Bool.or_eq_false_iff.mp g6).1
  have ne := ids_ne h0 g0 hn
  refine ⟨c, t, h0, g0, ?_⟩
  show Z.vm.assignableAux (255 + 1) c t = false
  simp [Vm.assignableAux, ne, h2, g2, h5, g5, g7, Vm.isSubclass, n3]
theorem own_m31 (x : Int32) : 0 ≤ (x &&& (2147483647 : Int32)).toInt := by
  have m := Jvm.Kit.i32_mask x (2147483647 : Int32) (k := 31) (by decide) (by decide)
  rw [m]; omega
theorem own_m2 (x : Int32) : 0 ≤ (x &&& (3 : Int32)).toInt ∧ (x &&& (3 : Int32)).toInt < 4 := by
  have m := Jvm.Kit.i32_mask x (3 : Int32) (k := 2) (by decide) (by decide)
  rw [m]; omega
theorem own_mod13 (x : Int32) : 0 ≤ ((x &&& (2147483647 : Int32)) % (13 : Int32)).toInt ∧ ((x &&& (2147483647 : Int32)) % (13 : Int32)).toInt < 13 := by
  have m := own_m31 x
  have t : (13 : Int32).toInt = 13 := rfl
  rw [Int32.toInt_mod, t, Int.tmod_eq_emod_of_nonneg m]
  omega
theorem own_two {P Q R S : Prop} [Decidable P] [Decidable Q] [Decidable R] [Decidable S] (a : P ↔ Q) (b : R ↔ S) : (if P then (if R then (1 : Int32) else (0 : Int32)) else (0 : Int32)) = (if Q then (if S then (1 : Int32) else (0 : Int32)) else (0 : Int32)) := by
  by_cases q : Q
  · rw [if_pos (a.mpr q), if_pos q]
    by_cases s : S
    · rw [if_pos (b.mpr s), if_pos s]
    · rw [if_neg (fun z => s (b.mp z)), if_neg s]
  · rw [if_neg (fun z => q (a.mp z)), if_neg q]
theorem own_lt4 {i : Int32} (a : 0 ≤ i.toInt) (b : i.toInt < 4) : i = (0 : Int32) ∨ i = (1 : Int32) ∨ i = (2 : Int32) ∨ i = (3 : Int32) := by
  have q : i.toInt = 0 ∨ i.toInt = 1 ∨ i.toInt = 2 ∨ i.toInt = 3 := by omega
  rcases q with q | q | q | q <;> simp [← Int32.toInt_inj, q]
theorem own_lt13 {i : Int32} (a : 0 ≤ i.toInt) (b : i.toInt < 13) : i = (0 : Int32) ∨ i = (1 : Int32) ∨ i = (2 : Int32) ∨ i = (3 : Int32) ∨ i = (4 : Int32) ∨ i = (5 : Int32) ∨ i = (6 : Int32) ∨ i = (7 : Int32) ∨ i = (8 : Int32) ∨ i = (9 : Int32) ∨ i = (10 : Int32) ∨ i = (11 : Int32) ∨ i = (12 : Int32) := by
  have q : i.toInt = 0 ∨ i.toInt = 1 ∨ i.toInt = 2 ∨ i.toInt = 3 ∨ i.toInt = 4 ∨ i.toInt = 5 ∨ i.toInt = 6 ∨ i.toInt = 7 ∨ i.toInt = 8 ∨ i.toInt = 9 ∨ i.toInt = 10 ∨ i.toInt = 11 ∨ i.toInt = 12 := by omega
  rcases q with q | q | q | q | q | q | q | q | q | q | q | q | q <;> simp [← Int32.toInt_inj, q]
theorem d1_0 : decode method_2_code 0 = .ok (.iload_n 0, 1) := by decide +kernel
theorem d1_1 : decode method_2_code 1 = .ok (.ifCond .ne 7, 3) := by decide +kernel
theorem d1_4 : decode method_2_code 4 = .ok (.getstatic 7, 3) := by decide +kernel
theorem d1_7 : decode method_2_code 7 = .ok (.areturn, 1) := by decide +kernel
theorem d1_8 : decode method_2_code 8 = .ok (.iload_n 0, 1) := by decide +kernel
theorem d1_9 : decode method_2_code 9 = .ok (.iconst 1, 1) := by decide +kernel
theorem d1_10 : decode method_2_code 10 = .ok (.if_icmp .ne 7, 3) := by decide +kernel
theorem d1_13 : decode method_2_code 13 = .ok (.getstatic 13, 3) := by decide +kernel
theorem d1_16 : decode method_2_code 16 = .ok (.areturn, 1) := by decide +kernel
theorem d1_17 : decode method_2_code 17 = .ok (.iload_n 0, 1) := by decide +kernel
theorem d1_18 : decode method_2_code 18 = .ok (.iconst 2, 1) := by decide +kernel
theorem d1_19 : decode method_2_code 19 = .ok (.if_icmp .ne 7, 3) := by decide +kernel
theorem d1_22 : decode method_2_code 22 = .ok (.getstatic 16, 3) := by decide +kernel
theorem d1_25 : decode method_2_code 25 = .ok (.areturn, 1) := by decide +kernel
theorem d1_26 : decode method_2_code 26 = .ok (.iload_n 0, 1) := by decide +kernel
theorem d1_27 : decode method_2_code 27 = .ok (.iconst 3, 1) := by decide +kernel
theorem d1_28 : decode method_2_code 28 = .ok (.if_icmp .ne 7, 3) := by decide +kernel
theorem d1_31 : decode method_2_code 31 = .ok (.getstatic 19, 3) := by decide +kernel
theorem d1_34 : decode method_2_code 34 = .ok (.areturn, 1) := by decide +kernel
theorem d1_35 : decode method_2_code 35 = .ok (.iload_n 0, 1) := by decide +kernel
theorem d1_36 : decode method_2_code 36 = .ok (.iconst 4, 1) := by decide +kernel
theorem d1_37 : decode method_2_code 37 = .ok (.if_icmp .ne 7, 3) := by decide +kernel
theorem d1_40 : decode method_2_code 40 = .ok (.getstatic 22, 3) := by decide +kernel
theorem d1_43 : decode method_2_code 43 = .ok (.areturn, 1) := by decide +kernel
theorem d1_44 : decode method_2_code 44 = .ok (.iload_n 0, 1) := by decide +kernel
theorem d1_45 : decode method_2_code 45 = .ok (.iconst 5, 1) := by decide +kernel
theorem d1_46 : decode method_2_code 46 = .ok (.if_icmp .ne 7, 3) := by decide +kernel
theorem d1_49 : decode method_2_code 49 = .ok (.getstatic 25, 3) := by decide +kernel
theorem d1_52 : decode method_2_code 52 = .ok (.areturn, 1) := by decide +kernel
theorem d1_53 : decode method_2_code 53 = .ok (.iload_n 0, 1) := by decide +kernel
theorem d1_54 : decode method_2_code 54 = .ok (.bipush 6, 2) := by decide +kernel
theorem d1_56 : decode method_2_code 56 = .ok (.if_icmp .ne 7, 3) := by decide +kernel
theorem d1_59 : decode method_2_code 59 = .ok (.getstatic 28, 3) := by decide +kernel
theorem d1_62 : decode method_2_code 62 = .ok (.areturn, 1) := by decide +kernel
theorem d1_63 : decode method_2_code 63 = .ok (.iload_n 0, 1) := by decide +kernel
theorem d1_64 : decode method_2_code 64 = .ok (.bipush 7, 2) := by decide +kernel
theorem d1_66 : decode method_2_code 66 = .ok (.if_icmp .ne 7, 3) := by decide +kernel
theorem d1_69 : decode method_2_code 69 = .ok (.getstatic 31, 3) := by decide +kernel
theorem d1_72 : decode method_2_code 72 = .ok (.areturn, 1) := by decide +kernel
theorem d1_73 : decode method_2_code 73 = .ok (.iload_n 0, 1) := by decide +kernel
theorem d1_74 : decode method_2_code 74 = .ok (.bipush 8, 2) := by decide +kernel
theorem d1_76 : decode method_2_code 76 = .ok (.if_icmp .ne 7, 3) := by decide +kernel
theorem d1_79 : decode method_2_code 79 = .ok (.getstatic 34, 3) := by decide +kernel
theorem d1_82 : decode method_2_code 82 = .ok (.areturn, 1) := by decide +kernel
theorem d1_83 : decode method_2_code 83 = .ok (.iload_n 0, 1) := by decide +kernel
theorem d1_84 : decode method_2_code 84 = .ok (.bipush 9, 2) := by decide +kernel
theorem d1_86 : decode method_2_code 86 = .ok (.if_icmp .ne 7, 3) := by decide +kernel
theorem d1_89 : decode method_2_code 89 = .ok (.getstatic 37, 3) := by decide +kernel
theorem d1_92 : decode method_2_code 92 = .ok (.areturn, 1) := by decide +kernel
theorem d1_93 : decode method_2_code 93 = .ok (.iload_n 0, 1) := by decide +kernel
theorem d1_94 : decode method_2_code 94 = .ok (.bipush 10, 2) := by decide +kernel
theorem d1_96 : decode method_2_code 96 = .ok (.if_icmp .ne 7, 3) := by decide +kernel
theorem d1_99 : decode method_2_code 99 = .ok (.getstatic 40, 3) := by decide +kernel
theorem d1_102 : decode method_2_code 102 = .ok (.areturn, 1) := by decide +kernel
theorem d1_103 : decode method_2_code 103 = .ok (.iload_n 0, 1) := by decide +kernel
theorem d1_104 : decode method_2_code 104 = .ok (.bipush 11, 2) := by decide +kernel
theorem d1_106 : decode method_2_code 106 = .ok (.if_icmp .ne 7, 3) := by decide +kernel
theorem d1_109 : decode method_2_code 109 = .ok (.getstatic 43, 3) := by decide +kernel
theorem d1_112 : decode method_2_code 112 = .ok (.areturn, 1) := by decide +kernel
theorem d1_113 : decode method_2_code 113 = .ok (.getstatic 46, 3) := by decide +kernel
theorem d1_116 : decode method_2_code 116 = .ok (.areturn, 1) := by decide +kernel
theorem pn_1 : plainName "com/example/wildsuit/wildsuit/card/CardEqualsPinLaw" = true := by first | (simp [plainName, overriddenIn]; done) | decide +kernel
theorem ef_1 (m : MethodId) (xi : Int32) : entryFrame m #[(.int xi)] 1 = mkF m 0 #[.val (.int xi)] [] := by first | (simp [entryFrame, mkF, argsToLocals, Value.category]; done) | rfl
def Q1 (Z : State) (xi : Int32) (s_ACE : Addr) (s_TWO : Addr) (s_THREE : Addr) (s_FOUR : Addr) (s_FIVE : Addr) (s_SIX : Addr) (s_SEVEN : Addr) (s_EIGHT : Addr) (s_NINE : Addr) (s_TEN : Addr) (s_JACK : Addr) (s_QUEEN : Addr) (s_KING : Addr) (h0 : Heap) (n0 : Nat) (v : Option Value) (h : Heap) (L : List Loc) : Prop := v = some (.ref (own_rank s_ACE s_TWO s_THREE s_FOUR s_FIVE s_SIX s_SEVEN s_EIGHT s_NINE s_TEN s_JACK s_QUEEN s_KING xi)) ∧ Fr n0 L ∧ h = h0
set_option maxRecDepth 65536 in
set_option maxHeartbeats 40000000 in
theorem rm1 (l : Launch) (Z : State) (a0 : Array Value) (hw : ∀ d ∈ tables_1, d.before a0 Z = true) (ws : List Jvm.Cond) (xi : Int32) (s_ACE : Addr) (s_TWO : Addr) (s_THREE : Addr) (s_FOUR : Addr) (s_FIVE : Addr) (s_SIX : Addr) (s_SEVEN : Addr) (s_EIGHT : Addr) (s_NINE : Addr) (s_TEN : Addr) (s_JACK : Addr) (s_QUEEN : Addr) (s_KING : Addr) (h0 : Heap) (n0 : Nat) (Z0 : n0 ≤ h0.size) (OL : Old Z n0 h0) (S_ACE : Sta Z Z.heap "com/example/wildsuit/wildsuit/card/Rank" "ACE" "Lcom/example/wildsuit/wildsuit/card/Rank;" (.ref s_ACE)) (S_TWO : Sta Z Z.heap "com/example/wildsuit/wildsuit/card/Rank" "TWO" "Lcom/example/wildsuit/wildsuit/card/Rank;" (.ref s_TWO)) (S_THREE : Sta Z Z.heap "com/example/wildsuit/wildsuit/card/Rank" "THREE" "Lcom/example/wildsuit/wildsuit/card/Rank;" (.ref s_THREE)) (S_FOUR : Sta Z Z.heap "com/example/wildsuit/wildsuit/card/Rank" "FOUR" "Lcom/example/wildsuit/wildsuit/card/Rank;" (.ref s_FOUR)) (S_FIVE : Sta Z Z.heap "com/example/wildsuit/wildsuit/card/Rank" "FIVE" "Lcom/example/wildsuit/wildsuit/card/Rank;" (.ref s_FIVE)) (S_SIX : Sta Z Z.heap "com/example/wildsuit/wildsuit/card/Rank" "SIX" "Lcom/example/wildsuit/wildsuit/card/Rank;" (.ref s_SIX)) (S_SEVEN : Sta Z Z.heap "com/example/wildsuit/wildsuit/card/Rank" "SEVEN" "Lcom/example/wildsuit/wildsuit/card/Rank;" (.ref s_SEVEN)) (S_EIGHT : Sta Z Z.heap "com/example/wildsuit/wildsuit/card/Rank" "EIGHT" "Lcom/example/wildsuit/wildsuit/card/Rank;" (.ref s_EIGHT)) (S_NINE : Sta Z Z.heap "com/example/wildsuit/wildsuit/card/Rank" "NINE" "Lcom/example/wildsuit/wildsuit/card/Rank;" (.ref s_NINE)) (S_TEN : Sta Z Z.heap "com/example/wildsuit/wildsuit/card/Rank" "TEN" "Lcom/example/wildsuit/wildsuit/card/Rank;" (.ref s_TEN)) (S_JACK : Sta Z Z.heap "com/example/wildsuit/wildsuit/card/Rank" "JACK" "Lcom/example/wildsuit/wildsuit/card/Rank;" (.ref s_JACK)) (S_QUEEN : Sta Z Z.heap "com/example/wildsuit/wildsuit/card/Rank" "QUEEN" "Lcom/example/wildsuit/wildsuit/card/Rank;" (.ref s_QUEEN)) (S_KING : Sta Z Z.heap "com/example/wildsuit/wildsuit/card/Rank" "KING" "Lcom/example/wildsuit/wildsuit/card/Rank;" (.ref s_KING)) :
    MetFree l (⟨"com/example/wildsuit/wildsuit/card/CardEqualsPinLaw", "rank", "(I)Lcom/example/wildsuit/wildsuit/card/Rank;"⟩ : MethodName) (head1 (Jvm.Cond.code (⟨"com/example/wildsuit/wildsuit/card/CardEqualsPinLaw", "rank", "(I)Lcom/example/wildsuit/wildsuit/card/Rank;"⟩ : MethodName) method_2_code 1 (some (.object "com/example/wildsuit/wildsuit/card/Rank")) :: ws) ({ frames := 0, cells := 0, slots := 0, locals := 0 } : Room)) (fun a U => a = #[(.int xi)] ∧ Z.Warmed39 U.vm ∧ U.heap = h0) (fun _ _ _ _ _ => True) (fun _ U o U' => ∃ v L, o = .returned v ∧ Q1 Z xi s_ACE s_TWO s_THREE s_FOUR s_FIVE s_SIX s_SEVEN s_EIGHT s_NINE s_TEN s_JACK s_QUEEN s_KING h0 n0 v U'.heap L ∧ FrameEnd U o U' L ({ frames := 0, cells := 0, slots := 0, locals := 0 } : Room).cells ({ frames := 0, cells := 0, slots := 0, locals := 0 } : Room).slots) := by
  refine MetFree.of_bodySF (plainFor_of_name pn_1) hisR ?_
  intro p e s m args below meth c s₁ Bd hml0 hP hK
  obtain ⟨rfl, hZ, hh⟩ := hP
  have hx := Bd.exec
  have hby := Bd.bytes
  have hml : c.maxLocals = 1 := hml0
  have hown : s.vm.findClass "com/example/wildsuit/wildsuit/card/CardEqualsPinLaw" = some m.cls := findClass_of_methodNamed Bd.named
  have hnm := (name_of_methodNamed Bd.named Bd.method).1
  have X0 : Stand p l e ({ frames := 0, cells := 0, slots := 0, locals := 0 } : Room) s m #[(.int xi)] below meth c s₁ [] 0 0 := Stand.of_body Bd
  have e0 : s₁.heap = h0 := by rw [← hh, Bd.state]; rfl
  have N0 := Fr.nil n0
  suffices G : own_Goes p.tables e below (fun o U' => ∃ v L, o = .returned v ∧ Q1 Z xi s_ACE s_TWO s_THREE s_FOUR s_FIVE s_SIX s_SEVEN s_EIGHT s_NINE s_TEN s_JACK s_QUEEN s_KING h0 n0 v U'.heap L ∧ FrameEnd s o U' L ({ frames := 0, cells := 0, slots := 0, locals := 0 } : Room).cells ({ frames := 0, cells := 0, slots := 0, locals := 0 } : Room).slots) s₁ (mkF m 0 #[.val (.int xi)] []) by
    obtain ⟨t2_, o2_, z1_, z2_, z3_, z4_⟩ := G
    exact ⟨t2_, o2_, castTop (ef_1 m xi) z1_, z2_, z3_, z4_⟩
  generalize hPd : (fun (o : Outcome) (U' : State) => ∃ v L, o = .returned v ∧ Q1 Z xi s_ACE s_TWO s_THREE s_FOUR s_FIVE s_SIX s_SEVEN s_EIGHT s_NINE s_TEN s_JACK s_QUEEN s_KING h0 n0 v U'.heap L ∧ FrameEnd s o U' L ({ frames := 0, cells := 0, slots := 0, locals := 0 } : Room).cells ({ frames := 0, cells := 0, slots := 0, locals := 0 } : Room).slots) = P
  refine own_Goes.via (T' := s₁) (g' := (mkF m 1 #[.val (.int xi)] [(.int xi)])) (fun t_ k_ => XS.iloadN X0.here hx rfl (hb hby d1_0) rfl k_) ?_
  by_cases hc1_1 : xi = (0 : Int32)
  · refine own_Goes.via (T' := s₁) (g' := (mkF m 4 #[.val (.int xi)] [])) (fun t_ k_ => XS.ifNo X0.here hx rfl (hb hby d1_1) rfl ((if0 _ _).trans (teq hc1_1).2) k_) ?_
    obtain ⟨T2, X2, e2, st2⟩ := getS2 X0 hx hZ hown (host := "") (Or.inl (hw _ (List.mem_of_getElem? (i := 8) rfl))) Via.refl e0 (S_ACE.ext OL.2) (g := (mkF m 4 #[.val (.int xi)] [])) rfl (hb hby d1_4)
    refine own_Goes.via (T' := T2) (g' := (mkF m 7 #[.val (.int xi)] [(.ref s_ACE)])) (st2) ?_
    obtain ⟨fs, hr, hrun, hended, hW, hsame⟩ := X2.leave (v := some (.ref s_ACE)) (fun h => by rw [Bd.returns] at h; cases h)
    refine own_Goes.fin (retOut X2 hx Bd.returns rfl (Or.inr (Or.inr (Or.inr (Or.inr ⟨rfl, rfl, rfl⟩)))) (hb hby d1_7) hr) hrun hended ?_
    subst hPd
    refine ⟨_, _, rfl, ?_, ⟨_, rfl⟩, hW, hsame.mono (by decide) (by decide)⟩
    show Q1 Z xi s_ACE s_TWO s_THREE s_FOUR s_FIVE s_SIX s_SEVEN s_EIGHT s_NINE s_TEN s_JACK s_QUEEN s_KING h0 n0 _ T2.heap _
    rw [e2]
    exact ⟨(by first | rfl | (simp only [own_rank, if_pos hc1_1])), N0, rfl⟩
  · refine own_Goes.via (T' := s₁) (g' := (mkF m 8 #[.val (.int xi)] [])) (fun t_ k_ => XS.ifYes X0.here hx rfl (pc0 := 1) (pc' := 8) rfl (hb hby d1_1) rfl ((if0 _ _).trans (feq hc1_1).2) (by decide) (by decide) k_) ?_
    refine own_Goes.via (T' := s₁) (g' := (mkF m 9 #[.val (.int xi)] [(.int xi)])) (fun t_ k_ => XS.iloadN X0.here hx rfl (hb hby d1_8) rfl k_) ?_
    refine own_Goes.via (T' := s₁) (g' := (mkF m 10 #[.val (.int xi)] [(.int (1 : Int32)), (.int xi)])) (fun t_ k_ => XS.iconst X0.here hx rfl (hb hby d1_9) k_) ?_
    by_cases hc10_3 : xi = (1 : Int32)
    · refine own_Goes.via (T' := s₁) (g' := (mkF m 13 #[.val (.int xi)] [])) (fun t_ k_ => XS.icmpNo X0.here hx rfl (hb hby d1_10) rfl (teq hc10_3).2 k_) ?_
      obtain ⟨T4, X4, e4, st4⟩ := getS2 X0 hx hZ hown (host := "") (Or.inl (hw _ (List.mem_of_getElem? (i := 76) rfl))) Via.refl e0 (S_TWO.ext OL.2) (g := (mkF m 13 #[.val (.int xi)] [])) rfl (hb hby d1_13)
      refine own_Goes.via (T' := T4) (g' := (mkF m 16 #[.val (.int xi)] [(.ref s_TWO)])) (st4) ?_
      obtain ⟨fs, hr, hrun, hended, hW, hsame⟩ := X4.leave (v := some (.ref s_TWO)) (fun h => by rw [Bd.returns] at h; cases h)
      refine own_Goes.fin (retOut X4 hx Bd.returns rfl (Or.inr (Or.inr (Or.inr (Or.inr ⟨rfl, rfl, rfl⟩)))) (hb hby d1_16) hr) hrun hended ?_
      subst hPd
      refine ⟨_, _, rfl, ?_, ⟨_, rfl⟩, hW, hsame.mono (by decide) (by decide)⟩
      show Q1 Z xi s_ACE s_TWO s_THREE s_FOUR s_FIVE s_SIX s_SEVEN s_EIGHT s_NINE s_TEN s_JACK s_QUEEN s_KING h0 n0 _ T4.heap _
      rw [e4]
      exact ⟨(by first | rfl | (simp only [own_rank, if_neg hc1_1, if_pos hc10_3])), N0, rfl⟩
    · refine own_Goes.via (T' := s₁) (g' := (mkF m 17 #[.val (.int xi)] [])) (fun t_ k_ => XS.icmpYes X0.here hx rfl (pc0 := 10) (pc' := 17) rfl (hb hby d1_10) rfl (feq hc10_3).2 (by decide) (by decide) k_) ?_
      refine own_Goes.via (T' := s₁) (g' := (mkF m 18 #[.val (.int xi)] [(.int xi)])) (fun t_ k_ => XS.iloadN X0.here hx rfl (hb hby d1_17) rfl k_) ?_
      refine own_Goes.via (T' := s₁) (g' := (mkF m 19 #[.val (.int xi)] [(.int (2 : Int32)), (.int xi)])) (fun t_ k_ => XS.iconst X0.here hx rfl (hb hby d1_18) k_) ?_
      by_cases hc19_5 : xi = (2 : Int32)
      · refine own_Goes.via (T' := s₁) (g' := (mkF m 22 #[.val (.int xi)] [])) (fun t_ k_ => XS.icmpNo X0.here hx rfl (hb hby d1_19) rfl (teq hc19_5).2 k_) ?_
        obtain ⟨T6, X6, e6, st6⟩ := getS2 X0 hx hZ hown (host := "") (Or.inl (hw _ (List.mem_of_getElem? (i := 45) rfl))) Via.refl e0 (S_THREE.ext OL.2) (g := (mkF m 22 #[.val (.int xi)] [])) rfl (hb hby d1_22)
        refine own_Goes.via (T' := T6) (g' := (mkF m 25 #[.val (.int xi)] [(.ref s_THREE)])) (st6) ?_
        obtain ⟨fs, hr, hrun, hended, hW, hsame⟩ := X6.leave (v := some (.ref s_THREE)) (fun h => by rw [Bd.returns] at h; cases h)
        refine own_Goes.fin (retOut X6 hx Bd.returns rfl (Or.inr (Or.inr (Or.inr (Or.inr ⟨rfl, rfl, rfl⟩)))) (hb hby d1_25) hr) hrun hended ?_
        subst hPd
        refine ⟨_, _, rfl, ?_, ⟨_, rfl⟩, hW, hsame.mono (by decide) (by decide)⟩
        show Q1 Z xi s_ACE s_TWO s_THREE s_FOUR s_FIVE s_SIX s_SEVEN s_EIGHT s_NINE s_TEN s_JACK s_QUEEN s_KING h0 n0 _ T6.heap _
        rw [e6]
        exact ⟨(by first | rfl | (simp only [own_rank, if_neg hc1_1, if_neg hc10_3, if_pos hc19_5])), N0, rfl⟩
      · refine own_Goes.via (T' := s₁) (g' := (mkF m 26 #[.val (.int xi)] [])) (fun t_ k_ => XS.icmpYes X0.here hx rfl (pc0 := 19) (pc' := 26) rfl (hb hby d1_19) rfl (feq hc19_5).2 (by decide) (by decide) k_) ?_
        refine own_Goes.via (T' := s₁) (g' := (mkF m 27 #[.val (.int xi)] [(.int xi)])) (fun t_ k_ => XS.iloadN X0.here hx rfl (hb hby d1_26) rfl k_) ?_
        refine own_Goes.via (T' := s₁) (g' := (mkF m 28 #[.val (.int xi)] [(.int (3 : Int32)), (.int xi)])) (fun t_ k_ => XS.iconst X0.here hx rfl (hb hby d1_27) k_) ?_
        by_cases hc28_7 : xi = (3 : Int32)
        · refine own_Goes.via (T' := s₁) (g' := (mkF m 31 #[.val (.int xi)] [])) (fun t_ k_ => XS.icmpNo X0.here hx rfl (hb hby d1_28) rfl (teq hc28_7).2 k_) ?_
          obtain ⟨T8, X8, e8, st8⟩ := getS2 X0 hx hZ hown (host := "") (Or.inl (hw _ (List.mem_of_getElem? (i := 56) rfl))) Via.refl e0 (S_FOUR.ext OL.2) (g := (mkF m 31 #[.val (.int xi)] [])) rfl (hb hby d1_31)
          refine own_Goes.via (T' := T8) (g' := (mkF m 34 #[.val (.int xi)] [(.ref s_FOUR)])) (st8) ?_
          obtain ⟨fs, hr, hrun, hended, hW, hsame⟩ := X8.leave (v := some (.ref s_FOUR)) (fun h => by rw [Bd.returns] at h; cases h)
          refine own_Goes.fin (retOut X8 hx Bd.returns rfl (Or.inr (Or.inr (Or.inr (Or.inr ⟨rfl, rfl, rfl⟩)))) (hb hby d1_34) hr) hrun hended ?_
          subst hPd
          refine ⟨_, _, rfl, ?_, ⟨_, rfl⟩, hW, hsame.mono (by decide) (by decide)⟩
          show Q1 Z xi s_ACE s_TWO s_THREE s_FOUR s_FIVE s_SIX s_SEVEN s_EIGHT s_NINE s_TEN s_JACK s_QUEEN s_KING h0 n0 _ T8.heap _
          rw [e8]
          exact ⟨(by first | rfl | (simp only [own_rank, if_neg hc1_1, if_neg hc10_3, if_neg hc19_5, if_pos hc28_7])), N0, rfl⟩
        · refine own_Goes.via (T' := s₁) (g' := (mkF m 35 #[.val (.int xi)] [])) (fun t_ k_ => XS.icmpYes X0.here hx rfl (pc0 := 28) (pc' := 35) rfl (hb hby d1_28) rfl (feq hc28_7).2 (by decide) (by decide) k_) ?_
          refine own_Goes.via (T' := s₁) (g' := (mkF m 36 #[.val (.int xi)] [(.int xi)])) (fun t_ k_ => XS.iloadN X0.here hx rfl (hb hby d1_35) rfl k_) ?_
          refine own_Goes.via (T' := s₁) (g' := (mkF m 37 #[.val (.int xi)] [(.int (4 : Int32)), (.int xi)])) (fun t_ k_ => XS.iconst X0.here hx rfl (hb hby d1_36) k_) ?_
          by_cases hc37_9 : xi = (4 : Int32)
          · refine own_Goes.via (T' := s₁) (g' := (mkF m 40 #[.val (.int xi)] [])) (fun t_ k_ => XS.icmpNo X0.here hx rfl (hb hby d1_37) rfl (teq hc37_9).2 k_) ?_
            obtain ⟨T10, X10, e10, st10⟩ := getS2 X0 hx hZ hown (host := "") (Or.inl (hw _ (List.mem_of_getElem? (i := 78) rfl))) Via.refl e0 (S_FIVE.ext OL.2) (g := (mkF m 40 #[.val (.int xi)] [])) rfl (hb hby d1_40)
            refine own_Goes.via (T' := T10) (g' := (mkF m 43 #[.val (.int xi)] [(.ref s_FIVE)])) (st10) ?_
            obtain ⟨fs, hr, hrun, hended, hW, hsame⟩ := X10.leave (v := some (.ref s_FIVE)) (fun h => by rw [Bd.returns] at h; cases h)
            refine own_Goes.fin (retOut X10 hx Bd.returns rfl (Or.inr (Or.inr (Or.inr (Or.inr ⟨rfl, rfl, rfl⟩)))) (hb hby d1_43) hr) hrun hended ?_
            subst hPd
            refine ⟨_, _, rfl, ?_, ⟨_, rfl⟩, hW, hsame.mono (by decide) (by decide)⟩
            show Q1 Z xi s_ACE s_TWO s_THREE s_FOUR s_FIVE s_SIX s_SEVEN s_EIGHT s_NINE s_TEN s_JACK s_QUEEN s_KING h0 n0 _ T10.heap _
            rw [e10]
            exact ⟨(by first | rfl | (simp only [own_rank, if_neg hc1_1, if_neg hc10_3, if_neg hc19_5, if_neg hc28_7, if_pos hc37_9])), N0, rfl⟩
          · refine own_Goes.via (T' := s₁) (g' := (mkF m 44 #[.val (.int xi)] [])) (fun t_ k_ => XS.icmpYes X0.here hx rfl (pc0 := 37) (pc' := 44) rfl (hb hby d1_37) rfl (feq hc37_9).2 (by decide) (by decide) k_) ?_
            refine own_Goes.via (T' := s₁) (g' := (mkF m 45 #[.val (.int xi)] [(.int xi)])) (fun t_ k_ => XS.iloadN X0.here hx rfl (hb hby d1_44) rfl k_) ?_
            refine own_Goes.via (T' := s₁) (g' := (mkF m 46 #[.val (.int xi)] [(.int (5 : Int32)), (.int xi)])) (fun t_ k_ => XS.iconst X0.here hx rfl (hb hby d1_45) k_) ?_
            by_cases hc46_11 : xi = (5 : Int32)
            · refine own_Goes.via (T' := s₁) (g' := (mkF m 49 #[.val (.int xi)] [])) (fun t_ k_ => XS.icmpNo X0.here hx rfl (hb hby d1_46) rfl (teq hc46_11).2 k_) ?_
              obtain ⟨T12, X12, e12, st12⟩ := getS2 X0 hx hZ hown (host := "") (Or.inl (hw _ (List.mem_of_getElem? (i := 99) rfl))) Via.refl e0 (S_SIX.ext OL.2) (g := (mkF m 49 #[.val (.int xi)] [])) rfl (hb hby d1_49)
              refine own_Goes.via (T' := T12) (g' := (mkF m 52 #[.val (.int xi)] [(.ref s_SIX)])) (st12) ?_
              obtain ⟨fs, hr, hrun, hended, hW, hsame⟩ := X12.leave (v := some (.ref s_SIX)) (fun h => by rw [Bd.returns] at h; cases h)
              refine own_Goes.fin (retOut X12 hx Bd.returns rfl (Or.inr (Or.inr (Or.inr (Or.inr ⟨rfl, rfl, rfl⟩)))) (hb hby d1_52) hr) hrun hended ?_
              subst hPd
              refine ⟨_, _, rfl, ?_, ⟨_, rfl⟩, hW, hsame.mono (by decide) (by decide)⟩
              show Q1 Z xi s_ACE s_TWO s_THREE s_FOUR s_FIVE s_SIX s_SEVEN s_EIGHT s_NINE s_TEN s_JACK s_QUEEN s_KING h0 n0 _ T12.heap _
              rw [e12]
              exact ⟨(by first | rfl | (simp only [own_rank, if_neg hc1_1, if_neg hc10_3, if_neg hc19_5, if_neg hc28_7, if_neg hc37_9, if_pos hc46_11])), N0, rfl⟩
            · refine own_Goes.via (T' := s₁) (g' := (mkF m 53 #[.val (.int xi)] [])) (fun t_ k_ => XS.icmpYes X0.here hx rfl (pc0 := 46) (pc' := 53) rfl (hb hby d1_46) rfl (feq hc46_11).2 (by decide) (by decide) k_) ?_
              refine own_Goes.via (T' := s₁) (g' := (mkF m 54 #[.val (.int xi)] [(.int xi)])) (fun t_ k_ => XS.iloadN X0.here hx rfl (hb hby d1_53) rfl k_) ?_
              refine own_Goes.via (T' := s₁) (g' := (mkF m 56 #[.val (.int xi)] [(.int (6 : Int32)), (.int xi)])) (fun t_ k_ => XS.bipush X0.here hx rfl (hb hby d1_54) k_) ?_
              by_cases hc56_13 : xi = (6 : Int32)
              · refine own_Goes.via (T' := s₁) (g' := (mkF m 59 #[.val (.int xi)] [])) (fun t_ k_ => XS.icmpNo X0.here hx rfl (hb hby d1_56) rfl (teq hc56_13).2 k_) ?_
                obtain ⟨T14, X14, e14, st14⟩ := getS2 X0 hx hZ hown (host := "") (Or.inl (hw _ (List.mem_of_getElem? (i := 103) rfl))) Via.refl e0 (S_SEVEN.ext OL.2) (g := (mkF m 59 #[.val (.int xi)] [])) rfl (hb hby d1_59)
                refine own_Goes.via (T' := T14) (g' := (mkF m 62 #[.val (.int xi)] [(.ref s_SEVEN)])) (st14) ?_
                obtain ⟨fs, hr, hrun, hended, hW, hsame⟩ := X14.leave (v := some (.ref s_SEVEN)) (fun h => by rw [Bd.returns] at h; cases h)
                refine own_Goes.fin (retOut X14 hx Bd.returns rfl (Or.inr (Or.inr (Or.inr (Or.inr ⟨rfl, rfl, rfl⟩)))) (hb hby d1_62) hr) hrun hended ?_
                subst hPd
                refine ⟨_, _, rfl, ?_, ⟨_, rfl⟩, hW, hsame.mono (by decide) (by decide)⟩
                show Q1 Z xi s_ACE s_TWO s_THREE s_FOUR s_FIVE s_SIX s_SEVEN s_EIGHT s_NINE s_TEN s_JACK s_QUEEN s_KING h0 n0 _ T14.heap _
                rw [e14]
                exact ⟨(by first | rfl | (simp only [own_rank, if_neg hc1_1, if_neg hc10_3, if_neg hc19_5, if_neg hc28_7, if_neg hc37_9, if_neg hc46_11, if_pos hc56_13])), N0, rfl⟩
              · refine own_Goes.via (T' := s₁) (g' := (mkF m 63 #[.val (.int xi)] [])) (fun t_ k_ => XS.icmpYes X0.here hx rfl (pc0 := 56) (pc' := 63) rfl (hb hby d1_56) rfl (feq hc56_13).2 (by decide) (by decide) k_) ?_
                refine own_Goes.via (T' := s₁) (g' := (mkF m 64 #[.val (.int xi)] [(.int xi)])) (fun t_ k_ => XS.iloadN X0.here hx rfl (hb hby d1_63) rfl k_) ?_
                refine own_Goes.via (T' := s₁) (g' := (mkF m 66 #[.val (.int xi)] [(.int (7 : Int32)), (.int xi)])) (fun t_ k_ => XS.bipush X0.here hx rfl (hb hby d1_64) k_) ?_
                by_cases hc66_15 : xi = (7 : Int32)
                · refine own_Goes.via (T' := s₁) (g' := (mkF m 69 #[.val (.int xi)] [])) (fun t_ k_ => XS.icmpNo X0.here hx rfl (hb hby d1_66) rfl (teq hc66_15).2 k_) ?_
                  obtain ⟨T16, X16, e16, st16⟩ := getS2 X0 hx hZ hown (host := "") (Or.inl (hw _ (List.mem_of_getElem? (i := 95) rfl))) Via.refl e0 (S_EIGHT.ext OL.2) (g := (mkF m 69 #[.val (.int xi)] [])) rfl (hb hby d1_69)
                  refine own_Goes.via (T' := T16) (g' := (mkF m 72 #[.val (.int xi)] [(.ref s_EIGHT)])) (st16) ?_
                  obtain ⟨fs, hr, hrun, hended, hW, hsame⟩ := X16.leave (v := some (.ref s_EIGHT)) (fun h => by rw [Bd.returns] at h; cases h)
                  refine own_Goes.fin (retOut X16 hx Bd.returns rfl (Or.inr (Or.inr (Or.inr (Or.inr ⟨rfl, rfl, rfl⟩)))) (hb hby d1_72) hr) hrun hended ?_
                  subst hPd
                  refine ⟨_, _, rfl, ?_, ⟨_, rfl⟩, hW, hsame.mono (by decide) (by decide)⟩
                  show Q1 Z xi s_ACE s_TWO s_THREE s_FOUR s_FIVE s_SIX s_SEVEN s_EIGHT s_NINE s_TEN s_JACK s_QUEEN s_KING h0 n0 _ T16.heap _
                  rw [e16]
                  exact ⟨(by first | rfl | (simp only [own_rank, if_neg hc1_1, if_neg hc10_3, if_neg hc19_5, if_neg hc28_7, if_neg hc37_9, if_neg hc46_11, if_neg hc56_13, if_pos hc66_15])), N0, rfl⟩
                · refine own_Goes.via (T' := s₁) (g' := (mkF m 73 #[.val (.int xi)] [])) (fun t_ k_ => XS.icmpYes X0.here hx rfl (pc0 := 66) (pc' := 73) rfl (hb hby d1_66) rfl (feq hc66_15).2 (by decide) (by decide) k_) ?_
                  refine own_Goes.via (T' := s₁) (g' := (mkF m 74 #[.val (.int xi)] [(.int xi)])) (fun t_ k_ => XS.iloadN X0.here hx rfl (hb hby d1_73) rfl k_) ?_
                  refine own_Goes.via (T' := s₁) (g' := (mkF m 76 #[.val (.int xi)] [(.int (8 : Int32)), (.int xi)])) (fun t_ k_ => XS.bipush X0.here hx rfl (hb hby d1_74) k_) ?_
                  by_cases hc76_17 : xi = (8 : Int32)
                  · refine own_Goes.via (T' := s₁) (g' := (mkF m 79 #[.val (.int xi)] [])) (fun t_ k_ => XS.icmpNo X0.here hx rfl (hb hby d1_76) rfl (teq hc76_17).2 k_) ?_
                    obtain ⟨T18, X18, e18, st18⟩ := getS2 X0 hx hZ hown (host := "") (Or.inl (hw _ (List.mem_of_getElem? (i := 105) rfl))) Via.refl e0 (S_NINE.ext OL.2) (g := (mkF m 79 #[.val (.int xi)] [])) rfl (hb hby d1_79)
                    refine own_Goes.via (T' := T18) (g' := (mkF m 82 #[.val (.int xi)] [(.ref s_NINE)])) (st18) ?_
                    obtain ⟨fs, hr, hrun, hended, hW, hsame⟩ := X18.leave (v := some (.ref s_NINE)) (fun h => by rw [Bd.returns] at h; cases h)
                    refine own_Goes.fin (retOut X18 hx Bd.returns rfl (Or.inr (Or.inr (Or.inr (Or.inr ⟨rfl, rfl, rfl⟩)))) (hb hby d1_82) hr) hrun hended ?_
                    subst hPd
                    refine ⟨_, _, rfl, ?_, ⟨_, rfl⟩, hW, hsame.mono (by decide) (by decide)⟩
                    show Q1 Z xi s_ACE s_TWO s_THREE s_FOUR s_FIVE s_SIX s_SEVEN s_EIGHT s_NINE s_TEN s_JACK s_QUEEN s_KING h0 n0 _ T18.heap _
                    rw [e18]
                    exact ⟨(by first | rfl | (simp only [own_rank, if_neg hc1_1, if_neg hc10_3, if_neg hc19_5, if_neg hc28_7, if_neg hc37_9, if_neg hc46_11, if_neg hc56_13, if_neg hc66_15, if_pos hc76_17])), N0, rfl⟩
                  · refine own_Goes.via (T' := s₁) (g' := (mkF m 83 #[.val (.int xi)] [])) (fun t_ k_ => XS.icmpYes X0.here hx rfl (pc0 := 76) (pc' := 83) rfl (hb hby d1_76) rfl (feq hc76_17).2 (by decide) (by decide) k_) ?_
                    refine own_Goes.via (T' := s₁) (g' := (mkF m 84 #[.val (.int xi)] [(.int xi)])) (fun t_ k_ => XS.iloadN X0.here hx rfl (hb hby d1_83) rfl k_) ?_
                    refine own_Goes.via (T' := s₁) (g' := (mkF m 86 #[.val (.int xi)] [(.int (9 : Int32)), (.int xi)])) (fun t_ k_ => XS.bipush X0.here hx rfl (hb hby d1_84) k_) ?_
                    by_cases hc86_19 : xi = (9 : Int32)
                    · refine own_Goes.via (T' := s₁) (g' := (mkF m 89 #[.val (.int xi)] [])) (fun t_ k_ => XS.icmpNo X0.here hx rfl (hb hby d1_86) rfl (teq hc86_19).2 k_) ?_
                      obtain ⟨T20, X20, e20, st20⟩ := getS2 X0 hx hZ hown (host := "") (Or.inl (hw _ (List.mem_of_getElem? (i := 72) rfl))) Via.refl e0 (S_TEN.ext OL.2) (g := (mkF m 89 #[.val (.int xi)] [])) rfl (hb hby d1_89)
                      refine own_Goes.via (T' := T20) (g' := (mkF m 92 #[.val (.int xi)] [(.ref s_TEN)])) (st20) ?_
                      obtain ⟨fs, hr, hrun, hended, hW, hsame⟩ := X20.leave (v := some (.ref s_TEN)) (fun h => by rw [Bd.returns] at h; cases h)
                      refine own_Goes.fin (retOut X20 hx Bd.returns rfl (Or.inr (Or.inr (Or.inr (Or.inr ⟨rfl, rfl, rfl⟩)))) (hb hby d1_92) hr) hrun hended ?_
                      subst hPd
                      refine ⟨_, _, rfl, ?_, ⟨_, rfl⟩, hW, hsame.mono (by decide) (by decide)⟩
                      show Q1 Z xi s_ACE s_TWO s_THREE s_FOUR s_FIVE s_SIX s_SEVEN s_EIGHT s_NINE s_TEN s_JACK s_QUEEN s_KING h0 n0 _ T20.heap _
                      rw [e20]
                      exact ⟨(by first | rfl | (simp only [own_rank, if_neg hc1_1, if_neg hc10_3, if_neg hc19_5, if_neg hc28_7, if_neg hc37_9, if_neg hc46_11, if_neg hc56_13, if_neg hc66_15, if_neg hc76_17, if_pos hc86_19])), N0, rfl⟩
                    · refine own_Goes.via (T' := s₁) (g' := (mkF m 93 #[.val (.int xi)] [])) (fun t_ k_ => XS.icmpYes X0.here hx rfl (pc0 := 86) (pc' := 93) rfl (hb hby d1_86) rfl (feq hc86_19).2 (by decide) (by decide) k_) ?_
                      refine own_Goes.via (T' := s₁) (g' := (mkF m 94 #[.val (.int xi)] [(.int xi)])) (fun t_ k_ => XS.iloadN X0.here hx rfl (hb hby d1_93) rfl k_) ?_
                      refine own_Goes.via (T' := s₁) (g' := (mkF m 96 #[.val (.int xi)] [(.int (10 : Int32)), (.int xi)])) (fun t_ k_ => XS.bipush X0.here hx rfl (hb hby d1_94) k_) ?_
                      by_cases hc96_21 : xi = (10 : Int32)
                      · refine own_Goes.via (T' := s₁) (g' := (mkF m 99 #[.val (.int xi)] [])) (fun t_ k_ => XS.icmpNo X0.here hx rfl (hb hby d1_96) rfl (teq hc96_21).2 k_) ?_
                        obtain ⟨T22, X22, e22, st22⟩ := getS2 X0 hx hZ hown (host := "") (Or.inl (hw _ (List.mem_of_getElem? (i := 60) rfl))) Via.refl e0 (S_JACK.ext OL.2) (g := (mkF m 99 #[.val (.int xi)] [])) rfl (hb hby d1_99)
                        refine own_Goes.via (T' := T22) (g' := (mkF m 102 #[.val (.int xi)] [(.ref s_JACK)])) (st22) ?_
                        obtain ⟨fs, hr, hrun, hended, hW, hsame⟩ := X22.leave (v := some (.ref s_JACK)) (fun h => by rw [Bd.returns] at h; cases h)
                        refine own_Goes.fin (retOut X22 hx Bd.returns rfl (Or.inr (Or.inr (Or.inr (Or.inr ⟨rfl, rfl, rfl⟩)))) (hb hby d1_102) hr) hrun hended ?_
                        subst hPd
                        refine ⟨_, _, rfl, ?_, ⟨_, rfl⟩, hW, hsame.mono (by decide) (by decide)⟩
                        show Q1 Z xi s_ACE s_TWO s_THREE s_FOUR s_FIVE s_SIX s_SEVEN s_EIGHT s_NINE s_TEN s_JACK s_QUEEN s_KING h0 n0 _ T22.heap _
                        rw [e22]
                        exact ⟨(by first | rfl | (simp only [own_rank, if_neg hc1_1, if_neg hc10_3, if_neg hc19_5, if_neg hc28_7, if_neg hc37_9, if_neg hc46_11, if_neg hc56_13, if_neg hc66_15, if_neg hc76_17, if_neg hc86_19, if_pos hc96_21])), N0, rfl⟩
                      · refine own_Goes.via (T' := s₁) (g' := (mkF m 103 #[.val (.int xi)] [])) (fun t_ k_ => XS.icmpYes X0.here hx rfl (pc0 := 96) (pc' := 103) rfl (hb hby d1_96) rfl (feq hc96_21).2 (by decide) (by decide) k_) ?_
                        refine own_Goes.via (T' := s₁) (g' := (mkF m 104 #[.val (.int xi)] [(.int xi)])) (fun t_ k_ => XS.iloadN X0.here hx rfl (hb hby d1_103) rfl k_) ?_
                        refine own_Goes.via (T' := s₁) (g' := (mkF m 106 #[.val (.int xi)] [(.int (11 : Int32)), (.int xi)])) (fun t_ k_ => XS.bipush X0.here hx rfl (hb hby d1_104) k_) ?_
                        by_cases hc106_23 : xi = (11 : Int32)
                        · refine own_Goes.via (T' := s₁) (g' := (mkF m 109 #[.val (.int xi)] [])) (fun t_ k_ => XS.icmpNo X0.here hx rfl (hb hby d1_106) rfl (teq hc106_23).2 k_) ?_
                          obtain ⟨T24, X24, e24, st24⟩ := getS2 X0 hx hZ hown (host := "") (Or.inl (hw _ (List.mem_of_getElem? (i := 101) rfl))) Via.refl e0 (S_QUEEN.ext OL.2) (g := (mkF m 109 #[.val (.int xi)] [])) rfl (hb hby d1_109)
                          refine own_Goes.via (T' := T24) (g' := (mkF m 112 #[.val (.int xi)] [(.ref s_QUEEN)])) (st24) ?_
                          obtain ⟨fs, hr, hrun, hended, hW, hsame⟩ := X24.leave (v := some (.ref s_QUEEN)) (fun h => by rw [Bd.returns] at h; cases h)
                          refine own_Goes.fin (retOut X24 hx Bd.returns rfl (Or.inr (Or.inr (Or.inr (Or.inr ⟨rfl, rfl, rfl⟩)))) (hb hby d1_112) hr) hrun hended ?_
                          subst hPd
                          refine ⟨_, _, rfl, ?_, ⟨_, rfl⟩, hW, hsame.mono (by decide) (by decide)⟩
                          show Q1 Z xi s_ACE s_TWO s_THREE s_FOUR s_FIVE s_SIX s_SEVEN s_EIGHT s_NINE s_TEN s_JACK s_QUEEN s_KING h0 n0 _ T24.heap _
                          rw [e24]
                          exact ⟨(by first | rfl | (simp only [own_rank, if_neg hc1_1, if_neg hc10_3, if_neg hc19_5, if_neg hc28_7, if_neg hc37_9, if_neg hc46_11, if_neg hc56_13, if_neg hc66_15, if_neg hc76_17, if_neg hc86_19, if_neg hc96_21, if_pos hc106_23])), N0, rfl⟩
                        · refine own_Goes.via (T' := s₁) (g' := (mkF m 113 #[.val (.int xi)] [])) (fun t_ k_ => XS.icmpYes X0.here hx rfl (pc0 := 106) (pc' := 113) rfl (hb hby d1_106) rfl (feq hc106_23).2 (by decide) (by decide) k_) ?_
                          obtain ⟨T25, X25, e25, st25⟩ := getS2 X0 hx hZ hown (host := "") (Or.inl (hw _ (List.mem_of_getElem? (i := 97) rfl))) Via.refl e0 (S_KING.ext OL.2) (g := (mkF m 113 #[.val (.int xi)] [])) rfl (hb hby d1_113)
                          refine own_Goes.via (T' := T25) (g' := (mkF m 116 #[.val (.int xi)] [(.ref s_KING)])) (st25) ?_
                          obtain ⟨fs, hr, hrun, hended, hW, hsame⟩ := X25.leave (v := some (.ref s_KING)) (fun h => by rw [Bd.returns] at h; cases h)
                          refine own_Goes.fin (retOut X25 hx Bd.returns rfl (Or.inr (Or.inr (Or.inr (Or.inr ⟨rfl, rfl, rfl⟩)))) (hb hby d1_116) hr) hrun hended ?_
                          subst hPd
                          refine ⟨_, _, rfl, ?_, ⟨_, rfl⟩, hW, hsame.mono (by decide) (by decide)⟩
                          show Q1 Z xi s_ACE s_TWO s_THREE s_FOUR s_FIVE s_SIX s_SEVEN s_EIGHT s_NINE s_TEN s_JACK s_QUEEN s_KING h0 n0 _ T25.heap _
                          rw [e25]
                          exact ⟨(by first | rfl | (simp only [own_rank, if_neg hc1_1, if_neg hc10_3, if_neg hc19_5, if_neg hc28_7, if_neg hc37_9, if_neg hc46_11, if_neg hc56_13, if_neg hc66_15, if_neg hc76_17, if_neg hc86_19, if_neg hc96_21, if_neg hc106_23])), N0, rfl⟩
theorem d2_0 : decode method_3_code 0 = .ok (.iload_n 0, 1) := by decide +kernel
theorem d2_1 : decode method_3_code 1 = .ok (.ifCond .ne 7, 3) := by decide +kernel
theorem d2_4 : decode method_3_code 4 = .ok (.getstatic 49, 3) := by decide +kernel
theorem d2_7 : decode method_3_code 7 = .ok (.areturn, 1) := by decide +kernel
theorem d2_8 : decode method_3_code 8 = .ok (.iload_n 0, 1) := by decide +kernel
theorem d2_9 : decode method_3_code 9 = .ok (.iconst 1, 1) := by decide +kernel
theorem d2_10 : decode method_3_code 10 = .ok (.if_icmp .ne 7, 3) := by decide +kernel
theorem d2_13 : decode method_3_code 13 = .ok (.getstatic 55, 3) := by decide +kernel
theorem d2_16 : decode method_3_code 16 = .ok (.areturn, 1) := by decide +kernel
theorem d2_17 : decode method_3_code 17 = .ok (.iload_n 0, 1) := by decide +kernel
theorem d2_18 : decode method_3_code 18 = .ok (.iconst 2, 1) := by decide +kernel
theorem d2_19 : decode method_3_code 19 = .ok (.if_icmp .ne 7, 3) := by decide +kernel
theorem d2_22 : decode method_3_code 22 = .ok (.getstatic 58, 3) := by decide +kernel
theorem d2_25 : decode method_3_code 25 = .ok (.areturn, 1) := by decide +kernel
theorem d2_26 : decode method_3_code 26 = .ok (.getstatic 61, 3) := by decide +kernel
theorem d2_29 : decode method_3_code 29 = .ok (.areturn, 1) := by decide +kernel
theorem pn_2 : plainName "com/example/wildsuit/wildsuit/card/CardEqualsPinLaw" = true := by first | (simp [plainName, overriddenIn]; done) | decide +kernel
theorem ef_2 (m : MethodId) (xi : Int32) : entryFrame m #[(.int xi)] 1 = mkF m 0 #[.val (.int xi)] [] := by first | (simp [entryFrame, mkF, argsToLocals, Value.category]; done) | rfl
def Q2 (Z : State) (xi : Int32) (s_CLUBS : Addr) (s_DIAMONDS : Addr) (s_HEARTS : Addr) (s_SPADES : Addr) (h0 : Heap) (n0 : Nat) (v : Option Value) (h : Heap) (L : List Loc) : Prop := v = some (.ref (own_suit s_CLUBS s_DIAMONDS s_HEARTS s_SPADES xi)) ∧ Fr n0 L ∧ h = h0
set_option maxRecDepth 65536 in
set_option maxHeartbeats 40000000 in
theorem rm2 (l : Launch) (Z : State) (a0 : Array Value) (hw : ∀ d ∈ tables_1, d.before a0 Z = true) (ws : List Jvm.Cond) (xi : Int32) (s_CLUBS : Addr) (s_DIAMONDS : Addr) (s_HEARTS : Addr) (s_SPADES : Addr) (h0 : Heap) (n0 : Nat) (Z0 : n0 ≤ h0.size) (OL : Old Z n0 h0) (S_CLUBS : Sta Z Z.heap "com/example/wildsuit/wildsuit/card/Suit" "CLUBS" "Lcom/example/wildsuit/wildsuit/card/Suit;" (.ref s_CLUBS)) (S_DIAMONDS : Sta Z Z.heap "com/example/wildsuit/wildsuit/card/Suit" "DIAMONDS" "Lcom/example/wildsuit/wildsuit/card/Suit;" (.ref s_DIAMONDS)) (S_HEARTS : Sta Z Z.heap "com/example/wildsuit/wildsuit/card/Suit" "HEARTS" "Lcom/example/wildsuit/wildsuit/card/Suit;" (.ref s_HEARTS)) (S_SPADES : Sta Z Z.heap "com/example/wildsuit/wildsuit/card/Suit" "SPADES" "Lcom/example/wildsuit/wildsuit/card/Suit;" (.ref s_SPADES)) :
    MetFree l (⟨"com/example/wildsuit/wildsuit/card/CardEqualsPinLaw", "suit", "(I)Lcom/example/wildsuit/wildsuit/card/Suit;"⟩ : MethodName) (head1 (Jvm.Cond.code (⟨"com/example/wildsuit/wildsuit/card/CardEqualsPinLaw", "suit", "(I)Lcom/example/wildsuit/wildsuit/card/Suit;"⟩ : MethodName) method_3_code 1 (some (.object "com/example/wildsuit/wildsuit/card/Suit")) :: ws) ({ frames := 0, cells := 0, slots := 0, locals := 0 } : Room)) (fun a U => a = #[(.int xi)] ∧ Z.Warmed39 U.vm ∧ U.heap = h0) (fun _ _ _ _ _ => True) (fun _ U o U' => ∃ v L, o = .returned v ∧ Q2 Z xi s_CLUBS s_DIAMONDS s_HEARTS s_SPADES h0 n0 v U'.heap L ∧ FrameEnd U o U' L ({ frames := 0, cells := 0, slots := 0, locals := 0 } : Room).cells ({ frames := 0, cells := 0, slots := 0, locals := 0 } : Room).slots) := by
  refine MetFree.of_bodySF (plainFor_of_name pn_2) hisR ?_
  intro p e s m args below meth c s₁ Bd hml0 hP hK
  obtain ⟨rfl, hZ, hh⟩ := hP
  have hx := Bd.exec
  have hby := Bd.bytes
  have hml : c.maxLocals = 1 := hml0
  have hown : s.vm.findClass "com/example/wildsuit/wildsuit/card/CardEqualsPinLaw" = some m.cls := findClass_of_methodNamed Bd.named
  have hnm := (name_of_methodNamed Bd.named Bd.method).1
  have X0 : Stand p l e ({ frames := 0, cells := 0, slots := 0, locals := 0 } : Room) s m #[(.int xi)] below meth c s₁ [] 0 0 := Stand.of_body Bd
  have e0 : s₁.heap = h0 := by rw [← hh, Bd.state]; rfl
  have N0 := Fr.nil n0
  suffices G : own_Goes p.tables e below (fun o U' => ∃ v L, o = .returned v ∧ Q2 Z xi s_CLUBS s_DIAMONDS s_HEARTS s_SPADES h0 n0 v U'.heap L ∧ FrameEnd s o U' L ({ frames := 0, cells := 0, slots := 0, locals := 0 } : Room).cells ({ frames := 0, cells := 0, slots := 0, locals := 0 } : Room).slots) s₁ (mkF m 0 #[.val (.int xi)] []) by
    obtain ⟨t2_, o2_, z1_, z2_, z3_, z4_⟩ := G
    exact ⟨t2_, o2_, castTop (ef_2 m xi) z1_, z2_, z3_, z4_⟩
  generalize hPd : (fun (o : Outcome) (U' : State) => ∃ v L, o = .returned v ∧ Q2 Z xi s_CLUBS s_DIAMONDS s_HEARTS s_SPADES h0 n0 v U'.heap L ∧ FrameEnd s o U' L ({ frames := 0, cells := 0, slots := 0, locals := 0 } : Room).cells ({ frames := 0, cells := 0, slots := 0, locals := 0 } : Room).slots) = P
  refine own_Goes.via (T' := s₁) (g' := (mkF m 1 #[.val (.int xi)] [(.int xi)])) (fun t_ k_ => XS.iloadN X0.here hx rfl (hb hby d2_0) rfl k_) ?_
  by_cases hc1_1 : xi = (0 : Int32)
  · refine own_Goes.via (T' := s₁) (g' := (mkF m 4 #[.val (.int xi)] [])) (fun t_ k_ => XS.ifNo X0.here hx rfl (hb hby d2_1) rfl ((if0 _ _).trans (teq hc1_1).2) k_) ?_
    obtain ⟨T2, X2, e2, st2⟩ := getS2 X0 hx hZ hown (host := "") (Or.inl (hw _ (List.mem_of_getElem? (i := 58) rfl))) Via.refl e0 (S_CLUBS.ext OL.2) (g := (mkF m 4 #[.val (.int xi)] [])) rfl (hb hby d2_4)
    refine own_Goes.via (T' := T2) (g' := (mkF m 7 #[.val (.int xi)] [(.ref s_CLUBS)])) (st2) ?_
    obtain ⟨fs, hr, hrun, hended, hW, hsame⟩ := X2.leave (v := some (.ref s_CLUBS)) (fun h => by rw [Bd.returns] at h; cases h)
    refine own_Goes.fin (retOut X2 hx Bd.returns rfl (Or.inr (Or.inr (Or.inr (Or.inr ⟨rfl, rfl, rfl⟩)))) (hb hby d2_7) hr) hrun hended ?_
    subst hPd
    refine ⟨_, _, rfl, ?_, ⟨_, rfl⟩, hW, hsame.mono (by decide) (by decide)⟩
    show Q2 Z xi s_CLUBS s_DIAMONDS s_HEARTS s_SPADES h0 n0 _ T2.heap _
    rw [e2]
    exact ⟨(by first | rfl | (simp only [own_suit, if_pos hc1_1])), N0, rfl⟩
  · refine own_Goes.via (T' := s₁) (g' := (mkF m 8 #[.val (.int xi)] [])) (fun t_ k_ => XS.ifYes X0.here hx rfl (pc0 := 1) (pc' := 8) rfl (hb hby d2_1) rfl ((if0 _ _).trans (feq hc1_1).2) (by decide) (by decide) k_) ?_
    refine own_Goes.via (T' := s₁) (g' := (mkF m 9 #[.val (.int xi)] [(.int xi)])) (fun t_ k_ => XS.iloadN X0.here hx rfl (hb hby d2_8) rfl k_) ?_
    refine own_Goes.via (T' := s₁) (g' := (mkF m 10 #[.val (.int xi)] [(.int (1 : Int32)), (.int xi)])) (fun t_ k_ => XS.iconst X0.here hx rfl (hb hby d2_9) k_) ?_
    by_cases hc10_3 : xi = (1 : Int32)
    · refine own_Goes.via (T' := s₁) (g' := (mkF m 13 #[.val (.int xi)] [])) (fun t_ k_ => XS.icmpNo X0.here hx rfl (hb hby d2_10) rfl (teq hc10_3).2 k_) ?_
      obtain ⟨T4, X4, e4, st4⟩ := getS2 X0 hx hZ hown (host := "") (Or.inl (hw _ (List.mem_of_getElem? (i := 47) rfl))) Via.refl e0 (S_DIAMONDS.ext OL.2) (g := (mkF m 13 #[.val (.int xi)] [])) rfl (hb hby d2_13)
      refine own_Goes.via (T' := T4) (g' := (mkF m 16 #[.val (.int xi)] [(.ref s_DIAMONDS)])) (st4) ?_
      obtain ⟨fs, hr, hrun, hended, hW, hsame⟩ := X4.leave (v := some (.ref s_DIAMONDS)) (fun h => by rw [Bd.returns] at h; cases h)
      refine own_Goes.fin (retOut X4 hx Bd.returns rfl (Or.inr (Or.inr (Or.inr (Or.inr ⟨rfl, rfl, rfl⟩)))) (hb hby d2_16) hr) hrun hended ?_
      subst hPd
      refine ⟨_, _, rfl, ?_, ⟨_, rfl⟩, hW, hsame.mono (by decide) (by decide)⟩
      show Q2 Z xi s_CLUBS s_DIAMONDS s_HEARTS s_SPADES h0 n0 _ T4.heap _
      rw [e4]
      exact ⟨(by first | rfl | (simp only [own_suit, if_neg hc1_1, if_pos hc10_3])), N0, rfl⟩
    · refine own_Goes.via (T' := s₁) (g' := (mkF m 17 #[.val (.int xi)] [])) (fun t_ k_ => XS.icmpYes X0.here hx rfl (pc0 := 10) (pc' := 17) rfl (hb hby d2_10) rfl (feq hc10_3).2 (by decide) (by decide) k_) ?_
      refine own_Goes.via (T' := s₁) (g' := (mkF m 18 #[.val (.int xi)] [(.int xi)])) (fun t_ k_ => XS.iloadN X0.here hx rfl (hb hby d2_17) rfl k_) ?_
      refine own_Goes.via (T' := s₁) (g' := (mkF m 19 #[.val (.int xi)] [(.int (2 : Int32)), (.int xi)])) (fun t_ k_ => XS.iconst X0.here hx rfl (hb hby d2_18) k_) ?_
      by_cases hc19_5 : xi = (2 : Int32)
      · refine own_Goes.via (T' := s₁) (g' := (mkF m 22 #[.val (.int xi)] [])) (fun t_ k_ => XS.icmpNo X0.here hx rfl (hb hby d2_19) rfl (teq hc19_5).2 k_) ?_
        obtain ⟨T6, X6, e6, st6⟩ := getS2 X0 hx hZ hown (host := "") (Or.inl (hw _ (List.mem_of_getElem? (i := 74) rfl))) Via.refl e0 (S_HEARTS.ext OL.2) (g := (mkF m 22 #[.val (.int xi)] [])) rfl (hb hby d2_22)
        refine own_Goes.via (T' := T6) (g' := (mkF m 25 #[.val (.int xi)] [(.ref s_HEARTS)])) (st6) ?_
        obtain ⟨fs, hr, hrun, hended, hW, hsame⟩ := X6.leave (v := some (.ref s_HEARTS)) (fun h => by rw [Bd.returns] at h; cases h)
        refine own_Goes.fin (retOut X6 hx Bd.returns rfl (Or.inr (Or.inr (Or.inr (Or.inr ⟨rfl, rfl, rfl⟩)))) (hb hby d2_25) hr) hrun hended ?_
        subst hPd
        refine ⟨_, _, rfl, ?_, ⟨_, rfl⟩, hW, hsame.mono (by decide) (by decide)⟩
        show Q2 Z xi s_CLUBS s_DIAMONDS s_HEARTS s_SPADES h0 n0 _ T6.heap _
        rw [e6]
        exact ⟨(by first | rfl | (simp only [own_suit, if_neg hc1_1, if_neg hc10_3, if_pos hc19_5])), N0, rfl⟩
      · refine own_Goes.via (T' := s₁) (g' := (mkF m 26 #[.val (.int xi)] [])) (fun t_ k_ => XS.icmpYes X0.here hx rfl (pc0 := 19) (pc' := 26) rfl (hb hby d2_19) rfl (feq hc19_5).2 (by decide) (by decide) k_) ?_
        obtain ⟨T7, X7, e7, st7⟩ := getS2 X0 hx hZ hown (host := "") (Or.inl (hw _ (List.mem_of_getElem? (i := 14) rfl))) Via.refl e0 (S_SPADES.ext OL.2) (g := (mkF m 26 #[.val (.int xi)] [])) rfl (hb hby d2_26)
        refine own_Goes.via (T' := T7) (g' := (mkF m 29 #[.val (.int xi)] [(.ref s_SPADES)])) (st7) ?_
        obtain ⟨fs, hr, hrun, hended, hW, hsame⟩ := X7.leave (v := some (.ref s_SPADES)) (fun h => by rw [Bd.returns] at h; cases h)
        refine own_Goes.fin (retOut X7 hx Bd.returns rfl (Or.inr (Or.inr (Or.inr (Or.inr ⟨rfl, rfl, rfl⟩)))) (hb hby d2_29) hr) hrun hended ?_
        subst hPd
        refine ⟨_, _, rfl, ?_, ⟨_, rfl⟩, hW, hsame.mono (by decide) (by decide)⟩
        show Q2 Z xi s_CLUBS s_DIAMONDS s_HEARTS s_SPADES h0 n0 _ T7.heap _
        rw [e7]
        exact ⟨(by first | rfl | (simp only [own_suit, if_neg hc1_1, if_neg hc10_3, if_neg hc19_5])), N0, rfl⟩
theorem d4_0 : decode jdk_30_method_1_code 0 = .ok (.aload_n 0, 1) := by decide +kernel
theorem d4_1 : decode jdk_30_method_1_code 1 = .ok (.invokespecial 1, 3) := by decide +kernel
theorem d4_4 : decode jdk_30_method_1_code 4 = .ok (.return_, 1) := by decide +kernel
theorem pn_4 : plainName "java/lang/Record" = true := by first | (simp [plainName, overriddenIn]; done) | decide +kernel
theorem ef_4 (m : MethodId) (ao : Addr) : entryFrame m #[(.ref ao)] 1 = mkF m 0 #[.val (.ref ao)] [] := by first | (simp [entryFrame, mkF, argsToLocals, Value.category]; done) | rfl
def Q4 (Z : State) (ao : Addr) (h0 : Heap) (n0 : Nat) (v : Option Value) (h : Heap) (L : List Loc) : Prop := v = none ∧ Fr n0 L ∧ h = h0
set_option maxRecDepth 65536 in
set_option maxHeartbeats 40000000 in
theorem rm4 (l : Launch) (Z : State) (a0 : Array Value) (hw : ∀ d ∈ tables_1, d.before a0 Z = true) (ws : List Jvm.Cond) (ao : Addr) (h0 : Heap) (n0 : Nat) (Z0 : n0 ≤ h0.size) :
    MetFree l (⟨"java/lang/Record", "<init>", "()V"⟩ : MethodName) (head1 (Jvm.Cond.code (⟨"java/lang/Record", "<init>", "()V"⟩ : MethodName) jdk_30_method_1_code 1 none :: ws) ({ frames := 1, cells := 0, slots := 0, locals := 12 } : Room)) (fun a U => a = #[(.ref ao)] ∧ Z.Warmed39 U.vm ∧ U.heap = h0) (fun _ _ _ _ _ => True) (fun _ U o U' => ∃ v L, o = .returned v ∧ Q4 Z ao h0 n0 v U'.heap L ∧ FrameEnd U o U' L ({ frames := 1, cells := 0, slots := 0, locals := 12 } : Room).cells ({ frames := 1, cells := 0, slots := 0, locals := 12 } : Room).slots) := by
  refine MetFree.of_bodySF (plainFor_of_name pn_4) hisR ?_
  intro p e s m args below meth c s₁ Bd hml0 hP hK
  obtain ⟨rfl, hZ, hh⟩ := hP
  have hx := Bd.exec
  have hby := Bd.bytes
  have hml : c.maxLocals = 1 := hml0
  have hown : s.vm.findClass "java/lang/Record" = some m.cls := findClass_of_methodNamed Bd.named
  have hnm := (name_of_methodNamed Bd.named Bd.method).1
  have X0 : Stand p l e ({ frames := 1, cells := 0, slots := 0, locals := 12 } : Room) s m #[(.ref ao)] below meth c s₁ [] 0 0 := Stand.of_body Bd
  have e0 : s₁.heap = h0 := by rw [← hh, Bd.state]; rfl
  have N0 := Fr.nil n0
  suffices G : own_Goes p.tables e below (fun o U' => ∃ v L, o = .returned v ∧ Q4 Z ao h0 n0 v U'.heap L ∧ FrameEnd s o U' L ({ frames := 1, cells := 0, slots := 0, locals := 12 } : Room).cells ({ frames := 1, cells := 0, slots := 0, locals := 12 } : Room).slots) s₁ (mkF m 0 #[.val (.ref ao)] []) by
    obtain ⟨t2_, o2_, z1_, z2_, z3_, z4_⟩ := G
    exact ⟨t2_, o2_, castTop (ef_4 m ao) z1_, z2_, z3_, z4_⟩
  generalize hPd : (fun (o : Outcome) (U' : State) => ∃ v L, o = .returned v ∧ Q4 Z ao h0 n0 v U'.heap L ∧ FrameEnd s o U' L ({ frames := 1, cells := 0, slots := 0, locals := 12 } : Room).cells ({ frames := 1, cells := 0, slots := 0, locals := 12 } : Room).slots) = P
  refine own_Goes.via (T' := s₁) (g' := (mkF m 1 #[.val (.ref ao)] [(.ref ao)])) (fun t_ k_ => XS.aloadN X0.here hx rfl (hb hby d4_0) rfl rfl k_) ?_
  obtain ⟨T1, X1, e1, st1⟩ := initO X0 hx hZ hown (hw _ (List.mem_of_getElem? (i := 25) rfl)) (hw _ (List.mem_of_getElem? (i := 26) rfl)) (hw _ (List.mem_of_getElem? (i := 27) rfl)) e0 (g := (mkF m 1 #[.val (.ref ao)] [(.ref ao)])) rfl (by rw [hml]; rfl) rfl (hb hby d4_1) (by decide) (W := 0) (by show 2 * 0 + _ ≤ _; exact Nat.le_of_eq rfl) (by decide)
  refine own_Goes.via (T' := T1) (g' := (mkF m 4 #[.val (.ref ao)] [])) (st1) ?_
  obtain ⟨fs, hr, hrun, hended, hW, hsame⟩ := X1.leave (v := none) (fun _ => rfl)
  refine own_Goes.fin (X1.returnOut hx Bd.returns (hb hby d4_4) hr) hrun hended ?_
  subst hPd
  refine ⟨_, _, rfl, ?_, ⟨_, rfl⟩, hW, hsame.mono (by decide) (by decide)⟩
  show Q4 Z ao h0 n0 _ T1.heap _
  rw [e1]
  exact ⟨rfl, N0, rfl⟩
theorem d6_0 : decode jdk_31_method_11_code 0 = .ok (.aload_n 0, 1) := by decide +kernel
theorem d6_1 : decode jdk_31_method_11_code 1 = .ok (.ifnonnull 12, 3) := by decide +kernel
theorem d6_13 : decode jdk_31_method_11_code 13 = .ok (.aload_n 0, 1) := by decide +kernel
theorem d6_14 : decode jdk_31_method_11_code 14 = .ok (.areturn, 1) := by decide +kernel
theorem pn_6 : plainName "java/util/Objects" = true := by first | (simp [plainName, overriddenIn]; done) | decide +kernel
theorem ef_6 (m : MethodId) (ao : Addr) (az : Addr) : entryFrame m #[(.ref ao), (.ref az)] 2 = mkF m 0 #[.val (.ref ao), .val (.ref az)] [] := by first | (simp [entryFrame, mkF, argsToLocals, Value.category]; done) | rfl
def Q6 (Z : State) (ao : Addr) (az : Addr) (h0 : Heap) (n0 : Nat) (v : Option Value) (h : Heap) (L : List Loc) : Prop := v = some (.ref ao) ∧ Fr n0 L ∧ h = h0
set_option maxRecDepth 65536 in
set_option maxHeartbeats 40000000 in
theorem rm6 (l : Launch) (Z : State) (a0 : Array Value) (hw : ∀ d ∈ tables_1, d.before a0 Z = true) (ws : List Jvm.Cond) (ao : Addr) (az : Addr) (h0 : Heap) (n0 : Nat) (Z0 : n0 ≤ h0.size) :
    MetFree l (⟨"java/util/Objects", "requireNonNull", "(Ljava/lang/Object;Ljava/lang/String;)Ljava/lang/Object;"⟩ : MethodName) (head1 (Jvm.Cond.code (⟨"java/util/Objects", "requireNonNull", "(Ljava/lang/Object;Ljava/lang/String;)Ljava/lang/Object;"⟩ : MethodName) jdk_31_method_11_code 2 (some (.object "java/lang/Object")) :: ws) ({ frames := 0, cells := 0, slots := 0, locals := 0 } : Room)) (fun a U => a = #[(.ref ao), (.ref az)] ∧ Z.Warmed39 U.vm ∧ U.heap = h0) (fun _ _ _ _ _ => True) (fun _ U o U' => ∃ v L, o = .returned v ∧ Q6 Z ao az h0 n0 v U'.heap L ∧ FrameEnd U o U' L ({ frames := 0, cells := 0, slots := 0, locals := 0 } : Room).cells ({ frames := 0, cells := 0, slots := 0, locals := 0 } : Room).slots) := by
  refine MetFree.of_bodySF (plainFor_of_name pn_6) hisR ?_
  intro p e s m args below meth c s₁ Bd hml0 hP hK
  obtain ⟨rfl, hZ, hh⟩ := hP
  have hx := Bd.exec
  have hby := Bd.bytes
  have hml : c.maxLocals = 2 := hml0
  have hown : s.vm.findClass "java/util/Objects" = some m.cls := findClass_of_methodNamed Bd.named
  have hnm := (name_of_methodNamed Bd.named Bd.method).1
  have X0 : Stand p l e ({ frames := 0, cells := 0, slots := 0, locals := 0 } : Room) s m #[(.ref ao), (.ref az)] below meth c s₁ [] 0 0 := Stand.of_body Bd
  have e0 : s₁.heap = h0 := by rw [← hh, Bd.state]; rfl
  have N0 := Fr.nil n0
  suffices G : own_Goes p.tables e below (fun o U' => ∃ v L, o = .returned v ∧ Q6 Z ao az h0 n0 v U'.heap L ∧ FrameEnd s o U' L ({ frames := 0, cells := 0, slots := 0, locals := 0 } : Room).cells ({ frames := 0, cells := 0, slots := 0, locals := 0 } : Room).slots) s₁ (mkF m 0 #[.val (.ref ao), .val (.ref az)] []) by
    obtain ⟨t2_, o2_, z1_, z2_, z3_, z4_⟩ := G
    exact ⟨t2_, o2_, castTop (ef_6 m ao az) z1_, z2_, z3_, z4_⟩
  generalize hPd : (fun (o : Outcome) (U' : State) => ∃ v L, o = .returned v ∧ Q6 Z ao az h0 n0 v U'.heap L ∧ FrameEnd s o U' L ({ frames := 0, cells := 0, slots := 0, locals := 0 } : Room).cells ({ frames := 0, cells := 0, slots := 0, locals := 0 } : Room).slots) = P
  refine own_Goes.via (T' := s₁) (g' := (mkF m 1 #[.val (.ref ao), .val (.ref az)] [(.ref ao)])) (fun t_ k_ => XS.aloadN X0.here hx rfl (hb hby d6_0) rfl rfl k_) ?_
  refine own_Goes.via (T' := s₁) (g' := (mkF m 13 #[.val (.ref ao), .val (.ref az)] [])) (fun t_ k_ => XS.ifnonnullYes X0.here hx rfl (pc0 := 1) (pc' := 13) rfl (hb hby d6_1) rfl (by decide) (by decide) k_) ?_
  refine own_Goes.via (T' := s₁) (g' := (mkF m 14 #[.val (.ref ao), .val (.ref az)] [(.ref ao)])) (fun t_ k_ => XS.aloadN X0.here hx rfl (hb hby d6_13) rfl rfl k_) ?_
  obtain ⟨fs, hr, hrun, hended, hW, hsame⟩ := X0.leave (v := some (.ref ao)) (fun h => by rw [Bd.returns] at h; cases h)
  refine own_Goes.fin (retOut X0 hx Bd.returns rfl (Or.inr (Or.inr (Or.inr (Or.inr ⟨rfl, rfl, rfl⟩)))) (hb hby d6_14) hr) hrun hended ?_
  subst hPd
  refine ⟨_, _, rfl, ?_, ⟨_, rfl⟩, hW, hsame.mono (by decide) (by decide)⟩
  show Q6 Z ao az h0 n0 _ s₁.heap _
  rw [e0]
  exact ⟨(by first | rfl | (simp only [])), N0, rfl⟩
theorem d3_0 : decode prog_1_method_1_code 0 = .ok (.aload_n 0, 1) := by decide +kernel
theorem d3_1 : decode prog_1_method_1_code 1 = .ok (.invokespecial 1, 3) := by decide +kernel
theorem d3_4 : decode prog_1_method_1_code 4 = .ok (.aload_n 1, 1) := by decide +kernel
theorem d3_5 : decode prog_1_method_1_code 5 = .ok (.ldc 7, 2) := by decide +kernel
theorem d3_7 : decode prog_1_method_1_code 7 = .ok (.invokestatic 9, 3) := by decide +kernel
theorem d3_10 : decode prog_1_method_1_code 10 = .ok (.pop, 1) := by decide +kernel
theorem d3_11 : decode prog_1_method_1_code 11 = .ok (.aload_n 2, 1) := by decide +kernel
theorem d3_12 : decode prog_1_method_1_code 12 = .ok (.ldc 15, 2) := by decide +kernel
theorem d3_14 : decode prog_1_method_1_code 14 = .ok (.invokestatic 9, 3) := by decide +kernel
theorem d3_17 : decode prog_1_method_1_code 17 = .ok (.pop, 1) := by decide +kernel
theorem d3_18 : decode prog_1_method_1_code 18 = .ok (.aload_n 0, 1) := by decide +kernel
theorem d3_19 : decode prog_1_method_1_code 19 = .ok (.aload_n 1, 1) := by decide +kernel
theorem d3_20 : decode prog_1_method_1_code 20 = .ok (.putfield 17, 3) := by decide +kernel
theorem d3_23 : decode prog_1_method_1_code 23 = .ok (.aload_n 0, 1) := by decide +kernel
theorem d3_24 : decode prog_1_method_1_code 24 = .ok (.aload_n 2, 1) := by decide +kernel
theorem d3_25 : decode prog_1_method_1_code 25 = .ok (.putfield 22, 3) := by decide +kernel
theorem d3_28 : decode prog_1_method_1_code 28 = .ok (.return_, 1) := by decide +kernel
theorem pn_3 : plainName "com/example/wildsuit/wildsuit/card/Card" = true := by first | (simp [plainName, overriddenIn]; done) | decide +kernel
theorem pd_3_0 : parseMethodDescriptor "()V" = some ⟨[], none⟩ := by decide +kernel
theorem pd_3_1 : parseMethodDescriptor "(Ljava/lang/Object;Ljava/lang/String;)Ljava/lang/Object;" = some ⟨[(.object "java/lang/Object"), (.object "java/lang/String")], some (.object "java/lang/Object")⟩ := by decide +kernel
theorem ef_3 (m : MethodId) (ao : Addr) (ar : Addr) (au : Addr) : entryFrame m #[(.ref ao), (.ref ar), (.ref au)] 3 = mkF m 0 #[.val (.ref ao), .val (.ref ar), .val (.ref au)] [] := by first | (simp [entryFrame, mkF, argsToLocals, Value.category]; done) | rfl
def Q3 (Z : State) (ao : Addr) (ar : Addr) (au : Addr) (h0 : Heap) (n0 : Nat) (v : Option Value) (h : Heap) (L : List Loc) : Prop := v = none ∧ Fr n0 L ∧ Keep h0 h [ao] ∧ Exa Z h ao "com/example/wildsuit/wildsuit/card/Card" ∧ Fld Z h ao "com/example/wildsuit/wildsuit/card/Card" "rank" "Lcom/example/wildsuit/wildsuit/card/Rank;" (.ref ar) ∧ Fld Z h ao "com/example/wildsuit/wildsuit/card/Card" "suit" "Lcom/example/wildsuit/wildsuit/card/Suit;" (.ref au)
set_option maxRecDepth 65536 in
set_option maxHeartbeats 40000000 in
theorem rm3 (l : Launch) (Z : State) (a0 : Array Value) (hw : ∀ d ∈ tables_1, d.before a0 Z = true) (ws : List Jvm.Cond) (ao : Addr) (ar : Addr) (au : Addr) (h0 : Heap) (n0 : Nat) (Z0 : n0 ≤ h0.size) (PF0 : Exa Z h0 ao "com/example/wildsuit/wildsuit/card/Card") (PF1 : Fld Z h0 ao "com/example/wildsuit/wildsuit/card/Card" "rank" "Lcom/example/wildsuit/wildsuit/card/Rank;" .null) (PF2 : Fld Z h0 ao "com/example/wildsuit/wildsuit/card/Card" "suit" "Lcom/example/wildsuit/wildsuit/card/Suit;" .null) (ge_ao : n0 ≤ ao) :
    MetFree l (⟨"com/example/wildsuit/wildsuit/card/Card", "<init>", "(Lcom/example/wildsuit/wildsuit/card/Rank;Lcom/example/wildsuit/wildsuit/card/Suit;)V"⟩ : MethodName) (head1 (Jvm.Cond.code (⟨"com/example/wildsuit/wildsuit/card/Card", "<init>", "(Lcom/example/wildsuit/wildsuit/card/Rank;Lcom/example/wildsuit/wildsuit/card/Suit;)V"⟩ : MethodName) prog_1_method_1_code 3 none :: ws) ({ frames := 2, cells := 4, slots := 40, locals := 24 } : Room)) (fun a U => a = #[(.ref ao), (.ref ar), (.ref au)] ∧ Z.Warmed39 U.vm ∧ U.heap = h0) (fun _ _ _ _ _ => True) (fun _ U o U' => ∃ v L, o = .returned v ∧ Q3 Z ao ar au h0 n0 v U'.heap L ∧ ReturnedEndW U o U' L ({ frames := 2, cells := 4, slots := 40, locals := 24 } : Room).cells ({ frames := 2, cells := 4, slots := 40, locals := 24 } : Room).slots) := by
  refine MetFree.of_bodySF (plainFor_of_name pn_3) hisR ?_
  intro p e s m args below meth c s₁ Bd hml0 hP hK
  obtain ⟨rfl, hZ, hh⟩ := hP
  have hx := Bd.exec
  have hby := Bd.bytes
  have hml : c.maxLocals = 3 := hml0
  have hown : s.vm.findClass "com/example/wildsuit/wildsuit/card/Card" = some m.cls := findClass_of_methodNamed Bd.named
  have hnm := (name_of_methodNamed Bd.named Bd.method).1
  have X0 : Stand p l e ({ frames := 2, cells := 4, slots := 40, locals := 24 } : Room) (s.setVm s.vm) m #[(.ref ao), (.ref ar), (.ref au)] below meth c s₁ [] 0 0 := Stand.of_body Bd
  have e0 : s₁.heap = h0 := by rw [← hh, Bd.state]; rfl
  have N0 := Fr.nil n0
  suffices G : own_Goes p.tables e below (fun o U' => ∃ v L, o = .returned v ∧ Q3 Z ao ar au h0 n0 v U'.heap L ∧ ReturnedEndW s o U' L ({ frames := 2, cells := 4, slots := 40, locals := 24 } : Room).cells ({ frames := 2, cells := 4, slots := 40, locals := 24 } : Room).slots) s₁ (mkF m 0 #[.val (.ref ao), .val (.ref ar), .val (.ref au)] []) by
    obtain ⟨t2_, o2_, z1_, z2_, z3_, z4_⟩ := G
    exact ⟨t2_, o2_, castTop (ef_3 m ao ar au) z1_, z2_, z3_, z4_⟩
  generalize hPd : (fun (o : Outcome) (U' : State) => ∃ v L, o = .returned v ∧ Q3 Z ao ar au h0 n0 v U'.heap L ∧ ReturnedEndW s o U' L ({ frames := 2, cells := 4, slots := 40, locals := 24 } : Room).cells ({ frames := 2, cells := 4, slots := 40, locals := 24 } : Room).slots) = P
  have hS : s.Since s.vm 0 := (State.WarmedH.refl s).since 0
  have hk : 0 ≤ h0.size := Nat.zero_le _
  refine own_Goes.via (T' := s₁) (g' := (mkF m 1 #[.val (.ref ao), .val (.ref ar), .val (.ref au)] [(.ref ao)])) (fun t_ k_ => XS.aloadN X0.here hx rfl (hb hby d3_0) rfl rfl k_) ?_
  obtain ⟨_, _, ⟨T1, L1, k1, n1⟩, -, X1, ⟨Lc1, hQ1, l1, y1, z1⟩, st1⟩ := X0.specialBack hx (y := (⟨"java/lang/Record", "<init>", "()V"⟩ : MethodName)) rfl hown (mvT hZ (hw _ (List.mem_of_getElem? (i := 20) rfl))) (mvT hZ (hw _ (List.mem_of_getElem? (i := 21) rfl))) (mvT hZ (hw _ (List.mem_of_getElem? (i := 24) rfl))) (by decide) (backOf (W := 0) (rm4 l Z a0 hw [] ao h0 n0 Z0 ) hZ (hw _ (List.mem_of_getElem? (i := 24) rfl)) (hw _ (List.mem_of_getElem? (i := 23) rfl)) (by decide) (by decide)) (g := (mkF m 1 #[.val (.ref ao), .val (.ref ar), .val (.ref au)] [(.ref ao)])) rfl (by rw [hml]; rfl) (Steps.refl _) (a := ao) (argsL := []) (rest := []) (lenOf pd_3_0 rfl) rfl (by show 2 * 0 + _ ≤ _; exact Nat.le_of_eq rfl) (hb hby d3_1) (fun _ _ => ⟨rfl, e0, (by decide : 0 + 0 ≤ _), (by decide : 0 + 0 ≤ _)⟩)
  dsimp only [Pt.U, Pt.locs, Pt.cells, Pt.slots] at X1 l1 y1 z1 st1 hQ1
  subst l1 y1 z1
  obtain ⟨rfl, Nq1, hh1⟩ := hQ1
  have N1 := Fr.app N0 Nq1
  refine own_Goes.via (T' := T1) (g' := (mkF m 4 #[.val (.ref ao), .val (.ref ar), .val (.ref au)] [])) (fun t_ k_ => st1.trans k_) ?_
  refine own_Goes.via (T' := T1) (g' := (mkF m 5 #[.val (.ref ao), .val (.ref ar), .val (.ref au)] [(.ref ar)])) (fun t_ k_ => XS.aloadN X1.here hx rfl (hb hby d3_4) rfl rfl k_) ?_
  obtain ⟨a2, T2, h2, k2, X2, e2, E2, hS, hk, hZ, hown, st2⟩ := ldcS X1 hx hZ hown (hw _ (List.mem_of_getElem? (i := 28) rfl)) (own_wS hw) hh1 hS hk (g := (mkF m 5 #[.val (.ref ao), .val (.ref ar), .val (.ref au)] [(.ref ar)])) rfl (hb hby d3_5) (n := 16) (by decide) (by decide) (by decide) (by decide)
  have E3 : Exa Z h2 ao "com/example/wildsuit/wildsuit/card/Card" := PF0.ext E2
  have F4 : Fld Z h2 ao "com/example/wildsuit/wildsuit/card/Card" "rank" "Lcom/example/wildsuit/wildsuit/card/Rank;" .null := PF1.ext E2
  have F5 : Fld Z h2 ao "com/example/wildsuit/wildsuit/card/Card" "suit" "Lcom/example/wildsuit/wildsuit/card/Suit;" .null := PF2.ext E2
  have sz2 : n0 ≤ h2.size := Nat.le_trans Z0 E2.1
  have K2 : Keep h0 h2 [ao] := ((Keep.refl h0 [ao])).ext E2
  refine own_Goes.via (T' := T2) (g' := (mkF m 7 #[.val (.ref ao), .val (.ref ar), .val (.ref au)] [(.ref a2), (.ref ar)])) (st2) ?_
  obtain ⟨_, _, ⟨T6, L6, k6, n6⟩, -, X6, ⟨Lc6, hQ6, l6, y6, z6⟩, st6⟩ := Jvm.LawKit.callS X2 hx (y := (⟨"java/util/Objects", "requireNonNull", "(Ljava/lang/Object;Ljava/lang/String;)Ljava/lang/Object;"⟩ : MethodName)) hown (mvT hZ (hw _ (List.mem_of_getElem? (i := 36) rfl))) (mvT hZ (hw _ (List.mem_of_getElem? (i := 37) rfl))) (mvT hZ (hw _ (List.mem_of_getElem? (i := 38) rfl))) (mvT hZ (hw _ (List.mem_of_getElem? (i := 39) rfl))) (by decide) (backOf (W := 0) (rm6 l Z a0 hw [] ar a2 h2 n0 sz2 ) hZ (hw _ (List.mem_of_getElem? (i := 39) rfl)) (hw _ (List.mem_of_getElem? (i := 38) rfl)) (by decide) (by decide)) (g := (mkF m 7 #[.val (.ref ao), .val (.ref ar), .val (.ref au)] [(.ref a2), (.ref ar)])) rfl (by rw [hml]; rfl) (argsL := [(.ref ar), (.ref a2)]) (rest := []) (lenOf pd_3_1 rfl) rfl (by show 2 * 0 + _ ≤ _; exact Nat.le_of_eq rfl) (hb hby d3_7) (fun _ _ => ⟨rfl, e2, (by decide : 2 + 0 ≤ _), (by decide : 20 + 0 ≤ _)⟩)
  dsimp only [Pt.U, Pt.locs, Pt.cells, Pt.slots] at X6 l6 y6 z6 st6 hQ6
  subst l6 y6 z6
  obtain ⟨rfl, Nq6, hh6⟩ := hQ6
  have N6 := Fr.app N1 Nq6
  refine own_Goes.via (T' := T6) (g' := (mkF m 10 #[.val (.ref ao), .val (.ref ar), .val (.ref au)] [(.ref ar)])) (st6) ?_
  refine own_Goes.via (T' := T6) (g' := (mkF m 11 #[.val (.ref ao), .val (.ref ar), .val (.ref au)] [])) (fun t_ k_ => XS.pop X6.here hx rfl (hb hby d3_10) rfl rfl k_) ?_
  refine own_Goes.via (T' := T6) (g' := (mkF m 12 #[.val (.ref ao), .val (.ref ar), .val (.ref au)] [(.ref au)])) (fun t_ k_ => XS.aloadN X6.here hx rfl (hb hby d3_11) rfl rfl k_) ?_
  obtain ⟨a7, T7, h7, k7, X7, e7, E7, hS, hk, hZ, hown, st7⟩ := ldcS X6 hx hZ hown (hw _ (List.mem_of_getElem? (i := 40) rfl)) (own_wS hw) hh6 hS hk (g := (mkF m 12 #[.val (.ref ao), .val (.ref ar), .val (.ref au)] [(.ref au)])) rfl (hb hby d3_12) (n := 16) (by decide) (by decide) (by decide) (by decide)
  have E8 : Exa Z h7 ao "com/example/wildsuit/wildsuit/card/Card" := E3.ext E7
  have F9 : Fld Z h7 ao "com/example/wildsuit/wildsuit/card/Card" "rank" "Lcom/example/wildsuit/wildsuit/card/Rank;" .null := F4.ext E7
  have F10 : Fld Z h7 ao "com/example/wildsuit/wildsuit/card/Card" "suit" "Lcom/example/wildsuit/wildsuit/card/Suit;" .null := F5.ext E7
  have sz7 : n0 ≤ h7.size := Nat.le_trans sz2 E7.1
  have K7 : Keep h0 h7 [ao] := (K2).ext E7
  refine own_Goes.via (T' := T7) (g' := (mkF m 14 #[.val (.ref ao), .val (.ref ar), .val (.ref au)] [(.ref a7), (.ref au)])) (st7) ?_
  obtain ⟨_, _, ⟨T11, L11, k11, n11⟩, -, X11, ⟨Lc11, hQ11, l11, y11, z11⟩, st11⟩ := Jvm.LawKit.callS X7 hx (y := (⟨"java/util/Objects", "requireNonNull", "(Ljava/lang/Object;Ljava/lang/String;)Ljava/lang/Object;"⟩ : MethodName)) hown (mvT hZ (hw _ (List.mem_of_getElem? (i := 36) rfl))) (mvT hZ (hw _ (List.mem_of_getElem? (i := 37) rfl))) (mvT hZ (hw _ (List.mem_of_getElem? (i := 38) rfl))) (mvT hZ (hw _ (List.mem_of_getElem? (i := 39) rfl))) (by decide) (backOf (W := 0) (rm6 l Z a0 hw [] au a7 h7 n0 sz7 ) hZ (hw _ (List.mem_of_getElem? (i := 39) rfl)) (hw _ (List.mem_of_getElem? (i := 38) rfl)) (by decide) (by decide)) (g := (mkF m 14 #[.val (.ref ao), .val (.ref ar), .val (.ref au)] [(.ref a7), (.ref au)])) rfl (by rw [hml]; rfl) (argsL := [(.ref au), (.ref a7)]) (rest := []) (lenOf pd_3_1 rfl) rfl (by show 2 * 0 + _ ≤ _; exact Nat.le_of_eq rfl) (hb hby d3_14) (fun _ _ => ⟨rfl, e7, (by decide : 4 + 0 ≤ _), (by decide : 40 + 0 ≤ _)⟩)
  dsimp only [Pt.U, Pt.locs, Pt.cells, Pt.slots] at X11 l11 y11 z11 st11 hQ11
  subst l11 y11 z11
  obtain ⟨rfl, Nq11, hh11⟩ := hQ11
  have N11 := Fr.app N6 Nq11
  refine own_Goes.via (T' := T11) (g' := (mkF m 17 #[.val (.ref ao), .val (.ref ar), .val (.ref au)] [(.ref au)])) (st11) ?_
  refine own_Goes.via (T' := T11) (g' := (mkF m 18 #[.val (.ref ao), .val (.ref ar), .val (.ref au)] [])) (fun t_ k_ => XS.pop X11.here hx rfl (hb hby d3_17) rfl rfl k_) ?_
  refine own_Goes.via (T' := T11) (g' := (mkF m 19 #[.val (.ref ao), .val (.ref ar), .val (.ref au)] [(.ref ao)])) (fun t_ k_ => XS.aloadN X11.here hx rfl (hb hby d3_18) rfl rfl k_) ?_
  refine own_Goes.via (T' := T11) (g' := (mkF m 20 #[.val (.ref ao), .val (.ref ar), .val (.ref au)] [(.ref ar), (.ref ao)])) (fun t_ k_ => XS.aloadN X11.here hx rfl (hb hby d3_19) rfl rfl k_) ?_
  obtain ⟨T12, h12, X12, e12, W12, st12⟩ := putF X11 hx hZ hown (host := "") (Or.inl (hw _ (List.mem_of_getElem? (i := 41) rfl))) Via.refl hh11 F9 E8 (Or.inr ⟨(hw _ (List.mem_of_getElem? (i := 42) rfl)), rfl, hnm⟩) (hw _ (List.mem_of_getElem? (i := 2) rfl)) (ty := (.object "com/example/wildsuit/wildsuit/card/Rank")) (by decide) rfl rfl (g := (mkF m 20 #[.val (.ref ao), .val (.ref ar), .val (.ref au)] [(.ref ar), (.ref ao)])) rfl rfl (hb hby d3_20)
  have E13 : Exa Z h12 ao "com/example/wildsuit/wildsuit/card/Card" := E8.wr W12
  have F14 : Fld Z h12 ao "com/example/wildsuit/wildsuit/card/Card" "suit" "Lcom/example/wildsuit/wildsuit/card/Suit;" .null := F10.other W12 (Or.inr (slot_ne (Or.inr (hw _ (List.mem_of_getElem? (i := 44) rfl))) (Or.inr (hw _ (List.mem_of_getElem? (i := 42) rfl))) (by decide) (t := (.object "com/example/wildsuit/wildsuit/card/Suit")) (t' := (.object "com/example/wildsuit/wildsuit/card/Rank")) (by decide) (by decide)))
  have F15 : Fld Z h12 ao "com/example/wildsuit/wildsuit/card/Card" "rank" "Lcom/example/wildsuit/wildsuit/card/Rank;" (.ref ar) := F9.same W12
  have N12 := Fr.snoc X12 N11 ge_ao
  have sz12 : n0 ≤ h12.size := Nat.le_trans sz7 (Keep.of_wr W12).1
  have hk := Nat.le_trans hk (Keep.of_wr W12).1
  have K12 : Keep h0 h12 [ao] := (K7).wr W12 (Or.inl (List.mem_of_getElem? (i := 0) rfl))
  refine own_Goes.via (T' := T12) (g' := (mkF m 23 #[.val (.ref ao), .val (.ref ar), .val (.ref au)] [])) (st12) ?_
  refine own_Goes.via (T' := T12) (g' := (mkF m 24 #[.val (.ref ao), .val (.ref ar), .val (.ref au)] [(.ref ao)])) (fun t_ k_ => XS.aloadN X12.here hx rfl (hb hby d3_23) rfl rfl k_) ?_
  refine own_Goes.via (T' := T12) (g' := (mkF m 25 #[.val (.ref ao), .val (.ref ar), .val (.ref au)] [(.ref au), (.ref ao)])) (fun t_ k_ => XS.aloadN X12.here hx rfl (hb hby d3_24) rfl rfl k_) ?_
  obtain ⟨T16, h16, X16, e16, W16, st16⟩ := putF X12 hx hZ hown (host := "") (Or.inl (hw _ (List.mem_of_getElem? (i := 43) rfl))) Via.refl e12 F14 E13 (Or.inr ⟨(hw _ (List.mem_of_getElem? (i := 44) rfl)), rfl, hnm⟩) (hw _ (List.mem_of_getElem? (i := 2) rfl)) (ty := (.object "com/example/wildsuit/wildsuit/card/Suit")) (by decide) rfl rfl (g := (mkF m 25 #[.val (.ref ao), .val (.ref ar), .val (.ref au)] [(.ref au), (.ref ao)])) rfl rfl (hb hby d3_25)
  have E17 : Exa Z h16 ao "com/example/wildsuit/wildsuit/card/Card" := E13.wr W16
  have F18 : Fld Z h16 ao "com/example/wildsuit/wildsuit/card/Card" "rank" "Lcom/example/wildsuit/wildsuit/card/Rank;" (.ref ar) := F15.other W16 (Or.inr (slot_ne (Or.inr (hw _ (List.mem_of_getElem? (i := 42) rfl))) (Or.inr (hw _ (List.mem_of_getElem? (i := 44) rfl))) (by decide) (t := (.object "com/example/wildsuit/wildsuit/card/Rank")) (t' := (.object "com/example/wildsuit/wildsuit/card/Suit")) (by decide) (by decide)))
  have F19 : Fld Z h16 ao "com/example/wildsuit/wildsuit/card/Card" "suit" "Lcom/example/wildsuit/wildsuit/card/Suit;" (.ref au) := F14.same W16
  have N16 := Fr.snoc X16 N12 ge_ao
  have sz16 : n0 ≤ h16.size := Nat.le_trans sz12 (Keep.of_wr W16).1
  have hk := Nat.le_trans hk (Keep.of_wr W16).1
  have K16 : Keep h0 h16 [ao] := (K12).wr W16 (Or.inl (List.mem_of_getElem? (i := 0) rfl))
  refine own_Goes.via (T' := T16) (g' := (mkF m 28 #[.val (.ref ao), .val (.ref ar), .val (.ref au)] [])) (st16) ?_
  obtain ⟨fs, hr, hrun, hended, hE⟩ := leaveW X16 hS (by rw [e16]; exact hk) (v := none) (fun _ => rfl)
  refine own_Goes.fin (X16.returnOut hx Bd.returns (hb hby d3_28) hr) hrun hended ?_
  subst hPd
  refine ⟨_, _, rfl, ?_, hE.1, hE.2.1, hE.2.2.1, hE.2.2.2.mono (by decide) (by decide)⟩
  show Q3 Z ao ar au h0 n0 _ T16.heap _
  rw [e16]
  exact ⟨rfl, N16, K16, E17, F18, F19⟩
theorem d7_0 : decode prog_1_method_11_code 0 = .ok (.aload_n 0, 1) := by decide +kernel
theorem d7_1 : decode prog_1_method_11_code 1 = .ok (.aload_n 1, 1) := by decide +kernel
theorem d7_2 : decode prog_1_method_11_code 2 = .ok (.if_acmp .eq 37, 3) := by decide +kernel
theorem d7_5 : decode prog_1_method_11_code 5 = .ok (.aload_n 1, 1) := by decide +kernel
theorem d7_6 : decode prog_1_method_11_code 6 = .ok (.instanceof 18, 3) := by decide +kernel
theorem d7_9 : decode prog_1_method_11_code 9 = .ok (.ifCond .eq 34, 3) := by decide +kernel
theorem d7_12 : decode prog_1_method_11_code 12 = .ok (.aload_n 1, 1) := by decide +kernel
theorem d7_13 : decode prog_1_method_11_code 13 = .ok (.checkcast 18, 3) := by decide +kernel
theorem d7_16 : decode prog_1_method_11_code 16 = .ok (.astore_n 2, 1) := by decide +kernel
theorem d7_17 : decode prog_1_method_11_code 17 = .ok (.aload_n 0, 1) := by decide +kernel
theorem d7_18 : decode prog_1_method_11_code 18 = .ok (.getfield 17, 3) := by decide +kernel
theorem d7_21 : decode prog_1_method_11_code 21 = .ok (.aload_n 2, 1) := by decide +kernel
theorem d7_22 : decode prog_1_method_11_code 22 = .ok (.getfield 17, 3) := by decide +kernel
theorem d7_25 : decode prog_1_method_11_code 25 = .ok (.if_acmp .ne 18, 3) := by decide +kernel
theorem d7_28 : decode prog_1_method_11_code 28 = .ok (.aload_n 0, 1) := by decide +kernel
theorem d7_29 : decode prog_1_method_11_code 29 = .ok (.getfield 22, 3) := by decide +kernel
theorem d7_32 : decode prog_1_method_11_code 32 = .ok (.aload_n 2, 1) := by decide +kernel
theorem d7_33 : decode prog_1_method_11_code 33 = .ok (.getfield 22, 3) := by decide +kernel
theorem d7_36 : decode prog_1_method_11_code 36 = .ok (.if_acmp .ne 7, 3) := by decide +kernel
theorem d7_39 : decode prog_1_method_11_code 39 = .ok (.iconst 1, 1) := by decide +kernel
theorem d7_40 : decode prog_1_method_11_code 40 = .ok (.goto 4, 3) := by decide +kernel
theorem d7_43 : decode prog_1_method_11_code 43 = .ok (.iconst 0, 1) := by decide +kernel
theorem d7_44 : decode prog_1_method_11_code 44 = .ok (.ireturn, 1) := by decide +kernel
theorem pn_7 : plainName "com/example/wildsuit/wildsuit/card/Card" = true := by first | (simp [plainName, overriddenIn]; done) | decide +kernel
theorem ef_7a (m : MethodId) (ao : Addr) (ac : Addr) : entryFrame m #[(.ref ao), (.ref ac)] 3 = mkF m 0 #[.val (.ref ao), .val (.ref ac), .unset] [] := by first | (simp [entryFrame, mkF, argsToLocals, Value.category]; done) | rfl
def Q7a (Z : State) (ao : Addr) (ac : Addr) (r1 : Addr) (u1 : Addr) (r2 : Addr) (u2 : Addr) (h0 : Heap) (n0 : Nat) (v : Option Value) (h : Heap) (L : List Loc) : Prop := v = some (.int (if ao = ac then (1 : Int32) else (if r1 = r2 then (if u1 = u2 then (1 : Int32) else (0 : Int32)) else (0 : Int32)))) ∧ Fr n0 L ∧ h = h0
set_option maxRecDepth 65536 in
set_option maxHeartbeats 40000000 in
theorem rm7a (l : Launch) (Z : State) (a0 : Array Value) (hw : ∀ d ∈ tables_1, d.before a0 Z = true) (ws : List Jvm.Cond) (ao : Addr) (ac : Addr) (r1 : Addr) (u1 : Addr) (r2 : Addr) (u2 : Addr) (h0 : Heap) (n0 : Nat) (Z0 : n0 ≤ h0.size) (PF0 : Exa Z h0 ac "com/example/wildsuit/wildsuit/card/Card") (PF1 : Fld Z h0 ao "com/example/wildsuit/wildsuit/card/Card" "rank" "Lcom/example/wildsuit/wildsuit/card/Rank;" (.ref r1)) (PF2 : Fld Z h0 ao "com/example/wildsuit/wildsuit/card/Card" "suit" "Lcom/example/wildsuit/wildsuit/card/Suit;" (.ref u1)) (PF3 : Fld Z h0 ac "com/example/wildsuit/wildsuit/card/Card" "rank" "Lcom/example/wildsuit/wildsuit/card/Rank;" (.ref r2)) (PF4 : Fld Z h0 ac "com/example/wildsuit/wildsuit/card/Card" "suit" "Lcom/example/wildsuit/wildsuit/card/Suit;" (.ref u2)) :
    MetFree l (⟨"com/example/wildsuit/wildsuit/card/Card", "equals", "(Ljava/lang/Object;)Z"⟩ : MethodName) (head1 (Jvm.Cond.code (⟨"com/example/wildsuit/wildsuit/card/Card", "equals", "(Ljava/lang/Object;)Z"⟩ : MethodName) prog_1_method_11_code 3 (some .boolean) :: ws) ({ frames := 0, cells := 0, slots := 0, locals := 0 } : Room)) (fun a U => a = #[(.ref ao), (.ref ac)] ∧ Z.Warmed39 U.vm ∧ U.heap = h0) (fun _ _ _ _ _ => True) (fun _ U o U' => ∃ v L, o = .returned v ∧ Q7a Z ao ac r1 u1 r2 u2 h0 n0 v U'.heap L ∧ FrameEnd U o U' L ({ frames := 0, cells := 0, slots := 0, locals := 0 } : Room).cells ({ frames := 0, cells := 0, slots := 0, locals := 0 } : Room).slots) := by
  refine MetFree.of_bodySF (plainFor_of_name pn_7) hisR ?_
  intro p e s m args below meth c s₁ Bd hml0 hP hK
  obtain ⟨rfl, hZ, hh⟩ := hP
  have hx := Bd.exec
  have hby := Bd.bytes
  have hml : c.maxLocals = 3 := hml0
  have hown : s.vm.findClass "com/example/wildsuit/wildsuit/card/Card" = some m.cls := findClass_of_methodNamed Bd.named
  have hnm := (name_of_methodNamed Bd.named Bd.method).1
  have X0 : Stand p l e ({ frames := 0, cells := 0, slots := 0, locals := 0 } : Room) s m #[(.ref ao), (.ref ac)] below meth c s₁ [] 0 0 := Stand.of_body Bd
  have e0 : s₁.heap = h0 := by rw [← hh, Bd.state]; rfl
  have N0 := Fr.nil n0
  suffices G : own_Goes p.tables e below (fun o U' => ∃ v L, o = .returned v ∧ Q7a Z ao ac r1 u1 r2 u2 h0 n0 v U'.heap L ∧ FrameEnd s o U' L ({ frames := 0, cells := 0, slots := 0, locals := 0 } : Room).cells ({ frames := 0, cells := 0, slots := 0, locals := 0 } : Room).slots) s₁ (mkF m 0 #[.val (.ref ao), .val (.ref ac), .unset] []) by
    obtain ⟨t2_, o2_, z1_, z2_, z3_, z4_⟩ := G
    exact ⟨t2_, o2_, castTop (ef_7a m ao ac) z1_, z2_, z3_, z4_⟩
  generalize hPd : (fun (o : Outcome) (U' : State) => ∃ v L, o = .returned v ∧ Q7a Z ao ac r1 u1 r2 u2 h0 n0 v U'.heap L ∧ FrameEnd s o U' L ({ frames := 0, cells := 0, slots := 0, locals := 0 } : Room).cells ({ frames := 0, cells := 0, slots := 0, locals := 0 } : Room).slots) = P
  refine own_Goes.via (T' := s₁) (g' := (mkF m 1 #[.val (.ref ao), .val (.ref ac), .unset] [(.ref ao)])) (fun t_ k_ => XS.aloadN X0.here hx rfl (hb hby d7_0) rfl rfl k_) ?_
  refine own_Goes.via (T' := s₁) (g' := (mkF m 2 #[.val (.ref ao), .val (.ref ac), .unset] [(.ref ac), (.ref ao)])) (fun t_ k_ => XS.aloadN X0.here hx rfl (hb hby d7_1) rfl rfl k_) ?_
  suffices J44_5 : ∀ (T4 : State) (L4 : List Loc) (X4 : Stand p l e ({ frames := 0, cells := 0, slots := 0, locals := 0 } : Room) s m #[(.ref ao), (.ref ac)] below meth c T4 L4 0 0) (e4 : T4.heap = h0) (N4 : Fr n0 L4) (sl44_2 : Slot) (v44_3 : Int32) (hv44_3 : v44_3 = (if ao = ac then (1 : Int32) else (if r1 = r2 then (if u1 = u2 then (1 : Int32) else (0 : Int32)) else (0 : Int32)))), own_Goes p.tables e below P T4 (mkF m 44 #[.val (.ref ao), .val (.ref ac), sl44_2] [(.int v44_3)]) by
    by_cases hc2_1 : ao = ac
    · refine own_Goes.via (T' := s₁) (g' := (mkF m 39 #[.val (.ref ao), .val (.ref ac), .unset] [])) (fun t_ k_ => Jvm.RoadKit.acmp (g := (mkF m 2 #[.val (.ref ao), .val (.ref ac), .unset] [(.ref ac), (.ref ao)])) X0 hx rfl rfl rfl (pc0 := 2) (pc' := 39) (same := true) rfl (hb hby d7_2) rfl (decide_eq_true (congrArg Value.ref hc2_1)) (by decide) (by decide) k_) ?_
      refine own_Goes.via (T' := s₁) (g' := (mkF m 40 #[.val (.ref ao), .val (.ref ac), .unset] [(.int (1 : Int32))])) (fun t_ k_ => XS.iconst X0.here hx rfl (hb hby d7_39) k_) ?_
      refine own_Goes.via (T' := s₁) (g' := (mkF m 44 #[.val (.ref ao), .val (.ref ac), .unset] [(.int (1 : Int32))])) (fun t_ k_ => XS.goto X0.here hx rfl (pc0 := 40) (pc' := 44) rfl (hb hby d7_40) (by decide) (by decide) k_) ?_
      exact J44_5 s₁ _ X0 e0 N0 (.unset) (1 : Int32) ((if_pos hc2_1)).symm
    · refine own_Goes.via (T' := s₁) (g' := (mkF m 5 #[.val (.ref ao), .val (.ref ac), .unset] [])) (fun t_ k_ => Jvm.RoadKit.acmp (g := (mkF m 2 #[.val (.ref ao), .val (.ref ac), .unset] [(.ref ac), (.ref ao)])) X0 hx rfl rfl rfl (pc0 := 2) (pc' := 5) (same := false) rfl (hb hby d7_2) rfl (decide_eq_false fun q => hc2_1 (Value.ref.inj q)) (by decide) (by decide) k_) ?_
      refine own_Goes.via (T' := s₁) (g' := (mkF m 6 #[.val (.ref ao), .val (.ref ac), .unset] [(.ref ac)])) (fun t_ k_ => XS.aloadN X0.here hx rfl (hb hby d7_5) rfl rfl k_) ?_
      obtain ⟨T6, X6, e6, st6⟩ := instY X0 hx hZ hown (hw _ (List.mem_of_getElem? (i := 54) rfl)) e0 (Ins.self PF0) (g := (mkF m 6 #[.val (.ref ao), .val (.ref ac), .unset] [(.ref ac)])) rfl rfl (hb hby d7_6)
      refine own_Goes.via (T' := T6) (g' := (mkF m 9 #[.val (.ref ao), .val (.ref ac), .unset] [(.int (1 : Int32))])) (st6) ?_
      refine own_Goes.via (T' := T6) (g' := (mkF m 12 #[.val (.ref ao), .val (.ref ac), .unset] [])) (fun t_ k_ => XS.ifNo X6.here hx rfl (hb hby d7_9) rfl ((if0 _ _).trans (feq (by decide : ¬ ((1 : Int32) = (0 : Int32)))).1) k_) ?_
      refine own_Goes.via (T' := T6) (g' := (mkF m 13 #[.val (.ref ao), .val (.ref ac), .unset] [(.ref ac)])) (fun t_ k_ => XS.aloadN X6.here hx rfl (hb hby d7_12) rfl rfl k_) ?_
      obtain ⟨T7, X7, e7, st7⟩ := castY X6 hx hZ hown (hw _ (List.mem_of_getElem? (i := 54) rfl)) e6 (Ins.self PF0) (g := (mkF m 13 #[.val (.ref ao), .val (.ref ac), .unset] [(.ref ac)])) rfl rfl (hb hby d7_13)
      refine own_Goes.via (T' := T7) (g' := (mkF m 16 #[.val (.ref ao), .val (.ref ac), .unset] [(.ref ac)])) (st7) ?_
      refine own_Goes.via (T' := T7) (g' := (mkF m 17 #[.val (.ref ao), .val (.ref ac), .val (.ref ac)] [])) (fun t_ k_ => XS.astoreN X7.here hx rfl (hb hby d7_16) rfl rfl (l' := #[.val (.ref ao), .val (.ref ac), .val (.ref ac)]) rfl k_) ?_
      refine own_Goes.via (T' := T7) (g' := (mkF m 18 #[.val (.ref ao), .val (.ref ac), .val (.ref ac)] [(.ref ao)])) (fun t_ k_ => XS.aloadN X7.here hx rfl (hb hby d7_17) rfl rfl k_) ?_
      obtain ⟨T8, X8, e8, st8⟩ := getF X7 hx hZ hown (host := "") (Or.inl (hw _ (List.mem_of_getElem? (i := 41) rfl))) Via.refl e7 PF1 (g := (mkF m 18 #[.val (.ref ao), .val (.ref ac), .val (.ref ac)] [(.ref ao)])) rfl rfl (hb hby d7_18)
      refine own_Goes.via (T' := T8) (g' := (mkF m 21 #[.val (.ref ao), .val (.ref ac), .val (.ref ac)] [(.ref r1)])) (st8) ?_
      refine own_Goes.via (T' := T8) (g' := (mkF m 22 #[.val (.ref ao), .val (.ref ac), .val (.ref ac)] [(.ref ac), (.ref r1)])) (fun t_ k_ => XS.aloadN X8.here hx rfl (hb hby d7_21) rfl rfl k_) ?_
      obtain ⟨T9, X9, e9, st9⟩ := getF X8 hx hZ hown (host := "") (Or.inl (hw _ (List.mem_of_getElem? (i := 41) rfl))) Via.refl e8 PF3 (g := (mkF m 22 #[.val (.ref ao), .val (.ref ac), .val (.ref ac)] [(.ref ac), (.ref r1)])) rfl rfl (hb hby d7_22)
      refine own_Goes.via (T' := T9) (g' := (mkF m 25 #[.val (.ref ao), .val (.ref ac), .val (.ref ac)] [(.ref r2), (.ref r1)])) (st9) ?_
      by_cases hc25_10 : r1 = r2
      · refine own_Goes.via (T' := T9) (g' := (mkF m 28 #[.val (.ref ao), .val (.ref ac), .val (.ref ac)] [])) (fun t_ k_ => Jvm.RoadKit.acmp (g := (mkF m 25 #[.val (.ref ao), .val (.ref ac), .val (.ref ac)] [(.ref r2), (.ref r1)])) X9 hx rfl rfl rfl (pc0 := 25) (pc' := 28) (same := true) rfl (hb hby d7_25) rfl (decide_eq_true (congrArg Value.ref hc25_10)) (by decide) (by decide) k_) ?_
        refine own_Goes.via (T' := T9) (g' := (mkF m 29 #[.val (.ref ao), .val (.ref ac), .val (.ref ac)] [(.ref ao)])) (fun t_ k_ => XS.aloadN X9.here hx rfl (hb hby d7_28) rfl rfl k_) ?_
        obtain ⟨T11, X11, e11, st11⟩ := getF X9 hx hZ hown (host := "") (Or.inl (hw _ (List.mem_of_getElem? (i := 43) rfl))) Via.refl e9 PF2 (g := (mkF m 29 #[.val (.ref ao), .val (.ref ac), .val (.ref ac)] [(.ref ao)])) rfl rfl (hb hby d7_29)
        refine own_Goes.via (T' := T11) (g' := (mkF m 32 #[.val (.ref ao), .val (.ref ac), .val (.ref ac)] [(.ref u1)])) (st11) ?_
        refine own_Goes.via (T' := T11) (g' := (mkF m 33 #[.val (.ref ao), .val (.ref ac), .val (.ref ac)] [(.ref ac), (.ref u1)])) (fun t_ k_ => XS.aloadN X11.here hx rfl (hb hby d7_32) rfl rfl k_) ?_
        obtain ⟨T12, X12, e12, st12⟩ := getF X11 hx hZ hown (host := "") (Or.inl (hw _ (List.mem_of_getElem? (i := 43) rfl))) Via.refl e11 PF4 (g := (mkF m 33 #[.val (.ref ao), .val (.ref ac), .val (.ref ac)] [(.ref ac), (.ref u1)])) rfl rfl (hb hby d7_33)
        refine own_Goes.via (T' := T12) (g' := (mkF m 36 #[.val (.ref ao), .val (.ref ac), .val (.ref ac)] [(.ref u2), (.ref u1)])) (st12) ?_
        by_cases hc36_13 : u1 = u2
        · refine own_Goes.via (T' := T12) (g' := (mkF m 39 #[.val (.ref ao), .val (.ref ac), .val (.ref ac)] [])) (fun t_ k_ => Jvm.RoadKit.acmp (g := (mkF m 36 #[.val (.ref ao), .val (.ref ac), .val (.ref ac)] [(.ref u2), (.ref u1)])) X12 hx rfl rfl rfl (pc0 := 36) (pc' := 39) (same := true) rfl (hb hby d7_36) rfl (decide_eq_true (congrArg Value.ref hc36_13)) (by decide) (by decide) k_) ?_
          refine own_Goes.via (T' := T12) (g' := (mkF m 40 #[.val (.ref ao), .val (.ref ac), .val (.ref ac)] [(.int (1 : Int32))])) (fun t_ k_ => XS.iconst X12.here hx rfl (hb hby d7_39) k_) ?_
          refine own_Goes.via (T' := T12) (g' := (mkF m 44 #[.val (.ref ao), .val (.ref ac), .val (.ref ac)] [(.int (1 : Int32))])) (fun t_ k_ => XS.goto X12.here hx rfl (pc0 := 40) (pc' := 44) rfl (hb hby d7_40) (by decide) (by decide) k_) ?_
          exact J44_5 T12 _ X12 e12 N0 (.val (.ref ac)) (1 : Int32) (((if_neg hc2_1).trans ((if_pos hc25_10).trans (if_pos hc36_13)))).symm
        · refine own_Goes.via (T' := T12) (g' := (mkF m 43 #[.val (.ref ao), .val (.ref ac), .val (.ref ac)] [])) (fun t_ k_ => Jvm.RoadKit.acmp (g := (mkF m 36 #[.val (.ref ao), .val (.ref ac), .val (.ref ac)] [(.ref u2), (.ref u1)])) X12 hx rfl rfl rfl (pc0 := 36) (pc' := 43) (same := false) rfl (hb hby d7_36) rfl (decide_eq_false fun q => hc36_13 (Value.ref.inj q)) (by decide) (by decide) k_) ?_
          refine own_Goes.via (T' := T12) (g' := (mkF m 44 #[.val (.ref ao), .val (.ref ac), .val (.ref ac)] [(.int (0 : Int32))])) (fun t_ k_ => XS.iconst X12.here hx rfl (hb hby d7_43) k_) ?_
          exact J44_5 T12 _ X12 e12 N0 (.val (.ref ac)) (0 : Int32) (((if_neg hc2_1).trans ((if_pos hc25_10).trans (if_neg hc36_13)))).symm
      · refine own_Goes.via (T' := T9) (g' := (mkF m 43 #[.val (.ref ao), .val (.ref ac), .val (.ref ac)] [])) (fun t_ k_ => Jvm.RoadKit.acmp (g := (mkF m 25 #[.val (.ref ao), .val (.ref ac), .val (.ref ac)] [(.ref r2), (.ref r1)])) X9 hx rfl rfl rfl (pc0 := 25) (pc' := 43) (same := false) rfl (hb hby d7_25) rfl (decide_eq_false fun q => hc25_10 (Value.ref.inj q)) (by decide) (by decide) k_) ?_
        refine own_Goes.via (T' := T9) (g' := (mkF m 44 #[.val (.ref ao), .val (.ref ac), .val (.ref ac)] [(.int (0 : Int32))])) (fun t_ k_ => XS.iconst X9.here hx rfl (hb hby d7_43) k_) ?_
        exact J44_5 T9 _ X9 e9 N0 (.val (.ref ac)) (0 : Int32) (((if_neg hc2_1).trans (if_neg hc25_10))).symm
  intro T4 L4 X4 e4 N4 sl44_2 v44_3 hv44_3
  have hnar14 : nar .boolean v44_3 = v44_3 := by rw [hv44_3]; (repeat' split) <;> rfl
  obtain ⟨fs, hr, hrun, hended, hW, hsame⟩ := X4.leave (v := some (.int v44_3)) (fun h => by rw [Bd.returns] at h; cases h)
  refine own_Goes.fin (retN X4 hx (t := .boolean) Bd.returns (by simp) (hb hby d7_44) (by rw [hnar14]; exact hr)) hrun hended ?_
  subst hPd
  refine ⟨_, _, rfl, ?_, ⟨_, rfl⟩, hW, hsame.mono (by decide) (by decide)⟩
  show Q7a Z ao ac r1 u1 r2 u2 h0 n0 _ T4.heap _
  rw [e4]
  exact ⟨(by subst hv44_3; first | rfl | (simp only [])), N4, rfl⟩
theorem ef_7n (m : MethodId) (ao : Addr) : entryFrame m #[(.ref ao), .null] 3 = mkF m 0 #[.val (.ref ao), .val .null, .unset] [] := by first | (simp [entryFrame, mkF, argsToLocals, Value.category]; done) | rfl
def Q7n (Z : State) (ao : Addr) (h0 : Heap) (n0 : Nat) (v : Option Value) (h : Heap) (L : List Loc) : Prop := v = some (.int (0 : Int32)) ∧ Fr n0 L ∧ h = h0
set_option maxRecDepth 65536 in
set_option maxHeartbeats 40000000 in
theorem rm7n (l : Launch) (Z : State) (a0 : Array Value) (hw : ∀ d ∈ tables_1, d.before a0 Z = true) (ws : List Jvm.Cond) (ao : Addr) (h0 : Heap) (n0 : Nat) (Z0 : n0 ≤ h0.size) :
    MetFree l (⟨"com/example/wildsuit/wildsuit/card/Card", "equals", "(Ljava/lang/Object;)Z"⟩ : MethodName) (head1 (Jvm.Cond.code (⟨"com/example/wildsuit/wildsuit/card/Card", "equals", "(Ljava/lang/Object;)Z"⟩ : MethodName) prog_1_method_11_code 3 (some .boolean) :: ws) ({ frames := 0, cells := 0, slots := 0, locals := 0 } : Room)) (fun a U => a = #[(.ref ao), .null] ∧ Z.Warmed39 U.vm ∧ U.heap = h0) (fun _ _ _ _ _ => True) (fun _ U o U' => ∃ v L, o = .returned v ∧ Q7n Z ao h0 n0 v U'.heap L ∧ FrameEnd U o U' L ({ frames := 0, cells := 0, slots := 0, locals := 0 } : Room).cells ({ frames := 0, cells := 0, slots := 0, locals := 0 } : Room).slots) := by
  refine MetFree.of_bodySF (plainFor_of_name pn_7) hisR ?_
  intro p e s m args below meth c s₁ Bd hml0 hP hK
  obtain ⟨rfl, hZ, hh⟩ := hP
  have hx := Bd.exec
  have hby := Bd.bytes
  have hml : c.maxLocals = 3 := hml0
  have hown : s.vm.findClass "com/example/wildsuit/wildsuit/card/Card" = some m.cls := findClass_of_methodNamed Bd.named
  have hnm := (name_of_methodNamed Bd.named Bd.method).1
  have X0 : Stand p l e ({ frames := 0, cells := 0, slots := 0, locals := 0 } : Room) s m #[(.ref ao), .null] below meth c s₁ [] 0 0 := Stand.of_body Bd
  have e0 : s₁.heap = h0 := by rw [← hh, Bd.state]; rfl
  have N0 := Fr.nil n0
  suffices G : own_Goes p.tables e below (fun o U' => ∃ v L, o = .returned v ∧ Q7n Z ao h0 n0 v U'.heap L ∧ FrameEnd s o U' L ({ frames := 0, cells := 0, slots := 0, locals := 0 } : Room).cells ({ frames := 0, cells := 0, slots := 0, locals := 0 } : Room).slots) s₁ (mkF m 0 #[.val (.ref ao), .val .null, .unset] []) by
    obtain ⟨t2_, o2_, z1_, z2_, z3_, z4_⟩ := G
    exact ⟨t2_, o2_, castTop (ef_7n m ao) z1_, z2_, z3_, z4_⟩
  generalize hPd : (fun (o : Outcome) (U' : State) => ∃ v L, o = .returned v ∧ Q7n Z ao h0 n0 v U'.heap L ∧ FrameEnd s o U' L ({ frames := 0, cells := 0, slots := 0, locals := 0 } : Room).cells ({ frames := 0, cells := 0, slots := 0, locals := 0 } : Room).slots) = P
  refine own_Goes.via (T' := s₁) (g' := (mkF m 1 #[.val (.ref ao), .val .null, .unset] [(.ref ao)])) (fun t_ k_ => XS.aloadN X0.here hx rfl (hb hby d7_0) rfl rfl k_) ?_
  refine own_Goes.via (T' := s₁) (g' := (mkF m 2 #[.val (.ref ao), .val .null, .unset] [.null, (.ref ao)])) (fun t_ k_ => XS.aloadN X0.here hx rfl (hb hby d7_1) rfl rfl k_) ?_
  refine own_Goes.via (T' := s₁) (g' := (mkF m 5 #[.val (.ref ao), .val .null, .unset] [])) (fun t_ k_ => Jvm.RoadKit.acmp (g := (mkF m 2 #[.val (.ref ao), .val .null, .unset] [.null, (.ref ao)])) X0 hx rfl rfl rfl (pc0 := 2) (pc' := 5) (same := false) rfl (hb hby d7_2) rfl (decide_eq_false nofun) (by decide) (by decide) k_) ?_
  refine own_Goes.via (T' := s₁) (g' := (mkF m 6 #[.val (.ref ao), .val .null, .unset] [.null])) (fun t_ k_ => XS.aloadN X0.here hx rfl (hb hby d7_5) rfl rfl k_) ?_
  refine own_Goes.via (T' := s₁) (g' := (mkF m 9 #[.val (.ref ao), .val .null, .unset] [(.int (0 : Int32))])) (X0.instanceofNull hx (g := (mkF m 6 #[.val (.ref ao), .val .null, .unset] [.null])) rfl rfl (hb hby d7_6)) ?_
  refine own_Goes.via (T' := s₁) (g' := (mkF m 43 #[.val (.ref ao), .val .null, .unset] [])) (fun t_ k_ => XS.ifYes X0.here hx rfl (pc0 := 9) (pc' := 43) rfl (hb hby d7_9) rfl ((if0 _ _).trans (teq (by decide : (0 : Int32) = (0 : Int32))).1) (by decide) (by decide) k_) ?_
  refine own_Goes.via (T' := s₁) (g' := (mkF m 44 #[.val (.ref ao), .val .null, .unset] [(.int (0 : Int32))])) (fun t_ k_ => XS.iconst X0.here hx rfl (hb hby d7_43) k_) ?_
  obtain ⟨fs, hr, hrun, hended, hW, hsame⟩ := X0.leave (v := some (.int (0 : Int32))) (fun h => by rw [Bd.returns] at h; cases h)
  refine own_Goes.fin (retN X0 hx (t := .boolean) Bd.returns (by simp) (hb hby d7_44) hr) hrun hended ?_
  subst hPd
  refine ⟨_, _, rfl, ?_, ⟨_, rfl⟩, hW, hsame.mono (by decide) (by decide)⟩
  show Q7n Z ao h0 n0 _ s₁.heap _
  rw [e0]
  exact ⟨(by first | rfl | (simp only [])), N0, rfl⟩
theorem ef_7r (m : MethodId) (ao : Addr) (ac : Addr) : entryFrame m #[(.ref ao), (.ref ac)] 3 = mkF m 0 #[.val (.ref ao), .val (.ref ac), .unset] [] := by first | (simp [entryFrame, mkF, argsToLocals, Value.category]; done) | rfl
def Q7r (Z : State) (ao : Addr) (ac : Addr) (h0 : Heap) (n0 : Nat) (v : Option Value) (h : Heap) (L : List Loc) : Prop := v = some (.int (0 : Int32)) ∧ Fr n0 L ∧ h = h0
set_option maxRecDepth 65536 in
set_option maxHeartbeats 40000000 in
theorem rm7r (l : Launch) (Z : State) (a0 : Array Value) (hw : ∀ d ∈ tables_1, d.before a0 Z = true) (ws : List Jvm.Cond) (ao : Addr) (ac : Addr) (h0 : Heap) (n0 : Nat) (Z0 : n0 ≤ h0.size) (PF0 : Exa Z h0 ao "com/example/wildsuit/wildsuit/card/Card") (PF1 : Exa Z h0 ac "com/example/wildsuit/wildsuit/card/Rank") :
    MetFree l (⟨"com/example/wildsuit/wildsuit/card/Card", "equals", "(Ljava/lang/Object;)Z"⟩ : MethodName) (head1 (Jvm.Cond.code (⟨"com/example/wildsuit/wildsuit/card/Card", "equals", "(Ljava/lang/Object;)Z"⟩ : MethodName) prog_1_method_11_code 3 (some .boolean) :: ws) ({ frames := 0, cells := 0, slots := 0, locals := 0 } : Room)) (fun a U => a = #[(.ref ao), (.ref ac)] ∧ Z.Warmed39 U.vm ∧ U.heap = h0) (fun _ _ _ _ _ => True) (fun _ U o U' => ∃ v L, o = .returned v ∧ Q7r Z ao ac h0 n0 v U'.heap L ∧ FrameEnd U o U' L ({ frames := 0, cells := 0, slots := 0, locals := 0 } : Room).cells ({ frames := 0, cells := 0, slots := 0, locals := 0 } : Room).slots) := by
  refine MetFree.of_bodySF (plainFor_of_name pn_7) hisR ?_
  intro p e s m args below meth c s₁ Bd hml0 hP hK
  obtain ⟨rfl, hZ, hh⟩ := hP
  have hx := Bd.exec
  have hby := Bd.bytes
  have hml : c.maxLocals = 3 := hml0
  have hown : s.vm.findClass "com/example/wildsuit/wildsuit/card/Card" = some m.cls := findClass_of_methodNamed Bd.named
  have hnm := (name_of_methodNamed Bd.named Bd.method).1
  have X0 : Stand p l e ({ frames := 0, cells := 0, slots := 0, locals := 0 } : Room) s m #[(.ref ao), (.ref ac)] below meth c s₁ [] 0 0 := Stand.of_body Bd
  have e0 : s₁.heap = h0 := by rw [← hh, Bd.state]; rfl
  have N0 := Fr.nil n0
  suffices G : own_Goes p.tables e below (fun o U' => ∃ v L, o = .returned v ∧ Q7r Z ao ac h0 n0 v U'.heap L ∧ FrameEnd s o U' L ({ frames := 0, cells := 0, slots := 0, locals := 0 } : Room).cells ({ frames := 0, cells := 0, slots := 0, locals := 0 } : Room).slots) s₁ (mkF m 0 #[.val (.ref ao), .val (.ref ac), .unset] []) by
    obtain ⟨t2_, o2_, z1_, z2_, z3_, z4_⟩ := G
    exact ⟨t2_, o2_, castTop (ef_7r m ao ac) z1_, z2_, z3_, z4_⟩
  generalize hPd : (fun (o : Outcome) (U' : State) => ∃ v L, o = .returned v ∧ Q7r Z ao ac h0 n0 v U'.heap L ∧ FrameEnd s o U' L ({ frames := 0, cells := 0, slots := 0, locals := 0 } : Room).cells ({ frames := 0, cells := 0, slots := 0, locals := 0 } : Room).slots) = P
  refine own_Goes.via (T' := s₁) (g' := (mkF m 1 #[.val (.ref ao), .val (.ref ac), .unset] [(.ref ao)])) (fun t_ k_ => XS.aloadN X0.here hx rfl (hb hby d7_0) rfl rfl k_) ?_
  refine own_Goes.via (T' := s₁) (g' := (mkF m 2 #[.val (.ref ao), .val (.ref ac), .unset] [(.ref ac), (.ref ao)])) (fun t_ k_ => XS.aloadN X0.here hx rfl (hb hby d7_1) rfl rfl k_) ?_
  refine own_Goes.via (T' := s₁) (g' := (mkF m 5 #[.val (.ref ao), .val (.ref ac), .unset] [])) (fun t_ k_ => Jvm.RoadKit.acmp (g := (mkF m 2 #[.val (.ref ao), .val (.ref ac), .unset] [(.ref ac), (.ref ao)])) X0 hx rfl rfl rfl (pc0 := 2) (pc' := 5) (same := false) rfl (hb hby d7_2) rfl (decide_eq_false fun q => (Exa.ne PF0 PF1 (by decide)) (Value.ref.inj q)) (by decide) (by decide) k_) ?_
  refine own_Goes.via (T' := s₁) (g' := (mkF m 6 #[.val (.ref ao), .val (.ref ac), .unset] [(.ref ac)])) (fun t_ k_ => XS.aloadN X0.here hx rfl (hb hby d7_5) rfl rfl k_) ?_
  obtain ⟨T1, X1, e1, st1⟩ := instNo X0 hx hZ hown (hw _ (List.mem_of_getElem? (i := 54) rfl)) e0 PF1 (own_no (hw _ (List.mem_of_getElem? (i := 107) rfl)) (hw _ (List.mem_of_getElem? (i := 2) rfl)) (NS.step (hw _ (List.mem_of_getElem? (i := 107) rfl)) (NS.step (hw _ (List.mem_of_getElem? (i := 108) rfl)) (own_root (hw _ (List.mem_of_getElem? (i := 71) rfl)) (hw _ (List.mem_of_getElem? (i := 2) rfl)) (by decide)) (by decide)) (by decide)) (by decide)) (g := (mkF m 6 #[.val (.ref ao), .val (.ref ac), .unset] [(.ref ac)])) rfl rfl (hb hby d7_6)
  refine own_Goes.via (T' := T1) (g' := (mkF m 9 #[.val (.ref ao), .val (.ref ac), .unset] [(.int (0 : Int32))])) (st1) ?_
  refine own_Goes.via (T' := T1) (g' := (mkF m 43 #[.val (.ref ao), .val (.ref ac), .unset] [])) (fun t_ k_ => XS.ifYes X1.here hx rfl (pc0 := 9) (pc' := 43) rfl (hb hby d7_9) rfl ((if0 _ _).trans (teq (by decide : (0 : Int32) = (0 : Int32))).1) (by decide) (by decide) k_) ?_
  refine own_Goes.via (T' := T1) (g' := (mkF m 44 #[.val (.ref ao), .val (.ref ac), .unset] [(.int (0 : Int32))])) (fun t_ k_ => XS.iconst X1.here hx rfl (hb hby d7_43) k_) ?_
  obtain ⟨fs, hr, hrun, hended, hW, hsame⟩ := X1.leave (v := some (.int (0 : Int32))) (fun h => by rw [Bd.returns] at h; cases h)
  refine own_Goes.fin (retN X1 hx (t := .boolean) Bd.returns (by simp) (hb hby d7_44) hr) hrun hended ?_
  subst hPd
  refine ⟨_, _, rfl, ?_, ⟨_, rfl⟩, hW, hsame.mono (by decide) (by decide)⟩
  show Q7r Z ao ac h0 n0 _ T1.heap _
  rw [e1]
  exact ⟨(by first | rfl | (simp only [])), N0, rfl⟩
theorem ef_7i (m : MethodId) (ao : Addr) (ac : Addr) : entryFrame m #[(.ref ao), (.ref ac)] 3 = mkF m 0 #[.val (.ref ao), .val (.ref ac), .unset] [] := by first | (simp [entryFrame, mkF, argsToLocals, Value.category]; done) | rfl
def Q7i (Z : State) (ao : Addr) (ac : Addr) (h0 : Heap) (n0 : Nat) (v : Option Value) (h : Heap) (L : List Loc) : Prop := v = some (.int (0 : Int32)) ∧ Fr n0 L ∧ h = h0
set_option maxRecDepth 65536 in
set_option maxHeartbeats 40000000 in
theorem rm7i (l : Launch) (Z : State) (a0 : Array Value) (hw : ∀ d ∈ tables_1, d.before a0 Z = true) (ws : List Jvm.Cond) (ao : Addr) (ac : Addr) (h0 : Heap) (n0 : Nat) (Z0 : n0 ≤ h0.size) (PF0 : Exa Z h0 ao "com/example/wildsuit/wildsuit/card/Card") (PF1 : Exa Z h0 ac "java/lang/Integer") :
    MetFree l (⟨"com/example/wildsuit/wildsuit/card/Card", "equals", "(Ljava/lang/Object;)Z"⟩ : MethodName) (head1 (Jvm.Cond.code (⟨"com/example/wildsuit/wildsuit/card/Card", "equals", "(Ljava/lang/Object;)Z"⟩ : MethodName) prog_1_method_11_code 3 (some .boolean) :: ws) ({ frames := 0, cells := 0, slots := 0, locals := 0 } : Room)) (fun a U => a = #[(.ref ao), (.ref ac)] ∧ Z.Warmed39 U.vm ∧ U.heap = h0) (fun _ _ _ _ _ => True) (fun _ U o U' => ∃ v L, o = .returned v ∧ Q7i Z ao ac h0 n0 v U'.heap L ∧ FrameEnd U o U' L ({ frames := 0, cells := 0, slots := 0, locals := 0 } : Room).cells ({ frames := 0, cells := 0, slots := 0, locals := 0 } : Room).slots) := by
  refine MetFree.of_bodySF (plainFor_of_name pn_7) hisR ?_
  intro p e s m args below meth c s₁ Bd hml0 hP hK
  obtain ⟨rfl, hZ, hh⟩ := hP
  have hx := Bd.exec
  have hby := Bd.bytes
  have hml : c.maxLocals = 3 := hml0
  have hown : s.vm.findClass "com/example/wildsuit/wildsuit/card/Card" = some m.cls := findClass_of_methodNamed Bd.named
  have hnm := (name_of_methodNamed Bd.named Bd.method).1
  have X0 : Stand p l e ({ frames := 0, cells := 0, slots := 0, locals := 0 } : Room) s m #[(.ref ao), (.ref ac)] below meth c s₁ [] 0 0 := Stand.of_body Bd
  have e0 : s₁.heap = h0 := by rw [← hh, Bd.state]; rfl
  have N0 := Fr.nil n0
  suffices G : own_Goes p.tables e below (fun o U' => ∃ v L, o = .returned v ∧ Q7i Z ao ac h0 n0 v U'.heap L ∧ FrameEnd s o U' L ({ frames := 0, cells := 0, slots := 0, locals := 0 } : Room).cells ({ frames := 0, cells := 0, slots := 0, locals := 0 } : Room).slots) s₁ (mkF m 0 #[.val (.ref ao), .val (.ref ac), .unset] []) by
    obtain ⟨t2_, o2_, z1_, z2_, z3_, z4_⟩ := G
    exact ⟨t2_, o2_, castTop (ef_7i m ao ac) z1_, z2_, z3_, z4_⟩
  generalize hPd : (fun (o : Outcome) (U' : State) => ∃ v L, o = .returned v ∧ Q7i Z ao ac h0 n0 v U'.heap L ∧ FrameEnd s o U' L ({ frames := 0, cells := 0, slots := 0, locals := 0 } : Room).cells ({ frames := 0, cells := 0, slots := 0, locals := 0 } : Room).slots) = P
  refine own_Goes.via (T' := s₁) (g' := (mkF m 1 #[.val (.ref ao), .val (.ref ac), .unset] [(.ref ao)])) (fun t_ k_ => XS.aloadN X0.here hx rfl (hb hby d7_0) rfl rfl k_) ?_
  refine own_Goes.via (T' := s₁) (g' := (mkF m 2 #[.val (.ref ao), .val (.ref ac), .unset] [(.ref ac), (.ref ao)])) (fun t_ k_ => XS.aloadN X0.here hx rfl (hb hby d7_1) rfl rfl k_) ?_
  refine own_Goes.via (T' := s₁) (g' := (mkF m 5 #[.val (.ref ao), .val (.ref ac), .unset] [])) (fun t_ k_ => Jvm.RoadKit.acmp (g := (mkF m 2 #[.val (.ref ao), .val (.ref ac), .unset] [(.ref ac), (.ref ao)])) X0 hx rfl rfl rfl (pc0 := 2) (pc' := 5) (same := false) rfl (hb hby d7_2) rfl (decide_eq_false fun q => (Exa.ne PF0 PF1 (by decide)) (Value.ref.inj q)) (by decide) (by decide) k_) ?_
  refine own_Goes.via (T' := s₁) (g' := (mkF m 6 #[.val (.ref ao), .val (.ref ac), .unset] [(.ref ac)])) (fun t_ k_ => XS.aloadN X0.here hx rfl (hb hby d7_5) rfl rfl k_) ?_
  obtain ⟨T1, X1, e1, st1⟩ := instNo X0 hx hZ hown (hw _ (List.mem_of_getElem? (i := 54) rfl)) e0 PF1 (own_no (hw _ (List.mem_of_getElem? (i := 69) rfl)) (hw _ (List.mem_of_getElem? (i := 2) rfl)) (NS.step (hw _ (List.mem_of_getElem? (i := 69) rfl)) (NS.step (hw _ (List.mem_of_getElem? (i := 70) rfl)) (own_root (hw _ (List.mem_of_getElem? (i := 71) rfl)) (hw _ (List.mem_of_getElem? (i := 2) rfl)) (by decide)) (by decide)) (by decide)) (by decide)) (g := (mkF m 6 #[.val (.ref ao), .val (.ref ac), .unset] [(.ref ac)])) rfl rfl (hb hby d7_6)
  refine own_Goes.via (T' := T1) (g' := (mkF m 9 #[.val (.ref ao), .val (.ref ac), .unset] [(.int (0 : Int32))])) (st1) ?_
  refine own_Goes.via (T' := T1) (g' := (mkF m 43 #[.val (.ref ao), .val (.ref ac), .unset] [])) (fun t_ k_ => XS.ifYes X1.here hx rfl (pc0 := 9) (pc' := 43) rfl (hb hby d7_9) rfl ((if0 _ _).trans (teq (by decide : (0 : Int32) = (0 : Int32))).1) (by decide) (by decide) k_) ?_
  refine own_Goes.via (T' := T1) (g' := (mkF m 44 #[.val (.ref ao), .val (.ref ac), .unset] [(.int (0 : Int32))])) (fun t_ k_ => XS.iconst X1.here hx rfl (hb hby d7_43) k_) ?_
  obtain ⟨fs, hr, hrun, hended, hW, hsame⟩ := X1.leave (v := some (.int (0 : Int32))) (fun h => by rw [Bd.returns] at h; cases h)
  refine own_Goes.fin (retN X1 hx (t := .boolean) Bd.returns (by simp) (hb hby d7_44) hr) hrun hended ?_
  subst hPd
  refine ⟨_, _, rfl, ?_, ⟨_, rfl⟩, hW, hsame.mono (by decide) (by decide)⟩
  show Q7i Z ao ac h0 n0 _ T1.heap _
  rw [e1]
  exact ⟨(by first | rfl | (simp only [])), N0, rfl⟩
theorem d10_0 : decode jdk_18_method_1_code 0 = .ok (.aload_n 0, 1) := by decide +kernel
theorem d10_1 : decode jdk_18_method_1_code 1 = .ok (.invokespecial 1, 3) := by decide +kernel
theorem d10_4 : decode jdk_18_method_1_code 4 = .ok (.return_, 1) := by decide +kernel
theorem pn_10 : plainName "java/lang/Number" = true := by first | (simp [plainName, overriddenIn]; done) | decide +kernel
theorem ef_10 (m : MethodId) (ao : Addr) : entryFrame m #[(.ref ao)] 1 = mkF m 0 #[.val (.ref ao)] [] := by first | (simp [entryFrame, mkF, argsToLocals, Value.category]; done) | rfl
def Q10 (Z : State) (ao : Addr) (h0 : Heap) (n0 : Nat) (v : Option Value) (h : Heap) (L : List Loc) : Prop := v = none ∧ Fr n0 L ∧ h = h0
set_option maxRecDepth 65536 in
set_option maxHeartbeats 40000000 in
theorem rm10 (l : Launch) (Z : State) (a0 : Array Value) (hw : ∀ d ∈ tables_1, d.before a0 Z = true) (ws : List Jvm.Cond) (ao : Addr) (h0 : Heap) (n0 : Nat) (Z0 : n0 ≤ h0.size) :
    MetFree l (⟨"java/lang/Number", "<init>", "()V"⟩ : MethodName) (head1 (Jvm.Cond.code (⟨"java/lang/Number", "<init>", "()V"⟩ : MethodName) jdk_18_method_1_code 1 none :: ws) ({ frames := 1, cells := 0, slots := 0, locals := 12 } : Room)) (fun a U => a = #[(.ref ao)] ∧ Z.Warmed39 U.vm ∧ U.heap = h0) (fun _ _ _ _ _ => True) (fun _ U o U' => ∃ v L, o = .returned v ∧ Q10 Z ao h0 n0 v U'.heap L ∧ FrameEnd U o U' L ({ frames := 1, cells := 0, slots := 0, locals := 12 } : Room).cells ({ frames := 1, cells := 0, slots := 0, locals := 12 } : Room).slots) := by
  refine MetFree.of_bodySF (plainFor_of_name pn_10) hisR ?_
  intro p e s m args below meth c s₁ Bd hml0 hP hK
  obtain ⟨rfl, hZ, hh⟩ := hP
  have hx := Bd.exec
  have hby := Bd.bytes
  have hml : c.maxLocals = 1 := hml0
  have hown : s.vm.findClass "java/lang/Number" = some m.cls := findClass_of_methodNamed Bd.named
  have hnm := (name_of_methodNamed Bd.named Bd.method).1
  have X0 : Stand p l e ({ frames := 1, cells := 0, slots := 0, locals := 12 } : Room) s m #[(.ref ao)] below meth c s₁ [] 0 0 := Stand.of_body Bd
  have e0 : s₁.heap = h0 := by rw [← hh, Bd.state]; rfl
  have N0 := Fr.nil n0
  suffices G : own_Goes p.tables e below (fun o U' => ∃ v L, o = .returned v ∧ Q10 Z ao h0 n0 v U'.heap L ∧ FrameEnd s o U' L ({ frames := 1, cells := 0, slots := 0, locals := 12 } : Room).cells ({ frames := 1, cells := 0, slots := 0, locals := 12 } : Room).slots) s₁ (mkF m 0 #[.val (.ref ao)] []) by
    obtain ⟨t2_, o2_, z1_, z2_, z3_, z4_⟩ := G
    exact ⟨t2_, o2_, castTop (ef_10 m ao) z1_, z2_, z3_, z4_⟩
  generalize hPd : (fun (o : Outcome) (U' : State) => ∃ v L, o = .returned v ∧ Q10 Z ao h0 n0 v U'.heap L ∧ FrameEnd s o U' L ({ frames := 1, cells := 0, slots := 0, locals := 12 } : Room).cells ({ frames := 1, cells := 0, slots := 0, locals := 12 } : Room).slots) = P
  refine own_Goes.via (T' := s₁) (g' := (mkF m 1 #[.val (.ref ao)] [(.ref ao)])) (fun t_ k_ => XS.aloadN X0.here hx rfl (hb hby d10_0) rfl rfl k_) ?_
  obtain ⟨T1, X1, e1, st1⟩ := initO X0 hx hZ hown (hw _ (List.mem_of_getElem? (i := 92) rfl)) (hw _ (List.mem_of_getElem? (i := 26) rfl)) (hw _ (List.mem_of_getElem? (i := 27) rfl)) e0 (g := (mkF m 1 #[.val (.ref ao)] [(.ref ao)])) rfl (by rw [hml]; rfl) rfl (hb hby d10_1) (by decide) (W := 0) (by show 2 * 0 + _ ≤ _; exact Nat.le_of_eq rfl) (by decide)
  refine own_Goes.via (T' := T1) (g' := (mkF m 4 #[.val (.ref ao)] [])) (st1) ?_
  obtain ⟨fs, hr, hrun, hended, hW, hsame⟩ := X1.leave (v := none) (fun _ => rfl)
  refine own_Goes.fin (X1.returnOut hx Bd.returns (hb hby d10_4) hr) hrun hended ?_
  subst hPd
  refine ⟨_, _, rfl, ?_, ⟨_, rfl⟩, hW, hsame.mono (by decide) (by decide)⟩
  show Q10 Z ao h0 n0 _ T1.heap _
  rw [e1]
  exact ⟨rfl, N0, rfl⟩
theorem d9_0 : decode jdk_33_method_23_code 0 = .ok (.aload_n 0, 1) := by decide +kernel
theorem d9_1 : decode jdk_33_method_23_code 1 = .ok (.invokespecial 202, 3) := by decide +kernel
theorem d9_4 : decode jdk_33_method_23_code 4 = .ok (.aload_n 0, 1) := by decide +kernel
theorem d9_5 : decode jdk_33_method_23_code 5 = .ok (.iload_n 1, 1) := by decide +kernel
theorem d9_6 : decode jdk_33_method_23_code 6 = .ok (.putfield 205, 3) := by decide +kernel
theorem d9_9 : decode jdk_33_method_23_code 9 = .ok (.return_, 1) := by decide +kernel
theorem pn_9 : plainName "java/lang/Integer" = true := by first | (simp [plainName, overriddenIn]; done) | decide +kernel
theorem pd_9_0 : parseMethodDescriptor "()V" = some ⟨[], none⟩ := by decide +kernel
theorem ef_9 (m : MethodId) (ao : Addr) (xi : Int32) : entryFrame m #[(.ref ao), (.int xi)] 2 = mkF m 0 #[.val (.ref ao), .val (.int xi)] [] := by first | (simp [entryFrame, mkF, argsToLocals, Value.category]; done) | rfl
def Q9 (Z : State) (ao : Addr) (xi : Int32) (h0 : Heap) (n0 : Nat) (v : Option Value) (h : Heap) (L : List Loc) : Prop := v = none ∧ Fr n0 L ∧ Keep h0 h [ao] ∧ Exa Z h ao "java/lang/Integer" ∧ Fld Z h ao "java/lang/Integer" "value" "I" (.int xi)
set_option maxRecDepth 65536 in
set_option maxHeartbeats 40000000 in
theorem rm9 (l : Launch) (Z : State) (a0 : Array Value) (hw : ∀ d ∈ tables_1, d.before a0 Z = true) (ws : List Jvm.Cond) (ao : Addr) (xi : Int32) (h0 : Heap) (n0 : Nat) (Z0 : n0 ≤ h0.size) (PF0 : Exa Z h0 ao "java/lang/Integer") (PF1 : Fld Z h0 ao "java/lang/Integer" "value" "I" (.int (0 : Int32))) (ge_ao : n0 ≤ ao) :
    MetFree l (⟨"java/lang/Integer", "<init>", "(I)V"⟩ : MethodName) (head1 (Jvm.Cond.code (⟨"java/lang/Integer", "<init>", "(I)V"⟩ : MethodName) jdk_33_method_23_code 2 none :: ws) ({ frames := 2, cells := 0, slots := 0, locals := 24 } : Room)) (fun a U => a = #[(.ref ao), (.int xi)] ∧ Z.Warmed39 U.vm ∧ U.heap = h0) (fun _ _ _ _ _ => True) (fun _ U o U' => ∃ v L, o = .returned v ∧ Q9 Z ao xi h0 n0 v U'.heap L ∧ FrameEnd U o U' L ({ frames := 2, cells := 0, slots := 0, locals := 24 } : Room).cells ({ frames := 2, cells := 0, slots := 0, locals := 24 } : Room).slots) := by
  refine MetFree.of_bodySF (plainFor_of_name pn_9) hisR ?_
  intro p e s m args below meth c s₁ Bd hml0 hP hK
  obtain ⟨rfl, hZ, hh⟩ := hP
  have hx := Bd.exec
  have hby := Bd.bytes
  have hml : c.maxLocals = 2 := hml0
  have hown : s.vm.findClass "java/lang/Integer" = some m.cls := findClass_of_methodNamed Bd.named
  have hnm := (name_of_methodNamed Bd.named Bd.method).1
  have X0 : Stand p l e ({ frames := 2, cells := 0, slots := 0, locals := 24 } : Room) s m #[(.ref ao), (.int xi)] below meth c s₁ [] 0 0 := Stand.of_body Bd
  have e0 : s₁.heap = h0 := by rw [← hh, Bd.state]; rfl
  have N0 := Fr.nil n0
  suffices G : own_Goes p.tables e below (fun o U' => ∃ v L, o = .returned v ∧ Q9 Z ao xi h0 n0 v U'.heap L ∧ FrameEnd s o U' L ({ frames := 2, cells := 0, slots := 0, locals := 24 } : Room).cells ({ frames := 2, cells := 0, slots := 0, locals := 24 } : Room).slots) s₁ (mkF m 0 #[.val (.ref ao), .val (.int xi)] []) by
    obtain ⟨t2_, o2_, z1_, z2_, z3_, z4_⟩ := G
    exact ⟨t2_, o2_, castTop (ef_9 m ao xi) z1_, z2_, z3_, z4_⟩
  generalize hPd : (fun (o : Outcome) (U' : State) => ∃ v L, o = .returned v ∧ Q9 Z ao xi h0 n0 v U'.heap L ∧ FrameEnd s o U' L ({ frames := 2, cells := 0, slots := 0, locals := 24 } : Room).cells ({ frames := 2, cells := 0, slots := 0, locals := 24 } : Room).slots) = P
  refine own_Goes.via (T' := s₁) (g' := (mkF m 1 #[.val (.ref ao), .val (.int xi)] [(.ref ao)])) (fun t_ k_ => XS.aloadN X0.here hx rfl (hb hby d9_0) rfl rfl k_) ?_
  obtain ⟨_, _, ⟨T1, L1, k1, n1⟩, -, X1, ⟨Lc1, hQ1, l1, y1, z1⟩, st1⟩ := X0.specialBack hx (y := (⟨"java/lang/Number", "<init>", "()V"⟩ : MethodName)) rfl hown (mvT hZ (hw _ (List.mem_of_getElem? (i := 86) rfl))) (mvT hZ (hw _ (List.mem_of_getElem? (i := 87) rfl))) (mvT hZ (hw _ (List.mem_of_getElem? (i := 91) rfl))) (by decide) (backOf (W := 0) (rm10 l Z a0 hw [] ao h0 n0 Z0 ) hZ (hw _ (List.mem_of_getElem? (i := 91) rfl)) (hw _ (List.mem_of_getElem? (i := 90) rfl)) (by decide) (by decide)) (g := (mkF m 1 #[.val (.ref ao), .val (.int xi)] [(.ref ao)])) rfl (by rw [hml]; rfl) (Steps.refl _) (a := ao) (argsL := []) (rest := []) (lenOf pd_9_0 rfl) rfl (by show 2 * 0 + _ ≤ _; exact Nat.le_of_eq rfl) (hb hby d9_1) (fun _ _ => ⟨rfl, e0, (by decide : 0 + 0 ≤ _), (by decide : 0 + 0 ≤ _)⟩)
  dsimp only [Pt.U, Pt.locs, Pt.cells, Pt.slots] at X1 l1 y1 z1 st1 hQ1
  subst l1 y1 z1
  obtain ⟨rfl, Nq1, hh1⟩ := hQ1
  have N1 := Fr.app N0 Nq1
  refine own_Goes.via (T' := T1) (g' := (mkF m 4 #[.val (.ref ao), .val (.int xi)] [])) (fun t_ k_ => st1.trans k_) ?_
  refine own_Goes.via (T' := T1) (g' := (mkF m 5 #[.val (.ref ao), .val (.int xi)] [(.ref ao)])) (fun t_ k_ => XS.aloadN X1.here hx rfl (hb hby d9_4) rfl rfl k_) ?_
  refine own_Goes.via (T' := T1) (g' := (mkF m 6 #[.val (.ref ao), .val (.int xi)] [(.int xi), (.ref ao)])) (fun t_ k_ => XS.iloadN X1.here hx rfl (hb hby d9_5) rfl k_) ?_
  obtain ⟨T2, h2, X2, e2, W2, st2⟩ := putF X1 hx hZ hown (host := "") (Or.inl (hw _ (List.mem_of_getElem? (i := 93) rfl))) Via.refl hh1 PF1 PF0 (Or.inr ⟨(hw _ (List.mem_of_getElem? (i := 94) rfl)), rfl, hnm⟩) (hw _ (List.mem_of_getElem? (i := 81) rfl)) (ty := .int) (by decide) rfl rfl (g := (mkF m 6 #[.val (.ref ao), .val (.int xi)] [(.int xi), (.ref ao)])) rfl rfl (hb hby d9_6)
  have E3 : Exa Z h2 ao "java/lang/Integer" := PF0.wr W2
  have F4 : Fld Z h2 ao "java/lang/Integer" "value" "I" (.int xi) := PF1.same W2
  have N2 := Fr.snoc X2 N1 ge_ao
  have sz2 : n0 ≤ h2.size := Nat.le_trans Z0 (Keep.of_wr W2).1
  have K2 : Keep h0 h2 [ao] := ((Keep.refl h0 [ao])).wr W2 (Or.inl (List.mem_of_getElem? (i := 0) rfl))
  refine own_Goes.via (T' := T2) (g' := (mkF m 9 #[.val (.ref ao), .val (.int xi)] [])) (st2) ?_
  obtain ⟨fs, hr, hrun, hended, hW, hsame⟩ := X2.leave (v := none) (fun _ => rfl)
  refine own_Goes.fin (X2.returnOut hx Bd.returns (hb hby d9_9) hr) hrun hended ?_
  subst hPd
  refine ⟨_, _, rfl, ?_, ⟨_, rfl⟩, hW, hsame.mono (by decide) (by decide)⟩
  show Q9 Z ao xi h0 n0 _ T2.heap _
  rw [e2]
  exact ⟨rfl, N2, K2, E3, F4⟩
theorem d8_0 : decode jdk_33_method_22_code 0 = .ok (.iload_n 0, 1) := by decide +kernel
theorem d8_1 : decode jdk_33_method_22_code 1 = .ok (.bipush (-128), 2) := by decide +kernel
theorem d8_3 : decode jdk_33_method_22_code 3 = .ok (.if_icmp .lt 20, 3) := by decide +kernel
theorem d8_6 : decode jdk_33_method_22_code 6 = .ok (.iload_n 0, 1) := by decide +kernel
theorem d8_7 : decode jdk_33_method_22_code 7 = .ok (.getstatic 191, 3) := by decide +kernel
theorem d8_10 : decode jdk_33_method_22_code 10 = .ok (.if_icmp .gt 13, 3) := by decide +kernel
theorem d8_13 : decode jdk_33_method_22_code 13 = .ok (.getstatic 195, 3) := by decide +kernel
theorem d8_16 : decode jdk_33_method_22_code 16 = .ok (.iload_n 0, 1) := by decide +kernel
theorem d8_17 : decode jdk_33_method_22_code 17 = .ok (.sipush 128, 3) := by decide +kernel
theorem d8_20 : decode jdk_33_method_22_code 20 = .ok (.iadd, 1) := by decide +kernel
theorem d8_21 : decode jdk_33_method_22_code 21 = .ok (.aaload, 1) := by decide +kernel
theorem d8_22 : decode jdk_33_method_22_code 22 = .ok (.areturn, 1) := by decide +kernel
theorem d8_23 : decode jdk_33_method_22_code 23 = .ok (.new 1, 3) := by decide +kernel
theorem d8_26 : decode jdk_33_method_22_code 26 = .ok (.dup, 1) := by decide +kernel
theorem d8_27 : decode jdk_33_method_22_code 27 = .ok (.iload_n 0, 1) := by decide +kernel
theorem d8_28 : decode jdk_33_method_22_code 28 = .ok (.invokespecial 199, 3) := by decide +kernel
theorem d8_31 : decode jdk_33_method_22_code 31 = .ok (.areturn, 1) := by decide +kernel
theorem pn_8 : plainName "java/lang/Integer" = true := by first | (simp [plainName, overriddenIn]; done) | decide +kernel
theorem pd_8_0 : parseMethodDescriptor "(I)V" = some ⟨[.int], none⟩ := by decide +kernel
theorem ef_8 (m : MethodId) (xi : Int32) : entryFrame m #[(.int xi)] 1 = mkF m 0 #[.val (.int xi)] [] := by first | (simp [entryFrame, mkF, argsToLocals, Value.category]; done) | rfl
def Q8 (Z : State) (xi : Int32) (s_cache : Addr) (cl_c : Cell) (h0 : Heap) (n0 : Nat) (v : Option Value) (h : Heap) (L : List Loc) : Prop := ∃ (bz : Addr), v = some (.ref bz) ∧ Fr n0 L ∧ Keep h0 h [] ∧ Exa Z h bz "java/lang/Integer"
set_option maxRecDepth 65536 in
theorem own_pl8_0 {xi : Int32} (hc3_1 : ¬ (xi < (-128 : Int32))) (hc10_10 : ¬ ((127 : Int32) < xi)) : ¬ ((xi + (128 : Int32)) < 0 ∨ 256 ≤ (xi + (128 : Int32)).toNatClampNeg) := by
  have a : (-128 : Int32).toInt = -128 := rfl
  have b : (127 : Int32).toInt = 127 := rfl
  have c : (128 : Int32).toInt = 128 := rfl
  have z : (0 : Int32).toInt = 0 := rfl
  rw [Int32.lt_iff_toInt_lt, a] at hc3_1
  rw [Int32.lt_iff_toInt_lt, b] at hc10_10
  have e : (xi + (128 : Int32)).toInt = xi.toInt + 128 := by rw [Jvm.Kit.i32_add (by rw [c]; omega) (by rw [c]; omega), c]
  intro q
  rcases q with q | q
  · rw [Int32.lt_iff_toInt_lt, e] at q
    have z' : Int32.toInt 0 = 0 := rfl
    omega
  · have t : (xi + (128 : Int32)).toNatClampNeg = (xi + (128 : Int32)).toInt.toNat := rfl
    rw [t, e] at q
    omega
set_option maxRecDepth 65536 in
set_option maxHeartbeats 40000000 in
theorem rm8 (l : Launch) (Z : State) (a0 : Array Value) (hw : ∀ d ∈ tables_1, d.before a0 Z = true) (ws : List Jvm.Cond) (xi : Int32) (s_cache : Addr) (cl_c : Cell) (h0 : Heap) (n0 : Nat) (Z0 : n0 ≤ h0.size) (OL : Old Z n0 h0) (S_high : Sta Z Z.heap "java/lang/Integer$IntegerCache" "high" "I" (.int (127 : Int32))) (S_cache : Sta Z Z.heap "java/lang/Integer$IntegerCache" "cache" "[Ljava/lang/Integer;" (.ref s_cache)) (ArC : Arr Z Z.heap s_cache cl_c (.object "java/lang/Integer")) (szC : cl_c.slots.size = 256) (hel : ∀ j : Nat, j < 256 → ∃ b : Addr, cl_c.slots[j]? = some (.ref b) ∧ Exa Z Z.heap b "java/lang/Integer") :
    MetFree l (⟨"java/lang/Integer", "valueOf", "(I)Ljava/lang/Integer;"⟩ : MethodName) (head1 (Jvm.Cond.code (⟨"java/lang/Integer", "valueOf", "(I)Ljava/lang/Integer;"⟩ : MethodName) jdk_33_method_22_code 1 (some (.object "java/lang/Integer")) :: ws) ({ frames := 3, cells := 1, slots := 1, locals := 38 } : Room)) (fun a U => a = #[(.int xi)] ∧ Z.Warmed39 U.vm ∧ U.heap = h0) (fun _ _ _ _ _ => True) (fun _ U o U' => ∃ v L, o = .returned v ∧ Q8 Z xi s_cache cl_c h0 n0 v U'.heap L ∧ FrameEnd U o U' L ({ frames := 3, cells := 1, slots := 1, locals := 38 } : Room).cells ({ frames := 3, cells := 1, slots := 1, locals := 38 } : Room).slots) := by
  refine MetFree.of_bodySF (plainFor_of_name pn_8) hisR ?_
  intro p e s m args below meth c s₁ Bd hml0 hP hK
  obtain ⟨rfl, hZ, hh⟩ := hP
  have hx := Bd.exec
  have hby := Bd.bytes
  have hml : c.maxLocals = 1 := hml0
  have hown : s.vm.findClass "java/lang/Integer" = some m.cls := findClass_of_methodNamed Bd.named
  have hnm := (name_of_methodNamed Bd.named Bd.method).1
  have X0 : Stand p l e ({ frames := 3, cells := 1, slots := 1, locals := 38 } : Room) s m #[(.int xi)] below meth c s₁ [] 0 0 := Stand.of_body Bd
  have e0 : s₁.heap = h0 := by rw [← hh, Bd.state]; rfl
  have N0 := Fr.nil n0
  suffices G : own_Goes p.tables e below (fun o U' => ∃ v L, o = .returned v ∧ Q8 Z xi s_cache cl_c h0 n0 v U'.heap L ∧ FrameEnd s o U' L ({ frames := 3, cells := 1, slots := 1, locals := 38 } : Room).cells ({ frames := 3, cells := 1, slots := 1, locals := 38 } : Room).slots) s₁ (mkF m 0 #[.val (.int xi)] []) by
    obtain ⟨t2_, o2_, z1_, z2_, z3_, z4_⟩ := G
    exact ⟨t2_, o2_, castTop (ef_8 m xi) z1_, z2_, z3_, z4_⟩
  generalize hPd : (fun (o : Outcome) (U' : State) => ∃ v L, o = .returned v ∧ Q8 Z xi s_cache cl_c h0 n0 v U'.heap L ∧ FrameEnd s o U' L ({ frames := 3, cells := 1, slots := 1, locals := 38 } : Room).cells ({ frames := 3, cells := 1, slots := 1, locals := 38 } : Room).slots) = P
  refine own_Goes.via (T' := s₁) (g' := (mkF m 1 #[.val (.int xi)] [(.int xi)])) (fun t_ k_ => XS.iloadN X0.here hx rfl (hb hby d8_0) rfl k_) ?_
  refine own_Goes.via (T' := s₁) (g' := (mkF m 3 #[.val (.int xi)] [(.int (-128 : Int32)), (.int xi)])) (fun t_ k_ => XS.bipush X0.here hx rfl (hb hby d8_1) k_) ?_
  by_cases hc3_1 : xi < (-128 : Int32)
  · refine own_Goes.via (T' := s₁) (g' := (mkF m 23 #[.val (.int xi)] [])) (fun t_ k_ => XS.icmpYes X0.here hx rfl (pc0 := 3) (pc' := 23) rfl (hb hby d8_3) rfl (tlt hc3_1).1 (by decide) (by decide) k_) ?_
    obtain ⟨T2, h2, X2, e2, E2, A2, D2, -, st2⟩ := newO X0 hx hZ hown (hw _ (List.mem_of_getElem? (i := 80) rfl)) (hw _ (List.mem_of_getElem? (i := 81) rfl)) (hw _ (List.mem_of_getElem? (i := 64) rfl)) e0 (g := (mkF m 23 #[.val (.int xi)] [])) rfl (hb hby d8_23) (by decide) (by decide)
    obtain ⟨b2, g2⟩ : ∃ z, z = h0.size := ⟨_, rfl⟩
    rw [← g2] at A2 D2 st2
    have O3 : Old Z n0 h2 := OL.ext E2
    have ge_b2 : n0 ≤ b2 := Nat.le_trans Z0 (Nat.le_of_eq g2.symm)
    have sz_b2 : h0.size ≤ b2 := Nat.le_trans ((Keep.refl h0 [])).1 (Nat.le_of_eq g2.symm)
    have sz2 : n0 ≤ h2.size := Nat.le_trans Z0 E2.1
    have K2 : Keep h0 h2 [] := ((Keep.refl h0 [])).ext E2
    have E4 : Exa Z h2 b2 "java/lang/Integer" := A2
    have F5 : Fld Z h2 b2 "java/lang/Integer" "value" "I" (.int (0 : Int32)) := D2 (Or.inr (hw _ (List.mem_of_getElem? (i := 94) rfl))) (ty := .int) (by decide)
    refine own_Goes.via (T' := T2) (g' := (mkF m 26 #[.val (.int xi)] [(.ref b2)])) (st2) ?_
    refine own_Goes.via (T' := T2) (g' := (mkF m 27 #[.val (.int xi)] [(.ref b2), (.ref b2)])) (fun t_ k_ => XS.dup X2.here hx rfl (hb hby d8_26) rfl rfl k_) ?_
    refine own_Goes.via (T' := T2) (g' := (mkF m 28 #[.val (.int xi)] [(.int xi), (.ref b2), (.ref b2)])) (fun t_ k_ => XS.iloadN X2.here hx rfl (hb hby d8_27) rfl k_) ?_
    obtain ⟨_, _, ⟨T6, L6, k6, n6⟩, -, X6, ⟨Lc6, hQ6, l6, y6, z6⟩, st6⟩ := X2.specialBack hx (y := (⟨"java/lang/Integer", "<init>", "(I)V"⟩ : MethodName)) rfl hown (mvT hZ (hw _ (List.mem_of_getElem? (i := 82) rfl))) (mvT hZ (hw _ (List.mem_of_getElem? (i := 83) rfl))) (mvT hZ (hw _ (List.mem_of_getElem? (i := 85) rfl))) (by decide) (backOf (W := 1) (rm9 l Z a0 hw [] b2 xi h2 n0 sz2 E4 F5 ge_b2) hZ (hw _ (List.mem_of_getElem? (i := 85) rfl)) (hw _ (List.mem_of_getElem? (i := 64) rfl)) (by decide) (by decide)) (g := (mkF m 28 #[.val (.int xi)] [(.int xi), (.ref b2), (.ref b2)])) rfl (by rw [hml]; rfl) (Steps.refl _) (a := b2) (argsL := [(.int xi)]) (rest := [(.ref b2)]) (lenOf pd_8_0 rfl) rfl (by show 2 * 0 + _ ≤ _; exact Nat.le_of_eq rfl) (hb hby d8_28) (fun _ _ => ⟨rfl, e2, (by decide : 1 + 0 ≤ _), (by decide : 1 + 0 ≤ _)⟩)
    dsimp only [Pt.U, Pt.locs, Pt.cells, Pt.slots] at X6 l6 y6 z6 st6 hQ6
    subst l6 y6 z6
    obtain ⟨rfl, Nq6, Kq6, pf6_0, pf6_1⟩ := hQ6
    have N6 := Fr.app N0 Nq6
    have O7 : Old Z n0 T6.heap := O3.keep Kq6 (allS ge_b2 all0)
    have E8 : Exa Z T6.heap b2 "java/lang/Integer" := E4.keep Kq6
    have sz6 : n0 ≤ T6.heap.size := Nat.le_trans sz2 Kq6.1
    have K6 : Keep h0 T6.heap [] := (K2).trans Kq6 (allS (Or.inr sz_b2) all0)
    refine own_Goes.via (T' := T6) (g' := (mkF m 31 #[.val (.int xi)] [(.ref b2)])) (fun t_ k_ => st6.trans k_) ?_
    obtain ⟨fs, hr, hrun, hended, hW, hsame⟩ := X6.leave (v := some (.ref b2)) (fun h => by rw [Bd.returns] at h; cases h)
    refine own_Goes.fin (retOut X6 hx Bd.returns rfl (Or.inr (Or.inr (Or.inr (Or.inr ⟨rfl, rfl, rfl⟩)))) (hb hby d8_31) hr) hrun hended ?_
    subst hPd
    refine ⟨_, _, rfl, ?_, ⟨_, rfl⟩, hW, hsame.mono (by decide) (by decide)⟩
    show Q8 Z xi s_cache cl_c h0 n0 _ T6.heap _
    exact ⟨b2, rfl, N6, K6, pf6_0⟩
  · refine own_Goes.via (T' := s₁) (g' := (mkF m 6 #[.val (.int xi)] [])) (fun t_ k_ => XS.icmpNo X0.here hx rfl (hb hby d8_3) rfl (flt hc3_1).1 k_) ?_
    refine own_Goes.via (T' := s₁) (g' := (mkF m 7 #[.val (.int xi)] [(.int xi)])) (fun t_ k_ => XS.iloadN X0.here hx rfl (hb hby d8_6) rfl k_) ?_
    obtain ⟨T9, X9, e9, st9⟩ := getS2 X0 hx hZ hown (host := "") (Or.inl (hw _ (List.mem_of_getElem? (i := 66) rfl))) Via.refl e0 (S_high.ext OL.2) (g := (mkF m 7 #[.val (.int xi)] [(.int xi)])) rfl (hb hby d8_7)
    refine own_Goes.via (T' := T9) (g' := (mkF m 10 #[.val (.int xi)] [(.int (127 : Int32)), (.int xi)])) (st9) ?_
    by_cases hc10_10 : (127 : Int32) < xi
    · refine own_Goes.via (T' := T9) (g' := (mkF m 23 #[.val (.int xi)] [])) (fun t_ k_ => XS.icmpYes X9.here hx rfl (pc0 := 10) (pc' := 23) rfl (hb hby d8_10) rfl (tlt hc10_10).2.2.1 (by decide) (by decide) k_) ?_
      obtain ⟨T11, h11, X11, e11, E11, A11, D11, -, st11⟩ := newO X9 hx hZ hown (hw _ (List.mem_of_getElem? (i := 80) rfl)) (hw _ (List.mem_of_getElem? (i := 81) rfl)) (hw _ (List.mem_of_getElem? (i := 64) rfl)) e9 (g := (mkF m 23 #[.val (.int xi)] [])) rfl (hb hby d8_23) (by decide) (by decide)
      obtain ⟨b11, g11⟩ : ∃ z, z = h0.size := ⟨_, rfl⟩
      rw [← g11] at A11 D11 st11
      have O12 : Old Z n0 h11 := OL.ext E11
      have ge_b11 : n0 ≤ b11 := Nat.le_trans Z0 (Nat.le_of_eq g11.symm)
      have sz_b11 : h0.size ≤ b11 := Nat.le_trans ((Keep.refl h0 [])).1 (Nat.le_of_eq g11.symm)
      have sz11 : n0 ≤ h11.size := Nat.le_trans Z0 E11.1
      have K11 : Keep h0 h11 [] := ((Keep.refl h0 [])).ext E11
      have E13 : Exa Z h11 b11 "java/lang/Integer" := A11
      have F14 : Fld Z h11 b11 "java/lang/Integer" "value" "I" (.int (0 : Int32)) := D11 (Or.inr (hw _ (List.mem_of_getElem? (i := 94) rfl))) (ty := .int) (by decide)
      refine own_Goes.via (T' := T11) (g' := (mkF m 26 #[.val (.int xi)] [(.ref b11)])) (st11) ?_
      refine own_Goes.via (T' := T11) (g' := (mkF m 27 #[.val (.int xi)] [(.ref b11), (.ref b11)])) (fun t_ k_ => XS.dup X11.here hx rfl (hb hby d8_26) rfl rfl k_) ?_
      refine own_Goes.via (T' := T11) (g' := (mkF m 28 #[.val (.int xi)] [(.int xi), (.ref b11), (.ref b11)])) (fun t_ k_ => XS.iloadN X11.here hx rfl (hb hby d8_27) rfl k_) ?_
      obtain ⟨_, _, ⟨T15, L15, k15, n15⟩, -, X15, ⟨Lc15, hQ15, l15, y15, z15⟩, st15⟩ := X11.specialBack hx (y := (⟨"java/lang/Integer", "<init>", "(I)V"⟩ : MethodName)) rfl hown (mvT hZ (hw _ (List.mem_of_getElem? (i := 82) rfl))) (mvT hZ (hw _ (List.mem_of_getElem? (i := 83) rfl))) (mvT hZ (hw _ (List.mem_of_getElem? (i := 85) rfl))) (by decide) (backOf (W := 1) (rm9 l Z a0 hw [] b11 xi h11 n0 sz11 E13 F14 ge_b11) hZ (hw _ (List.mem_of_getElem? (i := 85) rfl)) (hw _ (List.mem_of_getElem? (i := 64) rfl)) (by decide) (by decide)) (g := (mkF m 28 #[.val (.int xi)] [(.int xi), (.ref b11), (.ref b11)])) rfl (by rw [hml]; rfl) (Steps.refl _) (a := b11) (argsL := [(.int xi)]) (rest := [(.ref b11)]) (lenOf pd_8_0 rfl) rfl (by show 2 * 0 + _ ≤ _; exact Nat.le_of_eq rfl) (hb hby d8_28) (fun _ _ => ⟨rfl, e11, (by decide : 1 + 0 ≤ _), (by decide : 1 + 0 ≤ _)⟩)
      dsimp only [Pt.U, Pt.locs, Pt.cells, Pt.slots] at X15 l15 y15 z15 st15 hQ15
      subst l15 y15 z15
      obtain ⟨rfl, Nq15, Kq15, pf15_0, pf15_1⟩ := hQ15
      have N15 := Fr.app N0 Nq15
      have O16 : Old Z n0 T15.heap := O12.keep Kq15 (allS ge_b11 all0)
      have E17 : Exa Z T15.heap b11 "java/lang/Integer" := E13.keep Kq15
      have sz15 : n0 ≤ T15.heap.size := Nat.le_trans sz11 Kq15.1
      have K15 : Keep h0 T15.heap [] := (K11).trans Kq15 (allS (Or.inr sz_b11) all0)
      refine own_Goes.via (T' := T15) (g' := (mkF m 31 #[.val (.int xi)] [(.ref b11)])) (fun t_ k_ => st15.trans k_) ?_
      obtain ⟨fs, hr, hrun, hended, hW, hsame⟩ := X15.leave (v := some (.ref b11)) (fun h => by rw [Bd.returns] at h; cases h)
      refine own_Goes.fin (retOut X15 hx Bd.returns rfl (Or.inr (Or.inr (Or.inr (Or.inr ⟨rfl, rfl, rfl⟩)))) (hb hby d8_31) hr) hrun hended ?_
      subst hPd
      refine ⟨_, _, rfl, ?_, ⟨_, rfl⟩, hW, hsame.mono (by decide) (by decide)⟩
      show Q8 Z xi s_cache cl_c h0 n0 _ T15.heap _
      exact ⟨b11, rfl, N15, K15, pf15_0⟩
    · refine own_Goes.via (T' := T9) (g' := (mkF m 13 #[.val (.int xi)] [])) (fun t_ k_ => XS.icmpNo X9.here hx rfl (hb hby d8_10) rfl (flt hc10_10).2.2.1 k_) ?_
      obtain ⟨T18, X18, e18, st18⟩ := getS2 X9 hx hZ hown (host := "") (Or.inl (hw _ (List.mem_of_getElem? (i := 68) rfl))) Via.refl e9 (S_cache.ext OL.2) (g := (mkF m 13 #[.val (.int xi)] [])) rfl (hb hby d8_13)
      refine own_Goes.via (T' := T18) (g' := (mkF m 16 #[.val (.int xi)] [(.ref s_cache)])) (st18) ?_
      refine own_Goes.via (T' := T18) (g' := (mkF m 17 #[.val (.int xi)] [(.int xi), (.ref s_cache)])) (fun t_ k_ => XS.iloadN X18.here hx rfl (hb hby d8_16) rfl k_) ?_
      refine own_Goes.via (T' := T18) (g' := (mkF m 20 #[.val (.int xi)] [(.int (128 : Int32)), (.int xi), (.ref s_cache)])) (fun t_ k_ => XS.sipush X18.here hx rfl (hb hby d8_17) k_) ?_
      refine own_Goes.via (T' := T18) (g' := (mkF m 21 #[.val (.int xi)] [(.int (xi + (128 : Int32))), (.ref s_cache)])) (fun t_ k_ => XS.iadd X18.here hx rfl (hb hby d8_20) rfl k_) ?_
      have hin21 : ¬ ((xi + (128 : Int32)) < 0 ∨ cl_c.slots.size ≤ (xi + (128 : Int32)).toNatClampNeg) := by rw [szC]; exact own_pl8_0 hc3_1 hc10_10
      obtain ⟨bx, hat21, hEx⟩ := hel (xi + (128 : Int32)).toNatClampNeg (Nat.lt_of_not_le fun q => hin21 (Or.inr (by rw [szC]; exact q)))
      refine own_Goes.via (T' := T18) (g' := (mkF m 22 #[.val (.int xi)] [(.ref bx)])) (fun t_ k_ => X18.aaload hx (j := (xi + (128 : Int32))) (v := .ref bx) (by rw [e18]; exact (ArC.ext OL.2).1) (State.isArrayOf_alike hZ.alike ArC.2.1) rfl ArC.2.2 hin21 hat21 (g := (mkF m 21 #[.val (.int xi)] [(.int (xi + (128 : Int32))), (.ref s_cache)])) rfl rfl (hb hby d8_21) _ k_) ?_
      have E19 : Exa Z h0 bx "java/lang/Integer" := hEx.ext OL.2
      obtain ⟨fs, hr, hrun, hended, hW, hsame⟩ := X18.leave (v := some (.ref bx)) (fun h => by rw [Bd.returns] at h; cases h)
      refine own_Goes.fin (retOut X18 hx Bd.returns rfl (Or.inr (Or.inr (Or.inr (Or.inr ⟨rfl, rfl, rfl⟩)))) (hb hby d8_22) hr) hrun hended ?_
      subst hPd
      refine ⟨_, _, rfl, ?_, ⟨_, rfl⟩, hW, hsame.mono (by decide) (by decide)⟩
      show Q8 Z xi s_cache cl_c h0 n0 _ T18.heap _
      rw [e18]
      exact ⟨bx, rfl, N0, (Keep.refl h0 []), E19⟩
theorem pn_0 : plainName "com/example/wildsuit/wildsuit/card/CardEqualsPinLaw" = true := by first | (simp [plainName, overriddenIn]; done) | decide +kernel
theorem pd_0_0 : parseMethodDescriptor "(I)Lcom/example/wildsuit/wildsuit/card/Rank;" = some ⟨[.int], some (.object "com/example/wildsuit/wildsuit/card/Rank")⟩ := by decide +kernel
theorem pd_0_1 : parseMethodDescriptor "(I)Lcom/example/wildsuit/wildsuit/card/Suit;" = some ⟨[.int], some (.object "com/example/wildsuit/wildsuit/card/Suit")⟩ := by decide +kernel
theorem pd_0_2 : parseMethodDescriptor "(Lcom/example/wildsuit/wildsuit/card/Rank;Lcom/example/wildsuit/wildsuit/card/Suit;)V" = some ⟨[(.object "com/example/wildsuit/wildsuit/card/Rank"), (.object "com/example/wildsuit/wildsuit/card/Suit")], none⟩ := by decide +kernel
theorem pd_0_3 : parseMethodDescriptor "(Ljava/lang/Object;)Z" = some ⟨[(.object "java/lang/Object")], some .boolean⟩ := by decide +kernel
theorem pd_0_4 : parseMethodDescriptor "(I)Ljava/lang/Integer;" = some ⟨[.int], some (.object "java/lang/Integer")⟩ := by decide +kernel
theorem ef_0 (m : MethodId) (xr : Int32) (xs : Int32) (xp : Int32) (xq : Int32) (xm : Int32) : entryFrame m #[(.int xr), (.int xs), (.int xp), (.int xq), (.int xm)] maxLocals = mkF m 0 #[.val (.int xr), .val (.int xs), .val (.int xp), .val (.int xq), .val (.int xm), .unset, .unset, .unset, .unset, .unset, .unset, .unset, .unset] [] := by first | (simp [entryFrame, mkF, argsToLocals, Value.category, maxLocals]; done) | rfl
def Q0 (Z : State) (xr : Int32) (xs : Int32) (xp : Int32) (xq : Int32) (xm : Int32) (s_ACE : Addr) (s_TWO : Addr) (s_THREE : Addr) (s_FOUR : Addr) (s_FIVE : Addr) (s_SIX : Addr) (s_SEVEN : Addr) (s_EIGHT : Addr) (s_NINE : Addr) (s_TEN : Addr) (s_JACK : Addr) (s_QUEEN : Addr) (s_KING : Addr) (s_CLUBS : Addr) (s_DIAMONDS : Addr) (s_HEARTS : Addr) (s_SPADES : Addr) (s_cache : Addr) (cl_c : Cell) (h0 : Heap) (n0 : Nat) (v : Option Value) (h : Heap) (L : List Loc) : Prop := v = some (.int 1) ∧ Fr n0 L
set_option maxRecDepth 65536 in
theorem own_pl0_0 {xr : Int32} {xs : Int32} {xp : Int32} {xq : Int32} {xm : Int32} {s_ACE : Addr} {s_TWO : Addr} {s_THREE : Addr} {s_FOUR : Addr} {s_FIVE : Addr} {s_SIX : Addr} {s_SEVEN : Addr} {s_EIGHT : Addr} {s_NINE : Addr} {s_TEN : Addr} {s_JACK : Addr} {s_QUEEN : Addr} {s_KING : Addr} {s_CLUBS : Addr} {s_DIAMONDS : Addr} {s_HEARTS : Addr} {s_SPADES : Addr} {b8 : Addr} {b20 : Addr} {v2 : Int32} {v3 : Int32} {v5 : Int32} {v6 : Int32} {v7 : Int32} {v14 : Addr} {v16 : Addr} {v29 : Addr} {v31 : Addr} {v98_40 : Int32} {v45 : Int32} {v129_47 : Int32} (hv2 : v2 = ((xr &&& (2147483647 : Int32)) % (13 : Int32))) (hv3 : v3 = (xs &&& (3 : Int32))) (hv5 : v5 = ((xp &&& (2147483647 : Int32)) % (13 : Int32))) (hv6 : v6 = (xq &&& (3 : Int32))) (hv7 : v7 = (xm &&& (7 : Int32))) (hv14 : v14 = (own_rank s_ACE s_TWO s_THREE s_FOUR s_FIVE s_SIX s_SEVEN s_EIGHT s_NINE s_TEN s_JACK s_QUEEN s_KING v2)) (hv16 : v16 = (own_suit s_CLUBS s_DIAMONDS s_HEARTS s_SPADES v3)) (hv29 : v29 = (own_rank s_ACE s_TWO s_THREE s_FOUR s_FIVE s_SIX s_SEVEN s_EIGHT s_NINE s_TEN s_JACK s_QUEEN s_KING v5)) (hv31 : v31 = (own_suit s_CLUBS s_DIAMONDS s_HEARTS s_SPADES v6)) (hv98_40 : v98_40 = (if v2 = v5 then (if v3 = v6 then (1 : Int32) else (0 : Int32)) else (0 : Int32))) (hv45 : v45 = (if b8 = b20 then (1 : Int32) else (if v14 = v29 then (if v16 = v31 then (1 : Int32) else (0 : Int32)) else (0 : Int32)))) (hv129_47 : v129_47 = (if v45 = v98_40 then (if (if b20 = b8 then (1 : Int32) else (if v29 = v14 then (if v31 = v16 then (1 : Int32) else (0 : Int32)) else (0 : Int32))) = v98_40 then (1 : Int32) else (0 : Int32)) else (0 : Int32))) (hc76_38 : v7 < (4 : Int32)) (hrinj : ∀ i j : Int32, 0 ≤ i.toInt → i.toInt < 13 → 0 ≤ j.toInt → j.toInt < 13 → own_rank s_ACE s_TWO s_THREE s_FOUR s_FIVE s_SIX s_SEVEN s_EIGHT s_NINE s_TEN s_JACK s_QUEEN s_KING i = own_rank s_ACE s_TWO s_THREE s_FOUR s_FIVE s_SIX s_SEVEN s_EIGHT s_NINE s_TEN s_JACK s_QUEEN s_KING j → i = j) (hsinj : ∀ i j : Int32, 0 ≤ i.toInt → i.toInt < 4 → 0 ≤ j.toInt → j.toInt < 4 → own_suit s_CLUBS s_DIAMONDS s_HEARTS s_SPADES i = own_suit s_CLUBS s_DIAMONDS s_HEARTS s_SPADES j → i = j) (nz6_1 : (13 : Int32) ≠ (0 : Int32)) (nz20_4 : (13 : Int32) ≠ (0 : Int32)) (hne2 : b8 ≠ b20) : v129_47 = 1 := by
  have h2 : 0 ≤ v2.toInt ∧ v2.toInt < 13 := by rw [hv2]; exact own_mod13 _
  have h5 : 0 ≤ v5.toInt ∧ v5.toInt < 13 := by rw [hv5]; exact own_mod13 _
  have h3 : 0 ≤ v3.toInt ∧ v3.toInt < 4 := by rw [hv3]; exact own_m2 _
  have h6 : 0 ≤ v6.toInt ∧ v6.toInt < 4 := by rw [hv6]; exact own_m2 _
  have er : v14 = v29 ↔ v2 = v5 := ⟨fun q => hrinj _ _ h2.1 h2.2 h5.1 h5.2 (by rw [← hv14, ← hv29]; exact q), fun q => by rw [hv14, hv29, q]⟩
  have es : v16 = v31 ↔ v3 = v6 := ⟨fun q => hsinj _ _ h3.1 h3.2 h6.1 h6.2 (by rw [← hv16, ← hv31]; exact q), fun q => by rw [hv16, hv31, q]⟩
  have e45 : v45 = v98_40 := by rw [hv45, hv98_40, if_neg hne2]; exact own_two er es
  rw [hv129_47, if_pos e45]
  refine if_pos ?_
  rw [if_neg (show ¬ b20 = b8 from fun z => hne2 z.symm), hv98_40]
  exact own_two (eq_comm.trans er) (eq_comm.trans es)
set_option maxRecDepth 65536 in
theorem own_pl0_1 {xr : Int32} {xs : Int32} {xp : Int32} {xq : Int32} {xm : Int32} {s_ACE : Addr} {s_TWO : Addr} {s_THREE : Addr} {s_FOUR : Addr} {s_FIVE : Addr} {s_SIX : Addr} {s_SEVEN : Addr} {s_EIGHT : Addr} {s_NINE : Addr} {s_TEN : Addr} {s_JACK : Addr} {s_QUEEN : Addr} {s_KING : Addr} {s_CLUBS : Addr} {s_DIAMONDS : Addr} {s_HEARTS : Addr} {s_SPADES : Addr} {b8 : Addr} {v2 : Int32} {v3 : Int32} {v5 : Int32} {v6 : Int32} {v7 : Int32} {v14 : Addr} {v16 : Addr} {v29 : Addr} {v31 : Addr} {v54 : Int32} (hv2 : v2 = ((xr &&& (2147483647 : Int32)) % (13 : Int32))) (hv3 : v3 = (xs &&& (3 : Int32))) (hv5 : v5 = ((xp &&& (2147483647 : Int32)) % (13 : Int32))) (hv6 : v6 = (xq &&& (3 : Int32))) (hv7 : v7 = (xm &&& (7 : Int32))) (hv14 : v14 = (own_rank s_ACE s_TWO s_THREE s_FOUR s_FIVE s_SIX s_SEVEN s_EIGHT s_NINE s_TEN s_JACK s_QUEEN s_KING v2)) (hv16 : v16 = (own_suit s_CLUBS s_DIAMONDS s_HEARTS s_SPADES v3)) (hv29 : v29 = (own_rank s_ACE s_TWO s_THREE s_FOUR s_FIVE s_SIX s_SEVEN s_EIGHT s_NINE s_TEN s_JACK s_QUEEN s_KING v5)) (hv31 : v31 = (own_suit s_CLUBS s_DIAMONDS s_HEARTS s_SPADES v6)) (hv54 : v54 = (if b8 = b8 then (1 : Int32) else (if v14 = v14 then (if v16 = v16 then (1 : Int32) else (0 : Int32)) else (0 : Int32)))) (hc76_38 : ¬ (v7 < (4 : Int32))) (hc133_52 : v7 = (4 : Int32)) (hrinj : ∀ i j : Int32, 0 ≤ i.toInt → i.toInt < 13 → 0 ≤ j.toInt → j.toInt < 13 → own_rank s_ACE s_TWO s_THREE s_FOUR s_FIVE s_SIX s_SEVEN s_EIGHT s_NINE s_TEN s_JACK s_QUEEN s_KING i = own_rank s_ACE s_TWO s_THREE s_FOUR s_FIVE s_SIX s_SEVEN s_EIGHT s_NINE s_TEN s_JACK s_QUEEN s_KING j → i = j) (hsinj : ∀ i j : Int32, 0 ≤ i.toInt → i.toInt < 4 → 0 ≤ j.toInt → j.toInt < 4 → own_suit s_CLUBS s_DIAMONDS s_HEARTS s_SPADES i = own_suit s_CLUBS s_DIAMONDS s_HEARTS s_SPADES j → i = j) (nz6_1 : (13 : Int32) ≠ (0 : Int32)) (nz20_4 : (13 : Int32) ≠ (0 : Int32)) : v54 = 1 := by
  rw [hv54, if_pos rfl]
set_option maxRecDepth 65536 in
theorem own_pl0_2 {xr : Int32} {xs : Int32} {xp : Int32} {xq : Int32} {xm : Int32} {s_ACE : Addr} {s_TWO : Addr} {s_THREE : Addr} {s_FOUR : Addr} {s_FIVE : Addr} {s_SIX : Addr} {s_SEVEN : Addr} {s_EIGHT : Addr} {s_NINE : Addr} {s_TEN : Addr} {s_JACK : Addr} {s_QUEEN : Addr} {s_KING : Addr} {s_CLUBS : Addr} {s_DIAMONDS : Addr} {s_HEARTS : Addr} {s_SPADES : Addr} {v2 : Int32} {v3 : Int32} {v5 : Int32} {v6 : Int32} {v7 : Int32} {v14 : Addr} {v16 : Addr} {v29 : Addr} {v31 : Addr} {v59 : Addr} (hv2 : v2 = ((xr &&& (2147483647 : Int32)) % (13 : Int32))) (hv3 : v3 = (xs &&& (3 : Int32))) (hv5 : v5 = ((xp &&& (2147483647 : Int32)) % (13 : Int32))) (hv6 : v6 = (xq &&& (3 : Int32))) (hv7 : v7 = (xm &&& (7 : Int32))) (hv14 : v14 = (own_rank s_ACE s_TWO s_THREE s_FOUR s_FIVE s_SIX s_SEVEN s_EIGHT s_NINE s_TEN s_JACK s_QUEEN s_KING v2)) (hv16 : v16 = (own_suit s_CLUBS s_DIAMONDS s_HEARTS s_SPADES v3)) (hv29 : v29 = (own_rank s_ACE s_TWO s_THREE s_FOUR s_FIVE s_SIX s_SEVEN s_EIGHT s_NINE s_TEN s_JACK s_QUEEN s_KING v5)) (hv31 : v31 = (own_suit s_CLUBS s_DIAMONDS s_HEARTS s_SPADES v6)) (hv59 : v59 = (own_rank s_ACE s_TWO s_THREE s_FOUR s_FIVE s_SIX s_SEVEN s_EIGHT s_NINE s_TEN s_JACK s_QUEEN s_KING v2)) (hc76_38 : ¬ (v7 < (4 : Int32))) (hc133_52 : ¬ (v7 = (4 : Int32))) (hc147_55 : ¬ (v7 = (5 : Int32))) (hc169_57 : v7 = (6 : Int32)) (hrinj : ∀ i j : Int32, 0 ≤ i.toInt → i.toInt < 13 → 0 ≤ j.toInt → j.toInt < 13 → own_rank s_ACE s_TWO s_THREE s_FOUR s_FIVE s_SIX s_SEVEN s_EIGHT s_NINE s_TEN s_JACK s_QUEEN s_KING i = own_rank s_ACE s_TWO s_THREE s_FOUR s_FIVE s_SIX s_SEVEN s_EIGHT s_NINE s_TEN s_JACK s_QUEEN s_KING j → i = j) (hsinj : ∀ i j : Int32, 0 ≤ i.toInt → i.toInt < 4 → 0 ≤ j.toInt → j.toInt < 4 → own_suit s_CLUBS s_DIAMONDS s_HEARTS s_SPADES i = own_suit s_CLUBS s_DIAMONDS s_HEARTS s_SPADES j → i = j) (nz6_1 : (13 : Int32) ≠ (0 : Int32)) (nz20_4 : (13 : Int32) ≠ (0 : Int32)) : 0 ≤ v2.toInt ∧ v2.toInt < 13 := by
  rw [hv2]; exact own_mod13 _
set_option maxRecDepth 65536 in
set_option maxHeartbeats 40000000 in
theorem rm0 (l : Launch) (Z : State) (a0 : Array Value) (hw : ∀ d ∈ tables_1, d.before a0 Z = true) (ws : List Jvm.Cond) (xr : Int32) (xs : Int32) (xp : Int32) (xq : Int32) (xm : Int32) (s_ACE : Addr) (s_TWO : Addr) (s_THREE : Addr) (s_FOUR : Addr) (s_FIVE : Addr) (s_SIX : Addr) (s_SEVEN : Addr) (s_EIGHT : Addr) (s_NINE : Addr) (s_TEN : Addr) (s_JACK : Addr) (s_QUEEN : Addr) (s_KING : Addr) (s_CLUBS : Addr) (s_DIAMONDS : Addr) (s_HEARTS : Addr) (s_SPADES : Addr) (s_cache : Addr) (cl_c : Cell) (h0 : Heap) (n0 : Nat) (Z0 : n0 ≤ h0.size) (OL : Old Z n0 h0) (S_ACE : Sta Z Z.heap "com/example/wildsuit/wildsuit/card/Rank" "ACE" "Lcom/example/wildsuit/wildsuit/card/Rank;" (.ref s_ACE)) (S_TWO : Sta Z Z.heap "com/example/wildsuit/wildsuit/card/Rank" "TWO" "Lcom/example/wildsuit/wildsuit/card/Rank;" (.ref s_TWO)) (S_THREE : Sta Z Z.heap "com/example/wildsuit/wildsuit/card/Rank" "THREE" "Lcom/example/wildsuit/wildsuit/card/Rank;" (.ref s_THREE)) (S_FOUR : Sta Z Z.heap "com/example/wildsuit/wildsuit/card/Rank" "FOUR" "Lcom/example/wildsuit/wildsuit/card/Rank;" (.ref s_FOUR)) (S_FIVE : Sta Z Z.heap "com/example/wildsuit/wildsuit/card/Rank" "FIVE" "Lcom/example/wildsuit/wildsuit/card/Rank;" (.ref s_FIVE)) (S_SIX : Sta Z Z.heap "com/example/wildsuit/wildsuit/card/Rank" "SIX" "Lcom/example/wildsuit/wildsuit/card/Rank;" (.ref s_SIX)) (S_SEVEN : Sta Z Z.heap "com/example/wildsuit/wildsuit/card/Rank" "SEVEN" "Lcom/example/wildsuit/wildsuit/card/Rank;" (.ref s_SEVEN)) (S_EIGHT : Sta Z Z.heap "com/example/wildsuit/wildsuit/card/Rank" "EIGHT" "Lcom/example/wildsuit/wildsuit/card/Rank;" (.ref s_EIGHT)) (S_NINE : Sta Z Z.heap "com/example/wildsuit/wildsuit/card/Rank" "NINE" "Lcom/example/wildsuit/wildsuit/card/Rank;" (.ref s_NINE)) (S_TEN : Sta Z Z.heap "com/example/wildsuit/wildsuit/card/Rank" "TEN" "Lcom/example/wildsuit/wildsuit/card/Rank;" (.ref s_TEN)) (S_JACK : Sta Z Z.heap "com/example/wildsuit/wildsuit/card/Rank" "JACK" "Lcom/example/wildsuit/wildsuit/card/Rank;" (.ref s_JACK)) (S_QUEEN : Sta Z Z.heap "com/example/wildsuit/wildsuit/card/Rank" "QUEEN" "Lcom/example/wildsuit/wildsuit/card/Rank;" (.ref s_QUEEN)) (S_KING : Sta Z Z.heap "com/example/wildsuit/wildsuit/card/Rank" "KING" "Lcom/example/wildsuit/wildsuit/card/Rank;" (.ref s_KING)) (S_CLUBS : Sta Z Z.heap "com/example/wildsuit/wildsuit/card/Suit" "CLUBS" "Lcom/example/wildsuit/wildsuit/card/Suit;" (.ref s_CLUBS)) (S_DIAMONDS : Sta Z Z.heap "com/example/wildsuit/wildsuit/card/Suit" "DIAMONDS" "Lcom/example/wildsuit/wildsuit/card/Suit;" (.ref s_DIAMONDS)) (S_HEARTS : Sta Z Z.heap "com/example/wildsuit/wildsuit/card/Suit" "HEARTS" "Lcom/example/wildsuit/wildsuit/card/Suit;" (.ref s_HEARTS)) (S_SPADES : Sta Z Z.heap "com/example/wildsuit/wildsuit/card/Suit" "SPADES" "Lcom/example/wildsuit/wildsuit/card/Suit;" (.ref s_SPADES)) (S_high : Sta Z Z.heap "java/lang/Integer$IntegerCache" "high" "I" (.int (127 : Int32))) (S_cache : Sta Z Z.heap "java/lang/Integer$IntegerCache" "cache" "[Ljava/lang/Integer;" (.ref s_cache)) (ArC : Arr Z Z.heap s_cache cl_c (.object "java/lang/Integer")) (szC : cl_c.slots.size = 256) (hel : ∀ j : Nat, j < 256 → ∃ b : Addr, cl_c.slots[j]? = some (.ref b) ∧ Exa Z Z.heap b "java/lang/Integer") (hrexa : ∀ i : Int32, 0 ≤ i.toInt → i.toInt < 13 → Exa Z Z.heap (own_rank s_ACE s_TWO s_THREE s_FOUR s_FIVE s_SIX s_SEVEN s_EIGHT s_NINE s_TEN s_JACK s_QUEEN s_KING i) "com/example/wildsuit/wildsuit/card/Rank") (hrinj : ∀ i j : Int32, 0 ≤ i.toInt → i.toInt < 13 → 0 ≤ j.toInt → j.toInt < 13 → own_rank s_ACE s_TWO s_THREE s_FOUR s_FIVE s_SIX s_SEVEN s_EIGHT s_NINE s_TEN s_JACK s_QUEEN s_KING i = own_rank s_ACE s_TWO s_THREE s_FOUR s_FIVE s_SIX s_SEVEN s_EIGHT s_NINE s_TEN s_JACK s_QUEEN s_KING j → i = j) (hsinj : ∀ i j : Int32, 0 ≤ i.toInt → i.toInt < 4 → 0 ≤ j.toInt → j.toInt < 4 → own_suit s_CLUBS s_DIAMONDS s_HEARTS s_SPADES i = own_suit s_CLUBS s_DIAMONDS s_HEARTS s_SPADES j → i = j) :
    MetFree l x (head1 (Jvm.Cond.code x code maxLocals ret :: ws) room_1) (fun a U => a = #[(.int xr), (.int xs), (.int xp), (.int xq), (.int xm)] ∧ Z.Warmed39 U.vm ∧ U.heap = h0) (fun _ _ _ _ _ => True) (fun _ U o U' => ∃ v L, o = .returned v ∧ Q0 Z xr xs xp xq xm s_ACE s_TWO s_THREE s_FOUR s_FIVE s_SIX s_SEVEN s_EIGHT s_NINE s_TEN s_JACK s_QUEEN s_KING s_CLUBS s_DIAMONDS s_HEARTS s_SPADES s_cache cl_c h0 n0 v U'.heap L ∧ ReturnedEndW U o U' L 11 85) := by
  refine MetFree.of_bodySF (plainFor_of_name pn_0) hisR ?_
  intro p e s m args below meth c s₁ Bd hml0 hP hK
  obtain ⟨rfl, hZ, hh⟩ := hP
  have hx := Bd.exec
  have hby := Bd.bytes
  have hml : c.maxLocals = 13 := hml0
  have hown : s.vm.findClass "com/example/wildsuit/wildsuit/card/CardEqualsPinLaw" = some m.cls := findClass_of_methodNamed Bd.named
  have hnm := (name_of_methodNamed Bd.named Bd.method).1
  have X0 : Stand p l e room_1 (s.setVm s.vm) m #[(.int xr), (.int xs), (.int xp), (.int xq), (.int xm)] below meth c s₁ [] 0 0 := Stand.of_body Bd
  have e0 : s₁.heap = h0 := by rw [← hh, Bd.state]; rfl
  have N0 := Fr.nil n0
  suffices G : own_Goes p.tables e below (fun o U' => ∃ v L, o = .returned v ∧ Q0 Z xr xs xp xq xm s_ACE s_TWO s_THREE s_FOUR s_FIVE s_SIX s_SEVEN s_EIGHT s_NINE s_TEN s_JACK s_QUEEN s_KING s_CLUBS s_DIAMONDS s_HEARTS s_SPADES s_cache cl_c h0 n0 v U'.heap L ∧ ReturnedEndW s o U' L 11 85) s₁ (mkF m 0 #[.val (.int xr), .val (.int xs), .val (.int xp), .val (.int xq), .val (.int xm), .unset, .unset, .unset, .unset, .unset, .unset, .unset, .unset] []) by
    obtain ⟨t2_, o2_, z1_, z2_, z3_, z4_⟩ := G
    exact ⟨t2_, o2_, castTop (ef_0 m xr xs xp xq xm) z1_, z2_, z3_, z4_⟩
  generalize hPd : (fun (o : Outcome) (U' : State) => ∃ v L, o = .returned v ∧ Q0 Z xr xs xp xq xm s_ACE s_TWO s_THREE s_FOUR s_FIVE s_SIX s_SEVEN s_EIGHT s_NINE s_TEN s_JACK s_QUEEN s_KING s_CLUBS s_DIAMONDS s_HEARTS s_SPADES s_cache cl_c h0 n0 v U'.heap L ∧ ReturnedEndW s o U' L 11 85) = P
  have hS : s.Since s.vm 0 := (State.WarmedH.refl s).since 0
  have hk : 0 ≤ h0.size := Nat.zero_le _
  refine own_Goes.via (T' := s₁) (g' := (mkF m 1 #[.val (.int xr), .val (.int xs), .val (.int xp), .val (.int xq), .val (.int xm), .unset, .unset, .unset, .unset, .unset, .unset, .unset, .unset] [(.int xr)])) (fun t_ k_ => XS.iloadN X0.here hx rfl (hb hby at_0) rfl k_) ?_
  refine own_Goes.via (T' := s₁) (g' := (mkF m 3 #[.val (.int xr), .val (.int xs), .val (.int xp), .val (.int xq), .val (.int xm), .unset, .unset, .unset, .unset, .unset, .unset, .unset, .unset] [(.int (2147483647 : Int32)), (.int xr)])) (X0.ldcInt hx hown (mvT hZ (hw _ (List.mem_of_getElem? (i := 0) rfl))) (g := (mkF m 1 #[.val (.int xr), .val (.int xs), .val (.int xp), .val (.int xq), .val (.int xm), .unset, .unset, .unset, .unset, .unset, .unset, .unset, .unset] [(.int xr)])) rfl (hb hby at_1)) ?_
  refine own_Goes.via (T' := s₁) (g' := (mkF m 4 #[.val (.int xr), .val (.int xs), .val (.int xp), .val (.int xq), .val (.int xm), .unset, .unset, .unset, .unset, .unset, .unset, .unset, .unset] [(.int (xr &&& (2147483647 : Int32)))])) (fun t_ k_ => XS.iand X0.here hx rfl (hb hby at_3) rfl k_) ?_
  refine own_Goes.via (T' := s₁) (g' := (mkF m 6 #[.val (.int xr), .val (.int xs), .val (.int xp), .val (.int xq), .val (.int xm), .unset, .unset, .unset, .unset, .unset, .unset, .unset, .unset] [(.int (13 : Int32)), (.int (xr &&& (2147483647 : Int32)))])) (fun t_ k_ => XS.bipush X0.here hx rfl (hb hby at_4) k_) ?_
  have nz6_1 : (13 : Int32) ≠ (0 : Int32) := by decide
  refine own_Goes.via (T' := s₁) (g' := (mkF m 7 #[.val (.int xr), .val (.int xs), .val (.int xp), .val (.int xq), .val (.int xm), .unset, .unset, .unset, .unset, .unset, .unset, .unset, .unset] [(.int ((xr &&& (2147483647 : Int32)) % (13 : Int32)))])) (fun t_ k_ => iremM X0 hx rfl (hb hby at_6) rfl nz6_1 k_) ?_
  refine own_Goes.via (T' := s₁) (g' := (mkF m 9 #[.val (.int xr), .val (.int xs), .val (.int xp), .val (.int xq), .val (.int xm), .val (.int ((xr &&& (2147483647 : Int32)) % (13 : Int32))), .unset, .unset, .unset, .unset, .unset, .unset, .unset] [])) (fun t_ k_ => XS.istore X0.here hx rfl (hb hby at_7) rfl (l' := #[.val (.int xr), .val (.int xs), .val (.int xp), .val (.int xq), .val (.int xm), .val (.int ((xr &&& (2147483647 : Int32)) % (13 : Int32))), .unset, .unset, .unset, .unset, .unset, .unset, .unset]) rfl k_) ?_
  obtain ⟨v2, hv2⟩ : ∃ z : Int32, z = ((xr &&& (2147483647 : Int32)) % (13 : Int32)) := ⟨_, rfl⟩
  rw [← hv2]
  refine own_Goes.via (T' := s₁) (g' := (mkF m 10 #[.val (.int xr), .val (.int xs), .val (.int xp), .val (.int xq), .val (.int xm), .val (.int v2), .unset, .unset, .unset, .unset, .unset, .unset, .unset] [(.int xs)])) (fun t_ k_ => XS.iloadN X0.here hx rfl (hb hby at_9) rfl k_) ?_
  refine own_Goes.via (T' := s₁) (g' := (mkF m 11 #[.val (.int xr), .val (.int xs), .val (.int xp), .val (.int xq), .val (.int xm), .val (.int v2), .unset, .unset, .unset, .unset, .unset, .unset, .unset] [(.int (3 : Int32)), (.int xs)])) (fun t_ k_ => XS.iconst X0.here hx rfl (hb hby at_10) k_) ?_
  refine own_Goes.via (T' := s₁) (g' := (mkF m 12 #[.val (.int xr), .val (.int xs), .val (.int xp), .val (.int xq), .val (.int xm), .val (.int v2), .unset, .unset, .unset, .unset, .unset, .unset, .unset] [(.int (xs &&& (3 : Int32)))])) (fun t_ k_ => XS.iand X0.here hx rfl (hb hby at_11) rfl k_) ?_
  refine own_Goes.via (T' := s₁) (g' := (mkF m 14 #[.val (.int xr), .val (.int xs), .val (.int xp), .val (.int xq), .val (.int xm), .val (.int v2), .val (.int (xs &&& (3 : Int32))), .unset, .unset, .unset, .unset, .unset, .unset] [])) (fun t_ k_ => XS.istore X0.here hx rfl (hb hby at_12) rfl (l' := #[.val (.int xr), .val (.int xs), .val (.int xp), .val (.int xq), .val (.int xm), .val (.int v2), .val (.int (xs &&& (3 : Int32))), .unset, .unset, .unset, .unset, .unset, .unset]) rfl k_) ?_
  obtain ⟨v3, hv3⟩ : ∃ z : Int32, z = (xs &&& (3 : Int32)) := ⟨_, rfl⟩
  rw [← hv3]
  refine own_Goes.via (T' := s₁) (g' := (mkF m 15 #[.val (.int xr), .val (.int xs), .val (.int xp), .val (.int xq), .val (.int xm), .val (.int v2), .val (.int v3), .unset, .unset, .unset, .unset, .unset, .unset] [(.int xp)])) (fun t_ k_ => XS.iloadN X0.here hx rfl (hb hby at_14) rfl k_) ?_
  refine own_Goes.via (T' := s₁) (g' := (mkF m 17 #[.val (.int xr), .val (.int xs), .val (.int xp), .val (.int xq), .val (.int xm), .val (.int v2), .val (.int v3), .unset, .unset, .unset, .unset, .unset, .unset] [(.int (2147483647 : Int32)), (.int xp)])) (X0.ldcInt hx hown (mvT hZ (hw _ (List.mem_of_getElem? (i := 0) rfl))) (g := (mkF m 15 #[.val (.int xr), .val (.int xs), .val (.int xp), .val (.int xq), .val (.int xm), .val (.int v2), .val (.int v3), .unset, .unset, .unset, .unset, .unset, .unset] [(.int xp)])) rfl (hb hby at_15)) ?_
  refine own_Goes.via (T' := s₁) (g' := (mkF m 18 #[.val (.int xr), .val (.int xs), .val (.int xp), .val (.int xq), .val (.int xm), .val (.int v2), .val (.int v3), .unset, .unset, .unset, .unset, .unset, .unset] [(.int (xp &&& (2147483647 : Int32)))])) (fun t_ k_ => XS.iand X0.here hx rfl (hb hby at_17) rfl k_) ?_
  refine own_Goes.via (T' := s₁) (g' := (mkF m 20 #[.val (.int xr), .val (.int xs), .val (.int xp), .val (.int xq), .val (.int xm), .val (.int v2), .val (.int v3), .unset, .unset, .unset, .unset, .unset, .unset] [(.int (13 : Int32)), (.int (xp &&& (2147483647 : Int32)))])) (fun t_ k_ => XS.bipush X0.here hx rfl (hb hby at_18) k_) ?_
  have nz20_4 : (13 : Int32) ≠ (0 : Int32) := by decide
  refine own_Goes.via (T' := s₁) (g' := (mkF m 21 #[.val (.int xr), .val (.int xs), .val (.int xp), .val (.int xq), .val (.int xm), .val (.int v2), .val (.int v3), .unset, .unset, .unset, .unset, .unset, .unset] [(.int ((xp &&& (2147483647 : Int32)) % (13 : Int32)))])) (fun t_ k_ => iremM X0 hx rfl (hb hby at_20) rfl nz20_4 k_) ?_
  refine own_Goes.via (T' := s₁) (g' := (mkF m 23 #[.val (.int xr), .val (.int xs), .val (.int xp), .val (.int xq), .val (.int xm), .val (.int v2), .val (.int v3), .val (.int ((xp &&& (2147483647 : Int32)) % (13 : Int32))), .unset, .unset, .unset, .unset, .unset] [])) (fun t_ k_ => XS.istore X0.here hx rfl (hb hby at_21) rfl (l' := #[.val (.int xr), .val (.int xs), .val (.int xp), .val (.int xq), .val (.int xm), .val (.int v2), .val (.int v3), .val (.int ((xp &&& (2147483647 : Int32)) % (13 : Int32))), .unset, .unset, .unset, .unset, .unset]) rfl k_) ?_
  obtain ⟨v5, hv5⟩ : ∃ z : Int32, z = ((xp &&& (2147483647 : Int32)) % (13 : Int32)) := ⟨_, rfl⟩
  rw [← hv5]
  refine own_Goes.via (T' := s₁) (g' := (mkF m 24 #[.val (.int xr), .val (.int xs), .val (.int xp), .val (.int xq), .val (.int xm), .val (.int v2), .val (.int v3), .val (.int v5), .unset, .unset, .unset, .unset, .unset] [(.int xq)])) (fun t_ k_ => XS.iloadN X0.here hx rfl (hb hby at_23) rfl k_) ?_
  refine own_Goes.via (T' := s₁) (g' := (mkF m 25 #[.val (.int xr), .val (.int xs), .val (.int xp), .val (.int xq), .val (.int xm), .val (.int v2), .val (.int v3), .val (.int v5), .unset, .unset, .unset, .unset, .unset] [(.int (3 : Int32)), (.int xq)])) (fun t_ k_ => XS.iconst X0.here hx rfl (hb hby at_24) k_) ?_
  refine own_Goes.via (T' := s₁) (g' := (mkF m 26 #[.val (.int xr), .val (.int xs), .val (.int xp), .val (.int xq), .val (.int xm), .val (.int v2), .val (.int v3), .val (.int v5), .unset, .unset, .unset, .unset, .unset] [(.int (xq &&& (3 : Int32)))])) (fun t_ k_ => XS.iand X0.here hx rfl (hb hby at_25) rfl k_) ?_
  refine own_Goes.via (T' := s₁) (g' := (mkF m 28 #[.val (.int xr), .val (.int xs), .val (.int xp), .val (.int xq), .val (.int xm), .val (.int v2), .val (.int v3), .val (.int v5), .val (.int (xq &&& (3 : Int32))), .unset, .unset, .unset, .unset] [])) (fun t_ k_ => XS.istore X0.here hx rfl (hb hby at_26) rfl (l' := #[.val (.int xr), .val (.int xs), .val (.int xp), .val (.int xq), .val (.int xm), .val (.int v2), .val (.int v3), .val (.int v5), .val (.int (xq &&& (3 : Int32))), .unset, .unset, .unset, .unset]) rfl k_) ?_
  obtain ⟨v6, hv6⟩ : ∃ z : Int32, z = (xq &&& (3 : Int32)) := ⟨_, rfl⟩
  rw [← hv6]
  refine own_Goes.via (T' := s₁) (g' := (mkF m 30 #[.val (.int xr), .val (.int xs), .val (.int xp), .val (.int xq), .val (.int xm), .val (.int v2), .val (.int v3), .val (.int v5), .val (.int v6), .unset, .unset, .unset, .unset] [(.int xm)])) (fun t_ k_ => XS.iload X0.here hx rfl (hb hby at_28) rfl k_) ?_
  refine own_Goes.via (T' := s₁) (g' := (mkF m 32 #[.val (.int xr), .val (.int xs), .val (.int xp), .val (.int xq), .val (.int xm), .val (.int v2), .val (.int v3), .val (.int v5), .val (.int v6), .unset, .unset, .unset, .unset] [(.int (7 : Int32)), (.int xm)])) (fun t_ k_ => XS.bipush X0.here hx rfl (hb hby at_30) k_) ?_
  refine own_Goes.via (T' := s₁) (g' := (mkF m 33 #[.val (.int xr), .val (.int xs), .val (.int xp), .val (.int xq), .val (.int xm), .val (.int v2), .val (.int v3), .val (.int v5), .val (.int v6), .unset, .unset, .unset, .unset] [(.int (xm &&& (7 : Int32)))])) (fun t_ k_ => XS.iand X0.here hx rfl (hb hby at_32) rfl k_) ?_
  refine own_Goes.via (T' := s₁) (g' := (mkF m 35 #[.val (.int xr), .val (.int xs), .val (.int xp), .val (.int xq), .val (.int xm), .val (.int v2), .val (.int v3), .val (.int v5), .val (.int v6), .val (.int (xm &&& (7 : Int32))), .unset, .unset, .unset] [])) (fun t_ k_ => XS.istore X0.here hx rfl (hb hby at_33) rfl (l' := #[.val (.int xr), .val (.int xs), .val (.int xp), .val (.int xq), .val (.int xm), .val (.int v2), .val (.int v3), .val (.int v5), .val (.int v6), .val (.int (xm &&& (7 : Int32))), .unset, .unset, .unset]) rfl k_) ?_
  obtain ⟨v7, hv7⟩ : ∃ z : Int32, z = (xm &&& (7 : Int32)) := ⟨_, rfl⟩
  rw [← hv7]
  obtain ⟨T8, h8, X8, e8, E8, A8, D8, -, st8⟩ := newO X0 hx hZ hown (hw _ (List.mem_of_getElem? (i := 1) rfl)) (hw _ (List.mem_of_getElem? (i := 2) rfl)) (hw _ (List.mem_of_getElem? (i := 3) rfl)) e0 (g := (mkF m 35 #[.val (.int xr), .val (.int xs), .val (.int xp), .val (.int xq), .val (.int xm), .val (.int v2), .val (.int v3), .val (.int v5), .val (.int v6), .val (.int v7), .unset, .unset, .unset] [])) rfl (hb hby at_35) (by decide) (by decide)
  obtain ⟨b8, g8⟩ : ∃ z, z = h0.size := ⟨_, rfl⟩
  rw [← g8] at A8 D8 st8
  have O9 : Old Z n0 h8 := OL.ext E8
  have ge_b8 : n0 ≤ b8 := Nat.le_trans Z0 (Nat.le_of_eq g8.symm)
  have sz_b8 : h0.size ≤ b8 := Nat.le_trans ((Keep.refl h0 [])).1 (Nat.le_of_eq g8.symm)
  have sz8 : n0 ≤ h8.size := Nat.le_trans Z0 E8.1
  have hk := Nat.le_trans hk E8.1
  have K8 : Keep h0 h8 [] := ((Keep.refl h0 [])).ext E8
  have E10 : Exa Z h8 b8 "com/example/wildsuit/wildsuit/card/Card" := A8
  have F11 : Fld Z h8 b8 "com/example/wildsuit/wildsuit/card/Card" "rank" "Lcom/example/wildsuit/wildsuit/card/Rank;" .null := D8 (Or.inr (hw _ (List.mem_of_getElem? (i := 42) rfl))) (ty := (.object "com/example/wildsuit/wildsuit/card/Rank")) (by decide)
  have F12 : Fld Z h8 b8 "com/example/wildsuit/wildsuit/card/Card" "suit" "Lcom/example/wildsuit/wildsuit/card/Suit;" .null := D8 (Or.inr (hw _ (List.mem_of_getElem? (i := 44) rfl))) (ty := (.object "com/example/wildsuit/wildsuit/card/Suit")) (by decide)
  refine own_Goes.via (T' := T8) (g' := (mkF m 38 #[.val (.int xr), .val (.int xs), .val (.int xp), .val (.int xq), .val (.int xm), .val (.int v2), .val (.int v3), .val (.int v5), .val (.int v6), .val (.int v7), .unset, .unset, .unset] [(.ref b8)])) (st8) ?_
  refine own_Goes.via (T' := T8) (g' := (mkF m 39 #[.val (.int xr), .val (.int xs), .val (.int xp), .val (.int xq), .val (.int xm), .val (.int v2), .val (.int v3), .val (.int v5), .val (.int v6), .val (.int v7), .unset, .unset, .unset] [(.ref b8), (.ref b8)])) (fun t_ k_ => XS.dup X8.here hx rfl (hb hby at_38) rfl rfl k_) ?_
  refine own_Goes.via (T' := T8) (g' := (mkF m 41 #[.val (.int xr), .val (.int xs), .val (.int xp), .val (.int xq), .val (.int xm), .val (.int v2), .val (.int v3), .val (.int v5), .val (.int v6), .val (.int v7), .unset, .unset, .unset] [(.int v2), (.ref b8), (.ref b8)])) (fun t_ k_ => XS.iload X8.here hx rfl (hb hby at_39) rfl k_) ?_
  obtain ⟨_, _, ⟨T13, L13, k13, n13⟩, -, X13, ⟨Lc13, hQ13, l13, y13, z13⟩, st13⟩ := Jvm.LawKit.callS X8 hx (y := (⟨"com/example/wildsuit/wildsuit/card/CardEqualsPinLaw", "rank", "(I)Lcom/example/wildsuit/wildsuit/card/Rank;"⟩ : MethodName)) hown (mvT hZ (hw _ (List.mem_of_getElem? (i := 4) rfl))) (mvT hZ (hw _ (List.mem_of_getElem? (i := 5) rfl))) (mvT hZ (hw _ (List.mem_of_getElem? (i := 6) rfl))) (mvT hZ (hw _ (List.mem_of_getElem? (i := 7) rfl))) (by decide) (backOf (W := 2) (rm1 l Z a0 hw [] v2 s_ACE s_TWO s_THREE s_FOUR s_FIVE s_SIX s_SEVEN s_EIGHT s_NINE s_TEN s_JACK s_QUEEN s_KING h8 n0 sz8 O9 S_ACE S_TWO S_THREE S_FOUR S_FIVE S_SIX S_SEVEN S_EIGHT S_NINE S_TEN S_JACK S_QUEEN S_KING) hZ (hw _ (List.mem_of_getElem? (i := 7) rfl)) (hw _ (List.mem_of_getElem? (i := 6) rfl)) (by decide) (by decide)) (g := (mkF m 41 #[.val (.int xr), .val (.int xs), .val (.int xp), .val (.int xq), .val (.int xm), .val (.int v2), .val (.int v3), .val (.int v5), .val (.int v6), .val (.int v7), .unset, .unset, .unset] [(.int v2), (.ref b8), (.ref b8)])) rfl (by rw [hml]; rfl) (argsL := [(.int v2)]) (rest := [(.ref b8), (.ref b8)]) (lenOf pd_0_0 rfl) rfl (by show 2 * 0 + _ ≤ _; exact Nat.le_of_eq rfl) (hb hby at_41) (fun _ _ => ⟨rfl, e8, (by decide : 1 + 0 ≤ _), (by decide : 2 + 0 ≤ _)⟩)
  dsimp only [Pt.U, Pt.locs, Pt.cells, Pt.slots] at X13 l13 y13 z13 st13 hQ13
  subst l13 y13 z13
  obtain ⟨rfl, Nq13, hh13⟩ := hQ13
  have N13 := Fr.app N0 Nq13
  refine own_Goes.via (T' := T13) (g' := (mkF m 44 #[.val (.int xr), .val (.int xs), .val (.int xp), .val (.int xq), .val (.int xm), .val (.int v2), .val (.int v3), .val (.int v5), .val (.int v6), .val (.int v7), .unset, .unset, .unset] [(.ref (own_rank s_ACE s_TWO s_THREE s_FOUR s_FIVE s_SIX s_SEVEN s_EIGHT s_NINE s_TEN s_JACK s_QUEEN s_KING v2)), (.ref b8), (.ref b8)])) (st13) ?_
  obtain ⟨v14, hv14⟩ : ∃ z : Addr, z = (own_rank s_ACE s_TWO s_THREE s_FOUR s_FIVE s_SIX s_SEVEN s_EIGHT s_NINE s_TEN s_JACK s_QUEEN s_KING v2) := ⟨_, rfl⟩
  rw [← hv14]
  refine own_Goes.via (T' := T13) (g' := (mkF m 46 #[.val (.int xr), .val (.int xs), .val (.int xp), .val (.int xq), .val (.int xm), .val (.int v2), .val (.int v3), .val (.int v5), .val (.int v6), .val (.int v7), .unset, .unset, .unset] [(.int v3), (.ref v14), (.ref b8), (.ref b8)])) (fun t_ k_ => XS.iload X13.here hx rfl (hb hby at_44) rfl k_) ?_
  obtain ⟨_, _, ⟨T15, L15, k15, n15⟩, -, X15, ⟨Lc15, hQ15, l15, y15, z15⟩, st15⟩ := Jvm.LawKit.callS X13 hx (y := (⟨"com/example/wildsuit/wildsuit/card/CardEqualsPinLaw", "suit", "(I)Lcom/example/wildsuit/wildsuit/card/Suit;"⟩ : MethodName)) hown (mvT hZ (hw _ (List.mem_of_getElem? (i := 11) rfl))) (mvT hZ (hw _ (List.mem_of_getElem? (i := 12) rfl))) (mvT hZ (hw _ (List.mem_of_getElem? (i := 6) rfl))) (mvT hZ (hw _ (List.mem_of_getElem? (i := 13) rfl))) (by decide) (backOf (W := 3) (rm2 l Z a0 hw [] v3 s_CLUBS s_DIAMONDS s_HEARTS s_SPADES h8 n0 sz8 O9 S_CLUBS S_DIAMONDS S_HEARTS S_SPADES) hZ (hw _ (List.mem_of_getElem? (i := 13) rfl)) (hw _ (List.mem_of_getElem? (i := 6) rfl)) (by decide) (by decide)) (g := (mkF m 46 #[.val (.int xr), .val (.int xs), .val (.int xp), .val (.int xq), .val (.int xm), .val (.int v2), .val (.int v3), .val (.int v5), .val (.int v6), .val (.int v7), .unset, .unset, .unset] [(.int v3), (.ref v14), (.ref b8), (.ref b8)])) rfl (by rw [hml]; rfl) (argsL := [(.int v3)]) (rest := [(.ref v14), (.ref b8), (.ref b8)]) (lenOf pd_0_1 rfl) rfl (by show 2 * 0 + _ ≤ _; exact Nat.le_of_eq rfl) (hb hby at_46) (fun _ _ => ⟨rfl, hh13, (by decide : 1 + 0 ≤ _), (by decide : 2 + 0 ≤ _)⟩)
  dsimp only [Pt.U, Pt.locs, Pt.cells, Pt.slots] at X15 l15 y15 z15 st15 hQ15
  subst l15 y15 z15
  obtain ⟨rfl, Nq15, hh15⟩ := hQ15
  have N15 := Fr.app N13 Nq15
  refine own_Goes.via (T' := T15) (g' := (mkF m 49 #[.val (.int xr), .val (.int xs), .val (.int xp), .val (.int xq), .val (.int xm), .val (.int v2), .val (.int v3), .val (.int v5), .val (.int v6), .val (.int v7), .unset, .unset, .unset] [(.ref (own_suit s_CLUBS s_DIAMONDS s_HEARTS s_SPADES v3)), (.ref v14), (.ref b8), (.ref b8)])) (st15) ?_
  obtain ⟨v16, hv16⟩ : ∃ z : Addr, z = (own_suit s_CLUBS s_DIAMONDS s_HEARTS s_SPADES v3) := ⟨_, rfl⟩
  rw [← hv16]
  obtain ⟨_, _, ⟨T17, L17, k17, n17⟩, -, X17, hs17, hg17, ⟨Lc17, hQ17, l17, y17, z17⟩, st17⟩ := X15.specialBackS hx (y := (⟨"com/example/wildsuit/wildsuit/card/Card", "<init>", "(Lcom/example/wildsuit/wildsuit/card/Rank;Lcom/example/wildsuit/wildsuit/card/Suit;)V"⟩ : MethodName)) rfl hown (mvT hZ (hw _ (List.mem_of_getElem? (i := 17) rfl))) (mvT hZ (hw _ (List.mem_of_getElem? (i := 18) rfl))) (mvT hZ (hw _ (List.mem_of_getElem? (i := 19) rfl))) (by decide) (backOfS (W := 1) (rm3 l Z a0 hw [] b8 v14 v16 h8 n0 sz8 E10 F11 F12 ge_b8) hZ (hw _ (List.mem_of_getElem? (i := 19) rfl)) (hw _ (List.mem_of_getElem? (i := 3) rfl)) (by decide) (by decide)) (g := (mkF m 49 #[.val (.int xr), .val (.int xs), .val (.int xp), .val (.int xq), .val (.int xm), .val (.int v2), .val (.int v3), .val (.int v5), .val (.int v6), .val (.int v7), .unset, .unset, .unset] [(.ref v16), (.ref v14), (.ref b8), (.ref b8)])) rfl (by rw [hml]; rfl) (Steps.refl _) (a := b8) (argsL := [(.ref v14), (.ref v16)]) (rest := [(.ref b8)]) (lenOf pd_0_2 rfl) rfl (by show 2 * 0 + _ ≤ _; exact Nat.le_of_eq rfl) (hb hby at_49) (fun _ _ => ⟨rfl, hh15, (by decide : 1 + 4 ≤ _), (by decide : 2 + 40 ≤ _)⟩)
  dsimp only [Pt.U, Pt.locs, Pt.cells, Pt.slots] at X17 l17 y17 z17 st17 hQ17 hs17 hg17
  obtain ⟨X17, hS, hZ, hown⟩ := rebS hS (n1 := T15.heap.size) (by rw [hh15]; exact hk) X17 hs17 hg17 hZ hown
  have hk := Nat.le_refl T17.heap.size
  subst l17 y17 z17
  obtain ⟨rfl, Nq17, Kq17, pf17_0, pf17_1, pf17_2⟩ := hQ17
  have N17 := Fr.app N15 Nq17
  have O18 : Old Z n0 T17.heap := O9.keep Kq17 (allS ge_b8 all0)
  have E19 : Exa Z T17.heap b8 "com/example/wildsuit/wildsuit/card/Card" := E10.keep Kq17
  have sz17 : n0 ≤ T17.heap.size := Nat.le_trans sz8 Kq17.1
  have K17 : Keep h0 T17.heap [] := (K8).trans Kq17 (allS (Or.inr sz_b8) all0)
  refine own_Goes.via (T' := T17) (g' := (mkF m 52 #[.val (.int xr), .val (.int xs), .val (.int xp), .val (.int xq), .val (.int xm), .val (.int v2), .val (.int v3), .val (.int v5), .val (.int v6), .val (.int v7), .unset, .unset, .unset] [(.ref b8)])) (fun t_ k_ => st17.trans k_) ?_
  refine own_Goes.via (T' := T17) (g' := (mkF m 54 #[.val (.int xr), .val (.int xs), .val (.int xp), .val (.int xq), .val (.int xm), .val (.int v2), .val (.int v3), .val (.int v5), .val (.int v6), .val (.int v7), .val (.ref b8), .unset, .unset] [])) (fun t_ k_ => XS.astore X17.here hx rfl (hb hby at_52) rfl rfl (l' := #[.val (.int xr), .val (.int xs), .val (.int xp), .val (.int xq), .val (.int xm), .val (.int v2), .val (.int v3), .val (.int v5), .val (.int v6), .val (.int v7), .val (.ref b8), .unset, .unset]) rfl k_) ?_
  obtain ⟨T20, h20, X20, e20, E20, A20, D20, -, st20⟩ := newO X17 hx hZ hown (hw _ (List.mem_of_getElem? (i := 1) rfl)) (hw _ (List.mem_of_getElem? (i := 2) rfl)) (hw _ (List.mem_of_getElem? (i := 3) rfl)) rfl (g := (mkF m 54 #[.val (.int xr), .val (.int xs), .val (.int xp), .val (.int xq), .val (.int xm), .val (.int v2), .val (.int v3), .val (.int v5), .val (.int v6), .val (.int v7), .val (.ref b8), .unset, .unset] [])) rfl (hb hby at_54) (by decide) (by decide)
  obtain ⟨b20, g20⟩ : ∃ z, z = T17.heap.size := ⟨_, rfl⟩
  rw [← g20] at A20 D20 st20
  have ne_b8_b20 : b8 ≠ b20 := Nat.ne_of_lt (Nat.lt_of_lt_of_le pf17_0.lt (Nat.le_of_eq g20.symm))
  have O21 : Old Z n0 h20 := O18.ext E20
  have E22 : Exa Z h20 b8 "com/example/wildsuit/wildsuit/card/Card" := pf17_0.ext E20
  have F23 : Fld Z h20 b8 "com/example/wildsuit/wildsuit/card/Card" "rank" "Lcom/example/wildsuit/wildsuit/card/Rank;" (.ref v14) := pf17_1.ext E20
  have F24 : Fld Z h20 b8 "com/example/wildsuit/wildsuit/card/Card" "suit" "Lcom/example/wildsuit/wildsuit/card/Suit;" (.ref v16) := pf17_2.ext E20
  have ge_b20 : n0 ≤ b20 := Nat.le_trans sz17 (Nat.le_of_eq g20.symm)
  have sz_b20 : h0.size ≤ b20 := Nat.le_trans (K17).1 (Nat.le_of_eq g20.symm)
  have sz20 : n0 ≤ h20.size := Nat.le_trans sz17 E20.1
  have hk := Nat.le_trans hk E20.1
  have K20 : Keep h0 h20 [] := (K17).ext E20
  have E25 : Exa Z h20 b20 "com/example/wildsuit/wildsuit/card/Card" := A20
  have F26 : Fld Z h20 b20 "com/example/wildsuit/wildsuit/card/Card" "rank" "Lcom/example/wildsuit/wildsuit/card/Rank;" .null := D20 (Or.inr (hw _ (List.mem_of_getElem? (i := 42) rfl))) (ty := (.object "com/example/wildsuit/wildsuit/card/Rank")) (by decide)
  have F27 : Fld Z h20 b20 "com/example/wildsuit/wildsuit/card/Card" "suit" "Lcom/example/wildsuit/wildsuit/card/Suit;" .null := D20 (Or.inr (hw _ (List.mem_of_getElem? (i := 44) rfl))) (ty := (.object "com/example/wildsuit/wildsuit/card/Suit")) (by decide)
  refine own_Goes.via (T' := T20) (g' := (mkF m 57 #[.val (.int xr), .val (.int xs), .val (.int xp), .val (.int xq), .val (.int xm), .val (.int v2), .val (.int v3), .val (.int v5), .val (.int v6), .val (.int v7), .val (.ref b8), .unset, .unset] [(.ref b20)])) (st20) ?_
  refine own_Goes.via (T' := T20) (g' := (mkF m 58 #[.val (.int xr), .val (.int xs), .val (.int xp), .val (.int xq), .val (.int xm), .val (.int v2), .val (.int v3), .val (.int v5), .val (.int v6), .val (.int v7), .val (.ref b8), .unset, .unset] [(.ref b20), (.ref b20)])) (fun t_ k_ => XS.dup X20.here hx rfl (hb hby at_57) rfl rfl k_) ?_
  refine own_Goes.via (T' := T20) (g' := (mkF m 60 #[.val (.int xr), .val (.int xs), .val (.int xp), .val (.int xq), .val (.int xm), .val (.int v2), .val (.int v3), .val (.int v5), .val (.int v6), .val (.int v7), .val (.ref b8), .unset, .unset] [(.int v5), (.ref b20), (.ref b20)])) (fun t_ k_ => XS.iload X20.here hx rfl (hb hby at_58) rfl k_) ?_
  obtain ⟨_, _, ⟨T28, L28, k28, n28⟩, -, X28, ⟨Lc28, hQ28, l28, y28, z28⟩, st28⟩ := Jvm.LawKit.callS X20 hx (y := (⟨"com/example/wildsuit/wildsuit/card/CardEqualsPinLaw", "rank", "(I)Lcom/example/wildsuit/wildsuit/card/Rank;"⟩ : MethodName)) hown (mvT hZ (hw _ (List.mem_of_getElem? (i := 4) rfl))) (mvT hZ (hw _ (List.mem_of_getElem? (i := 5) rfl))) (mvT hZ (hw _ (List.mem_of_getElem? (i := 6) rfl))) (mvT hZ (hw _ (List.mem_of_getElem? (i := 7) rfl))) (by decide) (backOf (W := 2) (rm1 l Z a0 hw [] v5 s_ACE s_TWO s_THREE s_FOUR s_FIVE s_SIX s_SEVEN s_EIGHT s_NINE s_TEN s_JACK s_QUEEN s_KING h20 n0 sz20 O21 S_ACE S_TWO S_THREE S_FOUR S_FIVE S_SIX S_SEVEN S_EIGHT S_NINE S_TEN S_JACK S_QUEEN S_KING) hZ (hw _ (List.mem_of_getElem? (i := 7) rfl)) (hw _ (List.mem_of_getElem? (i := 6) rfl)) (by decide) (by decide)) (g := (mkF m 60 #[.val (.int xr), .val (.int xs), .val (.int xp), .val (.int xq), .val (.int xm), .val (.int v2), .val (.int v3), .val (.int v5), .val (.int v6), .val (.int v7), .val (.ref b8), .unset, .unset] [(.int v5), (.ref b20), (.ref b20)])) rfl (by rw [hml]; rfl) (argsL := [(.int v5)]) (rest := [(.ref b20), (.ref b20)]) (lenOf pd_0_0 rfl) rfl (by show 2 * 0 + _ ≤ _; exact Nat.le_of_eq rfl) (hb hby at_60) (fun _ _ => ⟨rfl, e20, (by decide : 6 + 0 ≤ _), (by decide : 44 + 0 ≤ _)⟩)
  dsimp only [Pt.U, Pt.locs, Pt.cells, Pt.slots] at X28 l28 y28 z28 st28 hQ28
  subst l28 y28 z28
  obtain ⟨rfl, Nq28, hh28⟩ := hQ28
  have N28 := Fr.app N17 Nq28
  refine own_Goes.via (T' := T28) (g' := (mkF m 63 #[.val (.int xr), .val (.int xs), .val (.int xp), .val (.int xq), .val (.int xm), .val (.int v2), .val (.int v3), .val (.int v5), .val (.int v6), .val (.int v7), .val (.ref b8), .unset, .unset] [(.ref (own_rank s_ACE s_TWO s_THREE s_FOUR s_FIVE s_SIX s_SEVEN s_EIGHT s_NINE s_TEN s_JACK s_QUEEN s_KING v5)), (.ref b20), (.ref b20)])) (st28) ?_
  obtain ⟨v29, hv29⟩ : ∃ z : Addr, z = (own_rank s_ACE s_TWO s_THREE s_FOUR s_FIVE s_SIX s_SEVEN s_EIGHT s_NINE s_TEN s_JACK s_QUEEN s_KING v5) := ⟨_, rfl⟩
  rw [← hv29]
  refine own_Goes.via (T' := T28) (g' := (mkF m 65 #[.val (.int xr), .val (.int xs), .val (.int xp), .val (.int xq), .val (.int xm), .val (.int v2), .val (.int v3), .val (.int v5), .val (.int v6), .val (.int v7), .val (.ref b8), .unset, .unset] [(.int v6), (.ref v29), (.ref b20), (.ref b20)])) (fun t_ k_ => XS.iload X28.here hx rfl (hb hby at_63) rfl k_) ?_
  obtain ⟨_, _, ⟨T30, L30, k30, n30⟩, -, X30, ⟨Lc30, hQ30, l30, y30, z30⟩, st30⟩ := Jvm.LawKit.callS X28 hx (y := (⟨"com/example/wildsuit/wildsuit/card/CardEqualsPinLaw", "suit", "(I)Lcom/example/wildsuit/wildsuit/card/Suit;"⟩ : MethodName)) hown (mvT hZ (hw _ (List.mem_of_getElem? (i := 11) rfl))) (mvT hZ (hw _ (List.mem_of_getElem? (i := 12) rfl))) (mvT hZ (hw _ (List.mem_of_getElem? (i := 6) rfl))) (mvT hZ (hw _ (List.mem_of_getElem? (i := 13) rfl))) (by decide) (backOf (W := 3) (rm2 l Z a0 hw [] v6 s_CLUBS s_DIAMONDS s_HEARTS s_SPADES h20 n0 sz20 O21 S_CLUBS S_DIAMONDS S_HEARTS S_SPADES) hZ (hw _ (List.mem_of_getElem? (i := 13) rfl)) (hw _ (List.mem_of_getElem? (i := 6) rfl)) (by decide) (by decide)) (g := (mkF m 65 #[.val (.int xr), .val (.int xs), .val (.int xp), .val (.int xq), .val (.int xm), .val (.int v2), .val (.int v3), .val (.int v5), .val (.int v6), .val (.int v7), .val (.ref b8), .unset, .unset] [(.int v6), (.ref v29), (.ref b20), (.ref b20)])) rfl (by rw [hml]; rfl) (argsL := [(.int v6)]) (rest := [(.ref v29), (.ref b20), (.ref b20)]) (lenOf pd_0_1 rfl) rfl (by show 2 * 0 + _ ≤ _; exact Nat.le_of_eq rfl) (hb hby at_65) (fun _ _ => ⟨rfl, hh28, (by decide : 6 + 0 ≤ _), (by decide : 44 + 0 ≤ _)⟩)
  dsimp only [Pt.U, Pt.locs, Pt.cells, Pt.slots] at X30 l30 y30 z30 st30 hQ30
  subst l30 y30 z30
  obtain ⟨rfl, Nq30, hh30⟩ := hQ30
  have N30 := Fr.app N28 Nq30
  refine own_Goes.via (T' := T30) (g' := (mkF m 68 #[.val (.int xr), .val (.int xs), .val (.int xp), .val (.int xq), .val (.int xm), .val (.int v2), .val (.int v3), .val (.int v5), .val (.int v6), .val (.int v7), .val (.ref b8), .unset, .unset] [(.ref (own_suit s_CLUBS s_DIAMONDS s_HEARTS s_SPADES v6)), (.ref v29), (.ref b20), (.ref b20)])) (st30) ?_
  obtain ⟨v31, hv31⟩ : ∃ z : Addr, z = (own_suit s_CLUBS s_DIAMONDS s_HEARTS s_SPADES v6) := ⟨_, rfl⟩
  rw [← hv31]
  obtain ⟨_, _, ⟨T32, L32, k32, n32⟩, -, X32, hs32, hg32, ⟨Lc32, hQ32, l32, y32, z32⟩, st32⟩ := X30.specialBackS hx (y := (⟨"com/example/wildsuit/wildsuit/card/Card", "<init>", "(Lcom/example/wildsuit/wildsuit/card/Rank;Lcom/example/wildsuit/wildsuit/card/Suit;)V"⟩ : MethodName)) rfl hown (mvT hZ (hw _ (List.mem_of_getElem? (i := 17) rfl))) (mvT hZ (hw _ (List.mem_of_getElem? (i := 18) rfl))) (mvT hZ (hw _ (List.mem_of_getElem? (i := 19) rfl))) (by decide) (backOfS (W := 1) (rm3 l Z a0 hw [] b20 v29 v31 h20 n0 sz20 E25 F26 F27 ge_b20) hZ (hw _ (List.mem_of_getElem? (i := 19) rfl)) (hw _ (List.mem_of_getElem? (i := 3) rfl)) (by decide) (by decide)) (g := (mkF m 68 #[.val (.int xr), .val (.int xs), .val (.int xp), .val (.int xq), .val (.int xm), .val (.int v2), .val (.int v3), .val (.int v5), .val (.int v6), .val (.int v7), .val (.ref b8), .unset, .unset] [(.ref v31), (.ref v29), (.ref b20), (.ref b20)])) rfl (by rw [hml]; rfl) (Steps.refl _) (a := b20) (argsL := [(.ref v29), (.ref v31)]) (rest := [(.ref b20)]) (lenOf pd_0_2 rfl) rfl (by show 2 * 0 + _ ≤ _; exact Nat.le_of_eq rfl) (hb hby at_68) (fun _ _ => ⟨rfl, hh30, (by decide : 6 + 4 ≤ _), (by decide : 44 + 40 ≤ _)⟩)
  dsimp only [Pt.U, Pt.locs, Pt.cells, Pt.slots] at X32 l32 y32 z32 st32 hQ32 hs32 hg32
  obtain ⟨X32, hS, hZ, hown⟩ := rebS hS (n1 := T30.heap.size) (by rw [hh30]; exact hk) X32 hs32 hg32 hZ hown
  have hk := Nat.le_refl T32.heap.size
  subst l32 y32 z32
  obtain ⟨rfl, Nq32, Kq32, pf32_0, pf32_1, pf32_2⟩ := hQ32
  have N32 := Fr.app N30 Nq32
  have O33 : Old Z n0 T32.heap := O21.keep Kq32 (allS ge_b20 all0)
  have E34 : Exa Z T32.heap b8 "com/example/wildsuit/wildsuit/card/Card" := E22.keep Kq32
  have F35 : Fld Z T32.heap b8 "com/example/wildsuit/wildsuit/card/Card" "rank" "Lcom/example/wildsuit/wildsuit/card/Rank;" (.ref v14) := F23.keep Kq32 (ninS ne_b8_b20 nin0)
  have F36 : Fld Z T32.heap b8 "com/example/wildsuit/wildsuit/card/Card" "suit" "Lcom/example/wildsuit/wildsuit/card/Suit;" (.ref v16) := F24.keep Kq32 (ninS ne_b8_b20 nin0)
  have E37 : Exa Z T32.heap b20 "com/example/wildsuit/wildsuit/card/Card" := E25.keep Kq32
  have sz32 : n0 ≤ T32.heap.size := Nat.le_trans sz20 Kq32.1
  have K32 : Keep h0 T32.heap [] := (K20).trans Kq32 (allS (Or.inr sz_b20) all0)
  refine own_Goes.via (T' := T32) (g' := (mkF m 71 #[.val (.int xr), .val (.int xs), .val (.int xp), .val (.int xq), .val (.int xm), .val (.int v2), .val (.int v3), .val (.int v5), .val (.int v6), .val (.int v7), .val (.ref b8), .unset, .unset] [(.ref b20)])) (fun t_ k_ => st32.trans k_) ?_
  refine own_Goes.via (T' := T32) (g' := (mkF m 73 #[.val (.int xr), .val (.int xs), .val (.int xp), .val (.int xq), .val (.int xm), .val (.int v2), .val (.int v3), .val (.int v5), .val (.int v6), .val (.int v7), .val (.ref b8), .val (.ref b20), .unset] [])) (fun t_ k_ => XS.astore X32.here hx rfl (hb hby at_71) rfl rfl (l' := #[.val (.int xr), .val (.int xs), .val (.int xp), .val (.int xq), .val (.int xm), .val (.int v2), .val (.int v3), .val (.int v5), .val (.int v6), .val (.int v7), .val (.ref b8), .val (.ref b20), .unset]) rfl k_) ?_
  refine own_Goes.via (T' := T32) (g' := (mkF m 75 #[.val (.int xr), .val (.int xs), .val (.int xp), .val (.int xq), .val (.int xm), .val (.int v2), .val (.int v3), .val (.int v5), .val (.int v6), .val (.int v7), .val (.ref b8), .val (.ref b20), .unset] [(.int v7)])) (fun t_ k_ => XS.iload X32.here hx rfl (hb hby at_73) rfl k_) ?_
  refine own_Goes.via (T' := T32) (g' := (mkF m 76 #[.val (.int xr), .val (.int xs), .val (.int xp), .val (.int xq), .val (.int xm), .val (.int v2), .val (.int v3), .val (.int v5), .val (.int v6), .val (.int v7), .val (.ref b8), .val (.ref b20), .unset] [(.int (4 : Int32)), (.int v7)])) (fun t_ k_ => XS.iconst X32.here hx rfl (hb hby at_75) k_) ?_
  by_cases hc76_38 : v7 < (4 : Int32)
  · refine own_Goes.via (T' := T32) (g' := (mkF m 79 #[.val (.int xr), .val (.int xs), .val (.int xp), .val (.int xq), .val (.int xm), .val (.int v2), .val (.int v3), .val (.int v5), .val (.int v6), .val (.int v7), .val (.ref b8), .val (.ref b20), .unset] [])) (fun t_ k_ => XS.icmpNo X32.here hx rfl (hb hby at_76) rfl (tlt hc76_38).2.1 k_) ?_
    refine own_Goes.via (T' := T32) (g' := (mkF m 81 #[.val (.int xr), .val (.int xs), .val (.int xp), .val (.int xq), .val (.int xm), .val (.int v2), .val (.int v3), .val (.int v5), .val (.int v6), .val (.int v7), .val (.ref b8), .val (.ref b20), .unset] [(.int v2)])) (fun t_ k_ => XS.iload X32.here hx rfl (hb hby at_79) rfl k_) ?_
    refine own_Goes.via (T' := T32) (g' := (mkF m 83 #[.val (.int xr), .val (.int xs), .val (.int xp), .val (.int xq), .val (.int xm), .val (.int v2), .val (.int v3), .val (.int v5), .val (.int v6), .val (.int v7), .val (.ref b8), .val (.ref b20), .unset] [(.int v5), (.int v2)])) (fun t_ k_ => XS.iload X32.here hx rfl (hb hby at_81) rfl k_) ?_
    suffices J98_42 : ∀ (v98_40 : Int32) (hv98_40 : v98_40 = (if v2 = v5 then (if v3 = v6 then (1 : Int32) else (0 : Int32)) else (0 : Int32))), own_Goes p.tables e below P T32 (mkF m 98 #[.val (.int xr), .val (.int xs), .val (.int xp), .val (.int xq), .val (.int xm), .val (.int v2), .val (.int v3), .val (.int v5), .val (.int v6), .val (.int v7), .val (.ref b8), .val (.ref b20), .unset] [(.int v98_40)]) by
      by_cases hc83_39 : v2 = v5
      · refine own_Goes.via (T' := T32) (g' := (mkF m 86 #[.val (.int xr), .val (.int xs), .val (.int xp), .val (.int xq), .val (.int xm), .val (.int v2), .val (.int v3), .val (.int v5), .val (.int v6), .val (.int v7), .val (.ref b8), .val (.ref b20), .unset] [])) (fun t_ k_ => XS.icmpNo X32.here hx rfl (hb hby at_83) rfl (teq hc83_39).2 k_) ?_
        refine own_Goes.via (T' := T32) (g' := (mkF m 88 #[.val (.int xr), .val (.int xs), .val (.int xp), .val (.int xq), .val (.int xm), .val (.int v2), .val (.int v3), .val (.int v5), .val (.int v6), .val (.int v7), .val (.ref b8), .val (.ref b20), .unset] [(.int v3)])) (fun t_ k_ => XS.iload X32.here hx rfl (hb hby at_86) rfl k_) ?_
        refine own_Goes.via (T' := T32) (g' := (mkF m 90 #[.val (.int xr), .val (.int xs), .val (.int xp), .val (.int xq), .val (.int xm), .val (.int v2), .val (.int v3), .val (.int v5), .val (.int v6), .val (.int v7), .val (.ref b8), .val (.ref b20), .unset] [(.int v6), (.int v3)])) (fun t_ k_ => XS.iload X32.here hx rfl (hb hby at_88) rfl k_) ?_
        by_cases hc90_43 : v3 = v6
        · refine own_Goes.via (T' := T32) (g' := (mkF m 93 #[.val (.int xr), .val (.int xs), .val (.int xp), .val (.int xq), .val (.int xm), .val (.int v2), .val (.int v3), .val (.int v5), .val (.int v6), .val (.int v7), .val (.ref b8), .val (.ref b20), .unset] [])) (fun t_ k_ => XS.icmpNo X32.here hx rfl (hb hby at_90) rfl (teq hc90_43).2 k_) ?_
          refine own_Goes.via (T' := T32) (g' := (mkF m 94 #[.val (.int xr), .val (.int xs), .val (.int xp), .val (.int xq), .val (.int xm), .val (.int v2), .val (.int v3), .val (.int v5), .val (.int v6), .val (.int v7), .val (.ref b8), .val (.ref b20), .unset] [(.int (1 : Int32))])) (fun t_ k_ => XS.iconst X32.here hx rfl (hb hby at_93) k_) ?_
          refine own_Goes.via (T' := T32) (g' := (mkF m 98 #[.val (.int xr), .val (.int xs), .val (.int xp), .val (.int xq), .val (.int xm), .val (.int v2), .val (.int v3), .val (.int v5), .val (.int v6), .val (.int v7), .val (.ref b8), .val (.ref b20), .unset] [(.int (1 : Int32))])) (fun t_ k_ => XS.goto X32.here hx rfl (pc0 := 94) (pc' := 98) rfl (hb hby at_94) (by decide) (by decide) k_) ?_
          exact J98_42 (1 : Int32) (((if_pos hc83_39).trans (if_pos hc90_43))).symm
        · refine own_Goes.via (T' := T32) (g' := (mkF m 97 #[.val (.int xr), .val (.int xs), .val (.int xp), .val (.int xq), .val (.int xm), .val (.int v2), .val (.int v3), .val (.int v5), .val (.int v6), .val (.int v7), .val (.ref b8), .val (.ref b20), .unset] [])) (fun t_ k_ => XS.icmpYes X32.here hx rfl (pc0 := 90) (pc' := 97) rfl (hb hby at_90) rfl (feq hc90_43).2 (by decide) (by decide) k_) ?_
          refine own_Goes.via (T' := T32) (g' := (mkF m 98 #[.val (.int xr), .val (.int xs), .val (.int xp), .val (.int xq), .val (.int xm), .val (.int v2), .val (.int v3), .val (.int v5), .val (.int v6), .val (.int v7), .val (.ref b8), .val (.ref b20), .unset] [(.int (0 : Int32))])) (fun t_ k_ => XS.iconst X32.here hx rfl (hb hby at_97) k_) ?_
          exact J98_42 (0 : Int32) (((if_pos hc83_39).trans (if_neg hc90_43))).symm
      · refine own_Goes.via (T' := T32) (g' := (mkF m 97 #[.val (.int xr), .val (.int xs), .val (.int xp), .val (.int xq), .val (.int xm), .val (.int v2), .val (.int v3), .val (.int v5), .val (.int v6), .val (.int v7), .val (.ref b8), .val (.ref b20), .unset] [])) (fun t_ k_ => XS.icmpYes X32.here hx rfl (pc0 := 83) (pc' := 97) rfl (hb hby at_83) rfl (feq hc83_39).2 (by decide) (by decide) k_) ?_
        refine own_Goes.via (T' := T32) (g' := (mkF m 98 #[.val (.int xr), .val (.int xs), .val (.int xp), .val (.int xq), .val (.int xm), .val (.int v2), .val (.int v3), .val (.int v5), .val (.int v6), .val (.int v7), .val (.ref b8), .val (.ref b20), .unset] [(.int (0 : Int32))])) (fun t_ k_ => XS.iconst X32.here hx rfl (hb hby at_97) k_) ?_
        exact J98_42 (0 : Int32) ((if_neg hc83_39)).symm
    intro v98_40 hv98_40
    refine own_Goes.via (T' := T32) (g' := (mkF m 100 #[.val (.int xr), .val (.int xs), .val (.int xp), .val (.int xq), .val (.int xm), .val (.int v2), .val (.int v3), .val (.int v5), .val (.int v6), .val (.int v7), .val (.ref b8), .val (.ref b20), .val (.int v98_40)] [])) (fun t_ k_ => XS.istore X32.here hx rfl (hb hby at_98) rfl (l' := #[.val (.int xr), .val (.int xs), .val (.int xp), .val (.int xq), .val (.int xm), .val (.int v2), .val (.int v3), .val (.int v5), .val (.int v6), .val (.int v7), .val (.ref b8), .val (.ref b20), .val (.int v98_40)]) rfl k_) ?_
    refine own_Goes.via (T' := T32) (g' := (mkF m 102 #[.val (.int xr), .val (.int xs), .val (.int xp), .val (.int xq), .val (.int xm), .val (.int v2), .val (.int v3), .val (.int v5), .val (.int v6), .val (.int v7), .val (.ref b8), .val (.ref b20), .val (.int v98_40)] [(.ref b8)])) (fun t_ k_ => XS.aload X32.here hx rfl (hb hby at_100) rfl rfl k_) ?_
    refine own_Goes.via (T' := T32) (g' := (mkF m 104 #[.val (.int xr), .val (.int xs), .val (.int xp), .val (.int xq), .val (.int xm), .val (.int v2), .val (.int v3), .val (.int v5), .val (.int v6), .val (.int v7), .val (.ref b8), .val (.ref b20), .val (.int v98_40)] [(.ref b20), (.ref b8)])) (fun t_ k_ => XS.aload X32.here hx rfl (hb hby at_102) rfl rfl k_) ?_
    obtain ⟨cq44, kq44, q44a, q44b, q44c⟩ := isOf hZ rfl E34
    obtain ⟨_, _, ⟨T44, L44, k44, n44⟩, -, X44, ⟨Lc44, hQ44, l44, y44, z44⟩, st44⟩ := X32.virtualBack hx (y := (⟨"com/example/wildsuit/wildsuit/card/Card", "equals", "(Ljava/lang/Object;)Z"⟩ : MethodName)) (z := (⟨"com/example/wildsuit/wildsuit/card/Card", "equals", "(Ljava/lang/Object;)Z"⟩ : MethodName)) hown (mvT hZ (hw _ (List.mem_of_getElem? (i := 49) rfl))) (mvT hZ (hw _ (List.mem_of_getElem? (i := 50) rfl))) (notFace_of_selects (args := #[]) (mvT hZ (hw _ (List.mem_of_getElem? (i := 52) rfl)))) (mvT hZ (hw _ (List.mem_of_getElem? (i := 52) rfl))) (mvT hZ (hw _ (List.mem_of_getElem? (i := 51) rfl))) (by decide) (backOf (W := 0) (rm7a l Z a0 hw [] b8 b20 v14 v16 v29 v31 T32.heap n0 sz32 pf32_0 F35 F36 pf32_1 pf32_2) hZ (hw _ (List.mem_of_getElem? (i := 53) rfl)) (hw _ (List.mem_of_getElem? (i := 3) rfl)) (by decide) (by decide)) q44a q44c (g := (mkF m 104 #[.val (.int xr), .val (.int xs), .val (.int xp), .val (.int xq), .val (.int xm), .val (.int v2), .val (.int v3), .val (.int v5), .val (.int v6), .val (.int v7), .val (.ref b8), .val (.ref b20), .val (.int v98_40)] [(.ref b20), (.ref b8)])) rfl (by rw [hml]; rfl) (Steps.refl _) (argsL := [(.ref b20)]) (rest := []) (lenOf pd_0_3 rfl) rfl (by show 2 * 0 + _ ≤ _; exact Nat.le_of_eq rfl) (hb hby at_104) (fun _ _ => ⟨rfl, rfl, (by decide : 10 + 0 ≤ _), (by decide : 84 + 0 ≤ _)⟩)
    dsimp only [Pt.U, Pt.locs, Pt.cells, Pt.slots] at X44 l44 y44 z44 st44 hQ44
    subst l44 y44 z44
    obtain ⟨rfl, Nq44, hh44⟩ := hQ44
    have N44 := Fr.app N32 Nq44
    refine own_Goes.via (T' := T44) (g' := (mkF m 107 #[.val (.int xr), .val (.int xs), .val (.int xp), .val (.int xq), .val (.int xm), .val (.int v2), .val (.int v3), .val (.int v5), .val (.int v6), .val (.int v7), .val (.ref b8), .val (.ref b20), .val (.int v98_40)] [(.int (if b8 = b20 then (1 : Int32) else (if v14 = v29 then (if v16 = v31 then (1 : Int32) else (0 : Int32)) else (0 : Int32))))])) (fun t_ k_ => st44.trans k_) ?_
    obtain ⟨v45, hv45⟩ : ∃ z : Int32, z = (if b8 = b20 then (1 : Int32) else (if v14 = v29 then (if v16 = v31 then (1 : Int32) else (0 : Int32)) else (0 : Int32))) := ⟨_, rfl⟩
    rw [← hv45]
    have hne2 := ne_b8_b20
    refine own_Goes.via (T' := T44) (g' := (mkF m 109 #[.val (.int xr), .val (.int xs), .val (.int xp), .val (.int xq), .val (.int xm), .val (.int v2), .val (.int v3), .val (.int v5), .val (.int v6), .val (.int v7), .val (.ref b8), .val (.ref b20), .val (.int v98_40)] [(.int v98_40), (.int v45)])) (fun t_ k_ => XS.iload X44.here hx rfl (hb hby at_107) rfl k_) ?_
    suffices J129_49 : ∀ (T48 : State) (L48 : List Loc) (X48 : Stand p l e room_1 (s.setVm T32.vm) m #[(.int xr), (.int xs), (.int xp), (.int xq), (.int xm)] below meth c T48 L48 10 84) (e48 : T48.heap = T32.heap) (N48 : Fr n0 L48) (v129_47 : Int32) (hv129_47 : v129_47 = (if v45 = v98_40 then (if (if b20 = b8 then (1 : Int32) else (if v29 = v14 then (if v31 = v16 then (1 : Int32) else (0 : Int32)) else (0 : Int32))) = v98_40 then (1 : Int32) else (0 : Int32)) else (0 : Int32))), own_Goes p.tables e below P T48 (mkF m 129 #[.val (.int xr), .val (.int xs), .val (.int xp), .val (.int xq), .val (.int xm), .val (.int v2), .val (.int v3), .val (.int v5), .val (.int v6), .val (.int v7), .val (.ref b8), .val (.ref b20), .val (.int v98_40)] [(.int v129_47)]) by
      by_cases hc109_46 : v45 = v98_40
      · refine own_Goes.via (T' := T44) (g' := (mkF m 112 #[.val (.int xr), .val (.int xs), .val (.int xp), .val (.int xq), .val (.int xm), .val (.int v2), .val (.int v3), .val (.int v5), .val (.int v6), .val (.int v7), .val (.ref b8), .val (.ref b20), .val (.int v98_40)] [])) (fun t_ k_ => XS.icmpNo X44.here hx rfl (hb hby at_109) rfl (teq hc109_46).2 k_) ?_
        refine own_Goes.via (T' := T44) (g' := (mkF m 114 #[.val (.int xr), .val (.int xs), .val (.int xp), .val (.int xq), .val (.int xm), .val (.int v2), .val (.int v3), .val (.int v5), .val (.int v6), .val (.int v7), .val (.ref b8), .val (.ref b20), .val (.int v98_40)] [(.ref b20)])) (fun t_ k_ => XS.aload X44.here hx rfl (hb hby at_112) rfl rfl k_) ?_
        refine own_Goes.via (T' := T44) (g' := (mkF m 116 #[.val (.int xr), .val (.int xs), .val (.int xp), .val (.int xq), .val (.int xm), .val (.int v2), .val (.int v3), .val (.int v5), .val (.int v6), .val (.int v7), .val (.ref b8), .val (.ref b20), .val (.int v98_40)] [(.ref b8), (.ref b20)])) (fun t_ k_ => XS.aload X44.here hx rfl (hb hby at_114) rfl rfl k_) ?_
        obtain ⟨cq50, kq50, q50a, q50b, q50c⟩ := isOf hZ hh44 pf32_0
        obtain ⟨_, _, ⟨T50, L50, k50, n50⟩, -, X50, ⟨Lc50, hQ50, l50, y50, z50⟩, st50⟩ := X44.virtualBack hx (y := (⟨"com/example/wildsuit/wildsuit/card/Card", "equals", "(Ljava/lang/Object;)Z"⟩ : MethodName)) (z := (⟨"com/example/wildsuit/wildsuit/card/Card", "equals", "(Ljava/lang/Object;)Z"⟩ : MethodName)) hown (mvT hZ (hw _ (List.mem_of_getElem? (i := 49) rfl))) (mvT hZ (hw _ (List.mem_of_getElem? (i := 50) rfl))) (notFace_of_selects (args := #[]) (mvT hZ (hw _ (List.mem_of_getElem? (i := 52) rfl)))) (mvT hZ (hw _ (List.mem_of_getElem? (i := 52) rfl))) (mvT hZ (hw _ (List.mem_of_getElem? (i := 51) rfl))) (by decide) (backOf (W := 0) (rm7a l Z a0 hw [] b20 b8 v29 v31 v14 v16 T32.heap n0 sz32 E34 pf32_1 pf32_2 F35 F36) hZ (hw _ (List.mem_of_getElem? (i := 53) rfl)) (hw _ (List.mem_of_getElem? (i := 3) rfl)) (by decide) (by decide)) q50a q50c (g := (mkF m 116 #[.val (.int xr), .val (.int xs), .val (.int xp), .val (.int xq), .val (.int xm), .val (.int v2), .val (.int v3), .val (.int v5), .val (.int v6), .val (.int v7), .val (.ref b8), .val (.ref b20), .val (.int v98_40)] [(.ref b8), (.ref b20)])) rfl (by rw [hml]; rfl) (Steps.refl _) (argsL := [(.ref b8)]) (rest := []) (lenOf pd_0_3 rfl) rfl (by show 2 * 0 + _ ≤ _; exact Nat.le_of_eq rfl) (hb hby at_116) (fun _ _ => ⟨rfl, hh44, (by decide : 10 + 0 ≤ _), (by decide : 84 + 0 ≤ _)⟩)
        dsimp only [Pt.U, Pt.locs, Pt.cells, Pt.slots] at X50 l50 y50 z50 st50 hQ50
        subst l50 y50 z50
        obtain ⟨rfl, Nq50, hh50⟩ := hQ50
        have N50 := Fr.app N44 Nq50
        refine own_Goes.via (T' := T50) (g' := (mkF m 119 #[.val (.int xr), .val (.int xs), .val (.int xp), .val (.int xq), .val (.int xm), .val (.int v2), .val (.int v3), .val (.int v5), .val (.int v6), .val (.int v7), .val (.ref b8), .val (.ref b20), .val (.int v98_40)] [(.int (if b20 = b8 then (1 : Int32) else (if v29 = v14 then (if v31 = v16 then (1 : Int32) else (0 : Int32)) else (0 : Int32))))])) (fun t_ k_ => st50.trans k_) ?_
        refine own_Goes.via (T' := T50) (g' := (mkF m 121 #[.val (.int xr), .val (.int xs), .val (.int xp), .val (.int xq), .val (.int xm), .val (.int v2), .val (.int v3), .val (.int v5), .val (.int v6), .val (.int v7), .val (.ref b8), .val (.ref b20), .val (.int v98_40)] [(.int v98_40), (.int (if b20 = b8 then (1 : Int32) else (if v29 = v14 then (if v31 = v16 then (1 : Int32) else (0 : Int32)) else (0 : Int32))))])) (fun t_ k_ => XS.iload X50.here hx rfl (hb hby at_119) rfl k_) ?_
        by_cases hc121_51 : (if b20 = b8 then (1 : Int32) else (if v29 = v14 then (if v31 = v16 then (1 : Int32) else (0 : Int32)) else (0 : Int32))) = v98_40
        · refine own_Goes.via (T' := T50) (g' := (mkF m 124 #[.val (.int xr), .val (.int xs), .val (.int xp), .val (.int xq), .val (.int xm), .val (.int v2), .val (.int v3), .val (.int v5), .val (.int v6), .val (.int v7), .val (.ref b8), .val (.ref b20), .val (.int v98_40)] [])) (fun t_ k_ => XS.icmpNo X50.here hx rfl (hb hby at_121) rfl (teq hc121_51).2 k_) ?_
          refine own_Goes.via (T' := T50) (g' := (mkF m 125 #[.val (.int xr), .val (.int xs), .val (.int xp), .val (.int xq), .val (.int xm), .val (.int v2), .val (.int v3), .val (.int v5), .val (.int v6), .val (.int v7), .val (.ref b8), .val (.ref b20), .val (.int v98_40)] [(.int (1 : Int32))])) (fun t_ k_ => XS.iconst X50.here hx rfl (hb hby at_124) k_) ?_
          refine own_Goes.via (T' := T50) (g' := (mkF m 129 #[.val (.int xr), .val (.int xs), .val (.int xp), .val (.int xq), .val (.int xm), .val (.int v2), .val (.int v3), .val (.int v5), .val (.int v6), .val (.int v7), .val (.ref b8), .val (.ref b20), .val (.int v98_40)] [(.int (1 : Int32))])) (fun t_ k_ => XS.goto X50.here hx rfl (pc0 := 125) (pc' := 129) rfl (hb hby at_125) (by decide) (by decide) k_) ?_
          exact J129_49 T50 _ X50 hh50 N50 (1 : Int32) (((if_pos hc109_46).trans (if_pos hc121_51))).symm
        · refine own_Goes.via (T' := T50) (g' := (mkF m 128 #[.val (.int xr), .val (.int xs), .val (.int xp), .val (.int xq), .val (.int xm), .val (.int v2), .val (.int v3), .val (.int v5), .val (.int v6), .val (.int v7), .val (.ref b8), .val (.ref b20), .val (.int v98_40)] [])) (fun t_ k_ => XS.icmpYes X50.here hx rfl (pc0 := 121) (pc' := 128) rfl (hb hby at_121) rfl (feq hc121_51).2 (by decide) (by decide) k_) ?_
          refine own_Goes.via (T' := T50) (g' := (mkF m 129 #[.val (.int xr), .val (.int xs), .val (.int xp), .val (.int xq), .val (.int xm), .val (.int v2), .val (.int v3), .val (.int v5), .val (.int v6), .val (.int v7), .val (.ref b8), .val (.ref b20), .val (.int v98_40)] [(.int (0 : Int32))])) (fun t_ k_ => XS.iconst X50.here hx rfl (hb hby at_128) k_) ?_
          exact J129_49 T50 _ X50 hh50 N50 (0 : Int32) (((if_pos hc109_46).trans (if_neg hc121_51))).symm
      · refine own_Goes.via (T' := T44) (g' := (mkF m 128 #[.val (.int xr), .val (.int xs), .val (.int xp), .val (.int xq), .val (.int xm), .val (.int v2), .val (.int v3), .val (.int v5), .val (.int v6), .val (.int v7), .val (.ref b8), .val (.ref b20), .val (.int v98_40)] [])) (fun t_ k_ => XS.icmpYes X44.here hx rfl (pc0 := 109) (pc' := 128) rfl (hb hby at_109) rfl (feq hc109_46).2 (by decide) (by decide) k_) ?_
        refine own_Goes.via (T' := T44) (g' := (mkF m 129 #[.val (.int xr), .val (.int xs), .val (.int xp), .val (.int xq), .val (.int xm), .val (.int v2), .val (.int v3), .val (.int v5), .val (.int v6), .val (.int v7), .val (.ref b8), .val (.ref b20), .val (.int v98_40)] [(.int (0 : Int32))])) (fun t_ k_ => XS.iconst X44.here hx rfl (hb hby at_128) k_) ?_
        exact J129_49 T44 _ X44 hh44 N44 (0 : Int32) ((if_neg hc109_46)).symm
    intro T48 L48 X48 e48 N48 v129_47 hv129_47
    have hfin : v129_47 = 1 := own_pl0_0 hv2 hv3 hv5 hv6 hv7 hv14 hv16 hv29 hv31 hv98_40 hv45 hv129_47 hc76_38 hrinj hsinj nz6_1 nz20_4 hne2
    rw [hfin]
    obtain ⟨fs, hr, hrun, hended, hE⟩ := leaveW X48 hS (by rw [e48]; exact hk) (v := some (.int 1)) (fun h => by rw [Bd.returns] at h; cases h)
    refine own_Goes.fin (retN X48 hx (t := .boolean) Bd.returns (by simp) (hb hby at_129) hr) hrun hended ?_
    subst hPd
    refine ⟨_, _, rfl, ?_, hE.1, hE.2.1, hE.2.2.1, hE.2.2.2.mono (by decide) (by decide)⟩
    show Q0 Z xr xs xp xq xm s_ACE s_TWO s_THREE s_FOUR s_FIVE s_SIX s_SEVEN s_EIGHT s_NINE s_TEN s_JACK s_QUEEN s_KING s_CLUBS s_DIAMONDS s_HEARTS s_SPADES s_cache cl_c h0 n0 _ T48.heap _
    rw [e48]
    exact ⟨rfl, N48⟩
  · refine own_Goes.via (T' := T32) (g' := (mkF m 130 #[.val (.int xr), .val (.int xs), .val (.int xp), .val (.int xq), .val (.int xm), .val (.int v2), .val (.int v3), .val (.int v5), .val (.int v6), .val (.int v7), .val (.ref b8), .val (.ref b20), .unset] [])) (fun t_ k_ => XS.icmpYes X32.here hx rfl (pc0 := 76) (pc' := 130) rfl (hb hby at_76) rfl (flt hc76_38).2.1 (by decide) (by decide) k_) ?_
    refine own_Goes.via (T' := T32) (g' := (mkF m 132 #[.val (.int xr), .val (.int xs), .val (.int xp), .val (.int xq), .val (.int xm), .val (.int v2), .val (.int v3), .val (.int v5), .val (.int v6), .val (.int v7), .val (.ref b8), .val (.ref b20), .unset] [(.int v7)])) (fun t_ k_ => XS.iload X32.here hx rfl (hb hby at_130) rfl k_) ?_
    refine own_Goes.via (T' := T32) (g' := (mkF m 133 #[.val (.int xr), .val (.int xs), .val (.int xp), .val (.int xq), .val (.int xm), .val (.int v2), .val (.int v3), .val (.int v5), .val (.int v6), .val (.int v7), .val (.ref b8), .val (.ref b20), .unset] [(.int (4 : Int32)), (.int v7)])) (fun t_ k_ => XS.iconst X32.here hx rfl (hb hby at_132) k_) ?_
    by_cases hc133_52 : v7 = (4 : Int32)
    · refine own_Goes.via (T' := T32) (g' := (mkF m 136 #[.val (.int xr), .val (.int xs), .val (.int xp), .val (.int xq), .val (.int xm), .val (.int v2), .val (.int v3), .val (.int v5), .val (.int v6), .val (.int v7), .val (.ref b8), .val (.ref b20), .unset] [])) (fun t_ k_ => XS.icmpNo X32.here hx rfl (hb hby at_133) rfl (teq hc133_52).2 k_) ?_
      refine own_Goes.via (T' := T32) (g' := (mkF m 138 #[.val (.int xr), .val (.int xs), .val (.int xp), .val (.int xq), .val (.int xm), .val (.int v2), .val (.int v3), .val (.int v5), .val (.int v6), .val (.int v7), .val (.ref b8), .val (.ref b20), .unset] [(.ref b8)])) (fun t_ k_ => XS.aload X32.here hx rfl (hb hby at_136) rfl rfl k_) ?_
      refine own_Goes.via (T' := T32) (g' := (mkF m 140 #[.val (.int xr), .val (.int xs), .val (.int xp), .val (.int xq), .val (.int xm), .val (.int v2), .val (.int v3), .val (.int v5), .val (.int v6), .val (.int v7), .val (.ref b8), .val (.ref b20), .unset] [(.ref b8), (.ref b8)])) (fun t_ k_ => XS.aload X32.here hx rfl (hb hby at_138) rfl rfl k_) ?_
      obtain ⟨cq53, kq53, q53a, q53b, q53c⟩ := isOf hZ rfl E34
      obtain ⟨_, _, ⟨T53, L53, k53, n53⟩, -, X53, ⟨Lc53, hQ53, l53, y53, z53⟩, st53⟩ := X32.virtualBack hx (y := (⟨"com/example/wildsuit/wildsuit/card/Card", "equals", "(Ljava/lang/Object;)Z"⟩ : MethodName)) (z := (⟨"com/example/wildsuit/wildsuit/card/Card", "equals", "(Ljava/lang/Object;)Z"⟩ : MethodName)) hown (mvT hZ (hw _ (List.mem_of_getElem? (i := 49) rfl))) (mvT hZ (hw _ (List.mem_of_getElem? (i := 50) rfl))) (notFace_of_selects (args := #[]) (mvT hZ (hw _ (List.mem_of_getElem? (i := 52) rfl)))) (mvT hZ (hw _ (List.mem_of_getElem? (i := 52) rfl))) (mvT hZ (hw _ (List.mem_of_getElem? (i := 51) rfl))) (by decide) (backOf (W := 0) (rm7a l Z a0 hw [] b8 b8 v14 v16 v14 v16 T32.heap n0 sz32 E34 F35 F36 F35 F36) hZ (hw _ (List.mem_of_getElem? (i := 53) rfl)) (hw _ (List.mem_of_getElem? (i := 3) rfl)) (by decide) (by decide)) q53a q53c (g := (mkF m 140 #[.val (.int xr), .val (.int xs), .val (.int xp), .val (.int xq), .val (.int xm), .val (.int v2), .val (.int v3), .val (.int v5), .val (.int v6), .val (.int v7), .val (.ref b8), .val (.ref b20), .unset] [(.ref b8), (.ref b8)])) rfl (by rw [hml]; rfl) (Steps.refl _) (argsL := [(.ref b8)]) (rest := []) (lenOf pd_0_3 rfl) rfl (by show 2 * 0 + _ ≤ _; exact Nat.le_of_eq rfl) (hb hby at_140) (fun _ _ => ⟨rfl, rfl, (by decide : 10 + 0 ≤ _), (by decide : 84 + 0 ≤ _)⟩)
      dsimp only [Pt.U, Pt.locs, Pt.cells, Pt.slots] at X53 l53 y53 z53 st53 hQ53
      subst l53 y53 z53
      obtain ⟨rfl, Nq53, hh53⟩ := hQ53
      have N53 := Fr.app N32 Nq53
      refine own_Goes.via (T' := T53) (g' := (mkF m 143 #[.val (.int xr), .val (.int xs), .val (.int xp), .val (.int xq), .val (.int xm), .val (.int v2), .val (.int v3), .val (.int v5), .val (.int v6), .val (.int v7), .val (.ref b8), .val (.ref b20), .unset] [(.int (if b8 = b8 then (1 : Int32) else (if v14 = v14 then (if v16 = v16 then (1 : Int32) else (0 : Int32)) else (0 : Int32))))])) (fun t_ k_ => st53.trans k_) ?_
      obtain ⟨v54, hv54⟩ : ∃ z : Int32, z = (if b8 = b8 then (1 : Int32) else (if v14 = v14 then (if v16 = v16 then (1 : Int32) else (0 : Int32)) else (0 : Int32))) := ⟨_, rfl⟩
      rw [← hv54]
      have hfin : v54 = 1 := own_pl0_1 hv2 hv3 hv5 hv6 hv7 hv14 hv16 hv29 hv31 hv54 hc76_38 hc133_52 hrinj hsinj nz6_1 nz20_4
      rw [hfin]
      obtain ⟨fs, hr, hrun, hended, hE⟩ := leaveW X53 hS (by rw [hh53]; exact hk) (v := some (.int 1)) (fun h => by rw [Bd.returns] at h; cases h)
      refine own_Goes.fin (retN X53 hx (t := .boolean) Bd.returns (by simp) (hb hby at_143) hr) hrun hended ?_
      subst hPd
      refine ⟨_, _, rfl, ?_, hE.1, hE.2.1, hE.2.2.1, hE.2.2.2.mono (by decide) (by decide)⟩
      show Q0 Z xr xs xp xq xm s_ACE s_TWO s_THREE s_FOUR s_FIVE s_SIX s_SEVEN s_EIGHT s_NINE s_TEN s_JACK s_QUEEN s_KING s_CLUBS s_DIAMONDS s_HEARTS s_SPADES s_cache cl_c h0 n0 _ T53.heap _
      rw [hh53]
      exact ⟨rfl, N53⟩
    · refine own_Goes.via (T' := T32) (g' := (mkF m 144 #[.val (.int xr), .val (.int xs), .val (.int xp), .val (.int xq), .val (.int xm), .val (.int v2), .val (.int v3), .val (.int v5), .val (.int v6), .val (.int v7), .val (.ref b8), .val (.ref b20), .unset] [])) (fun t_ k_ => XS.icmpYes X32.here hx rfl (pc0 := 133) (pc' := 144) rfl (hb hby at_133) rfl (feq hc133_52).2 (by decide) (by decide) k_) ?_
      refine own_Goes.via (T' := T32) (g' := (mkF m 146 #[.val (.int xr), .val (.int xs), .val (.int xp), .val (.int xq), .val (.int xm), .val (.int v2), .val (.int v3), .val (.int v5), .val (.int v6), .val (.int v7), .val (.ref b8), .val (.ref b20), .unset] [(.int v7)])) (fun t_ k_ => XS.iload X32.here hx rfl (hb hby at_144) rfl k_) ?_
      refine own_Goes.via (T' := T32) (g' := (mkF m 147 #[.val (.int xr), .val (.int xs), .val (.int xp), .val (.int xq), .val (.int xm), .val (.int v2), .val (.int v3), .val (.int v5), .val (.int v6), .val (.int v7), .val (.ref b8), .val (.ref b20), .unset] [(.int (5 : Int32)), (.int v7)])) (fun t_ k_ => XS.iconst X32.here hx rfl (hb hby at_146) k_) ?_
      by_cases hc147_55 : v7 = (5 : Int32)
      · refine own_Goes.via (T' := T32) (g' := (mkF m 150 #[.val (.int xr), .val (.int xs), .val (.int xp), .val (.int xq), .val (.int xm), .val (.int v2), .val (.int v3), .val (.int v5), .val (.int v6), .val (.int v7), .val (.ref b8), .val (.ref b20), .unset] [])) (fun t_ k_ => XS.icmpNo X32.here hx rfl (hb hby at_147) rfl (teq hc147_55).2 k_) ?_
        refine own_Goes.via (T' := T32) (g' := (mkF m 152 #[.val (.int xr), .val (.int xs), .val (.int xp), .val (.int xq), .val (.int xm), .val (.int v2), .val (.int v3), .val (.int v5), .val (.int v6), .val (.int v7), .val (.ref b8), .val (.ref b20), .unset] [(.ref b8)])) (fun t_ k_ => XS.aload X32.here hx rfl (hb hby at_150) rfl rfl k_) ?_
        refine own_Goes.via (T' := T32) (g' := (mkF m 153 #[.val (.int xr), .val (.int xs), .val (.int xp), .val (.int xq), .val (.int xm), .val (.int v2), .val (.int v3), .val (.int v5), .val (.int v6), .val (.int v7), .val (.ref b8), .val (.ref b20), .unset] [.null, (.ref b8)])) (fun t_ k_ => XS.aconstNull X32.here hx rfl (hb hby at_152) k_) ?_
        obtain ⟨cq56, kq56, q56a, q56b, q56c⟩ := isOf hZ rfl E34
        obtain ⟨_, _, ⟨T56, L56, k56, n56⟩, -, X56, ⟨Lc56, hQ56, l56, y56, z56⟩, st56⟩ := X32.virtualBack hx (y := (⟨"com/example/wildsuit/wildsuit/card/Card", "equals", "(Ljava/lang/Object;)Z"⟩ : MethodName)) (z := (⟨"com/example/wildsuit/wildsuit/card/Card", "equals", "(Ljava/lang/Object;)Z"⟩ : MethodName)) hown (mvT hZ (hw _ (List.mem_of_getElem? (i := 49) rfl))) (mvT hZ (hw _ (List.mem_of_getElem? (i := 50) rfl))) (notFace_of_selects (args := #[]) (mvT hZ (hw _ (List.mem_of_getElem? (i := 52) rfl)))) (mvT hZ (hw _ (List.mem_of_getElem? (i := 52) rfl))) (mvT hZ (hw _ (List.mem_of_getElem? (i := 51) rfl))) (by decide) (backOf (W := 0) (rm7n l Z a0 hw [] b8 T32.heap n0 sz32 ) hZ (hw _ (List.mem_of_getElem? (i := 53) rfl)) (hw _ (List.mem_of_getElem? (i := 3) rfl)) (by decide) (by decide)) q56a q56c (g := (mkF m 153 #[.val (.int xr), .val (.int xs), .val (.int xp), .val (.int xq), .val (.int xm), .val (.int v2), .val (.int v3), .val (.int v5), .val (.int v6), .val (.int v7), .val (.ref b8), .val (.ref b20), .unset] [.null, (.ref b8)])) rfl (by rw [hml]; rfl) (Steps.refl _) (argsL := [.null]) (rest := []) (lenOf pd_0_3 rfl) rfl (by show 2 * 0 + _ ≤ _; exact Nat.le_of_eq rfl) (hb hby at_153) (fun _ _ => ⟨rfl, rfl, (by decide : 10 + 0 ≤ _), (by decide : 84 + 0 ≤ _)⟩)
        dsimp only [Pt.U, Pt.locs, Pt.cells, Pt.slots] at X56 l56 y56 z56 st56 hQ56
        subst l56 y56 z56
        obtain ⟨rfl, Nq56, hh56⟩ := hQ56
        have N56 := Fr.app N32 Nq56
        refine own_Goes.via (T' := T56) (g' := (mkF m 156 #[.val (.int xr), .val (.int xs), .val (.int xp), .val (.int xq), .val (.int xm), .val (.int v2), .val (.int v3), .val (.int v5), .val (.int v6), .val (.int v7), .val (.ref b8), .val (.ref b20), .unset] [(.int (0 : Int32))])) (fun t_ k_ => st56.trans k_) ?_
        refine own_Goes.via (T' := T56) (g' := (mkF m 159 #[.val (.int xr), .val (.int xs), .val (.int xp), .val (.int xq), .val (.int xm), .val (.int v2), .val (.int v3), .val (.int v5), .val (.int v6), .val (.int v7), .val (.ref b8), .val (.ref b20), .unset] [])) (fun t_ k_ => XS.ifNo X56.here hx rfl (hb hby at_156) rfl ((if0 _ _).trans (teq (by decide : (0 : Int32) = (0 : Int32))).2) k_) ?_
        refine own_Goes.via (T' := T56) (g' := (mkF m 160 #[.val (.int xr), .val (.int xs), .val (.int xp), .val (.int xq), .val (.int xm), .val (.int v2), .val (.int v3), .val (.int v5), .val (.int v6), .val (.int v7), .val (.ref b8), .val (.ref b20), .unset] [(.int (1 : Int32))])) (fun t_ k_ => XS.iconst X56.here hx rfl (hb hby at_159) k_) ?_
        refine own_Goes.via (T' := T56) (g' := (mkF m 164 #[.val (.int xr), .val (.int xs), .val (.int xp), .val (.int xq), .val (.int xm), .val (.int v2), .val (.int v3), .val (.int v5), .val (.int v6), .val (.int v7), .val (.ref b8), .val (.ref b20), .unset] [(.int (1 : Int32))])) (fun t_ k_ => XS.goto X56.here hx rfl (pc0 := 160) (pc' := 164) rfl (hb hby at_160) (by decide) (by decide) k_) ?_
        obtain ⟨fs, hr, hrun, hended, hE⟩ := leaveW X56 hS (by rw [hh56]; exact hk) (v := some (.int 1)) (fun h => by rw [Bd.returns] at h; cases h)
        refine own_Goes.fin (retN X56 hx (t := .boolean) Bd.returns (by simp) (hb hby at_164) hr) hrun hended ?_
        subst hPd
        refine ⟨_, _, rfl, ?_, hE.1, hE.2.1, hE.2.2.1, hE.2.2.2.mono (by decide) (by decide)⟩
        show Q0 Z xr xs xp xq xm s_ACE s_TWO s_THREE s_FOUR s_FIVE s_SIX s_SEVEN s_EIGHT s_NINE s_TEN s_JACK s_QUEEN s_KING s_CLUBS s_DIAMONDS s_HEARTS s_SPADES s_cache cl_c h0 n0 _ T56.heap _
        rw [hh56]
        exact ⟨rfl, N56⟩
      · refine own_Goes.via (T' := T32) (g' := (mkF m 165 #[.val (.int xr), .val (.int xs), .val (.int xp), .val (.int xq), .val (.int xm), .val (.int v2), .val (.int v3), .val (.int v5), .val (.int v6), .val (.int v7), .val (.ref b8), .val (.ref b20), .unset] [])) (fun t_ k_ => XS.icmpYes X32.here hx rfl (pc0 := 147) (pc' := 165) rfl (hb hby at_147) rfl (feq hc147_55).2 (by decide) (by decide) k_) ?_
        refine own_Goes.via (T' := T32) (g' := (mkF m 167 #[.val (.int xr), .val (.int xs), .val (.int xp), .val (.int xq), .val (.int xm), .val (.int v2), .val (.int v3), .val (.int v5), .val (.int v6), .val (.int v7), .val (.ref b8), .val (.ref b20), .unset] [(.int v7)])) (fun t_ k_ => XS.iload X32.here hx rfl (hb hby at_165) rfl k_) ?_
        refine own_Goes.via (T' := T32) (g' := (mkF m 169 #[.val (.int xr), .val (.int xs), .val (.int xp), .val (.int xq), .val (.int xm), .val (.int v2), .val (.int v3), .val (.int v5), .val (.int v6), .val (.int v7), .val (.ref b8), .val (.ref b20), .unset] [(.int (6 : Int32)), (.int v7)])) (fun t_ k_ => XS.bipush X32.here hx rfl (hb hby at_167) k_) ?_
        by_cases hc169_57 : v7 = (6 : Int32)
        · refine own_Goes.via (T' := T32) (g' := (mkF m 172 #[.val (.int xr), .val (.int xs), .val (.int xp), .val (.int xq), .val (.int xm), .val (.int v2), .val (.int v3), .val (.int v5), .val (.int v6), .val (.int v7), .val (.ref b8), .val (.ref b20), .unset] [])) (fun t_ k_ => XS.icmpNo X32.here hx rfl (hb hby at_169) rfl (teq hc169_57).2 k_) ?_
          refine own_Goes.via (T' := T32) (g' := (mkF m 174 #[.val (.int xr), .val (.int xs), .val (.int xp), .val (.int xq), .val (.int xm), .val (.int v2), .val (.int v3), .val (.int v5), .val (.int v6), .val (.int v7), .val (.ref b8), .val (.ref b20), .unset] [(.int v2)])) (fun t_ k_ => XS.iload X32.here hx rfl (hb hby at_172) rfl k_) ?_
          obtain ⟨_, _, ⟨T58, L58, k58, n58⟩, -, X58, ⟨Lc58, hQ58, l58, y58, z58⟩, st58⟩ := Jvm.LawKit.callS X32 hx (y := (⟨"com/example/wildsuit/wildsuit/card/CardEqualsPinLaw", "rank", "(I)Lcom/example/wildsuit/wildsuit/card/Rank;"⟩ : MethodName)) hown (mvT hZ (hw _ (List.mem_of_getElem? (i := 4) rfl))) (mvT hZ (hw _ (List.mem_of_getElem? (i := 5) rfl))) (mvT hZ (hw _ (List.mem_of_getElem? (i := 6) rfl))) (mvT hZ (hw _ (List.mem_of_getElem? (i := 7) rfl))) (by decide) (backOf (W := 0) (rm1 l Z a0 hw [] v2 s_ACE s_TWO s_THREE s_FOUR s_FIVE s_SIX s_SEVEN s_EIGHT s_NINE s_TEN s_JACK s_QUEEN s_KING T32.heap n0 sz32 O33 S_ACE S_TWO S_THREE S_FOUR S_FIVE S_SIX S_SEVEN S_EIGHT S_NINE S_TEN S_JACK S_QUEEN S_KING) hZ (hw _ (List.mem_of_getElem? (i := 7) rfl)) (hw _ (List.mem_of_getElem? (i := 6) rfl)) (by decide) (by decide)) (g := (mkF m 174 #[.val (.int xr), .val (.int xs), .val (.int xp), .val (.int xq), .val (.int xm), .val (.int v2), .val (.int v3), .val (.int v5), .val (.int v6), .val (.int v7), .val (.ref b8), .val (.ref b20), .unset] [(.int v2)])) rfl (by rw [hml]; rfl) (argsL := [(.int v2)]) (rest := []) (lenOf pd_0_0 rfl) rfl (by show 2 * 0 + _ ≤ _; exact Nat.le_of_eq rfl) (hb hby at_174) (fun _ _ => ⟨rfl, rfl, (by decide : 10 + 0 ≤ _), (by decide : 84 + 0 ≤ _)⟩)
          dsimp only [Pt.U, Pt.locs, Pt.cells, Pt.slots] at X58 l58 y58 z58 st58 hQ58
          subst l58 y58 z58
          obtain ⟨rfl, Nq58, hh58⟩ := hQ58
          have N58 := Fr.app N32 Nq58
          refine own_Goes.via (T' := T58) (g' := (mkF m 177 #[.val (.int xr), .val (.int xs), .val (.int xp), .val (.int xq), .val (.int xm), .val (.int v2), .val (.int v3), .val (.int v5), .val (.int v6), .val (.int v7), .val (.ref b8), .val (.ref b20), .unset] [(.ref (own_rank s_ACE s_TWO s_THREE s_FOUR s_FIVE s_SIX s_SEVEN s_EIGHT s_NINE s_TEN s_JACK s_QUEEN s_KING v2))])) (st58) ?_
          obtain ⟨v59, hv59⟩ : ∃ z : Addr, z = (own_rank s_ACE s_TWO s_THREE s_FOUR s_FIVE s_SIX s_SEVEN s_EIGHT s_NINE s_TEN s_JACK s_QUEEN s_KING v2) := ⟨_, rfl⟩
          rw [← hv59]
          have E60 : Exa Z T32.heap v59 "com/example/wildsuit/wildsuit/card/Rank" := (by have q := own_pl0_2 hv2 hv3 hv5 hv6 hv7 hv14 hv16 hv29 hv31 hv59 hc76_38 hc133_52 hc147_55 hc169_57 hrinj hsinj nz6_1 nz20_4; rw [hv59]; exact (hrexa _ q.1 q.2).ext O33.2)
          refine own_Goes.via (T' := T58) (g' := (mkF m 179 #[.val (.int xr), .val (.int xs), .val (.int xp), .val (.int xq), .val (.int xm), .val (.int v2), .val (.int v3), .val (.int v5), .val (.int v6), .val (.int v7), .val (.ref b8), .val (.ref b20), .val (.ref v59)] [])) (fun t_ k_ => XS.astore X58.here hx rfl (hb hby at_177) rfl rfl (l' := #[.val (.int xr), .val (.int xs), .val (.int xp), .val (.int xq), .val (.int xm), .val (.int v2), .val (.int v3), .val (.int v5), .val (.int v6), .val (.int v7), .val (.ref b8), .val (.ref b20), .val (.ref v59)]) rfl k_) ?_
          refine own_Goes.via (T' := T58) (g' := (mkF m 181 #[.val (.int xr), .val (.int xs), .val (.int xp), .val (.int xq), .val (.int xm), .val (.int v2), .val (.int v3), .val (.int v5), .val (.int v6), .val (.int v7), .val (.ref b8), .val (.ref b20), .val (.ref v59)] [(.ref b8)])) (fun t_ k_ => XS.aload X58.here hx rfl (hb hby at_179) rfl rfl k_) ?_
          refine own_Goes.via (T' := T58) (g' := (mkF m 183 #[.val (.int xr), .val (.int xs), .val (.int xp), .val (.int xq), .val (.int xm), .val (.int v2), .val (.int v3), .val (.int v5), .val (.int v6), .val (.int v7), .val (.ref b8), .val (.ref b20), .val (.ref v59)] [(.ref v59), (.ref b8)])) (fun t_ k_ => XS.aload X58.here hx rfl (hb hby at_181) rfl rfl k_) ?_
          obtain ⟨cq61, kq61, q61a, q61b, q61c⟩ := isOf hZ hh58 E34
          obtain ⟨_, _, ⟨T61, L61, k61, n61⟩, -, X61, ⟨Lc61, hQ61, l61, y61, z61⟩, st61⟩ := X58.virtualBack hx (y := (⟨"com/example/wildsuit/wildsuit/card/Card", "equals", "(Ljava/lang/Object;)Z"⟩ : MethodName)) (z := (⟨"com/example/wildsuit/wildsuit/card/Card", "equals", "(Ljava/lang/Object;)Z"⟩ : MethodName)) hown (mvT hZ (hw _ (List.mem_of_getElem? (i := 49) rfl))) (mvT hZ (hw _ (List.mem_of_getElem? (i := 50) rfl))) (notFace_of_selects (args := #[]) (mvT hZ (hw _ (List.mem_of_getElem? (i := 52) rfl)))) (mvT hZ (hw _ (List.mem_of_getElem? (i := 52) rfl))) (mvT hZ (hw _ (List.mem_of_getElem? (i := 51) rfl))) (by decide) (backOf (W := 0) (rm7r l Z a0 hw [] b8 v59 T32.heap n0 sz32 E34 E60) hZ (hw _ (List.mem_of_getElem? (i := 53) rfl)) (hw _ (List.mem_of_getElem? (i := 3) rfl)) (by decide) (by decide)) q61a q61c (g := (mkF m 183 #[.val (.int xr), .val (.int xs), .val (.int xp), .val (.int xq), .val (.int xm), .val (.int v2), .val (.int v3), .val (.int v5), .val (.int v6), .val (.int v7), .val (.ref b8), .val (.ref b20), .val (.ref v59)] [(.ref v59), (.ref b8)])) rfl (by rw [hml]; rfl) (Steps.refl _) (argsL := [(.ref v59)]) (rest := []) (lenOf pd_0_3 rfl) rfl (by show 2 * 0 + _ ≤ _; exact Nat.le_of_eq rfl) (hb hby at_183) (fun _ _ => ⟨rfl, hh58, (by decide : 10 + 0 ≤ _), (by decide : 84 + 0 ≤ _)⟩)
          dsimp only [Pt.U, Pt.locs, Pt.cells, Pt.slots] at X61 l61 y61 z61 st61 hQ61
          subst l61 y61 z61
          obtain ⟨rfl, Nq61, hh61⟩ := hQ61
          have N61 := Fr.app N58 Nq61
          refine own_Goes.via (T' := T61) (g' := (mkF m 186 #[.val (.int xr), .val (.int xs), .val (.int xp), .val (.int xq), .val (.int xm), .val (.int v2), .val (.int v3), .val (.int v5), .val (.int v6), .val (.int v7), .val (.ref b8), .val (.ref b20), .val (.ref v59)] [(.int (0 : Int32))])) (fun t_ k_ => st61.trans k_) ?_
          refine own_Goes.via (T' := T61) (g' := (mkF m 189 #[.val (.int xr), .val (.int xs), .val (.int xp), .val (.int xq), .val (.int xm), .val (.int v2), .val (.int v3), .val (.int v5), .val (.int v6), .val (.int v7), .val (.ref b8), .val (.ref b20), .val (.ref v59)] [])) (fun t_ k_ => XS.ifNo X61.here hx rfl (hb hby at_186) rfl ((if0 _ _).trans (teq (by decide : (0 : Int32) = (0 : Int32))).2) k_) ?_
          refine own_Goes.via (T' := T61) (g' := (mkF m 190 #[.val (.int xr), .val (.int xs), .val (.int xp), .val (.int xq), .val (.int xm), .val (.int v2), .val (.int v3), .val (.int v5), .val (.int v6), .val (.int v7), .val (.ref b8), .val (.ref b20), .val (.ref v59)] [(.int (1 : Int32))])) (fun t_ k_ => XS.iconst X61.here hx rfl (hb hby at_189) k_) ?_
          refine own_Goes.via (T' := T61) (g' := (mkF m 194 #[.val (.int xr), .val (.int xs), .val (.int xp), .val (.int xq), .val (.int xm), .val (.int v2), .val (.int v3), .val (.int v5), .val (.int v6), .val (.int v7), .val (.ref b8), .val (.ref b20), .val (.ref v59)] [(.int (1 : Int32))])) (fun t_ k_ => XS.goto X61.here hx rfl (pc0 := 190) (pc' := 194) rfl (hb hby at_190) (by decide) (by decide) k_) ?_
          obtain ⟨fs, hr, hrun, hended, hE⟩ := leaveW X61 hS (by rw [hh61]; exact hk) (v := some (.int 1)) (fun h => by rw [Bd.returns] at h; cases h)
          refine own_Goes.fin (retN X61 hx (t := .boolean) Bd.returns (by simp) (hb hby at_194) hr) hrun hended ?_
          subst hPd
          refine ⟨_, _, rfl, ?_, hE.1, hE.2.1, hE.2.2.1, hE.2.2.2.mono (by decide) (by decide)⟩
          show Q0 Z xr xs xp xq xm s_ACE s_TWO s_THREE s_FOUR s_FIVE s_SIX s_SEVEN s_EIGHT s_NINE s_TEN s_JACK s_QUEEN s_KING s_CLUBS s_DIAMONDS s_HEARTS s_SPADES s_cache cl_c h0 n0 _ T61.heap _
          rw [hh61]
          exact ⟨rfl, N61⟩
        · refine own_Goes.via (T' := T32) (g' := (mkF m 195 #[.val (.int xr), .val (.int xs), .val (.int xp), .val (.int xq), .val (.int xm), .val (.int v2), .val (.int v3), .val (.int v5), .val (.int v6), .val (.int v7), .val (.ref b8), .val (.ref b20), .unset] [])) (fun t_ k_ => XS.icmpYes X32.here hx rfl (pc0 := 169) (pc' := 195) rfl (hb hby at_169) rfl (feq hc169_57).2 (by decide) (by decide) k_) ?_
          refine own_Goes.via (T' := T32) (g' := (mkF m 196 #[.val (.int xr), .val (.int xs), .val (.int xp), .val (.int xq), .val (.int xm), .val (.int v2), .val (.int v3), .val (.int v5), .val (.int v6), .val (.int v7), .val (.ref b8), .val (.ref b20), .unset] [(.int xr)])) (fun t_ k_ => XS.iloadN X32.here hx rfl (hb hby at_195) rfl k_) ?_
          obtain ⟨_, _, ⟨T62, L62, k62, n62⟩, -, X62, ⟨Lc62, hQ62, l62, y62, z62⟩, st62⟩ := Jvm.LawKit.callS X32 hx (y := (⟨"java/lang/Integer", "valueOf", "(I)Ljava/lang/Integer;"⟩ : MethodName)) hown (mvT hZ (hw _ (List.mem_of_getElem? (i := 62) rfl))) (mvT hZ (hw _ (List.mem_of_getElem? (i := 63) rfl))) (mvT hZ (hw _ (List.mem_of_getElem? (i := 64) rfl))) (mvT hZ (hw _ (List.mem_of_getElem? (i := 65) rfl))) (by decide) (backOf (W := 0) (rm8 l Z a0 hw [] xr s_cache cl_c T32.heap n0 sz32 O33 S_high S_cache ArC szC hel) hZ (hw _ (List.mem_of_getElem? (i := 65) rfl)) (hw _ (List.mem_of_getElem? (i := 64) rfl)) (by decide) (by decide)) (g := (mkF m 196 #[.val (.int xr), .val (.int xs), .val (.int xp), .val (.int xq), .val (.int xm), .val (.int v2), .val (.int v3), .val (.int v5), .val (.int v6), .val (.int v7), .val (.ref b8), .val (.ref b20), .unset] [(.int xr)])) rfl (by rw [hml]; rfl) (argsL := [(.int xr)]) (rest := []) (lenOf pd_0_4 rfl) rfl (by show 2 * 0 + _ ≤ _; exact Nat.le_of_eq rfl) (hb hby at_196) (fun _ _ => ⟨rfl, rfl, (by decide : 10 + 1 ≤ _), (by decide : 84 + 1 ≤ _)⟩)
          dsimp only [Pt.U, Pt.locs, Pt.cells, Pt.slots] at X62 l62 y62 z62 st62 hQ62
          subst l62 y62 z62
          obtain ⟨bz_62, rfl, Nq62, Kq62, pf62_0⟩ := hQ62
          have N62 := Fr.app N32 Nq62
          have O63 : Old Z n0 T62.heap := O33.keep Kq62 all0
          have E64 : Exa Z T62.heap b8 "com/example/wildsuit/wildsuit/card/Card" := E34.keep Kq62
          have F65 : Fld Z T62.heap b8 "com/example/wildsuit/wildsuit/card/Card" "rank" "Lcom/example/wildsuit/wildsuit/card/Rank;" (.ref v14) := F35.keep Kq62 nin0
          have F66 : Fld Z T62.heap b8 "com/example/wildsuit/wildsuit/card/Card" "suit" "Lcom/example/wildsuit/wildsuit/card/Suit;" (.ref v16) := F36.keep Kq62 nin0
          have E67 : Exa Z T62.heap b20 "com/example/wildsuit/wildsuit/card/Card" := pf32_0.keep Kq62
          have F68 : Fld Z T62.heap b20 "com/example/wildsuit/wildsuit/card/Card" "rank" "Lcom/example/wildsuit/wildsuit/card/Rank;" (.ref v29) := pf32_1.keep Kq62 nin0
          have F69 : Fld Z T62.heap b20 "com/example/wildsuit/wildsuit/card/Card" "suit" "Lcom/example/wildsuit/wildsuit/card/Suit;" (.ref v31) := pf32_2.keep Kq62 nin0
          have sz62 : n0 ≤ T62.heap.size := Nat.le_trans sz32 Kq62.1
          have hk := Nat.le_trans hk Kq62.1
          have K62 : Keep h0 T62.heap [] := (K32).trans Kq62 all0
          refine own_Goes.via (T' := T62) (g' := (mkF m 199 #[.val (.int xr), .val (.int xs), .val (.int xp), .val (.int xq), .val (.int xm), .val (.int v2), .val (.int v3), .val (.int v5), .val (.int v6), .val (.int v7), .val (.ref b8), .val (.ref b20), .unset] [(.ref bz_62)])) (st62) ?_
          refine own_Goes.via (T' := T62) (g' := (mkF m 201 #[.val (.int xr), .val (.int xs), .val (.int xp), .val (.int xq), .val (.int xm), .val (.int v2), .val (.int v3), .val (.int v5), .val (.int v6), .val (.int v7), .val (.ref b8), .val (.ref b20), .val (.ref bz_62)] [])) (fun t_ k_ => XS.astore X62.here hx rfl (hb hby at_199) rfl rfl (l' := #[.val (.int xr), .val (.int xs), .val (.int xp), .val (.int xq), .val (.int xm), .val (.int v2), .val (.int v3), .val (.int v5), .val (.int v6), .val (.int v7), .val (.ref b8), .val (.ref b20), .val (.ref bz_62)]) rfl k_) ?_
          refine own_Goes.via (T' := T62) (g' := (mkF m 203 #[.val (.int xr), .val (.int xs), .val (.int xp), .val (.int xq), .val (.int xm), .val (.int v2), .val (.int v3), .val (.int v5), .val (.int v6), .val (.int v7), .val (.ref b8), .val (.ref b20), .val (.ref bz_62)] [(.ref b8)])) (fun t_ k_ => XS.aload X62.here hx rfl (hb hby at_201) rfl rfl k_) ?_
          refine own_Goes.via (T' := T62) (g' := (mkF m 205 #[.val (.int xr), .val (.int xs), .val (.int xp), .val (.int xq), .val (.int xm), .val (.int v2), .val (.int v3), .val (.int v5), .val (.int v6), .val (.int v7), .val (.ref b8), .val (.ref b20), .val (.ref bz_62)] [(.ref bz_62), (.ref b8)])) (fun t_ k_ => XS.aload X62.here hx rfl (hb hby at_203) rfl rfl k_) ?_
          obtain ⟨cq70, kq70, q70a, q70b, q70c⟩ := isOf hZ rfl E64
          obtain ⟨_, _, ⟨T70, L70, k70, n70⟩, -, X70, ⟨Lc70, hQ70, l70, y70, z70⟩, st70⟩ := X62.virtualBack hx (y := (⟨"com/example/wildsuit/wildsuit/card/Card", "equals", "(Ljava/lang/Object;)Z"⟩ : MethodName)) (z := (⟨"com/example/wildsuit/wildsuit/card/Card", "equals", "(Ljava/lang/Object;)Z"⟩ : MethodName)) hown (mvT hZ (hw _ (List.mem_of_getElem? (i := 49) rfl))) (mvT hZ (hw _ (List.mem_of_getElem? (i := 50) rfl))) (notFace_of_selects (args := #[]) (mvT hZ (hw _ (List.mem_of_getElem? (i := 52) rfl)))) (mvT hZ (hw _ (List.mem_of_getElem? (i := 52) rfl))) (mvT hZ (hw _ (List.mem_of_getElem? (i := 51) rfl))) (by decide) (backOf (W := 0) (rm7i l Z a0 hw [] b8 bz_62 T62.heap n0 sz62 E64 pf62_0) hZ (hw _ (List.mem_of_getElem? (i := 53) rfl)) (hw _ (List.mem_of_getElem? (i := 3) rfl)) (by decide) (by decide)) q70a q70c (g := (mkF m 205 #[.val (.int xr), .val (.int xs), .val (.int xp), .val (.int xq), .val (.int xm), .val (.int v2), .val (.int v3), .val (.int v5), .val (.int v6), .val (.int v7), .val (.ref b8), .val (.ref b20), .val (.ref bz_62)] [(.ref bz_62), (.ref b8)])) rfl (by rw [hml]; rfl) (Steps.refl _) (argsL := [(.ref bz_62)]) (rest := []) (lenOf pd_0_3 rfl) rfl (by show 2 * 0 + _ ≤ _; exact Nat.le_of_eq rfl) (hb hby at_205) (fun _ _ => ⟨rfl, rfl, (by decide : 11 + 0 ≤ _), (by decide : 85 + 0 ≤ _)⟩)
          dsimp only [Pt.U, Pt.locs, Pt.cells, Pt.slots] at X70 l70 y70 z70 st70 hQ70
          subst l70 y70 z70
          obtain ⟨rfl, Nq70, hh70⟩ := hQ70
          have N70 := Fr.app N62 Nq70
          refine own_Goes.via (T' := T70) (g' := (mkF m 208 #[.val (.int xr), .val (.int xs), .val (.int xp), .val (.int xq), .val (.int xm), .val (.int v2), .val (.int v3), .val (.int v5), .val (.int v6), .val (.int v7), .val (.ref b8), .val (.ref b20), .val (.ref bz_62)] [(.int (0 : Int32))])) (fun t_ k_ => st70.trans k_) ?_
          refine own_Goes.via (T' := T70) (g' := (mkF m 211 #[.val (.int xr), .val (.int xs), .val (.int xp), .val (.int xq), .val (.int xm), .val (.int v2), .val (.int v3), .val (.int v5), .val (.int v6), .val (.int v7), .val (.ref b8), .val (.ref b20), .val (.ref bz_62)] [])) (fun t_ k_ => XS.ifNo X70.here hx rfl (hb hby at_208) rfl ((if0 _ _).trans (teq (by decide : (0 : Int32) = (0 : Int32))).2) k_) ?_
          refine own_Goes.via (T' := T70) (g' := (mkF m 212 #[.val (.int xr), .val (.int xs), .val (.int xp), .val (.int xq), .val (.int xm), .val (.int v2), .val (.int v3), .val (.int v5), .val (.int v6), .val (.int v7), .val (.ref b8), .val (.ref b20), .val (.ref bz_62)] [(.int (1 : Int32))])) (fun t_ k_ => XS.iconst X70.here hx rfl (hb hby at_211) k_) ?_
          refine own_Goes.via (T' := T70) (g' := (mkF m 216 #[.val (.int xr), .val (.int xs), .val (.int xp), .val (.int xq), .val (.int xm), .val (.int v2), .val (.int v3), .val (.int v5), .val (.int v6), .val (.int v7), .val (.ref b8), .val (.ref b20), .val (.ref bz_62)] [(.int (1 : Int32))])) (fun t_ k_ => XS.goto X70.here hx rfl (pc0 := 212) (pc' := 216) rfl (hb hby at_212) (by decide) (by decide) k_) ?_
          obtain ⟨fs, hr, hrun, hended, hE⟩ := leaveW X70 hS (by rw [hh70]; exact hk) (v := some (.int 1)) (fun h => by rw [Bd.returns] at h; cases h)
          refine own_Goes.fin (retN X70 hx (t := .boolean) Bd.returns (by simp) (hb hby at_216) hr) hrun hended ?_
          subst hPd
          refine ⟨_, _, rfl, ?_, hE.1, hE.2.1, hE.2.2.1, hE.2.2.2.mono (by decide) (by decide)⟩
          show Q0 Z xr xs xp xq xm s_ACE s_TWO s_THREE s_FOUR s_FIVE s_SIX s_SEVEN s_EIGHT s_NINE s_TEN s_JACK s_QUEEN s_KING s_CLUBS s_DIAMONDS s_HEARTS s_SPADES s_cache cl_c h0 n0 _ T70.heap _
          rw [hh70]
          exact ⟨rfl, N70⟩
set_option maxRecDepth 65536 in
set_option maxHeartbeats 40000000 in
theorem comes_1 {Post : Tables → Env → Array Value → State → Outcome → State → Prop} (hpost : ∀ tb e args s v u, (limb_1_1.after args s (.returned v) u = true ∧ limb_1_2.after args s (.returned v) u = true ∧ True) → ReturnedEndW s (.returned v) u (Jvm.fieldLocs frame_1_writes args s ++ Jvm.arrayLocs frame_1_arrays args s ++ Jvm.staticLocs frame_1_statics s) 24 2176 → Post tb e args s (.returned v) u) :
    ArmFor flags0 classFile x code maxLocals ret World_1 tables_1 room_1 Calls_1 rest_1 Pre_1 Post := by
  intro l hfl _ _ p e ha hc hk s m args below hf hA hF happ hP
  obtain ⟨hcalls, hrest, hpre⟩ := hP
  obtain ⟨-, -, -, hnamed, -, -, -, hat⟩ := (Spec.applies_iff hf).mp happ
  obtain ⟨hg, hn⟩ := and_e (Cond.before_iff.mp (show (Jvm.Cond.and given_1 narrow_1).before args s = true from hpre))
  obtain ⟨g1, g2⟩ := and_e hg
  obtain ⟨g3, g4⟩ := and_e g2
  obtain ⟨g5, g6⟩ := and_e g4
  obtain ⟨g7, g8⟩ := and_e g6
  obtain ⟨g9, g10⟩ := and_e g8
  obtain ⟨w0, w1, w2, w3, w4, rfl⟩ : ∃ w0 w1 w2 w3 w4 : Value, args = #[w0, w1, w2, w3, w4] := by
    have hs : args.size = 5 := by simpa [Cond.value, given_1] using g1
    obtain ⟨L⟩ := args
    match L, hs with
    | [w0, w1, w2, w3, w4], _ => exact ⟨w0, w1, w2, w3, w4, rfl⟩
  have hw := fun d (hd : d ∈ tables_1) => atoms_spec (ws := Jvm.Cond.code x code maxLocals ret :: tables_1) hat d (List.mem_cons_of_mem _ hd)
  have hfit : Fit s := fun {y c} hc i hi => by
    obtain ⟨ha, rfl⟩ := Array.getElem?_eq_some_iff.mp hc
    have q := List.all_eq_true.mp ((Array.all_eq_true_iff_forall_mem.mp hF) _ (Array.getElem_mem ha)) i (List.mem_range.mpr hi)
    simpa [Array.getElem?_eq_getElem hi] using q
  obtain ⟨hsets, hown0⟩ := atoms_of _ (rest_1_c_eq ▸ (show rest_1_c.before _ s = true from hrest))
  have hr0 := Cond.before_iff.mp hown0
  obtain ⟨i0, ei0⟩ := is_v g3
  obtain rfl : w0 = (.int i0) := Option.some.inj ei0
  obtain ⟨i1, ei1⟩ := is_v g5
  obtain rfl : w1 = (.int i1) := Option.some.inj ei1
  obtain ⟨i2, ei2⟩ := is_v g7
  obtain rfl : w2 = (.int i2) := Option.some.inj ei2
  obtain ⟨i3, ei3⟩ := is_v g9
  obtain rfl : w3 = (.int i3) := Option.some.inj ei3
  obtain ⟨i4, ei4⟩ := is_v g10
  obtain rfl : w4 = (.int i4) := Option.some.inj ei4
  obtain ⟨n1, n2⟩ := and_e hn
  obtain ⟨n3, n4⟩ := and_e n2
  obtain ⟨n5, n6⟩ := and_e n4
  obtain ⟨n7, n8⟩ := and_e n6
  obtain ⟨n9, n10⟩ := and_e n8
  obtain ⟨n11, n12⟩ := and_e n10
  obtain ⟨n13, n14⟩ := and_e n12
  obtain ⟨n15, n16⟩ := and_e n14
  obtain ⟨n17, n18⟩ := and_e n16
  obtain ⟨n19, n20⟩ := and_e n18
  obtain ⟨n21, n22⟩ := and_e n20
  obtain ⟨n23, n24⟩ := and_e n22
  obtain ⟨n25, n26⟩ := and_e n24
  obtain ⟨n27, n28⟩ := and_e n26
  obtain ⟨n29, n30⟩ := and_e n28
  obtain ⟨n31, n32⟩ := and_e n30
  obtain ⟨n33, n34⟩ := and_e n32
  obtain ⟨n35, n36⟩ := and_e n34
  obtain ⟨n37, n38⟩ := and_e n36
  obtain ⟨n39, n40⟩ := and_e n38
  obtain ⟨n41, n42⟩ := and_e n40
  obtain ⟨n43, n44⟩ := and_e n42
  obtain ⟨n45, n46⟩ := and_e n44
  obtain ⟨n47, n48⟩ := and_e n46
  obtain ⟨n49, n50⟩ := and_e n48
  obtain ⟨n51, n52⟩ := and_e n50
  obtain ⟨n53, n54⟩ := and_e n52
  obtain ⟨n55, n56⟩ := and_e n54
  obtain ⟨n57, n58⟩ := and_e n56
  obtain ⟨n59, n60⟩ := and_e n58
  obtain ⟨n61, n62⟩ := and_e n60
  obtain ⟨n63, n64⟩ := and_e n62
  obtain ⟨n65, n66⟩ := and_e n64
  obtain ⟨s_ACE, ev_ACE⟩ := exa_v n1
  have S_ACE : Sta s s.heap "com/example/wildsuit/wildsuit/card/Rank" "ACE" "Lcom/example/wildsuit/wildsuit/card/Rank;" (.ref s_ACE) := Sta.start ev_ACE (Or.inr ⟨(hw _ (List.mem_of_getElem? (i := 9) rfl)), (hw _ (List.mem_of_getElem? (i := 10) rfl))⟩)
  have E_ACE : Exa s s.heap s_ACE "com/example/wildsuit/wildsuit/card/Rank" := Exa.start ev_ACE n1
  have F_ACE_ordinal : Fld s s.heap s_ACE "java/lang/Enum" "ordinal" "I" (.int (0 : Int32)) := Fld.start ((fld_at ev_ACE).symm.trans (own_eqInt n9))
  obtain ⟨s_SPADES, ev_SPADES⟩ := exa_v n3
  have S_SPADES : Sta s s.heap "com/example/wildsuit/wildsuit/card/Suit" "SPADES" "Lcom/example/wildsuit/wildsuit/card/Suit;" (.ref s_SPADES) := Sta.start ev_SPADES (Or.inr ⟨(hw _ (List.mem_of_getElem? (i := 15) rfl)), (hw _ (List.mem_of_getElem? (i := 16) rfl))⟩)
  have E_SPADES : Exa s s.heap s_SPADES "com/example/wildsuit/wildsuit/card/Suit" := Exa.start ev_SPADES n3
  have F_SPADES_ordinal : Fld s s.heap s_SPADES "java/lang/Enum" "ordinal" "I" (.int (3 : Int32)) := Fld.start ((fld_at ev_SPADES).symm.trans (own_eqInt n63))
  obtain ⟨s_THREE, ev_THREE⟩ := exa_v n5
  have S_THREE : Sta s s.heap "com/example/wildsuit/wildsuit/card/Rank" "THREE" "Lcom/example/wildsuit/wildsuit/card/Rank;" (.ref s_THREE) := Sta.start ev_THREE (Or.inr ⟨(hw _ (List.mem_of_getElem? (i := 9) rfl)), (hw _ (List.mem_of_getElem? (i := 46) rfl))⟩)
  have E_THREE : Exa s s.heap s_THREE "com/example/wildsuit/wildsuit/card/Rank" := Exa.start ev_THREE n5
  have F_THREE_ordinal : Fld s s.heap s_THREE "java/lang/Enum" "ordinal" "I" (.int (2 : Int32)) := Fld.start ((fld_at ev_THREE).symm.trans (own_eqInt n11))
  obtain ⟨s_DIAMONDS, ev_DIAMONDS⟩ := exa_v n7
  have S_DIAMONDS : Sta s s.heap "com/example/wildsuit/wildsuit/card/Suit" "DIAMONDS" "Lcom/example/wildsuit/wildsuit/card/Suit;" (.ref s_DIAMONDS) := Sta.start ev_DIAMONDS (Or.inr ⟨(hw _ (List.mem_of_getElem? (i := 15) rfl)), (hw _ (List.mem_of_getElem? (i := 48) rfl))⟩)
  have E_DIAMONDS : Exa s s.heap s_DIAMONDS "com/example/wildsuit/wildsuit/card/Suit" := Exa.start ev_DIAMONDS n7
  have F_DIAMONDS_ordinal : Fld s s.heap s_DIAMONDS "java/lang/Enum" "ordinal" "I" (.int (1 : Int32)) := Fld.start ((fld_at ev_DIAMONDS).symm.trans (own_eqInt n65))
  obtain ⟨s_FOUR, ev_FOUR⟩ := exa_v n13
  have S_FOUR : Sta s s.heap "com/example/wildsuit/wildsuit/card/Rank" "FOUR" "Lcom/example/wildsuit/wildsuit/card/Rank;" (.ref s_FOUR) := Sta.start ev_FOUR (Or.inr ⟨(hw _ (List.mem_of_getElem? (i := 9) rfl)), (hw _ (List.mem_of_getElem? (i := 57) rfl))⟩)
  have E_FOUR : Exa s s.heap s_FOUR "com/example/wildsuit/wildsuit/card/Rank" := Exa.start ev_FOUR n13
  have F_FOUR_ordinal : Fld s s.heap s_FOUR "java/lang/Enum" "ordinal" "I" (.int (3 : Int32)) := Fld.start ((fld_at ev_FOUR).symm.trans (own_eqInt n47))
  obtain ⟨s_CLUBS, ev_CLUBS⟩ := exa_v n15
  have S_CLUBS : Sta s s.heap "com/example/wildsuit/wildsuit/card/Suit" "CLUBS" "Lcom/example/wildsuit/wildsuit/card/Suit;" (.ref s_CLUBS) := Sta.start ev_CLUBS (Or.inr ⟨(hw _ (List.mem_of_getElem? (i := 15) rfl)), (hw _ (List.mem_of_getElem? (i := 59) rfl))⟩)
  have E_CLUBS : Exa s s.heap s_CLUBS "com/example/wildsuit/wildsuit/card/Suit" := Exa.start ev_CLUBS n15
  have F_CLUBS_ordinal : Fld s s.heap s_CLUBS "java/lang/Enum" "ordinal" "I" (.int (0 : Int32)) := Fld.start ((fld_at ev_CLUBS).symm.trans (own_eqInt n55))
  obtain ⟨s_JACK, ev_JACK⟩ := exa_v n17
  have S_JACK : Sta s s.heap "com/example/wildsuit/wildsuit/card/Rank" "JACK" "Lcom/example/wildsuit/wildsuit/card/Rank;" (.ref s_JACK) := Sta.start ev_JACK (Or.inr ⟨(hw _ (List.mem_of_getElem? (i := 9) rfl)), (hw _ (List.mem_of_getElem? (i := 61) rfl))⟩)
  have E_JACK : Exa s s.heap s_JACK "com/example/wildsuit/wildsuit/card/Rank" := Exa.start ev_JACK n17
  have F_JACK_ordinal : Fld s s.heap s_JACK "java/lang/Enum" "ordinal" "I" (.int (10 : Int32)) := Fld.start ((fld_at ev_JACK).symm.trans (own_eqInt n39))
  obtain ⟨s_TEN, ev_TEN⟩ := exa_v n19
  have S_TEN : Sta s s.heap "com/example/wildsuit/wildsuit/card/Rank" "TEN" "Lcom/example/wildsuit/wildsuit/card/Rank;" (.ref s_TEN) := Sta.start ev_TEN (Or.inr ⟨(hw _ (List.mem_of_getElem? (i := 9) rfl)), (hw _ (List.mem_of_getElem? (i := 73) rfl))⟩)
  have E_TEN : Exa s s.heap s_TEN "com/example/wildsuit/wildsuit/card/Rank" := Exa.start ev_TEN n19
  have F_TEN_ordinal : Fld s s.heap s_TEN "java/lang/Enum" "ordinal" "I" (.int (9 : Int32)) := Fld.start ((fld_at ev_TEN).symm.trans (own_eqInt n23))
  obtain ⟨s_HEARTS, ev_HEARTS⟩ := exa_v n21
  have S_HEARTS : Sta s s.heap "com/example/wildsuit/wildsuit/card/Suit" "HEARTS" "Lcom/example/wildsuit/wildsuit/card/Suit;" (.ref s_HEARTS) := Sta.start ev_HEARTS (Or.inr ⟨(hw _ (List.mem_of_getElem? (i := 15) rfl)), (hw _ (List.mem_of_getElem? (i := 75) rfl))⟩)
  have E_HEARTS : Exa s s.heap s_HEARTS "com/example/wildsuit/wildsuit/card/Suit" := Exa.start ev_HEARTS n21
  have F_HEARTS_ordinal : Fld s s.heap s_HEARTS "java/lang/Enum" "ordinal" "I" (.int (2 : Int32)) := Fld.start ((fld_at ev_HEARTS).symm.trans (own_eqInt n57))
  obtain ⟨s_TWO, ev_TWO⟩ := exa_v n25
  have S_TWO : Sta s s.heap "com/example/wildsuit/wildsuit/card/Rank" "TWO" "Lcom/example/wildsuit/wildsuit/card/Rank;" (.ref s_TWO) := Sta.start ev_TWO (Or.inr ⟨(hw _ (List.mem_of_getElem? (i := 9) rfl)), (hw _ (List.mem_of_getElem? (i := 77) rfl))⟩)
  have E_TWO : Exa s s.heap s_TWO "com/example/wildsuit/wildsuit/card/Rank" := Exa.start ev_TWO n25
  have F_TWO_ordinal : Fld s s.heap s_TWO "java/lang/Enum" "ordinal" "I" (.int (1 : Int32)) := Fld.start ((fld_at ev_TWO).symm.trans (own_eqInt n29))
  obtain ⟨s_FIVE, ev_FIVE⟩ := exa_v n27
  have S_FIVE : Sta s s.heap "com/example/wildsuit/wildsuit/card/Rank" "FIVE" "Lcom/example/wildsuit/wildsuit/card/Rank;" (.ref s_FIVE) := Sta.start ev_FIVE (Or.inr ⟨(hw _ (List.mem_of_getElem? (i := 9) rfl)), (hw _ (List.mem_of_getElem? (i := 79) rfl))⟩)
  have E_FIVE : Exa s s.heap s_FIVE "com/example/wildsuit/wildsuit/card/Rank" := Exa.start ev_FIVE n27
  have F_FIVE_ordinal : Fld s s.heap s_FIVE "java/lang/Enum" "ordinal" "I" (.int (4 : Int32)) := Fld.start ((fld_at ev_FIVE).symm.trans (own_eqInt n31))
  obtain ⟨s_EIGHT, ev_EIGHT⟩ := exa_v n33
  have S_EIGHT : Sta s s.heap "com/example/wildsuit/wildsuit/card/Rank" "EIGHT" "Lcom/example/wildsuit/wildsuit/card/Rank;" (.ref s_EIGHT) := Sta.start ev_EIGHT (Or.inr ⟨(hw _ (List.mem_of_getElem? (i := 9) rfl)), (hw _ (List.mem_of_getElem? (i := 96) rfl))⟩)
  have E_EIGHT : Exa s s.heap s_EIGHT "com/example/wildsuit/wildsuit/card/Rank" := Exa.start ev_EIGHT n33
  have F_EIGHT_ordinal : Fld s s.heap s_EIGHT "java/lang/Enum" "ordinal" "I" (.int (7 : Int32)) := Fld.start ((fld_at ev_EIGHT).symm.trans (own_eqInt n51))
  obtain ⟨s_KING, ev_KING⟩ := exa_v n35
  have S_KING : Sta s s.heap "com/example/wildsuit/wildsuit/card/Rank" "KING" "Lcom/example/wildsuit/wildsuit/card/Rank;" (.ref s_KING) := Sta.start ev_KING (Or.inr ⟨(hw _ (List.mem_of_getElem? (i := 9) rfl)), (hw _ (List.mem_of_getElem? (i := 98) rfl))⟩)
  have E_KING : Exa s s.heap s_KING "com/example/wildsuit/wildsuit/card/Rank" := Exa.start ev_KING n35
  have F_KING_ordinal : Fld s s.heap s_KING "java/lang/Enum" "ordinal" "I" (.int (12 : Int32)) := Fld.start ((fld_at ev_KING).symm.trans (own_eqInt n41))
  obtain ⟨s_SIX, ev_SIX⟩ := exa_v n37
  have S_SIX : Sta s s.heap "com/example/wildsuit/wildsuit/card/Rank" "SIX" "Lcom/example/wildsuit/wildsuit/card/Rank;" (.ref s_SIX) := Sta.start ev_SIX (Or.inr ⟨(hw _ (List.mem_of_getElem? (i := 9) rfl)), (hw _ (List.mem_of_getElem? (i := 100) rfl))⟩)
  have E_SIX : Exa s s.heap s_SIX "com/example/wildsuit/wildsuit/card/Rank" := Exa.start ev_SIX n37
  have F_SIX_ordinal : Fld s s.heap s_SIX "java/lang/Enum" "ordinal" "I" (.int (5 : Int32)) := Fld.start ((fld_at ev_SIX).symm.trans (own_eqInt n53))
  obtain ⟨s_QUEEN, ev_QUEEN⟩ := exa_v n43
  have S_QUEEN : Sta s s.heap "com/example/wildsuit/wildsuit/card/Rank" "QUEEN" "Lcom/example/wildsuit/wildsuit/card/Rank;" (.ref s_QUEEN) := Sta.start ev_QUEEN (Or.inr ⟨(hw _ (List.mem_of_getElem? (i := 9) rfl)), (hw _ (List.mem_of_getElem? (i := 102) rfl))⟩)
  have E_QUEEN : Exa s s.heap s_QUEEN "com/example/wildsuit/wildsuit/card/Rank" := Exa.start ev_QUEEN n43
  have F_QUEEN_ordinal : Fld s s.heap s_QUEEN "java/lang/Enum" "ordinal" "I" (.int (11 : Int32)) := Fld.start ((fld_at ev_QUEEN).symm.trans (own_eqInt n66))
  obtain ⟨s_SEVEN, ev_SEVEN⟩ := exa_v n45
  have S_SEVEN : Sta s s.heap "com/example/wildsuit/wildsuit/card/Rank" "SEVEN" "Lcom/example/wildsuit/wildsuit/card/Rank;" (.ref s_SEVEN) := Sta.start ev_SEVEN (Or.inr ⟨(hw _ (List.mem_of_getElem? (i := 9) rfl)), (hw _ (List.mem_of_getElem? (i := 104) rfl))⟩)
  have E_SEVEN : Exa s s.heap s_SEVEN "com/example/wildsuit/wildsuit/card/Rank" := Exa.start ev_SEVEN n45
  have F_SEVEN_ordinal : Fld s s.heap s_SEVEN "java/lang/Enum" "ordinal" "I" (.int (6 : Int32)) := Fld.start ((fld_at ev_SEVEN).symm.trans (own_eqInt n59))
  obtain ⟨s_NINE, ev_NINE⟩ := exa_v n49
  have S_NINE : Sta s s.heap "com/example/wildsuit/wildsuit/card/Rank" "NINE" "Lcom/example/wildsuit/wildsuit/card/Rank;" (.ref s_NINE) := Sta.start ev_NINE (Or.inr ⟨(hw _ (List.mem_of_getElem? (i := 9) rfl)), (hw _ (List.mem_of_getElem? (i := 106) rfl))⟩)
  have E_NINE : Exa s s.heap s_NINE "com/example/wildsuit/wildsuit/card/Rank" := Exa.start ev_NINE n49
  have F_NINE_ordinal : Fld s s.heap s_NINE "java/lang/Enum" "ordinal" "I" (.int (8 : Int32)) := Fld.start ((fld_at ev_NINE).symm.trans (own_eqInt n61))
  have rv_0 : own_rank s_ACE s_TWO s_THREE s_FOUR s_FIVE s_SIX s_SEVEN s_EIGHT s_NINE s_TEN s_JACK s_QUEEN s_KING (0 : Int32) = s_ACE := by unfold own_rank; simp
  have rv_1 : own_rank s_ACE s_TWO s_THREE s_FOUR s_FIVE s_SIX s_SEVEN s_EIGHT s_NINE s_TEN s_JACK s_QUEEN s_KING (1 : Int32) = s_TWO := by unfold own_rank; simp
  have rv_2 : own_rank s_ACE s_TWO s_THREE s_FOUR s_FIVE s_SIX s_SEVEN s_EIGHT s_NINE s_TEN s_JACK s_QUEEN s_KING (2 : Int32) = s_THREE := by unfold own_rank; simp
  have rv_3 : own_rank s_ACE s_TWO s_THREE s_FOUR s_FIVE s_SIX s_SEVEN s_EIGHT s_NINE s_TEN s_JACK s_QUEEN s_KING (3 : Int32) = s_FOUR := by unfold own_rank; simp
  have rv_4 : own_rank s_ACE s_TWO s_THREE s_FOUR s_FIVE s_SIX s_SEVEN s_EIGHT s_NINE s_TEN s_JACK s_QUEEN s_KING (4 : Int32) = s_FIVE := by unfold own_rank; simp
  have rv_5 : own_rank s_ACE s_TWO s_THREE s_FOUR s_FIVE s_SIX s_SEVEN s_EIGHT s_NINE s_TEN s_JACK s_QUEEN s_KING (5 : Int32) = s_SIX := by unfold own_rank; simp
  have rv_6 : own_rank s_ACE s_TWO s_THREE s_FOUR s_FIVE s_SIX s_SEVEN s_EIGHT s_NINE s_TEN s_JACK s_QUEEN s_KING (6 : Int32) = s_SEVEN := by unfold own_rank; simp
  have rv_7 : own_rank s_ACE s_TWO s_THREE s_FOUR s_FIVE s_SIX s_SEVEN s_EIGHT s_NINE s_TEN s_JACK s_QUEEN s_KING (7 : Int32) = s_EIGHT := by unfold own_rank; simp
  have rv_8 : own_rank s_ACE s_TWO s_THREE s_FOUR s_FIVE s_SIX s_SEVEN s_EIGHT s_NINE s_TEN s_JACK s_QUEEN s_KING (8 : Int32) = s_NINE := by unfold own_rank; simp
  have rv_9 : own_rank s_ACE s_TWO s_THREE s_FOUR s_FIVE s_SIX s_SEVEN s_EIGHT s_NINE s_TEN s_JACK s_QUEEN s_KING (9 : Int32) = s_TEN := by unfold own_rank; simp
  have rv_10 : own_rank s_ACE s_TWO s_THREE s_FOUR s_FIVE s_SIX s_SEVEN s_EIGHT s_NINE s_TEN s_JACK s_QUEEN s_KING (10 : Int32) = s_JACK := by unfold own_rank; simp
  have rv_11 : own_rank s_ACE s_TWO s_THREE s_FOUR s_FIVE s_SIX s_SEVEN s_EIGHT s_NINE s_TEN s_JACK s_QUEEN s_KING (11 : Int32) = s_QUEEN := by unfold own_rank; simp
  have rv_12 : own_rank s_ACE s_TWO s_THREE s_FOUR s_FIVE s_SIX s_SEVEN s_EIGHT s_NINE s_TEN s_JACK s_QUEEN s_KING (12 : Int32) = s_KING := by unfold own_rank; simp
  have hrF : ∀ i : Int32, 0 ≤ i.toInt → i.toInt < 13 → Fld s s.heap (own_rank s_ACE s_TWO s_THREE s_FOUR s_FIVE s_SIX s_SEVEN s_EIGHT s_NINE s_TEN s_JACK s_QUEEN s_KING i) "java/lang/Enum" "ordinal" "I" (.int i) := fun i a b => by
    rcases own_lt13 a b with rfl | rfl | rfl | rfl | rfl | rfl | rfl | rfl | rfl | rfl | rfl | rfl | rfl
    · rw [rv_0]; exact F_ACE_ordinal
    · rw [rv_1]; exact F_TWO_ordinal
    · rw [rv_2]; exact F_THREE_ordinal
    · rw [rv_3]; exact F_FOUR_ordinal
    · rw [rv_4]; exact F_FIVE_ordinal
    · rw [rv_5]; exact F_SIX_ordinal
    · rw [rv_6]; exact F_SEVEN_ordinal
    · rw [rv_7]; exact F_EIGHT_ordinal
    · rw [rv_8]; exact F_NINE_ordinal
    · rw [rv_9]; exact F_TEN_ordinal
    · rw [rv_10]; exact F_JACK_ordinal
    · rw [rv_11]; exact F_QUEEN_ordinal
    · rw [rv_12]; exact F_KING_ordinal
  have hrinj : ∀ i j : Int32, 0 ≤ i.toInt → i.toInt < 13 → 0 ≤ j.toInt → j.toInt < 13 → own_rank s_ACE s_TWO s_THREE s_FOUR s_FIVE s_SIX s_SEVEN s_EIGHT s_NINE s_TEN s_JACK s_QUEEN s_KING i = own_rank s_ACE s_TWO s_THREE s_FOUR s_FIVE s_SIX s_SEVEN s_EIGHT s_NINE s_TEN s_JACK s_QUEEN s_KING j → i = j := fun i j a b c d e => Decidable.byContradiction fun q => Fld.ne (hrF i a b) (hrF j c d) (fun z => q (Value.int.inj z)) e
  have sv_0 : own_suit s_CLUBS s_DIAMONDS s_HEARTS s_SPADES (0 : Int32) = s_CLUBS := by unfold own_suit; simp
  have sv_1 : own_suit s_CLUBS s_DIAMONDS s_HEARTS s_SPADES (1 : Int32) = s_DIAMONDS := by unfold own_suit; simp
  have sv_2 : own_suit s_CLUBS s_DIAMONDS s_HEARTS s_SPADES (2 : Int32) = s_HEARTS := by unfold own_suit; simp
  have sv_3 : own_suit s_CLUBS s_DIAMONDS s_HEARTS s_SPADES (3 : Int32) = s_SPADES := by unfold own_suit; simp
  have hsF : ∀ i : Int32, 0 ≤ i.toInt → i.toInt < 4 → Fld s s.heap (own_suit s_CLUBS s_DIAMONDS s_HEARTS s_SPADES i) "java/lang/Enum" "ordinal" "I" (.int i) := fun i a b => by
    rcases own_lt4 a b with rfl | rfl | rfl | rfl
    · rw [sv_0]; exact F_CLUBS_ordinal
    · rw [sv_1]; exact F_DIAMONDS_ordinal
    · rw [sv_2]; exact F_HEARTS_ordinal
    · rw [sv_3]; exact F_SPADES_ordinal
  have hsinj : ∀ i j : Int32, 0 ≤ i.toInt → i.toInt < 4 → 0 ≤ j.toInt → j.toInt < 4 → own_suit s_CLUBS s_DIAMONDS s_HEARTS s_SPADES i = own_suit s_CLUBS s_DIAMONDS s_HEARTS s_SPADES j → i = j := fun i j a b c d e => Decidable.byContradiction fun q => Fld.ne (hsF i a b) (hsF j c d) (fun z => q (Value.int.inj z)) e
  have hrexa : ∀ i : Int32, 0 ≤ i.toInt → i.toInt < 13 → Exa s s.heap (own_rank s_ACE s_TWO s_THREE s_FOUR s_FIVE s_SIX s_SEVEN s_EIGHT s_NINE s_TEN s_JACK s_QUEEN s_KING i) "com/example/wildsuit/wildsuit/card/Rank" := fun i a b => by
    rcases own_lt13 a b with rfl | rfl | rfl | rfl | rfl | rfl | rfl | rfl | rfl | rfl | rfl | rfl | rfl
    · rw [rv_0]; exact E_ACE
    · rw [rv_1]; exact E_TWO
    · rw [rv_2]; exact E_THREE
    · rw [rv_3]; exact E_FOUR
    · rw [rv_4]; exact E_FIVE
    · rw [rv_5]; exact E_SIX
    · rw [rv_6]; exact E_SEVEN
    · rw [rv_7]; exact E_EIGHT
    · rw [rv_8]; exact E_NINE
    · rw [rv_9]; exact E_TEN
    · rw [rv_10]; exact E_JACK
    · rw [rv_11]; exact E_QUEEN
    · rw [rv_12]; exact E_KING
  have j1 : (Cond.initializedFor "java/lang/Integer$IntegerCache" "high" "I").before #[Value.int i0, Value.int i1, Value.int i2, Value.int i3, Value.int i4] s = true := (hsets _ (List.mem_of_getElem? (i := 1) rfl))
  have j2 : (Cond.laysStatic "java/lang/Integer$IntegerCache" "cache" "[Ljava/lang/Integer;").before #[Value.int i0, Value.int i1, Value.int i2, Value.int i3, Value.int i4] s = true := (hsets _ (List.mem_of_getElem? (i := 2) rfl))
  have j3 : (Cond.eq (Term.static "java/lang/Integer$IntegerCache" "high" "I") (.int (127 : Int32))).before #[Value.int i0, Value.int i1, Value.int i2, Value.int i3, Value.int i4] s = true := (hsets _ (List.mem_of_getElem? (i := 3) rfl))
  have j4 : (Cond.arrayOf (Term.static "java/lang/Integer$IntegerCache" "cache" "[Ljava/lang/Integer;") (.object "java/lang/Integer")).before #[Value.int i0, Value.int i1, Value.int i2, Value.int i3, Value.int i4] s = true := (hsets _ (List.mem_of_getElem? (i := 4) rfl))
  have j6 : (Cond.eq (Term.length (Term.static "java/lang/Integer$IntegerCache" "cache" "[Ljava/lang/Integer;")) (.int (256 : Int32))).before #[Value.int i0, Value.int i1, Value.int i2, Value.int i3, Value.int i4] s = true := (hsets _ (List.mem_of_getElem? (i := 6) rfl))
  have j7 := (hsets _ (List.mem_of_getElem? (i := 7) rfl))
  have S_high : Sta s s.heap "java/lang/Integer$IntegerCache" "high" "I" (.int (127 : Int32)) := Sta.start (own_eqInt (Cond.before_iff.mp j3)) (Or.inl j1)
  obtain ⟨s_cache, ev_cache⟩ := arr_v (Cond.before_iff.mp j4)
  have S_cache : Sta s s.heap "java/lang/Integer$IntegerCache" "cache" "[Ljava/lang/Integer;" (.ref s_cache) := Sta.start ev_cache (Or.inr ⟨(hw _ (List.mem_of_getElem? (i := 67) rfl)), j2⟩)
  obtain ⟨cl_c, ArC⟩ := Arr.start ev_cache (Cond.before_iff.mp j4)
  have szC0 := own_len ev_cache ArC (own_eqInt (Cond.before_iff.mp j6))
  have szC : cl_c.slots.size = 256 := by
    have q := congrArg Int32.toInt szC0.2
    rw [len_toInt szC0.1] at q
    have z : (256 : Int32).toInt = 256 := rfl
    omega
  have hel : ∀ j : Nat, j < 256 → ∃ b : Addr, cl_c.slots[j]? = some (.ref b) ∧ Exa s s.heap b "java/lang/Integer" := fun j hj => by
    have q := Cond.all_elim ev_cache (ArC.fin (Vm.Alike.refl _)) (Cond.before_iff.mp j7) j (by omega)
    obtain ⟨q1, -⟩ := and_e q
    obtain ⟨b, c, cell, k, e1, e2, e3, e4, e5, rfl, e7⟩ := Cond.exactly_spec (beq_iff_eq.mpr q1)
    have ev' : (Term.static "java/lang/Integer$IntegerCache" "cache" "[Ljava/lang/Integer;").eval #[Value.int i0, Value.int i1, Value.int i2, Value.int i3, Value.int i4] s none [j] s = some (.ref s_cache) := ev_cache
    have ei : (Term.index 0).eval #[Value.int i0, Value.int i1, Value.int i2, Value.int i3, Value.int i4] s none [j] s = some (.int j.toInt32) := rfl
    have u := (elem_in e1 ev' ei ArC.1).2
    have v : (j.toInt32).toNatClampNeg = j := by
      show (j.toInt32).toInt.toNat = j
      rw [len_toInt (by omega)]; rfl
    rw [v] at u
    exact ⟨b, u, cell, k, e3, e2, e4, e5, e7⟩
  obtain ⟨n, o, h1, h2, h3, _, L, rfl, ⟨rfl, N⟩, hq⟩ := rm0 l s _ hw tables_1 i0 i1 i2 i3 i4 s_ACE s_TWO s_THREE s_FOUR s_FIVE s_SIX s_SEVEN s_EIGHT s_NINE s_TEN s_JACK s_QUEEN s_KING s_CLUBS s_DIAMONDS s_HEARTS s_SPADES s_cache cl_c s.heap s.heap.size (Nat.le_refl _) (Old.start s) S_ACE S_TWO S_THREE S_FOUR S_FIVE S_SIX S_SEVEN S_EIGHT S_NINE S_TEN S_JACK S_QUEEN S_KING S_CLUBS S_DIAMONDS S_HEARTS S_SPADES S_high S_cache ArC szC hel hrexa hrinj hsinj p e ha hc hk s m _ below hf ((Spec.applies_iff_loose hf).mp happ).1 ⟨rfl, State.Warmed39.refl s, rfl⟩ trivial
  refine ⟨n, _, h1, h2, h3, hpost _ _ _ _ _ _ ⟨Cond.after_iff.mpr rfl, Cond.after_iff.mpr (eq_i res_at (Term.int_eval (1)) rfl), trivial⟩ ⟨hq.1, hq.2.1, hq.2.2.1, (hq.2.2.2.sift fun y hy => Or.inr (N y hy)).mono (by decide) (by decide)⟩⟩
theorem main_1_1 : Claimed_1_1 := comes_1 fun _ _ _ _ _ _ h hF => ⟨h.1, hF⟩
theorem main_1_2 : Claimed_1_2 := comes_1 fun _ _ _ _ _ _ h hF => ⟨h.2.1, hF⟩
end Jvm.Pilot.@@N@@
namespace Jvm.Pilot.@@N@@
open Jvm Jvm.ClassFile Sem Op Lib Jvm.Free Jvm.Stand Jvm.Pilot.@@N@@.Jvm.D
/-! MADE BY PROGRAM (witnessworld.py) out of the Statement's table words and the real class files: 23 classes; the members and pool entries that the words name. The judged class is class 1, her method 3. -/
namespace start1
open Jvm.ClassFile
def u (s : String) : CpInfo := .utf8 (stringToUtf16 s)
/-- a pool by its gaps: so many unusable entries, then the entry; so many at the end -/
def gap : Nat → List CpInfo → List CpInfo
  | 0, r => r
  | n + 1, r => .unusable :: gap n r
def poolList (es : List (Nat × CpInfo)) (last : Nat) : List CpInfo := es.foldr (fun e r => gap e.1 (e.2 :: r)) (gap last [])
def pool (es : List (Nat × CpInfo)) (last : Nat) : Array CpInfo := ⟨poolList es last⟩
def fileOf (pool : Array CpInfo) (this : Nat) (attrs : Array Attribute := #[]) (ms : Array MethodInfo := #[]) (fl : Nat := 33) (sup : Nat := 0) (ifs : Array Nat := #[]) (fds : Array FieldInfo := #[]) : ClassFile where
  minorVersion := 0
  majorVersion := 65
  constantPool := pool
  accessFlags := fl
  thisClass := this
  superClass := sup
  interfaces := ifs
  fields := fds
  methods := ms
  attributes := attrs
def plain (name : String) (sup : Option ClassId) : Class where
  name := name
  kind := .ordinary
  loader := none
  accessFlags := 33
  super := sup
  interfaces := #[]
  cf := none
  fields := #[]
  methods := #[]
  instanceTypes := #[]
  staticTypes := #[]
  resolved := #[]
  callSites := []
  init := .initialized
  statics := none
  mirror := none

def pool0 : Array CpInfo := pool [(5, u "<init>"), (0, u "()V"), (1, .class_ 10), (1, u "java/lang/Object")] 113

def k0c0 : Code := { maxStack := 0, maxLocals := 1, code := object_method_1_code, exceptionTable := #[], attributes := #[] }
def k0m0 : Method := { name := "<init>", desc := "()V", sig := { parameters := [], returnType := none }, accessFlags := 1, code := some k0c0 }
/-- java/lang/Object -/
def k0 : Class := { plain "java/lang/Object" none with
  accessFlags := 33
  interfaces := #[]
  cf := some (fileOf pool0 8 #[] #[{ accessFlags := 1, nameIndex := 5, descriptorIndex := 6, attributes := #[] }] 33 0 #[] #[])
  fields := #[]
  methods := #[k0m0]
  instanceTypes := #[]
  staticTypes := #[]
  resolved := Array.replicate 124 none
  statics := none }

def pool1 : Array CpInfo := pool [(2, .class_ 4), (1, u "java/lang/Object"), (0, u "<init>"), (0, u "()V"), (0, .fieldref 8 9), (0, .class_ 10), (0, .nameAndType 11 12), (0, u "com/example/wildsuit/wildsuit/card/Rank"), (0, u "ACE"), (0, u "Lcom/example/wildsuit/wildsuit/card/Rank;"), (0, .fieldref 8 14), (0, .nameAndType 15 12), (0, u "TWO"), (0, .fieldref 8 17), (0, .nameAndType 18 12), (0, u "THREE"), (0, .fieldref 8 20), (0, .nameAndType 21 12), (0, u "FOUR"), (0, .fieldref 8 23), (0, .nameAndType 24 12), (0, u "FIVE"), (0, .fieldref 8 26), (0, .nameAndType 27 12), (0, u "SIX"), (0, .fieldref 8 29), (0, .nameAndType 30 12), (0, u "SEVEN"), (0, .fieldref 8 32), (0, .nameAndType 33 12), (0, u "EIGHT"), (0, .fieldref 8 35), (0, .nameAndType 36 12), (0, u "NINE"), (0, .fieldref 8 38), (0, .nameAndType 39 12), (0, u "TEN"), (0, .fieldref 8 41), (0, .nameAndType 42 12), (0, u "JACK"), (0, .fieldref 8 44), (0, .nameAndType 45 12), (0, u "QUEEN"), (0, .fieldref 8 47), (0, .nameAndType 48 12), (0, u "KING"), (0, .fieldref 50 51), (0, .class_ 52), (0, .nameAndType 53 54), (0, u "com/example/wildsuit/wildsuit/card/Suit"), (0, u "CLUBS"), (0, u "Lcom/example/wildsuit/wildsuit/card/Suit;"), (0, .fieldref 50 56), (0, .nameAndType 57 54), (0, u "DIAMONDS"), (0, .fieldref 50 59), (0, .nameAndType 60 54), (0, u "HEARTS"), (0, .fieldref 50 62), (0, .nameAndType 63 54), (0, u "SPADES"), (0, .integer 2147483647), (0, .class_ 66), (0, u "com/example/wildsuit/wildsuit/card/Card"), (0, .methodref 68 69), (0, .class_ 70), (0, .nameAndType 71 72), (0, u "com/example/wildsuit/wildsuit/card/CardEqualsPinLaw"), (0, u "rank"), (0, u "(I)Lcom/example/wildsuit/wildsuit/card/Rank;"), (0, .methodref 68 74), (0, .nameAndType 75 76), (0, u "suit"), (0, u "(I)Lcom/example/wildsuit/wildsuit/card/Suit;"), (0, .methodref 65 78), (0, .nameAndType 5 79), (0, u "(Lcom/example/wildsuit/wildsuit/card/Rank;Lcom/example/wildsuit/wildsuit/card/Suit;)V"), (0, .methodref 65 81), (0, .nameAndType 82 83), (0, u "equals"), (0, u "(Ljava/lang/Object;)Z"), (0, .methodref 85 86), (0, .class_ 87), (0, .nameAndType 88 89), (0, u "java/lang/Integer"), (0, u "valueOf"), (0, u "(I)Ljava/lang/Integer;"), (3, u "law"), (0, u "(IIIII)Z")] 2

def k1m0 : Method := { name := "<init>", desc := "()V", sig := { parameters := [], returnType := none }, accessFlags := 1, code := none }
def k1c1 : Code := { maxStack := 2, maxLocals := 1, code := method_2_code, exceptionTable := #[], attributes := #[] }
def k1m1 : Method := { name := "rank", desc := "(I)Lcom/example/wildsuit/wildsuit/card/Rank;", sig := { parameters := [.int], returnType := some (.object "com/example/wildsuit/wildsuit/card/Rank") }, accessFlags := 10, code := some k1c1 }
def k1c2 : Code := { maxStack := 2, maxLocals := 1, code := method_3_code, exceptionTable := #[], attributes := #[] }
def k1m2 : Method := { name := "suit", desc := "(I)Lcom/example/wildsuit/wildsuit/card/Suit;", sig := { parameters := [.int], returnType := some (.object "com/example/wildsuit/wildsuit/card/Suit") }, accessFlags := 10, code := some k1c2 }
def k1c3 : Code := { maxStack := 4, maxLocals := 13, code := code, exceptionTable := #[], attributes := #[] }
def k1m3 : Method := { name := "law", desc := "(IIIII)Z", sig := { parameters := [.int, .int, .int, .int, .int], returnType := some .boolean }, accessFlags := 9, code := some k1c3 }
/-- com/example/wildsuit/wildsuit/card/CardEqualsPinLaw -/
def k1 : Class := { plain "com/example/wildsuit/wildsuit/card/CardEqualsPinLaw" (some 0) with
  accessFlags := 49
  interfaces := #[]
  cf := some (fileOf pool1 68 #[] #[{ accessFlags := 1, nameIndex := 5, descriptorIndex := 6, attributes := #[] }, { accessFlags := 10, nameIndex := 71, descriptorIndex := 72, attributes := #[] }, { accessFlags := 10, nameIndex := 75, descriptorIndex := 76, attributes := #[] }, { accessFlags := 9, nameIndex := 93, descriptorIndex := 94, attributes := #[] }] 49 2 #[] #[])
  fields := #[]
  methods := #[k1m0, k1m1, k1m2, k1m3]
  instanceTypes := #[]
  staticTypes := #[]
  resolved := Array.replicate 97 none
  statics := none }

def pool2 : Array CpInfo := pool [(1, .methodref 2 3), (0, .class_ 4), (0, .nameAndType 5 6), (0, u "java/lang/Object"), (0, u "<init>"), (0, u "()V"), (0, .class_ 8), (0, u "java/lang/Record")] 13

def k2c0 : Code := { maxStack := 1, maxLocals := 1, code := jdk_30_method_1_code, exceptionTable := #[], attributes := #[] }
def k2m0 : Method := { name := "<init>", desc := "()V", sig := { parameters := [], returnType := none }, accessFlags := 4, code := some k2c0 }
/-- java/lang/Record -/
def k2 : Class := { plain "java/lang/Record" (some 0) with
  accessFlags := 1057
  interfaces := #[]
  cf := some (fileOf pool2 7 #[] #[{ accessFlags := 4, nameIndex := 5, descriptorIndex := 6, attributes := #[] }] 1057 2 #[] #[])
  fields := #[]
  methods := #[k2m0]
  instanceTypes := #[]
  staticTypes := #[]
  resolved := Array.replicate 22 none
  statics := none }

def pool3 : Array CpInfo := pool [(1, .methodref 2 3), (0, .class_ 4), (0, .nameAndType 5 6), (0, u "java/lang/Record"), (0, u "<init>"), (0, u "()V"), (0, .string 8), (0, u "rank"), (0, .methodref 10 11), (0, .class_ 12), (0, .nameAndType 13 14), (0, u "java/util/Objects"), (0, u "requireNonNull"), (0, u "(Ljava/lang/Object;Ljava/lang/String;)Ljava/lang/Object;"), (0, .string 16), (0, u "suit"), (0, .fieldref 18 19), (0, .class_ 20), (0, .nameAndType 8 21), (0, u "com/example/wildsuit/wildsuit/card/Card"), (0, u "Lcom/example/wildsuit/wildsuit/card/Rank;"), (0, .fieldref 18 23), (0, .nameAndType 16 24), (0, u "Lcom/example/wildsuit/wildsuit/card/Suit;"), (2, u "CARDS"), (0, u "[Lcom/example/wildsuit/wildsuit/card/Card;"), (12, u "RANKS"), (0, u "I"), (98, u "(Lcom/example/wildsuit/wildsuit/card/Rank;Lcom/example/wildsuit/wildsuit/card/Suit;)V"), (13, u "equals"), (0, u "(Ljava/lang/Object;)Z")] 28

def k3c0 : Code := { maxStack := 2, maxLocals := 3, code := prog_1_method_1_code, exceptionTable := #[], attributes := #[] }
def k3m0 : Method := { name := "<init>", desc := "(Lcom/example/wildsuit/wildsuit/card/Rank;Lcom/example/wildsuit/wildsuit/card/Suit;)V", sig := { parameters := [(.object "com/example/wildsuit/wildsuit/card/Rank"), (.object "com/example/wildsuit/wildsuit/card/Suit")], returnType := none }, accessFlags := 1, code := some k3c0 }
def k3c1 : Code := { maxStack := 2, maxLocals := 3, code := prog_1_method_11_code, exceptionTable := #[], attributes := #[] }
def k3m1 : Method := { name := "equals", desc := "(Ljava/lang/Object;)Z", sig := { parameters := [(.object "java/lang/Object")], returnType := some .boolean }, accessFlags := 1, code := some k3c1 }
/-- com/example/wildsuit/wildsuit/card/Card -/
def k3 : Class := { plain "com/example/wildsuit/wildsuit/card/Card" (some 2) with
  accessFlags := 49
  interfaces := #[]
  cf := some (fileOf pool3 18 #[] #[{ accessFlags := 1, nameIndex := 5, descriptorIndex := 141, attributes := #[] }, { accessFlags := 1, nameIndex := 155, descriptorIndex := 156, attributes := #[] }] 49 2 #[] #[{ accessFlags := 18, nameIndex := 8, descriptorIndex := 21, attributes := #[] }, { accessFlags := 18, nameIndex := 16, descriptorIndex := 24, attributes := #[] }, { accessFlags := 26, nameIndex := 41, descriptorIndex := 42, attributes := #[] }, { accessFlags := 26, nameIndex := 27, descriptorIndex := 28, attributes := #[] }])
  fields := #[{ name := "rank", type := (.object "com/example/wildsuit/wildsuit/card/Rank"), accessFlags := 18, slot := 0, constantValue := 0 }, { name := "suit", type := (.object "com/example/wildsuit/wildsuit/card/Suit"), accessFlags := 18, slot := 1, constantValue := 0 }, { name := "RANKS", type := .int, accessFlags := 26, slot := 0, constantValue := 0 }, { name := "CARDS", type := (.array (.object "com/example/wildsuit/wildsuit/card/Card")), accessFlags := 26, slot := 1, constantValue := 0 }]
  methods := #[k3m0, k3m1]
  instanceTypes := #[(.object "com/example/wildsuit/wildsuit/card/Rank"), (.object "com/example/wildsuit/wildsuit/card/Suit")]
  staticTypes := #[.int, (.array (.object "com/example/wildsuit/wildsuit/card/Card"))]
  resolved := Array.replicate 185 none
  statics := none }

def pool4 : Array CpInfo := pool [(1, .class_ 2), (0, u "java/lang/constant/Constable"), (0, .class_ 4), (0, u "java/lang/Object")] 6

/-- java/lang/constant/Constable -/
def k4 : Class := { plain "java/lang/constant/Constable" (some 0) with
  accessFlags := 1537
  interfaces := #[]
  cf := some (fileOf pool4 1 #[] #[] 1537 3 #[] #[])
  fields := #[]
  methods := #[]
  instanceTypes := #[]
  staticTypes := #[]
  resolved := Array.replicate 11 none
  statics := none }

def pool5 : Array CpInfo := pool [(1, .class_ 2), (0, u "java/lang/Comparable"), (0, .class_ 4), (0, u "java/lang/Object")] 7

/-- java/lang/Comparable -/
def k5 : Class := { plain "java/lang/Comparable" (some 0) with
  accessFlags := 1537
  interfaces := #[]
  cf := some (fileOf pool5 1 #[] #[] 1537 3 #[] #[])
  fields := #[]
  methods := #[]
  instanceTypes := #[]
  staticTypes := #[]
  resolved := Array.replicate 12 none
  statics := none }

def pool6 : Array CpInfo := pool [(1, .class_ 2), (0, u "java/io/Serializable"), (0, .class_ 4), (0, u "java/lang/Object")] 2

/-- java/io/Serializable -/
def k6 : Class := { plain "java/io/Serializable" (some 0) with
  accessFlags := 1537
  interfaces := #[]
  cf := some (fileOf pool6 1 #[] #[] 1537 3 #[] #[])
  fields := #[]
  methods := #[]
  instanceTypes := #[]
  staticTypes := #[]
  resolved := Array.replicate 7 none
  statics := none }

def pool7 : Array CpInfo := pool [(2, .class_ 4), (1, u "java/lang/Enum"), (0, u "name"), (0, u "Ljava/lang/String;"), (2, u "ordinal"), (0, u "I"), (1, .class_ 14), (1, u "java/lang/Object"), (4, u "hash"), (86, .class_ 108), (1, u "java/lang/Enum$EnumDesc"), (2, .class_ 112), (0, u "java/lang/constant/Constable"), (0, .class_ 114), (0, u "java/lang/Comparable"), (0, .class_ 116), (0, u "java/io/Serializable")] 87

/-- java/lang/Enum -/
def k7 : Class := { plain "java/lang/Enum" (some 0) with
  accessFlags := 1057
  interfaces := #[4, 5, 6]
  cf := some (fileOf pool7 2 #[.nestMembers #[106]] #[] 1057 12 #[111, 113, 115] #[{ accessFlags := 18, nameIndex := 5, descriptorIndex := 6, attributes := #[] }, { accessFlags := 18, nameIndex := 9, descriptorIndex := 10, attributes := #[] }, { accessFlags := 2, nameIndex := 19, descriptorIndex := 10, attributes := #[] }])
  fields := #[{ name := "name", type := (.object "java/lang/String"), accessFlags := 18, slot := 0, constantValue := 0 }, { name := "ordinal", type := .int, accessFlags := 18, slot := 1, constantValue := 0 }, { name := "hash", type := .int, accessFlags := 2, slot := 2, constantValue := 0 }]
  methods := #[]
  instanceTypes := #[(.object "java/lang/String"), .int, .int]
  staticTypes := #[]
  resolved := Array.replicate 204 none
  statics := none }

def pool8 : Array CpInfo := pool [(1, .class_ 2), (0, u "com/example/wildsuit/wildsuit/card/Rank"), (2, u "ACE"), (0, u "Lcom/example/wildsuit/wildsuit/card/Rank;"), (2, u "TWO"), (2, u "THREE"), (2, u "FOUR"), (2, u "FIVE"), (2, u "SIX"), (2, u "SEVEN"), (2, u "EIGHT"), (2, u "NINE"), (2, u "TEN"), (2, u "JACK"), (2, u "QUEEN"), (2, u "KING"), (2, u "$VALUES"), (0, u "[Lcom/example/wildsuit/wildsuit/card/Rank;"), (6, .class_ 55), (1, u "java/lang/Enum"), (8, u "symbol"), (0, u "C"), (2, u "word"), (0, u "Ljava/lang/String;"), (75, u "SYMBOLS")] 35

/-- com/example/wildsuit/wildsuit/card/Rank -/
def k8 : Class := { plain "com/example/wildsuit/wildsuit/card/Rank" (some 7) with
  accessFlags := 16433
  interfaces := #[]
  cf := some (fileOf pool8 1 #[] #[] 16433 53 #[] #[{ accessFlags := 16409, nameIndex := 5, descriptorIndex := 6, attributes := #[] }, { accessFlags := 16409, nameIndex := 9, descriptorIndex := 6, attributes := #[] }, { accessFlags := 16409, nameIndex := 12, descriptorIndex := 6, attributes := #[] }, { accessFlags := 16409, nameIndex := 15, descriptorIndex := 6, attributes := #[] }, { accessFlags := 16409, nameIndex := 18, descriptorIndex := 6, attributes := #[] }, { accessFlags := 16409, nameIndex := 21, descriptorIndex := 6, attributes := #[] }, { accessFlags := 16409, nameIndex := 24, descriptorIndex := 6, attributes := #[] }, { accessFlags := 16409, nameIndex := 27, descriptorIndex := 6, attributes := #[] }, { accessFlags := 16409, nameIndex := 30, descriptorIndex := 6, attributes := #[] }, { accessFlags := 16409, nameIndex := 33, descriptorIndex := 6, attributes := #[] }, { accessFlags := 16409, nameIndex := 36, descriptorIndex := 6, attributes := #[] }, { accessFlags := 16409, nameIndex := 39, descriptorIndex := 6, attributes := #[] }, { accessFlags := 16409, nameIndex := 42, descriptorIndex := 6, attributes := #[] }, { accessFlags := 24, nameIndex := 145, descriptorIndex := 69, attributes := #[] }, { accessFlags := 18, nameIndex := 64, descriptorIndex := 65, attributes := #[] }, { accessFlags := 18, nameIndex := 68, descriptorIndex := 69, attributes := #[] }, { accessFlags := 4122, nameIndex := 45, descriptorIndex := 46, attributes := #[] }])
  fields := #[{ name := "ACE", type := (.object "com/example/wildsuit/wildsuit/card/Rank"), accessFlags := 16409, slot := 0, constantValue := 0 }, { name := "TWO", type := (.object "com/example/wildsuit/wildsuit/card/Rank"), accessFlags := 16409, slot := 1, constantValue := 0 }, { name := "THREE", type := (.object "com/example/wildsuit/wildsuit/card/Rank"), accessFlags := 16409, slot := 2, constantValue := 0 }, { name := "FOUR", type := (.object "com/example/wildsuit/wildsuit/card/Rank"), accessFlags := 16409, slot := 3, constantValue := 0 }, { name := "FIVE", type := (.object "com/example/wildsuit/wildsuit/card/Rank"), accessFlags := 16409, slot := 4, constantValue := 0 }, { name := "SIX", type := (.object "com/example/wildsuit/wildsuit/card/Rank"), accessFlags := 16409, slot := 5, constantValue := 0 }, { name := "SEVEN", type := (.object "com/example/wildsuit/wildsuit/card/Rank"), accessFlags := 16409, slot := 6, constantValue := 0 }, { name := "EIGHT", type := (.object "com/example/wildsuit/wildsuit/card/Rank"), accessFlags := 16409, slot := 7, constantValue := 0 }, { name := "NINE", type := (.object "com/example/wildsuit/wildsuit/card/Rank"), accessFlags := 16409, slot := 8, constantValue := 0 }, { name := "TEN", type := (.object "com/example/wildsuit/wildsuit/card/Rank"), accessFlags := 16409, slot := 9, constantValue := 0 }, { name := "JACK", type := (.object "com/example/wildsuit/wildsuit/card/Rank"), accessFlags := 16409, slot := 10, constantValue := 0 }, { name := "QUEEN", type := (.object "com/example/wildsuit/wildsuit/card/Rank"), accessFlags := 16409, slot := 11, constantValue := 0 }, { name := "KING", type := (.object "com/example/wildsuit/wildsuit/card/Rank"), accessFlags := 16409, slot := 12, constantValue := 0 }, { name := "SYMBOLS", type := (.object "java/lang/String"), accessFlags := 24, slot := 13, constantValue := 0 }, { name := "symbol", type := .char, accessFlags := 18, slot := 3, constantValue := 0 }, { name := "word", type := (.object "java/lang/String"), accessFlags := 18, slot := 4, constantValue := 0 }, { name := "$VALUES", type := (.array (.object "com/example/wildsuit/wildsuit/card/Rank")), accessFlags := 4122, slot := 14, constantValue := 0 }]
  methods := #[]
  instanceTypes := #[(.object "java/lang/String"), .int, .int, .char, (.object "java/lang/String")]
  staticTypes := #[(.object "com/example/wildsuit/wildsuit/card/Rank"), (.object "com/example/wildsuit/wildsuit/card/Rank"), (.object "com/example/wildsuit/wildsuit/card/Rank"), (.object "com/example/wildsuit/wildsuit/card/Rank"), (.object "com/example/wildsuit/wildsuit/card/Rank"), (.object "com/example/wildsuit/wildsuit/card/Rank"), (.object "com/example/wildsuit/wildsuit/card/Rank"), (.object "com/example/wildsuit/wildsuit/card/Rank"), (.object "com/example/wildsuit/wildsuit/card/Rank"), (.object "com/example/wildsuit/wildsuit/card/Rank"), (.object "com/example/wildsuit/wildsuit/card/Rank"), (.object "com/example/wildsuit/wildsuit/card/Rank"), (.object "com/example/wildsuit/wildsuit/card/Rank"), (.object "java/lang/String"), (.array (.object "com/example/wildsuit/wildsuit/card/Rank"))]
  resolved := Array.replicate 181 none
  statics := some 0 }

def pool9 : Array CpInfo := pool [(1, .class_ 2), (0, u "com/example/wildsuit/wildsuit/card/Suit"), (2, u "CLUBS"), (0, u "Lcom/example/wildsuit/wildsuit/card/Suit;"), (2, u "DIAMONDS"), (2, u "HEARTS"), (2, u "SPADES"), (2, u "$VALUES"), (0, u "[Lcom/example/wildsuit/wildsuit/card/Suit;"), (6, .class_ 28), (1, u "java/lang/Enum"), (8, u "symbol"), (0, u "C"), (2, u "word"), (0, u "Ljava/lang/String;"), (31, u "SYMBOLS")] 34

/-- com/example/wildsuit/wildsuit/card/Suit -/
def k9 : Class := { plain "com/example/wildsuit/wildsuit/card/Suit" (some 7) with
  accessFlags := 16433
  interfaces := #[]
  cf := some (fileOf pool9 1 #[] #[] 16433 26 #[] #[{ accessFlags := 16409, nameIndex := 5, descriptorIndex := 6, attributes := #[] }, { accessFlags := 16409, nameIndex := 9, descriptorIndex := 6, attributes := #[] }, { accessFlags := 16409, nameIndex := 12, descriptorIndex := 6, attributes := #[] }, { accessFlags := 16409, nameIndex := 15, descriptorIndex := 6, attributes := #[] }, { accessFlags := 24, nameIndex := 74, descriptorIndex := 42, attributes := #[] }, { accessFlags := 18, nameIndex := 37, descriptorIndex := 38, attributes := #[] }, { accessFlags := 18, nameIndex := 41, descriptorIndex := 42, attributes := #[] }, { accessFlags := 4122, nameIndex := 18, descriptorIndex := 19, attributes := #[] }])
  fields := #[{ name := "CLUBS", type := (.object "com/example/wildsuit/wildsuit/card/Suit"), accessFlags := 16409, slot := 0, constantValue := 0 }, { name := "DIAMONDS", type := (.object "com/example/wildsuit/wildsuit/card/Suit"), accessFlags := 16409, slot := 1, constantValue := 0 }, { name := "HEARTS", type := (.object "com/example/wildsuit/wildsuit/card/Suit"), accessFlags := 16409, slot := 2, constantValue := 0 }, { name := "SPADES", type := (.object "com/example/wildsuit/wildsuit/card/Suit"), accessFlags := 16409, slot := 3, constantValue := 0 }, { name := "SYMBOLS", type := (.object "java/lang/String"), accessFlags := 24, slot := 4, constantValue := 0 }, { name := "symbol", type := .char, accessFlags := 18, slot := 3, constantValue := 0 }, { name := "word", type := (.object "java/lang/String"), accessFlags := 18, slot := 4, constantValue := 0 }, { name := "$VALUES", type := (.array (.object "com/example/wildsuit/wildsuit/card/Suit")), accessFlags := 4122, slot := 5, constantValue := 0 }]
  methods := #[]
  instanceTypes := #[(.object "java/lang/String"), .int, .int, .char, (.object "java/lang/String")]
  staticTypes := #[(.object "com/example/wildsuit/wildsuit/card/Suit"), (.object "com/example/wildsuit/wildsuit/card/Suit"), (.object "com/example/wildsuit/wildsuit/card/Suit"), (.object "com/example/wildsuit/wildsuit/card/Suit"), (.object "java/lang/String"), (.array (.object "com/example/wildsuit/wildsuit/card/Suit"))]
  resolved := Array.replicate 109 none
  statics := some 1 }

def pool10 : Array CpInfo := pool [(2, .class_ 4), (1, u "java/lang/CharSequence"), (42, .class_ 48), (0, u "java/lang/CharSequence$1CodePointIterator"), (10, .class_ 60), (0, u "java/lang/CharSequence$1CharIterator"), (5, .class_ 67), (0, u "java/lang/Object")] 63

/-- java/lang/CharSequence -/
def k10 : Class := { plain "java/lang/CharSequence" (some 0) with
  accessFlags := 1537
  interfaces := #[]
  cf := some (fileOf pool10 2 #[.nestMembers #[47, 59]] #[] 1537 66 #[] #[])
  fields := #[]
  methods := #[]
  instanceTypes := #[]
  staticTypes := #[]
  resolved := Array.replicate 131 none
  statics := none }

def pool11 : Array CpInfo := pool [(1, .class_ 2), (0, u "java/lang/constant/ConstantDesc"), (0, .class_ 4), (0, u "java/lang/Object")] 32

/-- java/lang/constant/ConstantDesc -/
def k11 : Class := { plain "java/lang/constant/ConstantDesc" (some 0) with
  accessFlags := 1537
  interfaces := #[]
  cf := some (fileOf pool11 1 #[] #[] 1537 3 #[] #[])
  fields := #[]
  methods := #[]
  instanceTypes := #[]
  staticTypes := #[]
  resolved := Array.replicate 37 none
  statics := none }

def pool12 : Array CpInfo := pool [(2, .class_ 4), (1, u "java/lang/Object"), (0, u "<init>"), (0, u "()V"), (3, .class_ 12), (1, u "java/lang/String"), (0, u "value"), (0, u "[B"), (2, u "coder"), (0, u "B"), (2, u "hash"), (0, u "I"), (2, u "hashIsZero"), (0, u "Z"), (13, u "COMPACT_STRINGS"), (534, .class_ 576), (0, u "java/lang/CharSequence"), (22, u "CASE_INSENSITIVE_ORDER"), (0, u "Ljava/util/Comparator;"), (500, u "serialPersistentFields"), (0, u "[Ljava/io/ObjectStreamField;"), (0, .class_ 1104), (0, u "java/lang/String$CaseInsensitiveComparator"), (1, .class_ 1107), (0, u "java/io/Serializable"), (0, .class_ 1109), (0, u "java/lang/Comparable"), (0, .class_ 1111), (0, u "java/lang/constant/Constable"), (0, .class_ 1113), (0, u "java/lang/constant/ConstantDesc"), (2, u "serialVersionUID"), (0, u "J"), (3, u "REPL"), (0, u "C"), (2, u "LATIN1"), (1, u "UTF16")] 323

def k12m0 : Method := { name := "<init>", desc := "()V", sig := { parameters := [], returnType := none }, accessFlags := 1, code := none }
/-- java/lang/String -/
def k12 : Class := { plain "java/lang/String" (some 0) with
  accessFlags := 49
  interfaces := #[6, 5, 10, 4, 11]
  cf := some (fileOf pool12 10 #[.nestMembers #[1103]] #[{ accessFlags := 1, nameIndex := 5, descriptorIndex := 6, attributes := #[] }] 49 2 #[1106, 1108, 575, 1110, 1112] #[{ accessFlags := 18, nameIndex := 13, descriptorIndex := 14, attributes := #[] }, { accessFlags := 18, nameIndex := 17, descriptorIndex := 18, attributes := #[] }, { accessFlags := 2, nameIndex := 21, descriptorIndex := 22, attributes := #[] }, { accessFlags := 2, nameIndex := 25, descriptorIndex := 26, attributes := #[] }, { accessFlags := 26, nameIndex := 1116, descriptorIndex := 1117, attributes := #[] }, { accessFlags := 24, nameIndex := 40, descriptorIndex := 26, attributes := #[] }, { accessFlags := 26, nameIndex := 1101, descriptorIndex := 1102, attributes := #[] }, { accessFlags := 26, nameIndex := 1121, descriptorIndex := 1122, attributes := #[] }, { accessFlags := 25, nameIndex := 599, descriptorIndex := 600, attributes := #[] }, { accessFlags := 24, nameIndex := 1125, descriptorIndex := 18, attributes := #[] }, { accessFlags := 24, nameIndex := 1127, descriptorIndex := 18, attributes := #[] }])
  fields := #[{ name := "value", type := (.array .byte), accessFlags := 18, slot := 0, constantValue := 0 }, { name := "coder", type := .byte, accessFlags := 18, slot := 1, constantValue := 0 }, { name := "hash", type := .int, accessFlags := 2, slot := 2, constantValue := 0 }, { name := "hashIsZero", type := .boolean, accessFlags := 2, slot := 3, constantValue := 0 }, { name := "serialVersionUID", type := .long, accessFlags := 26, slot := 0, constantValue := 0 }, { name := "COMPACT_STRINGS", type := .boolean, accessFlags := 24, slot := 1, constantValue := 0 }, { name := "serialPersistentFields", type := (.array (.object "java/io/ObjectStreamField")), accessFlags := 26, slot := 2, constantValue := 0 }, { name := "REPL", type := .char, accessFlags := 26, slot := 3, constantValue := 0 }, { name := "CASE_INSENSITIVE_ORDER", type := (.object "java/util/Comparator"), accessFlags := 25, slot := 4, constantValue := 0 }, { name := "LATIN1", type := .byte, accessFlags := 24, slot := 5, constantValue := 0 }, { name := "UTF16", type := .byte, accessFlags := 24, slot := 6, constantValue := 0 }]
  methods := #[k12m0]
  instanceTypes := #[(.array .byte), .byte, .int, .boolean]
  staticTypes := #[.long, .boolean, (.array (.object "java/io/ObjectStreamField")), .char, (.object "java/util/Comparator"), .byte, .byte]
  resolved := Array.replicate 1451 none
  statics := none }

def pool13 : Array CpInfo := pool [(2, .class_ 4), (1, u "java/lang/Object"), (0, u "<init>"), (0, u "()V"), (35, .class_ 44), (1, u "java/util/Objects"), (0, u "requireNonNull"), (48, u "(Ljava/lang/Object;Ljava/lang/String;)Ljava/lang/Object;")] 89

def k13m0 : Method := { name := "<init>", desc := "()V", sig := { parameters := [], returnType := none }, accessFlags := 2, code := none }
def k13c1 : Code := { maxStack := 3, maxLocals := 2, code := jdk_31_method_11_code, exceptionTable := #[], attributes := #[] }
def k13m1 : Method := { name := "requireNonNull", desc := "(Ljava/lang/Object;Ljava/lang/String;)Ljava/lang/Object;", sig := { parameters := [(.object "java/lang/Object"), (.object "java/lang/String")], returnType := some (.object "java/lang/Object") }, accessFlags := 9, code := some k13c1 }
/-- java/util/Objects -/
def k13 : Class := { plain "java/util/Objects" (some 0) with
  accessFlags := 49
  interfaces := #[]
  cf := some (fileOf pool13 42 #[] #[{ accessFlags := 2, nameIndex := 5, descriptorIndex := 6, attributes := #[] }, { accessFlags := 9, nameIndex := 45, descriptorIndex := 94, attributes := #[] }] 49 2 #[] #[])
  fields := #[]
  methods := #[k13m0, k13m1]
  instanceTypes := #[]
  staticTypes := #[]
  resolved := Array.replicate 184 none
  statics := none }

def pool14 : Array CpInfo := pool [(1, .methodref 2 3), (0, .class_ 4), (0, .nameAndType 5 6), (0, u "java/lang/Object"), (0, u "<init>"), (0, u "()V"), (1, .class_ 10), (1, u "java/lang/Number"), (2, .class_ 14), (0, u "java/io/Serializable"), (0, u "serialVersionUID"), (0, u "J")] 20

def k14c0 : Code := { maxStack := 1, maxLocals := 1, code := jdk_18_method_1_code, exceptionTable := #[], attributes := #[] }
def k14m0 : Method := { name := "<init>", desc := "()V", sig := { parameters := [], returnType := none }, accessFlags := 1, code := some k14c0 }
/-- java/lang/Number -/
def k14 : Class := { plain "java/lang/Number" (some 0) with
  accessFlags := 1057
  interfaces := #[6]
  cf := some (fileOf pool14 8 #[] #[{ accessFlags := 1, nameIndex := 5, descriptorIndex := 6, attributes := #[] }] 1057 2 #[13] #[{ accessFlags := 26, nameIndex := 15, descriptorIndex := 16, attributes := #[] }])
  fields := #[{ name := "serialVersionUID", type := .long, accessFlags := 26, slot := 0, constantValue := 0 }]
  methods := #[k14m0]
  instanceTypes := #[]
  staticTypes := #[.long]
  resolved := Array.replicate 37 none
  statics := none }

def pool15 : Array CpInfo := pool [(1, .class_ 2), (0, u "java/lang/Integer"), (16, u "digits"), (0, u "[C"), (46, u "<init>"), (17, u "DigitOnes"), (0, u "[B"), (2, u "DigitTens"), (10, .nameAndType 67 101), (0, u "()V"), (85, u "valueOf"), (0, u "(I)Ljava/lang/Integer;"), (0, .class_ 190), (0, u "java/lang/Integer$IntegerCache"), (0, .fieldref 189 192), (0, .nameAndType 193 194), (0, u "high"), (0, u "I"), (0, .fieldref 189 196), (0, .nameAndType 197 198), (0, u "cache"), (0, u "[Ljava/lang/Integer;"), (0, .methodref 1 200), (0, .nameAndType 67 201), (0, u "(I)V"), (0, .methodref 203 100), (0, .class_ 204), (0, u "java/lang/Number"), (0, .fieldref 1 206), (0, .nameAndType 207 194), (0, u "value"), (94, u "TYPE"), (0, u "Ljava/lang/Class;"), (0, .class_ 305), (0, u "java/lang/Comparable"), (0, .class_ 307), (0, u "java/lang/constant/Constable"), (0, .class_ 309), (0, u "java/lang/constant/ConstantDesc"), (0, u "MIN_VALUE"), (1, u "MAX_VALUE"), (3, u "SIZE"), (1, u "BYTES"), (1, u "serialVersionUID"), (0, u "J")] 131

def k15c0 : Code := { maxStack := 3, maxLocals := 1, code := jdk_33_method_22_code, exceptionTable := #[], attributes := #[] }
def k15m0 : Method := { name := "valueOf", desc := "(I)Ljava/lang/Integer;", sig := { parameters := [.int], returnType := some (.object "java/lang/Integer") }, accessFlags := 9, code := some k15c0 }
def k15c1 : Code := { maxStack := 2, maxLocals := 2, code := jdk_33_method_23_code, exceptionTable := #[], attributes := #[] }
def k15m1 : Method := { name := "<init>", desc := "(I)V", sig := { parameters := [.int], returnType := none }, accessFlags := 1, code := some k15c1 }
/-- java/lang/Integer -/
def k15 : Class := { plain "java/lang/Integer" (some 14) with
  accessFlags := 49
  interfaces := #[5, 4, 11]
  cf := some (fileOf pool15 1 #[.nestMembers #[189]] #[{ accessFlags := 9, nameIndex := 187, descriptorIndex := 188, attributes := #[] }, { accessFlags := 1, nameIndex := 67, descriptorIndex := 201, attributes := #[] }] 49 203 #[304, 306, 308] #[{ accessFlags := 25, nameIndex := 310, descriptorIndex := 194, attributes := #[] }, { accessFlags := 25, nameIndex := 312, descriptorIndex := 194, attributes := #[] }, { accessFlags := 25, nameIndex := 302, descriptorIndex := 303, attributes := #[] }, { accessFlags := 24, nameIndex := 19, descriptorIndex := 20, attributes := #[] }, { accessFlags := 24, nameIndex := 89, descriptorIndex := 86, attributes := #[] }, { accessFlags := 24, nameIndex := 85, descriptorIndex := 86, attributes := #[] }, { accessFlags := 18, nameIndex := 207, descriptorIndex := 194, attributes := #[] }, { accessFlags := 25, nameIndex := 316, descriptorIndex := 194, attributes := #[] }, { accessFlags := 25, nameIndex := 318, descriptorIndex := 194, attributes := #[] }, { accessFlags := 26, nameIndex := 320, descriptorIndex := 321, attributes := #[] }])
  fields := #[{ name := "MIN_VALUE", type := .int, accessFlags := 25, slot := 0, constantValue := 0 }, { name := "MAX_VALUE", type := .int, accessFlags := 25, slot := 1, constantValue := 0 }, { name := "TYPE", type := (.object "java/lang/Class"), accessFlags := 25, slot := 2, constantValue := 0 }, { name := "digits", type := (.array .char), accessFlags := 24, slot := 3, constantValue := 0 }, { name := "DigitTens", type := (.array .byte), accessFlags := 24, slot := 4, constantValue := 0 }, { name := "DigitOnes", type := (.array .byte), accessFlags := 24, slot := 5, constantValue := 0 }, { name := "value", type := .int, accessFlags := 18, slot := 0, constantValue := 0 }, { name := "SIZE", type := .int, accessFlags := 25, slot := 6, constantValue := 0 }, { name := "BYTES", type := .int, accessFlags := 25, slot := 7, constantValue := 0 }, { name := "serialVersionUID", type := .long, accessFlags := 26, slot := 8, constantValue := 0 }]
  methods := #[k15m0, k15m1]
  instanceTypes := #[.int]
  staticTypes := #[.int, .int, (.object "java/lang/Class"), (.array .char), (.array .byte), (.array .byte), .int, .int, .long]
  resolved := Array.replicate 453 none
  statics := none }

def pool16 : Array CpInfo := pool [(2, .class_ 4), (1, u "java/lang/Object"), (0, u "<init>"), (0, u "()V"), (0, .class_ 8), (0, u "java/lang/Integer"), (7, .class_ 18), (1, u "java/lang/Integer$IntegerCache"), (0, u "$assertionsDisabled"), (0, u "Z"), (26, u "high"), (0, u "I"), (8, u "archivedCache"), (0, u "[Ljava/lang/Integer;"), (12, u "cache"), (0, u "low")] 27

def k16m0 : Method := { name := "<init>", desc := "()V", sig := { parameters := [], returnType := none }, accessFlags := 2, code := none }
/-- java/lang/Integer$IntegerCache -/
def k16 : Class := { plain "java/lang/Integer$IntegerCache" (some 0) with
  accessFlags := 48
  interfaces := #[]
  cf := some (fileOf pool16 16 #[.nestHost 7] #[{ accessFlags := 2, nameIndex := 5, descriptorIndex := 6, attributes := #[] }] 48 2 #[] #[{ accessFlags := 24, nameIndex := 72, descriptorIndex := 48, attributes := #[] }, { accessFlags := 24, nameIndex := 47, descriptorIndex := 48, attributes := #[] }, { accessFlags := 24, nameIndex := 71, descriptorIndex := 58, attributes := #[] }, { accessFlags := 8, nameIndex := 57, descriptorIndex := 58, attributes := #[] }, { accessFlags := 4120, nameIndex := 19, descriptorIndex := 20, attributes := #[] }])
  fields := #[{ name := "low", type := .int, accessFlags := 24, slot := 0, constantValue := 0 }, { name := "high", type := .int, accessFlags := 24, slot := 1, constantValue := 0 }, { name := "cache", type := (.array (.object "java/lang/Integer")), accessFlags := 24, slot := 2, constantValue := 0 }, { name := "archivedCache", type := (.array (.object "java/lang/Integer")), accessFlags := 8, slot := 3, constantValue := 0 }, { name := "$assertionsDisabled", type := .boolean, accessFlags := 4120, slot := 4, constantValue := 0 }]
  methods := #[k16m0]
  instanceTypes := #[]
  staticTypes := #[.int, .int, (.array (.object "java/lang/Integer")), (.array (.object "java/lang/Integer")), .boolean]
  resolved := Array.replicate 100 none
  statics := some 2 }

def pool17 : Array CpInfo := pool [(1, u "java/lang/Cloneable"), (0, .class_ 1), (0, u "java/lang/Object"), (0, .class_ 3)] 3

/-- java/lang/Cloneable -/
def k17 : Class := { plain "java/lang/Cloneable" (some 0) with
  accessFlags := 1537
  interfaces := #[]
  cf := some (fileOf pool17 2 #[] #[] 1537 4 #[] #[])
  fields := #[]
  methods := #[]
  instanceTypes := #[]
  staticTypes := #[]
  resolved := Array.replicate 8 none
  statics := none }

/-- the primitive byte -/
def k18 : Class := { plain "byte" none with kind := .primitive 'B', accessFlags := 0x411 }
/-- [B -/
def k19 : Class := { plain "[B" (some 0) with kind := .array 18 .byte, interfaces := #[17, 6], accessFlags := 1041 }

/-- the primitive int -/
def k20 : Class := { plain "int" none with kind := .primitive 'I', accessFlags := 0x411 }
/-- [I -/
def k21 : Class := { plain "[I" (some 0) with kind := .array 20 .int, interfaces := #[17, 6], accessFlags := 1041 }

/-- [Ljava/lang/Integer; -/
def k22 : Class := { plain "[Ljava/lang/Integer;" (some 0) with kind := .array 15 (.object "java/lang/Integer"), interfaces := #[17, 6], accessFlags := 1041 }

def heap : Heap := #[{ cls := 8, slots := #[.ref 4, .ref 5, .ref 6, .ref 7, .ref 8, .ref 9, .ref 10, .ref 11, .ref 12, .ref 13, .ref 14, .ref 15, .ref 16, .null, .null], vm := .statics 8 },
  { cls := 9, slots := #[.ref 17, .ref 18, .ref 19, .ref 20, .null, .null], vm := .statics 9 },
  { cls := 16, slots := #[.int 0, .int 127, .ref 3, .null, .int 0], vm := .statics 16 },
  { cls := 22, slots := #[.ref 21, .ref 22, .ref 23, .ref 24, .ref 25, .ref 26, .ref 27, .ref 28, .ref 29, .ref 30, .ref 31, .ref 32, .ref 33, .ref 34, .ref 35, .ref 36, .ref 37, .ref 38, .ref 39, .ref 40, .ref 41, .ref 42, .ref 43, .ref 44, .ref 45, .ref 46, .ref 47, .ref 48, .ref 49, .ref 50, .ref 51, .ref 52, .ref 53, .ref 54, .ref 55, .ref 56, .ref 57, .ref 58, .ref 59, .ref 60, .ref 61, .ref 62, .ref 63, .ref 64, .ref 65, .ref 66, .ref 67, .ref 68, .ref 69, .ref 70, .ref 71, .ref 72, .ref 73, .ref 74, .ref 75, .ref 76, .ref 77, .ref 78, .ref 79, .ref 80, .ref 81, .ref 82, .ref 83, .ref 84, .ref 85, .ref 86, .ref 87, .ref 88, .ref 89, .ref 90, .ref 91, .ref 92, .ref 93, .ref 94, .ref 95, .ref 96, .ref 97, .ref 98, .ref 99, .ref 100, .ref 101, .ref 102, .ref 103, .ref 104, .ref 105, .ref 106, .ref 107, .ref 108, .ref 109, .ref 110, .ref 111, .ref 112, .ref 113, .ref 114, .ref 115, .ref 116, .ref 117, .ref 118, .ref 119, .ref 120, .ref 121, .ref 122, .ref 123, .ref 124, .ref 125, .ref 126, .ref 127, .ref 128, .ref 129, .ref 130, .ref 131, .ref 132, .ref 133, .ref 134, .ref 135, .ref 136, .ref 137, .ref 138, .ref 139, .ref 140, .ref 141, .ref 142, .ref 143, .ref 144, .ref 145, .ref 146, .ref 147, .ref 148, .ref 149, .ref 150, .ref 151, .ref 152, .ref 153, .ref 154, .ref 155, .ref 156, .ref 157, .ref 158, .ref 159, .ref 160, .ref 161, .ref 162, .ref 163, .ref 164, .ref 165, .ref 166, .ref 167, .ref 168, .ref 169, .ref 170, .ref 171, .ref 172, .ref 173, .ref 174, .ref 175, .ref 176, .ref 177, .ref 178, .ref 179, .ref 180, .ref 181, .ref 182, .ref 183, .ref 184, .ref 185, .ref 186, .ref 187, .ref 188, .ref 189, .ref 190, .ref 191, .ref 192, .ref 193, .ref 194, .ref 195, .ref 196, .ref 197, .ref 198, .ref 199, .ref 200, .ref 201, .ref 202, .ref 203, .ref 204, .ref 205, .ref 206, .ref 207, .ref 208, .ref 209, .ref 210, .ref 211, .ref 212, .ref 213, .ref 214, .ref 215, .ref 216, .ref 217, .ref 218, .ref 219, .ref 220, .ref 221, .ref 222, .ref 223, .ref 224, .ref 225, .ref 226, .ref 227, .ref 228, .ref 229, .ref 230, .ref 231, .ref 232, .ref 233, .ref 234, .ref 235, .ref 236, .ref 237, .ref 238, .ref 239, .ref 240, .ref 241, .ref 242, .ref 243, .ref 244, .ref 245, .ref 246, .ref 247, .ref 248, .ref 249, .ref 250, .ref 251, .ref 252, .ref 253, .ref 254, .ref 255, .ref 256, .ref 257, .ref 258, .ref 259, .ref 260, .ref 261, .ref 262, .ref 263, .ref 264, .ref 265, .ref 266, .ref 267, .ref 268, .ref 269, .ref 270, .ref 271, .ref 272, .ref 273, .ref 274, .ref 275, .ref 276], vm := .none },
  { cls := 8, slots := #[.null, .int 0, .int 0, .int 65, .null], vm := .none },
  { cls := 8, slots := #[.null, .int 1, .int 0, .int 65, .null], vm := .none },
  { cls := 8, slots := #[.null, .int 2, .int 0, .int 65, .null], vm := .none },
  { cls := 8, slots := #[.null, .int 3, .int 0, .int 65, .null], vm := .none },
  { cls := 8, slots := #[.null, .int 4, .int 0, .int 65, .null], vm := .none },
  { cls := 8, slots := #[.null, .int 5, .int 0, .int 65, .null], vm := .none },
  { cls := 8, slots := #[.null, .int 6, .int 0, .int 65, .null], vm := .none },
  { cls := 8, slots := #[.null, .int 7, .int 0, .int 65, .null], vm := .none },
  { cls := 8, slots := #[.null, .int 8, .int 0, .int 65, .null], vm := .none },
  { cls := 8, slots := #[.null, .int 9, .int 0, .int 65, .null], vm := .none },
  { cls := 8, slots := #[.null, .int 10, .int 0, .int 65, .null], vm := .none },
  { cls := 8, slots := #[.null, .int 11, .int 0, .int 65, .null], vm := .none },
  { cls := 8, slots := #[.null, .int 12, .int 0, .int 65, .null], vm := .none },
  { cls := 9, slots := #[.null, .int 0, .int 0, .int 65, .null], vm := .none },
  { cls := 9, slots := #[.null, .int 1, .int 0, .int 65, .null], vm := .none },
  { cls := 9, slots := #[.null, .int 2, .int 0, .int 65, .null], vm := .none },
  { cls := 9, slots := #[.null, .int 3, .int 0, .int 65, .null], vm := .none },
  { cls := 15, slots := #[.int (-128)], vm := .none },
  { cls := 15, slots := #[.int (-127)], vm := .none },
  { cls := 15, slots := #[.int (-126)], vm := .none },
  { cls := 15, slots := #[.int (-125)], vm := .none },
  { cls := 15, slots := #[.int (-124)], vm := .none },
  { cls := 15, slots := #[.int (-123)], vm := .none },
  { cls := 15, slots := #[.int (-122)], vm := .none },
  { cls := 15, slots := #[.int (-121)], vm := .none },
  { cls := 15, slots := #[.int (-120)], vm := .none },
  { cls := 15, slots := #[.int (-119)], vm := .none },
  { cls := 15, slots := #[.int (-118)], vm := .none },
  { cls := 15, slots := #[.int (-117)], vm := .none },
  { cls := 15, slots := #[.int (-116)], vm := .none },
  { cls := 15, slots := #[.int (-115)], vm := .none },
  { cls := 15, slots := #[.int (-114)], vm := .none },
  { cls := 15, slots := #[.int (-113)], vm := .none },
  { cls := 15, slots := #[.int (-112)], vm := .none },
  { cls := 15, slots := #[.int (-111)], vm := .none },
  { cls := 15, slots := #[.int (-110)], vm := .none },
  { cls := 15, slots := #[.int (-109)], vm := .none },
  { cls := 15, slots := #[.int (-108)], vm := .none },
  { cls := 15, slots := #[.int (-107)], vm := .none },
  { cls := 15, slots := #[.int (-106)], vm := .none },
  { cls := 15, slots := #[.int (-105)], vm := .none },
  { cls := 15, slots := #[.int (-104)], vm := .none },
  { cls := 15, slots := #[.int (-103)], vm := .none },
  { cls := 15, slots := #[.int (-102)], vm := .none },
  { cls := 15, slots := #[.int (-101)], vm := .none },
  { cls := 15, slots := #[.int (-100)], vm := .none },
  { cls := 15, slots := #[.int (-99)], vm := .none },
  { cls := 15, slots := #[.int (-98)], vm := .none },
  { cls := 15, slots := #[.int (-97)], vm := .none },
  { cls := 15, slots := #[.int (-96)], vm := .none },
  { cls := 15, slots := #[.int (-95)], vm := .none },
  { cls := 15, slots := #[.int (-94)], vm := .none },
  { cls := 15, slots := #[.int (-93)], vm := .none },
  { cls := 15, slots := #[.int (-92)], vm := .none },
  { cls := 15, slots := #[.int (-91)], vm := .none },
  { cls := 15, slots := #[.int (-90)], vm := .none },
  { cls := 15, slots := #[.int (-89)], vm := .none },
  { cls := 15, slots := #[.int (-88)], vm := .none },
  { cls := 15, slots := #[.int (-87)], vm := .none },
  { cls := 15, slots := #[.int (-86)], vm := .none },
  { cls := 15, slots := #[.int (-85)], vm := .none },
  { cls := 15, slots := #[.int (-84)], vm := .none },
  { cls := 15, slots := #[.int (-83)], vm := .none },
  { cls := 15, slots := #[.int (-82)], vm := .none },
  { cls := 15, slots := #[.int (-81)], vm := .none },
  { cls := 15, slots := #[.int (-80)], vm := .none },
  { cls := 15, slots := #[.int (-79)], vm := .none },
  { cls := 15, slots := #[.int (-78)], vm := .none },
  { cls := 15, slots := #[.int (-77)], vm := .none },
  { cls := 15, slots := #[.int (-76)], vm := .none },
  { cls := 15, slots := #[.int (-75)], vm := .none },
  { cls := 15, slots := #[.int (-74)], vm := .none },
  { cls := 15, slots := #[.int (-73)], vm := .none },
  { cls := 15, slots := #[.int (-72)], vm := .none },
  { cls := 15, slots := #[.int (-71)], vm := .none },
  { cls := 15, slots := #[.int (-70)], vm := .none },
  { cls := 15, slots := #[.int (-69)], vm := .none },
  { cls := 15, slots := #[.int (-68)], vm := .none },
  { cls := 15, slots := #[.int (-67)], vm := .none },
  { cls := 15, slots := #[.int (-66)], vm := .none },
  { cls := 15, slots := #[.int (-65)], vm := .none },
  { cls := 15, slots := #[.int (-64)], vm := .none },
  { cls := 15, slots := #[.int (-63)], vm := .none },
  { cls := 15, slots := #[.int (-62)], vm := .none },
  { cls := 15, slots := #[.int (-61)], vm := .none },
  { cls := 15, slots := #[.int (-60)], vm := .none },
  { cls := 15, slots := #[.int (-59)], vm := .none },
  { cls := 15, slots := #[.int (-58)], vm := .none },
  { cls := 15, slots := #[.int (-57)], vm := .none },
  { cls := 15, slots := #[.int (-56)], vm := .none },
  { cls := 15, slots := #[.int (-55)], vm := .none },
  { cls := 15, slots := #[.int (-54)], vm := .none },
  { cls := 15, slots := #[.int (-53)], vm := .none },
  { cls := 15, slots := #[.int (-52)], vm := .none },
  { cls := 15, slots := #[.int (-51)], vm := .none },
  { cls := 15, slots := #[.int (-50)], vm := .none },
  { cls := 15, slots := #[.int (-49)], vm := .none },
  { cls := 15, slots := #[.int (-48)], vm := .none },
  { cls := 15, slots := #[.int (-47)], vm := .none },
  { cls := 15, slots := #[.int (-46)], vm := .none },
  { cls := 15, slots := #[.int (-45)], vm := .none },
  { cls := 15, slots := #[.int (-44)], vm := .none },
  { cls := 15, slots := #[.int (-43)], vm := .none },
  { cls := 15, slots := #[.int (-42)], vm := .none },
  { cls := 15, slots := #[.int (-41)], vm := .none },
  { cls := 15, slots := #[.int (-40)], vm := .none },
  { cls := 15, slots := #[.int (-39)], vm := .none },
  { cls := 15, slots := #[.int (-38)], vm := .none },
  { cls := 15, slots := #[.int (-37)], vm := .none },
  { cls := 15, slots := #[.int (-36)], vm := .none },
  { cls := 15, slots := #[.int (-35)], vm := .none },
  { cls := 15, slots := #[.int (-34)], vm := .none },
  { cls := 15, slots := #[.int (-33)], vm := .none },
  { cls := 15, slots := #[.int (-32)], vm := .none },
  { cls := 15, slots := #[.int (-31)], vm := .none },
  { cls := 15, slots := #[.int (-30)], vm := .none },
  { cls := 15, slots := #[.int (-29)], vm := .none },
  { cls := 15, slots := #[.int (-28)], vm := .none },
  { cls := 15, slots := #[.int (-27)], vm := .none },
  { cls := 15, slots := #[.int (-26)], vm := .none },
  { cls := 15, slots := #[.int (-25)], vm := .none },
  { cls := 15, slots := #[.int (-24)], vm := .none },
  { cls := 15, slots := #[.int (-23)], vm := .none },
  { cls := 15, slots := #[.int (-22)], vm := .none },
  { cls := 15, slots := #[.int (-21)], vm := .none },
  { cls := 15, slots := #[.int (-20)], vm := .none },
  { cls := 15, slots := #[.int (-19)], vm := .none },
  { cls := 15, slots := #[.int (-18)], vm := .none },
  { cls := 15, slots := #[.int (-17)], vm := .none },
  { cls := 15, slots := #[.int (-16)], vm := .none },
  { cls := 15, slots := #[.int (-15)], vm := .none },
  { cls := 15, slots := #[.int (-14)], vm := .none },
  { cls := 15, slots := #[.int (-13)], vm := .none },
  { cls := 15, slots := #[.int (-12)], vm := .none },
  { cls := 15, slots := #[.int (-11)], vm := .none },
  { cls := 15, slots := #[.int (-10)], vm := .none },
  { cls := 15, slots := #[.int (-9)], vm := .none },
  { cls := 15, slots := #[.int (-8)], vm := .none },
  { cls := 15, slots := #[.int (-7)], vm := .none },
  { cls := 15, slots := #[.int (-6)], vm := .none },
  { cls := 15, slots := #[.int (-5)], vm := .none },
  { cls := 15, slots := #[.int (-4)], vm := .none },
  { cls := 15, slots := #[.int (-3)], vm := .none },
  { cls := 15, slots := #[.int (-2)], vm := .none },
  { cls := 15, slots := #[.int (-1)], vm := .none },
  { cls := 15, slots := #[.int 0], vm := .none },
  { cls := 15, slots := #[.int 1], vm := .none },
  { cls := 15, slots := #[.int 2], vm := .none },
  { cls := 15, slots := #[.int 3], vm := .none },
  { cls := 15, slots := #[.int 4], vm := .none },
  { cls := 15, slots := #[.int 5], vm := .none },
  { cls := 15, slots := #[.int 6], vm := .none },
  { cls := 15, slots := #[.int 7], vm := .none },
  { cls := 15, slots := #[.int 8], vm := .none },
  { cls := 15, slots := #[.int 9], vm := .none },
  { cls := 15, slots := #[.int 10], vm := .none },
  { cls := 15, slots := #[.int 11], vm := .none },
  { cls := 15, slots := #[.int 12], vm := .none },
  { cls := 15, slots := #[.int 13], vm := .none },
  { cls := 15, slots := #[.int 14], vm := .none },
  { cls := 15, slots := #[.int 15], vm := .none },
  { cls := 15, slots := #[.int 16], vm := .none },
  { cls := 15, slots := #[.int 17], vm := .none },
  { cls := 15, slots := #[.int 18], vm := .none },
  { cls := 15, slots := #[.int 19], vm := .none },
  { cls := 15, slots := #[.int 20], vm := .none },
  { cls := 15, slots := #[.int 21], vm := .none },
  { cls := 15, slots := #[.int 22], vm := .none },
  { cls := 15, slots := #[.int 23], vm := .none },
  { cls := 15, slots := #[.int 24], vm := .none },
  { cls := 15, slots := #[.int 25], vm := .none },
  { cls := 15, slots := #[.int 26], vm := .none },
  { cls := 15, slots := #[.int 27], vm := .none },
  { cls := 15, slots := #[.int 28], vm := .none },
  { cls := 15, slots := #[.int 29], vm := .none },
  { cls := 15, slots := #[.int 30], vm := .none },
  { cls := 15, slots := #[.int 31], vm := .none },
  { cls := 15, slots := #[.int 32], vm := .none },
  { cls := 15, slots := #[.int 33], vm := .none },
  { cls := 15, slots := #[.int 34], vm := .none },
  { cls := 15, slots := #[.int 35], vm := .none },
  { cls := 15, slots := #[.int 36], vm := .none },
  { cls := 15, slots := #[.int 37], vm := .none },
  { cls := 15, slots := #[.int 38], vm := .none },
  { cls := 15, slots := #[.int 39], vm := .none },
  { cls := 15, slots := #[.int 40], vm := .none },
  { cls := 15, slots := #[.int 41], vm := .none },
  { cls := 15, slots := #[.int 42], vm := .none },
  { cls := 15, slots := #[.int 43], vm := .none },
  { cls := 15, slots := #[.int 44], vm := .none },
  { cls := 15, slots := #[.int 45], vm := .none },
  { cls := 15, slots := #[.int 46], vm := .none },
  { cls := 15, slots := #[.int 47], vm := .none },
  { cls := 15, slots := #[.int 48], vm := .none },
  { cls := 15, slots := #[.int 49], vm := .none },
  { cls := 15, slots := #[.int 50], vm := .none },
  { cls := 15, slots := #[.int 51], vm := .none },
  { cls := 15, slots := #[.int 52], vm := .none },
  { cls := 15, slots := #[.int 53], vm := .none },
  { cls := 15, slots := #[.int 54], vm := .none },
  { cls := 15, slots := #[.int 55], vm := .none },
  { cls := 15, slots := #[.int 56], vm := .none },
  { cls := 15, slots := #[.int 57], vm := .none },
  { cls := 15, slots := #[.int 58], vm := .none },
  { cls := 15, slots := #[.int 59], vm := .none },
  { cls := 15, slots := #[.int 60], vm := .none },
  { cls := 15, slots := #[.int 61], vm := .none },
  { cls := 15, slots := #[.int 62], vm := .none },
  { cls := 15, slots := #[.int 63], vm := .none },
  { cls := 15, slots := #[.int 64], vm := .none },
  { cls := 15, slots := #[.int 65], vm := .none },
  { cls := 15, slots := #[.int 66], vm := .none },
  { cls := 15, slots := #[.int 67], vm := .none },
  { cls := 15, slots := #[.int 68], vm := .none },
  { cls := 15, slots := #[.int 69], vm := .none },
  { cls := 15, slots := #[.int 70], vm := .none },
  { cls := 15, slots := #[.int 71], vm := .none },
  { cls := 15, slots := #[.int 72], vm := .none },
  { cls := 15, slots := #[.int 73], vm := .none },
  { cls := 15, slots := #[.int 74], vm := .none },
  { cls := 15, slots := #[.int 75], vm := .none },
  { cls := 15, slots := #[.int 76], vm := .none },
  { cls := 15, slots := #[.int 77], vm := .none },
  { cls := 15, slots := #[.int 78], vm := .none },
  { cls := 15, slots := #[.int 79], vm := .none },
  { cls := 15, slots := #[.int 80], vm := .none },
  { cls := 15, slots := #[.int 81], vm := .none },
  { cls := 15, slots := #[.int 82], vm := .none },
  { cls := 15, slots := #[.int 83], vm := .none },
  { cls := 15, slots := #[.int 84], vm := .none },
  { cls := 15, slots := #[.int 85], vm := .none },
  { cls := 15, slots := #[.int 86], vm := .none },
  { cls := 15, slots := #[.int 87], vm := .none },
  { cls := 15, slots := #[.int 88], vm := .none },
  { cls := 15, slots := #[.int 89], vm := .none },
  { cls := 15, slots := #[.int 90], vm := .none },
  { cls := 15, slots := #[.int 91], vm := .none },
  { cls := 15, slots := #[.int 92], vm := .none },
  { cls := 15, slots := #[.int 93], vm := .none },
  { cls := 15, slots := #[.int 94], vm := .none },
  { cls := 15, slots := #[.int 95], vm := .none },
  { cls := 15, slots := #[.int 96], vm := .none },
  { cls := 15, slots := #[.int 97], vm := .none },
  { cls := 15, slots := #[.int 98], vm := .none },
  { cls := 15, slots := #[.int 99], vm := .none },
  { cls := 15, slots := #[.int 100], vm := .none },
  { cls := 15, slots := #[.int 101], vm := .none },
  { cls := 15, slots := #[.int 102], vm := .none },
  { cls := 15, slots := #[.int 103], vm := .none },
  { cls := 15, slots := #[.int 104], vm := .none },
  { cls := 15, slots := #[.int 105], vm := .none },
  { cls := 15, slots := #[.int 106], vm := .none },
  { cls := 15, slots := #[.int 107], vm := .none },
  { cls := 15, slots := #[.int 108], vm := .none },
  { cls := 15, slots := #[.int 109], vm := .none },
  { cls := 15, slots := #[.int 110], vm := .none },
  { cls := 15, slots := #[.int 111], vm := .none },
  { cls := 15, slots := #[.int 112], vm := .none },
  { cls := 15, slots := #[.int 113], vm := .none },
  { cls := 15, slots := #[.int 114], vm := .none },
  { cls := 15, slots := #[.int 115], vm := .none },
  { cls := 15, slots := #[.int 116], vm := .none },
  { cls := 15, slots := #[.int 117], vm := .none },
  { cls := 15, slots := #[.int 118], vm := .none },
  { cls := 15, slots := #[.int 119], vm := .none },
  { cls := 15, slots := #[.int 120], vm := .none },
  { cls := 15, slots := #[.int 121], vm := .none },
  { cls := 15, slots := #[.int 122], vm := .none },
  { cls := 15, slots := #[.int 123], vm := .none },
  { cls := 15, slots := #[.int 124], vm := .none },
  { cls := 15, slots := #[.int 125], vm := .none },
  { cls := 15, slots := #[.int 126], vm := .none },
  { cls := 15, slots := #[.int 127], vm := .none }]
def classes : Array Class := #[k0, k1, k2, k3, k4, k5, k6, k7, k8, k9, k10, k11, k12, k13, k14, k15, k16, k17, k18, k19, k20, k21, k22]
def interned : List (Array UInt16 × Addr) := []
def slotsUsed : Nat := 623
def theMethod : MethodId := ⟨1, 3⟩
def args0 : Array Value := #[.int 5, .int 1, .int 5, .int 1, .int 1]
def aboutOver (below : List Frame) : State where
  vm := { classes := classes, interned := interned.toArray }
  heap := heap
  slotsUsed := slotsUsed
  threads := #[{ frames := .invoking theMethod args0 :: below }]
def below0 : List Frame := [.native { method := ⟨0, 0⟩, args := #[] }]
def about1 : State := aboutOver below0
def p0 : Program := .bare "" "" ""
def e0 : Env := launch0.env 0 0 0
theorem w_frames : about1.frames = Frame.invoking theMethod args0 :: below0 := rfl
set_option maxRecDepth 65536 in
theorem w_args : argsFit about1.vm theMethod args0 = true := by decide +kernel
set_option maxRecDepth 65536 in
theorem w_heap : heapFits about1 = true := by decide +kernel
set_option maxRecDepth 65536 in
theorem w_runnable : about1.curStatus? = some .runnable := by decide +kernel
set_option maxRecDepth 65536 in
theorem w_alone : about1.alone = true := by decide +kernel
set_option maxRecDepth 65536 in
theorem w_named : about1.methodNamed? x = some theMethod := by decide +kernel
set_option maxRecDepth 65536 in
theorem w_hears : about1.hears theMethod below0 = true := by decide +kernel
set_option maxRecDepth 65536 in
theorem w_ripe : about1.ripe theMethod args0 below0 = true := by decide +kernel
theorem w_running : about1.status = .running := rfl
set_option maxRecDepth 65536 in
theorem w_room : about1.hasRoom e0.platform room_1 = true :=
  launch0.hasRoom_least _ room_1 (by decide +kernel) (by decide +kernel) (by decide +kernel) (by decide +kernel) (by decide +kernel) (by decide +kernel)
theorem allAtoms_all (ts : List Jvm.Cond) (a : Array Jvm.Value) (st : Jvm.State) : (allAtoms ts).before a st = ts.all (fun c => c.before a st) := by
  induction ts with
  | nil => rfl
  | cons c t ih =>
    show (Jvm.Cond.and c (allAtoms t)).before a st = _
    rw [Jvm.Cond.before_and, ih, List.all_cons]
def words1 : List Jvm.Cond := Jvm.Cond.code x code maxLocals ret :: tables_1
/-- a 'code' word, met by the world's own term for the bytes: nothing is compared byte by byte -/
theorem code_word {y : MethodName} {bytes : ByteArray} {mx : Nat} {rt : Option FieldType} {a : Array Value} {s : State} {m : MethodId} {meth : Method} {c : Code} (h1 : s.methodNamed? y = some m) (h2 : s.vm.method? m = some meth) (h3 : meth.code = some c) (h4 : c.code = bytes)
    (h5 : (c.maxLocals == mx && c.exceptionTable.isEmpty && decide (c.maxStack ≤ mostOperands) && decide (meth.sig.returnType = rt) && !meth.locks && decide (parseMethodDescriptor y.desc = some meth.sig)) = true) : (Jvm.Cond.code y bytes mx rt).before a s = true := by
  simp only [Bool.and_eq_true, beq_iff_eq, Bool.not_eq_true', decide_eq_true_eq] at h5
  obtain ⟨⟨⟨⟨⟨g1, g2⟩, g3⟩, g4⟩, g5⟩, g6⟩ := h5
  simp [Cond.before, Cond.holds, Cond.value, h1, h2, h3, h4, g1, g2, g3, g4, g5, g6]
def isCode : Jvm.Cond → Bool
  | .code _ _ _ _ => true
  | _ => false
theorem all_split {L : List Jvm.Cond} {P : Jvm.Cond → Bool} (h1 : L.all (fun c => isCode c || P c) = true) (h2 : ∀ c ∈ L.filter isCode, P c = true) : L.all P = true := by
  refine List.all_eq_true.mpr fun c hc => ?_
  have h := List.all_eq_true.mp h1 c hc
  rcases Bool.eq_false_or_eq_true (isCode c) with hi | hi
  · exact h2 c (List.mem_filter.mpr ⟨hc, hi⟩)
  · simpa [hi] using h
set_option maxRecDepth 65536 in
theorem w_c0 : (Jvm.Cond.code x code maxLocals ret).before args0 about1 = true := code_word (m := ⟨1, 3⟩) (meth := k1m3) (c := k1c3) (by decide +kernel) rfl rfl rfl (by decide +kernel)
set_option maxRecDepth 65536 in
theorem w_c1 : (Jvm.Cond.code ({ cls := "com/example/wildsuit/wildsuit/card/CardEqualsPinLaw", name := "rank", desc := "(I)Lcom/example/wildsuit/wildsuit/card/Rank;" } : Jvm.MethodName) method_2_code (1 : Nat) (Option.some (Jvm.ClassFile.FieldType.object "com/example/wildsuit/wildsuit/card/Rank"))).before args0 about1 = true := code_word (m := ⟨1, 1⟩) (meth := k1m1) (c := k1c1) (by decide +kernel) rfl rfl rfl (by decide +kernel)
set_option maxRecDepth 65536 in
theorem w_c2 : (Jvm.Cond.code ({ cls := "com/example/wildsuit/wildsuit/card/CardEqualsPinLaw", name := "suit", desc := "(I)Lcom/example/wildsuit/wildsuit/card/Suit;" } : Jvm.MethodName) method_3_code (1 : Nat) (Option.some (Jvm.ClassFile.FieldType.object "com/example/wildsuit/wildsuit/card/Suit"))).before args0 about1 = true := code_word (m := ⟨1, 2⟩) (meth := k1m2) (c := k1c2) (by decide +kernel) rfl rfl rfl (by decide +kernel)
set_option maxRecDepth 65536 in
theorem w_c3 : (Jvm.Cond.code ({ cls := "com/example/wildsuit/wildsuit/card/Card", name := "<init>", desc := "(Lcom/example/wildsuit/wildsuit/card/Rank;Lcom/example/wildsuit/wildsuit/card/Suit;)V" } : Jvm.MethodName) prog_1_method_1_code (3 : Nat) (Option.none : Option Jvm.ClassFile.FieldType)).before args0 about1 = true := code_word (m := ⟨3, 0⟩) (meth := k3m0) (c := k3c0) (by decide +kernel) rfl rfl rfl (by decide +kernel)
set_option maxRecDepth 65536 in
theorem w_c4 : (Jvm.Cond.code ({ cls := "java/lang/Record", name := "<init>", desc := "()V" } : Jvm.MethodName) jdk_30_method_1_code (1 : Nat) (Option.none : Option Jvm.ClassFile.FieldType)).before args0 about1 = true := code_word (m := ⟨2, 0⟩) (meth := k2m0) (c := k2c0) (by decide +kernel) rfl rfl rfl (by decide +kernel)
set_option maxRecDepth 65536 in
theorem w_c5 : (Jvm.Cond.code ({ cls := "java/lang/Object", name := "<init>", desc := "()V" } : Jvm.MethodName) object_method_1_code (1 : Nat) (Option.none : Option Jvm.ClassFile.FieldType)).before args0 about1 = true := code_word (m := ⟨0, 0⟩) (meth := k0m0) (c := k0c0) (by decide +kernel) rfl rfl rfl (by decide +kernel)
set_option maxRecDepth 65536 in
theorem w_c6 : (Jvm.Cond.code ({ cls := "java/util/Objects", name := "requireNonNull", desc := "(Ljava/lang/Object;Ljava/lang/String;)Ljava/lang/Object;" } : Jvm.MethodName) jdk_31_method_11_code (2 : Nat) (Option.some (Jvm.ClassFile.FieldType.object "java/lang/Object"))).before args0 about1 = true := code_word (m := ⟨13, 1⟩) (meth := k13m1) (c := k13c1) (by decide +kernel) rfl rfl rfl (by decide +kernel)
set_option maxRecDepth 65536 in
theorem w_c7 : (Jvm.Cond.code ({ cls := "com/example/wildsuit/wildsuit/card/Card", name := "equals", desc := "(Ljava/lang/Object;)Z" } : Jvm.MethodName) prog_1_method_11_code (3 : Nat) (Option.some Jvm.ClassFile.FieldType.boolean)).before args0 about1 = true := code_word (m := ⟨3, 1⟩) (meth := k3m1) (c := k3c1) (by decide +kernel) rfl rfl rfl (by decide +kernel)
set_option maxRecDepth 65536 in
theorem w_c8 : (Jvm.Cond.code ({ cls := "java/lang/Integer", name := "valueOf", desc := "(I)Ljava/lang/Integer;" } : Jvm.MethodName) jdk_33_method_22_code (1 : Nat) (Option.some (Jvm.ClassFile.FieldType.object "java/lang/Integer"))).before args0 about1 = true := code_word (m := ⟨15, 0⟩) (meth := k15m0) (c := k15c0) (by decide +kernel) rfl rfl rfl (by decide +kernel)
set_option maxRecDepth 65536 in
theorem w_c9 : (Jvm.Cond.code ({ cls := "java/lang/Integer", name := "<init>", desc := "(I)V" } : Jvm.MethodName) jdk_33_method_23_code (2 : Nat) (Option.none : Option Jvm.ClassFile.FieldType)).before args0 about1 = true := code_word (m := ⟨15, 1⟩) (meth := k15m1) (c := k15c1) (by decide +kernel) rfl rfl rfl (by decide +kernel)
set_option maxRecDepth 65536 in
theorem w_c10 : (Jvm.Cond.code ({ cls := "java/lang/Number", name := "<init>", desc := "()V" } : Jvm.MethodName) jdk_18_method_1_code (1 : Nat) (Option.none : Option Jvm.ClassFile.FieldType)).before args0 about1 = true := code_word (m := ⟨14, 0⟩) (meth := k14m0) (c := k14c0) (by decide +kernel) rfl rfl rfl (by decide +kernel)
def codes1 : List Jvm.Cond := [Jvm.Cond.code x code maxLocals ret, Jvm.Cond.code ({ cls := "com/example/wildsuit/wildsuit/card/CardEqualsPinLaw", name := "rank", desc := "(I)Lcom/example/wildsuit/wildsuit/card/Rank;" } : Jvm.MethodName) method_2_code (1 : Nat) (Option.some (Jvm.ClassFile.FieldType.object "com/example/wildsuit/wildsuit/card/Rank")), Jvm.Cond.code ({ cls := "com/example/wildsuit/wildsuit/card/CardEqualsPinLaw", name := "suit", desc := "(I)Lcom/example/wildsuit/wildsuit/card/Suit;" } : Jvm.MethodName) method_3_code (1 : Nat) (Option.some (Jvm.ClassFile.FieldType.object "com/example/wildsuit/wildsuit/card/Suit")), Jvm.Cond.code ({ cls := "com/example/wildsuit/wildsuit/card/Card", name := "<init>", desc := "(Lcom/example/wildsuit/wildsuit/card/Rank;Lcom/example/wildsuit/wildsuit/card/Suit;)V" } : Jvm.MethodName) prog_1_method_1_code (3 : Nat) (Option.none : Option Jvm.ClassFile.FieldType), Jvm.Cond.code ({ cls := "java/lang/Record", name := "<init>", desc := "()V" } : Jvm.MethodName) jdk_30_method_1_code (1 : Nat) (Option.none : Option Jvm.ClassFile.FieldType), Jvm.Cond.code ({ cls := "java/lang/Object", name := "<init>", desc := "()V" } : Jvm.MethodName) object_method_1_code (1 : Nat) (Option.none : Option Jvm.ClassFile.FieldType), Jvm.Cond.code ({ cls := "java/util/Objects", name := "requireNonNull", desc := "(Ljava/lang/Object;Ljava/lang/String;)Ljava/lang/Object;" } : Jvm.MethodName) jdk_31_method_11_code (2 : Nat) (Option.some (Jvm.ClassFile.FieldType.object "java/lang/Object")), Jvm.Cond.code ({ cls := "com/example/wildsuit/wildsuit/card/Card", name := "equals", desc := "(Ljava/lang/Object;)Z" } : Jvm.MethodName) prog_1_method_11_code (3 : Nat) (Option.some Jvm.ClassFile.FieldType.boolean), Jvm.Cond.code ({ cls := "java/lang/Integer", name := "valueOf", desc := "(I)Ljava/lang/Integer;" } : Jvm.MethodName) jdk_33_method_22_code (1 : Nat) (Option.some (Jvm.ClassFile.FieldType.object "java/lang/Integer")), Jvm.Cond.code ({ cls := "java/lang/Integer", name := "<init>", desc := "(I)V" } : Jvm.MethodName) jdk_33_method_23_code (2 : Nat) (Option.none : Option Jvm.ClassFile.FieldType), Jvm.Cond.code ({ cls := "java/lang/Number", name := "<init>", desc := "()V" } : Jvm.MethodName) jdk_18_method_1_code (1 : Nat) (Option.none : Option Jvm.ClassFile.FieldType)]
set_option maxRecDepth 65536 in
theorem codes_eq : words1.filter isCode = codes1 := rfl
theorem w_codes : ∀ c ∈ words1.filter isCode, c.before args0 about1 = true := by
  rw [codes_eq]
  intro c hc
  simp only [codes1, List.mem_cons, List.not_mem_nil, or_false] at hc
  rcases hc with rfl | rfl | rfl | rfl | rfl | rfl | rfl | rfl | rfl | rfl | rfl
  · exact w_c0
  · exact w_c1
  · exact w_c2
  · exact w_c3
  · exact w_c4
  · exact w_c5
  · exact w_c6
  · exact w_c7
  · exact w_c8
  · exact w_c9
  · exact w_c10
set_option maxRecDepth 65536 in
theorem w_t1 : (words1.take 24).all (fun c => isCode c || c.before args0 about1) = true := by decide +kernel
set_option maxRecDepth 65536 in
theorem w_t2 : ((words1.drop 24).take 24).all (fun c => isCode c || c.before args0 about1) = true := by decide +kernel
set_option maxRecDepth 65536 in
theorem w_t3 : (((words1.drop 24).drop 24).take 24).all (fun c => isCode c || c.before args0 about1) = true := by decide +kernel
set_option maxRecDepth 65536 in
theorem w_t4 : ((((words1.drop 24).drop 24).drop 24).take 24).all (fun c => isCode c || c.before args0 about1) = true := by decide +kernel
set_option maxRecDepth 65536 in
theorem w_t5 : ((((words1.drop 24).drop 24).drop 24).drop 24).all (fun c => isCode c || c.before args0 about1) = true := by decide +kernel
theorem w_tables : (allAtoms (Jvm.Cond.code x code maxLocals ret :: tables_1)).before args0 about1 = true := by
  rw [allAtoms_all]
  show words1.all (fun c => c.before args0 about1) = true
  refine all_split ?_ w_codes
  rw [← List.take_append_drop 24 words1, List.all_append, w_t1, ← List.take_append_drop 24 (words1.drop 24), List.all_append, w_t2, ← List.take_append_drop 24 ((words1.drop 24).drop 24), List.all_append, w_t3, ← List.take_append_drop 24 (((words1.drop 24).drop 24).drop 24), List.all_append, w_t4, w_t5]
  rfl
set_option maxRecDepth 65536 in
theorem w_rest : rest_1_c.before args0 about1 = true := by decide +kernel
set_option maxRecDepth 65536 in
theorem w_case : (Jvm.Cond.and given_1 narrow_1).before args0 about1 = true := by decide +kernel
theorem w_applies : (headSpec (Jvm.Cond.code x code maxLocals ret :: tables_1) room_1).applies x e0.platform about1 = true :=
  (Spec.applies_iff w_frames).mpr ⟨w_running, w_runnable, w_alone, w_named, w_hears, w_ripe, w_room, w_tables⟩
theorem atStart : AtStart classFile x code maxLocals ret World_1 tables_1 room_1 Calls_1 rest_1 Pre_1 launch0 p0 e0 about1 theMethod args0 below0 :=
  ⟨lists_1, trivial, launch0.admits_env _ _ _, launch0.least_env, fairChoices_fair.cas, fairChoices_fair.clock, w_frames, w_args, w_heap, w_applies, trivial, w_rest, w_case⟩
end start1
theorem witness_1 : WitnessClaimed_1 := ⟨start1.p0, start1.e0, start1.about1, start1.theMethod, start1.args0, start1.below0, start1.atStart⟩
end Jvm.Pilot.@@N@@
