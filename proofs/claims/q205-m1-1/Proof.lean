import JvmDerived
import JvmDerived.Pilot.@@N@@Statement
import JvmDerived.Pilot.@@N@@Code
set_option linter.unusedVariables false
set_option linter.unusedSimpArgs false
@@BLOCK:NumsL.lean.txt@@
namespace Jvm.Pilot.@@N@@
open Jvm Jvm.ClassFile Sem Op Lib Jvm.Free Jvm.Stand Jvm.LawKit Jvm.RoadKit Bundle Jvm.Pilot.@@N@@.Jvm.D
/-- from the state T with the frame g the run comes to an end that P speaks of -/
def own_Goes (tb : Tables) (e : Env) (below : List Frame) (P : Outcome → State → Prop) (T : State) (g : JFrame) : Prop :=
  ∃ s₂ o, Steps tb e below (T.setTop g) s₂ ∧ s₂.status = .running ∧ Ended s₂ below o ∧ P o s₂
theorem own_Goes.via {tb : Tables} {e : Env} {below : List Frame} {P : Outcome → State → Prop} {T T' : State} {g g' : JFrame} (h : ∀ t, Steps tb e below (T'.setTop g') t → Steps tb e below (T.setTop g) t) (k : own_Goes tb e below P T' g') : own_Goes tb e below P T g := by
  obtain ⟨s₂, o, a, b⟩ := k
  exact ⟨s₂, o, h _ a, b⟩
theorem own_Goes.fin {tb : Tables} {e : Env} {below : List Frame} {P : Outcome → State → Prop} {T s₂ : State} {g : JFrame} {o : Outcome} (h1 : Steps tb e below (T.setTop g) s₂) (h2 : s₂.status = .running) (h3 : Ended s₂ below o) (h4 : P o s₂) : own_Goes tb e below P T g := ⟨s₂, o, h1, h2, h3, h4⟩
theorem own_ltT {x y : Int64} (h : x < y) : ifCond.holds .lt (lcmpW x y) = true ∧ ifCond.holds .ge (lcmpW x y) = false := by
  have q : lcmpW x y < 0 := by rw [lcW]; exact (lc_lt x y).mpr h
  exact ⟨(if0 _ _).trans (tlt q).1, (if0 _ _).trans (tlt q).2.1⟩
theorem own_ltF {x y : Int64} (h : ¬ x < y) : ifCond.holds .lt (lcmpW x y) = false ∧ ifCond.holds .ge (lcmpW x y) = true := by
  have q : ¬ lcmpW x y < 0 := by rw [lcW]; exact fun z => h ((lc_lt x y).mp z)
  exact ⟨(if0 _ _).trans (flt q).1, (if0 _ _).trans (flt q).2.1⟩
theorem own_gtT {x y : Int64} (h : y < x) : ifCond.holds .gt (lcmpW x y) = true ∧ ifCond.holds .le (lcmpW x y) = false := by
  have q : 0 < lcmpW x y := by rw [lcW]; exact (lc_gt x y).mpr h
  exact ⟨(if0 _ _).trans (tlt q).2.2.1, (if0 _ _).trans (tlt q).2.2.2⟩
theorem own_gtF {x y : Int64} (h : ¬ y < x) : ifCond.holds .gt (lcmpW x y) = false ∧ ifCond.holds .le (lcmpW x y) = true := by
  have q : ¬ 0 < lcmpW x y := by rw [lcW]; exact fun z => h ((lc_gt x y).mp z)
  exact ⟨(if0 _ _).trans (flt q).2.2.1, (if0 _ _).trans (flt q).2.2.2⟩
theorem own_eqT {x y : Int64} (h : x = y) : ifCond.holds .eq (lcmpW x y) = true ∧ ifCond.holds .ne (lcmpW x y) = false := by
  have q : lcmpW x y = 0 := by rw [lcW]; exact (lc_eq x y).mpr h
  exact ⟨(if0 _ _).trans (teq q).1, (if0 _ _).trans (teq q).2⟩
theorem own_eqF {x y : Int64} (h : ¬ x = y) : ifCond.holds .eq (lcmpW x y) = false ∧ ifCond.holds .ne (lcmpW x y) = true := by
  have q : ¬ lcmpW x y = 0 := by rw [lcW]; exact fun z => h ((lc_eq x y).mp z)
  exact ⟨(if0 _ _).trans (feq q).1, (if0 _ _).trans (feq q).2⟩
theorem own_lrem (x y : Int64) : x - (x / y) * y = x % y := Int64.toInt_inj.mp (by rw [Jvm.Kit.i64_rem, Int64.toInt_mod])
/-- the Luby sequence, by fuel -/
def own_lub : Nat → Nat → Nat
  | 0, _ => 0
  | f + 1, n => if n + 1 = 2 ^ (n.log2 + 1) then 2 ^ n.log2 else own_lub f (n - (2 ^ n.log2 - 1))
def own_luby (n : Nat) : Nat := own_lub (n + 1) n
def own_term (x : Int64) : Int64 := Int64.ofNat (own_luby x.toInt.toNat)
def own_mu (x : Int64) (k : Int32) : Nat := x.toInt.toNat * 64 + (64 - k.toInt.toNat)
def own_inv (xl x : Int64) (k : Int32) : Prop := 0 < x.toInt ∧ 1 ≤ k.toInt ∧ k.toInt ≤ 63 ∧ 2 ^ (k.toInt.toNat - 1) ≤ x.toInt.toNat ∧ own_luby x.toInt.toNat = own_luby xl.toInt.toNat
theorem own_log {n j : Nat} (h1 : 2 ^ j ≤ n) (h2 : n < 2 ^ (j + 1)) : n.log2 = j := by
  have p : 0 < 2 ^ j := Nat.two_pow_pos j
  exact (Nat.log2_eq_iff (by omega)).mpr ⟨h1, h2⟩
theorem own_less {n : Nat} (h : 1 ≤ n) (hn : ¬ n + 1 = 2 ^ (n.log2 + 1)) : 1 ≤ n - (2 ^ n.log2 - 1) ∧ n - (2 ^ n.log2 - 1) < n := by
  have a := Nat.log2_self_le (show n ≠ 0 by omega)
  have p : 0 < 2 ^ n.log2 := Nat.two_pow_pos _
  have q : n.log2 ≠ 0 := fun e => by
    have b : n < 2 ^ (n.log2 + 1) := Nat.lt_log2_self
    rw [e] at b hn
    omega
  have r : 2 ^ 1 ≤ 2 ^ n.log2 := Nat.pow_le_pow_right (by decide) (by omega)
  omega
theorem own_fuel : ∀ (f g n : Nat), 1 ≤ n → n < f → n < g → own_lub f n = own_lub g n
  | 0, _, _, _, h, _ => absurd h (Nat.not_lt_zero _)
  | _ + 1, 0, _, _, _, h => absurd h (Nat.not_lt_zero _)
  | f + 1, g + 1, n, h, h1, h2 => by
    unfold own_lub
    by_cases q : n + 1 = 2 ^ (n.log2 + 1)
    · rw [if_pos q, if_pos q]
    · have l := own_less h q
      rw [if_neg q, if_neg q]
      exact own_fuel f g _ l.1 (by omega) (by omega)
theorem own_luby_eq {n j : Nat} (h1 : 2 ^ j ≤ n) (h2 : n < 2 ^ (j + 1)) : own_luby n = if n + 1 = 2 ^ (j + 1) then 2 ^ j else own_luby (n - (2 ^ j - 1)) := by
  have e := own_log h1 h2
  have p : 0 < 2 ^ j := Nat.two_pow_pos j
  have u : own_luby n = if n + 1 = 2 ^ (n.log2 + 1) then 2 ^ n.log2 else own_lub n (n - (2 ^ n.log2 - 1)) := rfl
  rw [u, e]
  by_cases q : n + 1 = 2 ^ (j + 1)
  · rw [if_pos q, if_pos q]
  · rw [if_neg q, if_neg q]
    have l := own_less (show 1 ≤ n by omega) (by rw [e]; exact q)
    rw [e] at l
    exact own_fuel _ _ _ l.1 l.2 (Nat.lt_succ_self _)
theorem own_pw1 : ∀ n : Fin 64, (((1 : Int64) <<< (Int32.ofNat n.1 &&& 0x3f).toInt64) - (1 : Int64)).toInt = 2 ^ n.1 - 1 := by decide
theorem own_pw0 : ∀ n : Fin 63, ((1 : Int64) <<< (Int32.ofNat n.1 &&& 0x3f).toInt64).toInt = 2 ^ n.1 := by decide
theorem own_of {k : Int32} (h : 0 ≤ k.toInt) : k = Int32.ofNat k.toInt.toNat := Int32.toInt_inj.mp (by
  have b := k.toInt_lt
  rw [Int32.toInt_ofNat_of_lt (by omega)]
  omega)
theorem own_p1 {k : Int32} (h0 : 0 ≤ k.toInt) (h1 : k.toInt ≤ 63) : (((1 : Int64) <<< (k &&& 0x3f).toInt64) - (1 : Int64)).toInt = ((2 ^ k.toInt.toNat : Nat) : Int) - 1 := by
  have e := own_pw1 ⟨k.toInt.toNat, by omega⟩
  rw [← own_of h0] at e
  rw [e]
  simp
theorem own_p0 {k : Int32} (h0 : 0 ≤ k.toInt) (h1 : k.toInt ≤ 62) : ((1 : Int64) <<< (k &&& 0x3f).toInt64).toInt = ((2 ^ k.toInt.toNat : Nat) : Int) := by
  have e := own_pw0 ⟨k.toInt.toNat, by omega⟩
  rw [← own_of h0] at e
  rw [e]
  simp
theorem own_k1 {k : Int32} (h0 : 1 ≤ k.toInt) : (k - (1 : Int32)).toInt = k.toInt - 1 := by
  have b := k.toInt_lt
  have o : (1 : Int32).toInt = 1 := rfl
  exact Jvm.Kit.i32_sub (by rw [o]; omega) (by rw [o]; omega)
theorem own_inv0 {xl : Int64} (h : (0 : Int64) < xl) : own_inv xl xl (1 : Int32) := by
  rw [Int64.lt_iff_toInt_lt] at h
  have z : (0 : Int64).toInt = 0 := rfl
  have o : (1 : Int32).toInt = 1 := rfl
  refine ⟨by omega, by decide, by decide, ?_, rfl⟩
  show 2 ^ 0 ≤ _
  omega
theorem own_mu0 {x : Int64} {k : Int32} {xl : Int64} (h : own_inv xl x k) : ¬ own_mu x k ≤ 0 := by
  obtain ⟨h1, h2, h3, -⟩ := h
  unfold own_mu
  omega
theorem own_small (k : Nat) (h : k ≤ 63) : 2 ^ k ≤ 2 ^ 63 := Nat.pow_le_pow_right (by decide) h
theorem d1_0 : decode prog_37_method_5_code 0 = .ok (.lload_n 0, 1) := by decide +kernel
theorem d1_1 : decode prog_37_method_5_code 1 = .ok (.lstore_n 2, 1) := by decide +kernel
theorem d1_2 : decode prog_37_method_5_code 2 = .ok (.iconst 1, 1) := by decide +kernel
theorem d1_3 : decode prog_37_method_5_code 3 = .ok (.istore 4, 2) := by decide +kernel
theorem d1_5 : decode prog_37_method_5_code 5 = .ok (.lconst 1, 1) := by decide +kernel
theorem d1_6 : decode prog_37_method_5_code 6 = .ok (.iload 4, 2) := by decide +kernel
theorem d1_8 : decode prog_37_method_5_code 8 = .ok (.lshl, 1) := by decide +kernel
theorem d1_9 : decode prog_37_method_5_code 9 = .ok (.lconst 1, 1) := by decide +kernel
theorem d1_10 : decode prog_37_method_5_code 10 = .ok (.lsub, 1) := by decide +kernel
theorem d1_11 : decode prog_37_method_5_code 11 = .ok (.lload_n 2, 1) := by decide +kernel
theorem d1_12 : decode prog_37_method_5_code 12 = .ok (.lcmp, 1) := by decide +kernel
theorem d1_13 : decode prog_37_method_5_code 13 = .ok (.ifCond .ge 9, 3) := by decide +kernel
theorem d1_16 : decode prog_37_method_5_code 16 = .ok (.iinc 4 1, 3) := by decide +kernel
theorem d1_19 : decode prog_37_method_5_code 19 = .ok (.goto (-14), 3) := by decide +kernel
theorem d1_22 : decode prog_37_method_5_code 22 = .ok (.lconst 1, 1) := by decide +kernel
theorem d1_23 : decode prog_37_method_5_code 23 = .ok (.iload 4, 2) := by decide +kernel
theorem d1_25 : decode prog_37_method_5_code 25 = .ok (.lshl, 1) := by decide +kernel
theorem d1_26 : decode prog_37_method_5_code 26 = .ok (.lconst 1, 1) := by decide +kernel
theorem d1_27 : decode prog_37_method_5_code 27 = .ok (.lsub, 1) := by decide +kernel
theorem d1_28 : decode prog_37_method_5_code 28 = .ok (.lload_n 2, 1) := by decide +kernel
theorem d1_29 : decode prog_37_method_5_code 29 = .ok (.lcmp, 1) := by decide +kernel
theorem d1_30 : decode prog_37_method_5_code 30 = .ok (.ifCond .ne 10, 3) := by decide +kernel
theorem d1_33 : decode prog_37_method_5_code 33 = .ok (.lconst 1, 1) := by decide +kernel
theorem d1_34 : decode prog_37_method_5_code 34 = .ok (.iload 4, 2) := by decide +kernel
theorem d1_36 : decode prog_37_method_5_code 36 = .ok (.iconst 1, 1) := by decide +kernel
theorem d1_37 : decode prog_37_method_5_code 37 = .ok (.isub, 1) := by decide +kernel
theorem d1_38 : decode prog_37_method_5_code 38 = .ok (.lshl, 1) := by decide +kernel
theorem d1_39 : decode prog_37_method_5_code 39 = .ok (.lreturn, 1) := by decide +kernel
theorem d1_40 : decode prog_37_method_5_code 40 = .ok (.lload_n 2, 1) := by decide +kernel
theorem d1_41 : decode prog_37_method_5_code 41 = .ok (.lconst 1, 1) := by decide +kernel
theorem d1_42 : decode prog_37_method_5_code 42 = .ok (.iload 4, 2) := by decide +kernel
theorem d1_44 : decode prog_37_method_5_code 44 = .ok (.iconst 1, 1) := by decide +kernel
theorem d1_45 : decode prog_37_method_5_code 45 = .ok (.isub, 1) := by decide +kernel
theorem d1_46 : decode prog_37_method_5_code 46 = .ok (.lshl, 1) := by decide +kernel
theorem d1_47 : decode prog_37_method_5_code 47 = .ok (.lconst 1, 1) := by decide +kernel
theorem d1_48 : decode prog_37_method_5_code 48 = .ok (.lsub, 1) := by decide +kernel
theorem d1_49 : decode prog_37_method_5_code 49 = .ok (.lsub, 1) := by decide +kernel
theorem d1_50 : decode prog_37_method_5_code 50 = .ok (.lstore_n 2, 1) := by decide +kernel
theorem d1_51 : decode prog_37_method_5_code 51 = .ok (.goto (-49), 3) := by decide +kernel
theorem pn_1 : plainName "com/example/gridwright/gridwright/games/lyne/Solver" = true := by first | (simp [plainName, overriddenIn]; done) | decide +kernel
theorem ef_1 (m : MethodId) (xl : Int64) : entryFrame m #[(.long xl)] 5 = mkF m 0 #[.val (.long xl), .second, .unset, .unset, .unset] [] := by first | (simp [entryFrame, mkF, argsToLocals, Value.category]; done) | rfl
def Q1 (Z : State) (xl : Int64) (h0 : Heap) (n0 : Nat) (v : Option Value) (h : Heap) (L : List Loc) : Prop := v = some (.long (own_term xl)) ∧ Fr n0 L ∧ h = h0
set_option maxRecDepth 65536 in
theorem own_pl1_0 {xl : Int64} {xx : Int64} {kk : Int32} {f : Nat} {v2 : Int32} (hv2 : v2 = (kk + (1 : Int32))) (hc13_1 : (((1 : Int64) <<< (kk &&& 0x3f).toInt64) - (1 : Int64)) < xx) (hf : own_mu xx kk ≤ f + 1) (hI : own_inv xl xx kk) : own_mu xx v2 ≤ f := by
  obtain ⟨i1, i2, i3, i4, i5⟩ := hI
  have p1 := own_p1 (k := kk) (by omega) i3
  have bx := xx.toInt_lt
  have o : (1 : Int32).toInt = 1 := rfl
  have bk := kk.toInt_lt
  have ps : 2 ^ (kk.toInt.toNat - 1 + 1) = 2 * 2 ^ (kk.toInt.toNat - 1) := by rw [Nat.pow_succ]; omega
  have pe : kk.toInt.toNat - 1 + 1 = kk.toInt.toNat := by omega
  rw [pe] at ps
  have pp : 0 < 2 ^ (kk.toInt.toNat - 1) := Nat.two_pow_pos _
  
  have k2 : kk.toInt ≤ 62 := by
    rcases Int.lt_or_le kk.toInt 63 with q | q
    · omega
    · exfalso
      have e : kk.toInt.toNat = 63 := by omega
      rw [Int64.lt_iff_toInt_lt, p1, e] at hc13_1
      omega
  have e2 : (kk + (1 : Int32)).toInt = kk.toInt + 1 := Jvm.Kit.i32_add (by rw [o]; omega) (by rw [o]; omega)
  rw [← hv2] at e2
  unfold own_mu at *
  omega
set_option maxRecDepth 65536 in
theorem own_pl1_1 {xl : Int64} {xx : Int64} {kk : Int32} {f : Nat} {v2 : Int32} (hv2 : v2 = (kk + (1 : Int32))) (hc13_1 : (((1 : Int64) <<< (kk &&& 0x3f).toInt64) - (1 : Int64)) < xx) (hf : own_mu xx kk ≤ f + 1) (hI : own_inv xl xx kk) : own_inv xl xx v2 := by
  obtain ⟨i1, i2, i3, i4, i5⟩ := hI
  have p1 := own_p1 (k := kk) (by omega) i3
  have bx := xx.toInt_lt
  have o : (1 : Int32).toInt = 1 := rfl
  have bk := kk.toInt_lt
  have ps : 2 ^ (kk.toInt.toNat - 1 + 1) = 2 * 2 ^ (kk.toInt.toNat - 1) := by rw [Nat.pow_succ]; omega
  have pe : kk.toInt.toNat - 1 + 1 = kk.toInt.toNat := by omega
  rw [pe] at ps
  have pp : 0 < 2 ^ (kk.toInt.toNat - 1) := Nat.two_pow_pos _
  
  have k2 : kk.toInt ≤ 62 := by
    rcases Int.lt_or_le kk.toInt 63 with q | q
    · omega
    · exfalso
      have e : kk.toInt.toNat = 63 := by omega
      rw [Int64.lt_iff_toInt_lt, p1, e] at hc13_1
      omega
  have e2 : (kk + (1 : Int32)).toInt = kk.toInt + 1 := Jvm.Kit.i32_add (by rw [o]; omega) (by rw [o]; omega)
  rw [← hv2] at e2
  refine ⟨i1, by omega, by omega, ?_, i5⟩
  have e3 : v2.toInt.toNat - 1 = kk.toInt.toNat := by omega
  rw [e3]
  rw [Int64.lt_iff_toInt_lt, p1] at hc13_1
  omega
set_option maxRecDepth 65536 in
theorem own_pl1_2 {xl : Int64} {xx : Int64} {kk : Int32} {f : Nat} (hc13_1 : ¬ ((((1 : Int64) <<< (kk &&& 0x3f).toInt64) - (1 : Int64)) < xx)) (hc30_3 : (((1 : Int64) <<< (kk &&& 0x3f).toInt64) - (1 : Int64)) = xx) (hf : own_mu xx kk ≤ f + 1) (hI : own_inv xl xx kk) : (some (.long ((1 : Int64) <<< ((kk - (1 : Int32)) &&& 0x3f).toInt64)) : Option Value) = some (.long (own_term xl)) := by
  obtain ⟨i1, i2, i3, i4, i5⟩ := hI
  have p1 := own_p1 (k := kk) (by omega) i3
  have bx := xx.toInt_lt
  have o : (1 : Int32).toInt = 1 := rfl
  have bk := kk.toInt_lt
  have ps : 2 ^ (kk.toInt.toNat - 1 + 1) = 2 * 2 ^ (kk.toInt.toNat - 1) := by rw [Nat.pow_succ]; omega
  have pe : kk.toInt.toNat - 1 + 1 = kk.toInt.toNat := by omega
  rw [pe] at ps
  have pp : 0 < 2 ^ (kk.toInt.toNat - 1) := Nat.two_pow_pos _
  
  rw [Int64.lt_iff_toInt_lt, p1] at hc13_1
  have kk1 := own_k1 i2
  have p0 := own_p0 (k := kk - (1 : Int32)) (by omega) (by omega)
  have e0 : (kk - (1 : Int32)).toInt.toNat = kk.toInt.toNat - 1 := by omega
  rw [e0] at p0
  
  rw [← Int64.toInt_inj, p1] at hc30_3
  have u := own_luby_eq (n := xx.toInt.toNat) (j := kk.toInt.toNat - 1) i4 (by rw [pe]; omega)
  rw [pe, if_pos (by omega)] at u
  unfold own_term
  rw [← i5, u]
  congr 2
  apply Int64.toInt_inj.mp
  rw [p0, Int64.toInt_ofNat_of_lt (by omega)]
set_option maxRecDepth 65536 in
theorem own_pl1_3 {xl : Int64} {xx : Int64} {kk : Int32} {f : Nat} {v4 : Int64} (hv4 : v4 = (xx - (((1 : Int64) <<< ((kk - (1 : Int32)) &&& 0x3f).toInt64) - (1 : Int64)))) (hc13_1 : ¬ ((((1 : Int64) <<< (kk &&& 0x3f).toInt64) - (1 : Int64)) < xx)) (hc30_3 : ¬ ((((1 : Int64) <<< (kk &&& 0x3f).toInt64) - (1 : Int64)) = xx)) (hf : own_mu xx kk ≤ f + 1) (hI : own_inv xl xx kk) : own_mu v4 (1 : Int32) ≤ f := by
  obtain ⟨i1, i2, i3, i4, i5⟩ := hI
  have p1 := own_p1 (k := kk) (by omega) i3
  have bx := xx.toInt_lt
  have o : (1 : Int32).toInt = 1 := rfl
  have bk := kk.toInt_lt
  have ps : 2 ^ (kk.toInt.toNat - 1 + 1) = 2 * 2 ^ (kk.toInt.toNat - 1) := by rw [Nat.pow_succ]; omega
  have pe : kk.toInt.toNat - 1 + 1 = kk.toInt.toNat := by omega
  rw [pe] at ps
  have pp : 0 < 2 ^ (kk.toInt.toNat - 1) := Nat.two_pow_pos _
  
  rw [Int64.lt_iff_toInt_lt, p1] at hc13_1
  have kk1 := own_k1 i2
  have p0 := own_p0 (k := kk - (1 : Int32)) (by omega) (by omega)
  have e0 : (kk - (1 : Int32)).toInt.toNat = kk.toInt.toNat - 1 := by omega
  rw [e0] at p0
  
  have hne : xx.toInt.toNat + 1 ≠ 2 ^ kk.toInt.toNat := fun q => hc30_3 (Int64.toInt_inj.mp (by rw [p1]; omega))
  have o64 : (1 : Int64).toInt = 1 := rfl
  have s1 : (((1 : Int64) <<< ((kk - (1 : Int32)) &&& 0x3f).toInt64) - (1 : Int64)).toInt = ((2 ^ (kk.toInt.toNat - 1) : Nat) : Int) - 1 := by
    rw [Jvm.Kit.i64_sub (by rw [p0, o64]; omega) (by rw [p0, o64]; omega), p0, o64]
  have s2 : v4.toInt = xx.toInt - (((2 ^ (kk.toInt.toNat - 1) : Nat) : Int) - 1) := by
    rw [hv4, Jvm.Kit.i64_sub (by rw [s1]; omega) (by rw [s1]; omega), s1]
  have k2 : 2 ≤ kk.toInt := by
    rcases Int.lt_or_le kk.toInt 2 with q | q
    · exfalso
      have e : kk.toInt.toNat = 1 := by omega
      have e1 : 2 ^ 1 = 2 := rfl
      rw [e, e1] at hne hc13_1
      omega
    · exact q
  have p2 : 2 ^ 1 ≤ 2 ^ (kk.toInt.toNat - 1) := Nat.pow_le_pow_right (by decide) (by omega)
  have o1 : (1 : Int32).toInt = 1 := rfl
  unfold own_mu at *
  omega
set_option maxRecDepth 65536 in
theorem own_pl1_4 {xl : Int64} {xx : Int64} {kk : Int32} {f : Nat} {v4 : Int64} (hv4 : v4 = (xx - (((1 : Int64) <<< ((kk - (1 : Int32)) &&& 0x3f).toInt64) - (1 : Int64)))) (hc13_1 : ¬ ((((1 : Int64) <<< (kk &&& 0x3f).toInt64) - (1 : Int64)) < xx)) (hc30_3 : ¬ ((((1 : Int64) <<< (kk &&& 0x3f).toInt64) - (1 : Int64)) = xx)) (hf : own_mu xx kk ≤ f + 1) (hI : own_inv xl xx kk) : own_inv xl v4 (1 : Int32) := by
  obtain ⟨i1, i2, i3, i4, i5⟩ := hI
  have p1 := own_p1 (k := kk) (by omega) i3
  have bx := xx.toInt_lt
  have o : (1 : Int32).toInt = 1 := rfl
  have bk := kk.toInt_lt
  have ps : 2 ^ (kk.toInt.toNat - 1 + 1) = 2 * 2 ^ (kk.toInt.toNat - 1) := by rw [Nat.pow_succ]; omega
  have pe : kk.toInt.toNat - 1 + 1 = kk.toInt.toNat := by omega
  rw [pe] at ps
  have pp : 0 < 2 ^ (kk.toInt.toNat - 1) := Nat.two_pow_pos _
  
  rw [Int64.lt_iff_toInt_lt, p1] at hc13_1
  have kk1 := own_k1 i2
  have p0 := own_p0 (k := kk - (1 : Int32)) (by omega) (by omega)
  have e0 : (kk - (1 : Int32)).toInt.toNat = kk.toInt.toNat - 1 := by omega
  rw [e0] at p0
  
  have hne : xx.toInt.toNat + 1 ≠ 2 ^ kk.toInt.toNat := fun q => hc30_3 (Int64.toInt_inj.mp (by rw [p1]; omega))
  have o64 : (1 : Int64).toInt = 1 := rfl
  have s1 : (((1 : Int64) <<< ((kk - (1 : Int32)) &&& 0x3f).toInt64) - (1 : Int64)).toInt = ((2 ^ (kk.toInt.toNat - 1) : Nat) : Int) - 1 := by
    rw [Jvm.Kit.i64_sub (by rw [p0, o64]; omega) (by rw [p0, o64]; omega), p0, o64]
  have s2 : v4.toInt = xx.toInt - (((2 ^ (kk.toInt.toNat - 1) : Nat) : Int) - 1) := by
    rw [hv4, Jvm.Kit.i64_sub (by rw [s1]; omega) (by rw [s1]; omega), s1]
  have k2 : 2 ≤ kk.toInt := by
    rcases Int.lt_or_le kk.toInt 2 with q | q
    · exfalso
      have e : kk.toInt.toNat = 1 := by omega
      have e1 : 2 ^ 1 = 2 := rfl
      rw [e, e1] at hne hc13_1
      omega
    · exact q
  have p2 : 2 ^ 1 ≤ 2 ^ (kk.toInt.toNat - 1) := Nat.pow_le_pow_right (by decide) (by omega)
  
  refine ⟨by omega, by decide, by decide, ?_, ?_⟩
  · show 2 ^ 0 ≤ _
    omega
  · have u := own_luby_eq (n := xx.toInt.toNat) (j := kk.toInt.toNat - 1) i4 (by rw [pe]; omega)
    rw [pe, if_neg hne] at u
    rw [← i5, u]
    congr 1
    omega
set_option maxRecDepth 65536 in
set_option maxHeartbeats 40000000 in
theorem rm1 (l : Launch) (Z : State) (a0 : Array Value) (hw : ∀ d ∈ tables_1, d.before a0 Z = true) (ws : List Jvm.Cond) (xl : Int64) (h0 : Heap) (n0 : Nat) (Z0 : n0 ≤ h0.size) (hpos : (0 : Int64) < xl) :
    MetFree l (⟨"com/example/gridwright/gridwright/games/lyne/Solver", "term", "(J)J"⟩ : MethodName) (head1 (Jvm.Cond.code (⟨"com/example/gridwright/gridwright/games/lyne/Solver", "term", "(J)J"⟩ : MethodName) prog_37_method_5_code 5 (some .long) :: ws) ({ frames := 0, cells := 0, slots := 0, locals := 0 } : Room)) (fun a U => a = #[(.long xl)] ∧ Z.Warmed39 U.vm ∧ U.heap = h0) (fun _ _ _ _ _ => True) (fun _ U o U' => ∃ v L, o = .returned v ∧ Q1 Z xl h0 n0 v U'.heap L ∧ FrameEnd U o U' L ({ frames := 0, cells := 0, slots := 0, locals := 0 } : Room).cells ({ frames := 0, cells := 0, slots := 0, locals := 0 } : Room).slots) := by
  refine MetFree.of_bodySF (plainFor_of_name pn_1) hisR ?_
  intro p e s m args below meth c s₁ Bd hml0 hP hK
  obtain ⟨rfl, hZ, hh⟩ := hP
  have hx := Bd.exec
  have hby := Bd.bytes
  have hml : c.maxLocals = 5 := hml0
  have hown : s.vm.findClass "com/example/gridwright/gridwright/games/lyne/Solver" = some m.cls := findClass_of_methodNamed Bd.named
  have hnm := (name_of_methodNamed Bd.named Bd.method).1
  have X0 : Stand p l e ({ frames := 0, cells := 0, slots := 0, locals := 0 } : Room) s m #[(.long xl)] below meth c s₁ [] 0 0 := Stand.of_body Bd
  have e0 : s₁.heap = h0 := by rw [← hh, Bd.state]; rfl
  have N0 := Fr.nil n0
  suffices G : own_Goes p.tables e below (fun o U' => ∃ v L, o = .returned v ∧ Q1 Z xl h0 n0 v U'.heap L ∧ FrameEnd s o U' L ({ frames := 0, cells := 0, slots := 0, locals := 0 } : Room).cells ({ frames := 0, cells := 0, slots := 0, locals := 0 } : Room).slots) s₁ (mkF m 0 #[.val (.long xl), .second, .unset, .unset, .unset] []) by
    obtain ⟨t2_, o2_, z1_, z2_, z3_, z4_⟩ := G
    exact ⟨t2_, o2_, castTop (ef_1 m xl) z1_, z2_, z3_, z4_⟩
  generalize hPd : (fun (o : Outcome) (U' : State) => ∃ v L, o = .returned v ∧ Q1 Z xl h0 n0 v U'.heap L ∧ FrameEnd s o U' L ({ frames := 0, cells := 0, slots := 0, locals := 0 } : Room).cells ({ frames := 0, cells := 0, slots := 0, locals := 0 } : Room).slots) = P
  refine own_Goes.via (T' := s₁) (g' := (mkF m 1 #[.val (.long xl), .second, .unset, .unset, .unset] [(.long xl)])) (fun t_ k_ => XS.lloadN X0.here hx rfl (hb hby d1_0) rfl k_) ?_
  refine own_Goes.via (T' := s₁) (g' := (mkF m 2 #[.val (.long xl), .second, .val (.long xl), .second, .unset] [])) (fun t_ k_ => XS.lstoreN X0.here hx rfl (hb hby d1_1) rfl (l' := #[.val (.long xl), .second, .val (.long xl), .second, .unset]) rfl k_) ?_
  refine own_Goes.via (T' := s₁) (g' := (mkF m 3 #[.val (.long xl), .second, .val (.long xl), .second, .unset] [(.int (1 : Int32))])) (fun t_ k_ => XS.iconst X0.here hx rfl (hb hby d1_2) k_) ?_
  refine own_Goes.via (T' := s₁) (g' := (mkF m 5 #[.val (.long xl), .second, .val (.long xl), .second, .val (.int (1 : Int32))] [])) (fun t_ k_ => XS.istore X0.here hx rfl (hb hby d1_3) rfl (l' := #[.val (.long xl), .second, .val (.long xl), .second, .val (.int (1 : Int32))]) rfl k_) ?_
  suffices LP : ∀ (f : Nat) (xx : Int64) (kk : Int32), own_mu xx kk ≤ f → own_inv xl xx kk → own_Goes p.tables e below P s₁ (mkF m 5 #[.val (.long xl), .second, .val (.long xx), .second, .val (.int kk)] []) by
    exact LP _ xl (1 : Int32) (Nat.le_refl _) (own_inv0 hpos)
  intro f
  induction f with
  | zero => exact fun xx kk hf hI => absurd hf (own_mu0 hI)
  | succ f IH =>
    intro xx kk hf hI
    refine own_Goes.via (T' := s₁) (g' := (mkF m 6 #[.val (.long xl), .second, .val (.long xx), .second, .val (.int kk)] [(.long (1 : Int64))])) (fun t_ k_ => XS.lconst X0.here hx rfl (hb hby d1_5) k_) ?_
    refine own_Goes.via (T' := s₁) (g' := (mkF m 8 #[.val (.long xl), .second, .val (.long xx), .second, .val (.int kk)] [(.int kk), (.long (1 : Int64))])) (fun t_ k_ => XS.iload X0.here hx rfl (hb hby d1_6) rfl k_) ?_
    refine own_Goes.via (T' := s₁) (g' := (mkF m 9 #[.val (.long xl), .second, .val (.long xx), .second, .val (.int kk)] [(.long ((1 : Int64) <<< (kk &&& 0x3f).toInt64))])) (fun t_ k_ => XS.lshl X0.here hx rfl (hb hby d1_8) rfl k_) ?_
    refine own_Goes.via (T' := s₁) (g' := (mkF m 10 #[.val (.long xl), .second, .val (.long xx), .second, .val (.int kk)] [(.long (1 : Int64)), (.long ((1 : Int64) <<< (kk &&& 0x3f).toInt64))])) (fun t_ k_ => XS.lconst X0.here hx rfl (hb hby d1_9) k_) ?_
    refine own_Goes.via (T' := s₁) (g' := (mkF m 11 #[.val (.long xl), .second, .val (.long xx), .second, .val (.int kk)] [(.long (((1 : Int64) <<< (kk &&& 0x3f).toInt64) - (1 : Int64)))])) (fun t_ k_ => XS.lsub X0.here hx rfl (hb hby d1_10) rfl k_) ?_
    refine own_Goes.via (T' := s₁) (g' := (mkF m 12 #[.val (.long xl), .second, .val (.long xx), .second, .val (.int kk)] [(.long xx), (.long (((1 : Int64) <<< (kk &&& 0x3f).toInt64) - (1 : Int64)))])) (fun t_ k_ => XS.lloadN X0.here hx rfl (hb hby d1_11) rfl k_) ?_
    refine own_Goes.via (T' := s₁) (g' := (mkF m 13 #[.val (.long xl), .second, .val (.long xx), .second, .val (.int kk)] [(.int (lcmpW (((1 : Int64) <<< (kk &&& 0x3f).toInt64) - (1 : Int64)) xx))])) (fun t_ k_ => XS.lcmp X0.here hx rfl (hb hby d1_12) rfl k_) ?_
    by_cases hc13_1 : (((1 : Int64) <<< (kk &&& 0x3f).toInt64) - (1 : Int64)) < xx
    · refine own_Goes.via (T' := s₁) (g' := (mkF m 16 #[.val (.long xl), .second, .val (.long xx), .second, .val (.int kk)] [])) (fun t_ k_ => XS.ifNo X0.here hx rfl (hb hby d1_13) rfl (own_ltT hc13_1).2 k_) ?_
      refine own_Goes.via (T' := s₁) (g' := (mkF m 19 #[.val (.long xl), .second, .val (.long xx), .second, .val (.int (kk + (1 : Int32)))] [])) (fun t_ k_ => XS.iinc X0.here hx rfl (hb hby d1_16) rfl (l' := #[.val (.long xl), .second, .val (.long xx), .second, .val (.int (kk + (1 : Int32)))]) rfl k_) ?_
      obtain ⟨v2, hv2⟩ : ∃ z : Int32, z = (kk + (1 : Int32)) := ⟨_, rfl⟩
      rw [← hv2]
      refine own_Goes.via (T' := s₁) (g' := (mkF m 5 #[.val (.long xl), .second, .val (.long xx), .second, .val (.int v2)] [])) (fun t_ k_ => XS.goto X0.here hx rfl (pc0 := 19) (pc' := 5) rfl (hb hby d1_19) (by decide) (by decide) k_) ?_
      exact IH _ _ (own_pl1_0 hv2 hc13_1 hf hI) (own_pl1_1 hv2 hc13_1 hf hI)
    · refine own_Goes.via (T' := s₁) (g' := (mkF m 22 #[.val (.long xl), .second, .val (.long xx), .second, .val (.int kk)] [])) (fun t_ k_ => XS.ifYes X0.here hx rfl (pc0 := 13) (pc' := 22) rfl (hb hby d1_13) rfl (own_ltF hc13_1).2 (by decide) (by decide) k_) ?_
      refine own_Goes.via (T' := s₁) (g' := (mkF m 23 #[.val (.long xl), .second, .val (.long xx), .second, .val (.int kk)] [(.long (1 : Int64))])) (fun t_ k_ => XS.lconst X0.here hx rfl (hb hby d1_22) k_) ?_
      refine own_Goes.via (T' := s₁) (g' := (mkF m 25 #[.val (.long xl), .second, .val (.long xx), .second, .val (.int kk)] [(.int kk), (.long (1 : Int64))])) (fun t_ k_ => XS.iload X0.here hx rfl (hb hby d1_23) rfl k_) ?_
      refine own_Goes.via (T' := s₁) (g' := (mkF m 26 #[.val (.long xl), .second, .val (.long xx), .second, .val (.int kk)] [(.long ((1 : Int64) <<< (kk &&& 0x3f).toInt64))])) (fun t_ k_ => XS.lshl X0.here hx rfl (hb hby d1_25) rfl k_) ?_
      refine own_Goes.via (T' := s₁) (g' := (mkF m 27 #[.val (.long xl), .second, .val (.long xx), .second, .val (.int kk)] [(.long (1 : Int64)), (.long ((1 : Int64) <<< (kk &&& 0x3f).toInt64))])) (fun t_ k_ => XS.lconst X0.here hx rfl (hb hby d1_26) k_) ?_
      refine own_Goes.via (T' := s₁) (g' := (mkF m 28 #[.val (.long xl), .second, .val (.long xx), .second, .val (.int kk)] [(.long (((1 : Int64) <<< (kk &&& 0x3f).toInt64) - (1 : Int64)))])) (fun t_ k_ => XS.lsub X0.here hx rfl (hb hby d1_27) rfl k_) ?_
      refine own_Goes.via (T' := s₁) (g' := (mkF m 29 #[.val (.long xl), .second, .val (.long xx), .second, .val (.int kk)] [(.long xx), (.long (((1 : Int64) <<< (kk &&& 0x3f).toInt64) - (1 : Int64)))])) (fun t_ k_ => XS.lloadN X0.here hx rfl (hb hby d1_28) rfl k_) ?_
      refine own_Goes.via (T' := s₁) (g' := (mkF m 30 #[.val (.long xl), .second, .val (.long xx), .second, .val (.int kk)] [(.int (lcmpW (((1 : Int64) <<< (kk &&& 0x3f).toInt64) - (1 : Int64)) xx))])) (fun t_ k_ => XS.lcmp X0.here hx rfl (hb hby d1_29) rfl k_) ?_
      by_cases hc30_3 : (((1 : Int64) <<< (kk &&& 0x3f).toInt64) - (1 : Int64)) = xx
      · refine own_Goes.via (T' := s₁) (g' := (mkF m 33 #[.val (.long xl), .second, .val (.long xx), .second, .val (.int kk)] [])) (fun t_ k_ => XS.ifNo X0.here hx rfl (hb hby d1_30) rfl (own_eqT hc30_3).2 k_) ?_
        refine own_Goes.via (T' := s₁) (g' := (mkF m 34 #[.val (.long xl), .second, .val (.long xx), .second, .val (.int kk)] [(.long (1 : Int64))])) (fun t_ k_ => XS.lconst X0.here hx rfl (hb hby d1_33) k_) ?_
        refine own_Goes.via (T' := s₁) (g' := (mkF m 36 #[.val (.long xl), .second, .val (.long xx), .second, .val (.int kk)] [(.int kk), (.long (1 : Int64))])) (fun t_ k_ => XS.iload X0.here hx rfl (hb hby d1_34) rfl k_) ?_
        refine own_Goes.via (T' := s₁) (g' := (mkF m 37 #[.val (.long xl), .second, .val (.long xx), .second, .val (.int kk)] [(.int (1 : Int32)), (.int kk), (.long (1 : Int64))])) (fun t_ k_ => XS.iconst X0.here hx rfl (hb hby d1_36) k_) ?_
        refine own_Goes.via (T' := s₁) (g' := (mkF m 38 #[.val (.long xl), .second, .val (.long xx), .second, .val (.int kk)] [(.int (kk - (1 : Int32))), (.long (1 : Int64))])) (fun t_ k_ => XS.isub X0.here hx rfl (hb hby d1_37) rfl k_) ?_
        refine own_Goes.via (T' := s₁) (g' := (mkF m 39 #[.val (.long xl), .second, .val (.long xx), .second, .val (.int kk)] [(.long ((1 : Int64) <<< ((kk - (1 : Int32)) &&& 0x3f).toInt64))])) (fun t_ k_ => XS.lshl X0.here hx rfl (hb hby d1_38) rfl k_) ?_
        obtain ⟨fs, hr, hrun, hended, hW, hsame⟩ := X0.leave (v := some (.long ((1 : Int64) <<< ((kk - (1 : Int32)) &&& 0x3f).toInt64))) (fun h => by rw [Bd.returns] at h; cases h)
        refine own_Goes.fin (retOut X0 hx Bd.returns rfl (Or.inr (Or.inl ⟨rfl, rfl, _, rfl⟩)) (hb hby d1_39) hr) hrun hended ?_
        subst hPd
        refine ⟨_, _, rfl, ?_, ⟨_, rfl⟩, hW, hsame.mono (by decide) (by decide)⟩
        show Q1 Z xl h0 n0 _ s₁.heap _
        rw [e0]
        exact ⟨(own_pl1_2 hc13_1 hc30_3 hf hI), N0, rfl⟩
      · refine own_Goes.via (T' := s₁) (g' := (mkF m 40 #[.val (.long xl), .second, .val (.long xx), .second, .val (.int kk)] [])) (fun t_ k_ => XS.ifYes X0.here hx rfl (pc0 := 30) (pc' := 40) rfl (hb hby d1_30) rfl (own_eqF hc30_3).2 (by decide) (by decide) k_) ?_
        refine own_Goes.via (T' := s₁) (g' := (mkF m 41 #[.val (.long xl), .second, .val (.long xx), .second, .val (.int kk)] [(.long xx)])) (fun t_ k_ => XS.lloadN X0.here hx rfl (hb hby d1_40) rfl k_) ?_
        refine own_Goes.via (T' := s₁) (g' := (mkF m 42 #[.val (.long xl), .second, .val (.long xx), .second, .val (.int kk)] [(.long (1 : Int64)), (.long xx)])) (fun t_ k_ => XS.lconst X0.here hx rfl (hb hby d1_41) k_) ?_
        refine own_Goes.via (T' := s₁) (g' := (mkF m 44 #[.val (.long xl), .second, .val (.long xx), .second, .val (.int kk)] [(.int kk), (.long (1 : Int64)), (.long xx)])) (fun t_ k_ => XS.iload X0.here hx rfl (hb hby d1_42) rfl k_) ?_
        refine own_Goes.via (T' := s₁) (g' := (mkF m 45 #[.val (.long xl), .second, .val (.long xx), .second, .val (.int kk)] [(.int (1 : Int32)), (.int kk), (.long (1 : Int64)), (.long xx)])) (fun t_ k_ => XS.iconst X0.here hx rfl (hb hby d1_44) k_) ?_
        refine own_Goes.via (T' := s₁) (g' := (mkF m 46 #[.val (.long xl), .second, .val (.long xx), .second, .val (.int kk)] [(.int (kk - (1 : Int32))), (.long (1 : Int64)), (.long xx)])) (fun t_ k_ => XS.isub X0.here hx rfl (hb hby d1_45) rfl k_) ?_
        refine own_Goes.via (T' := s₁) (g' := (mkF m 47 #[.val (.long xl), .second, .val (.long xx), .second, .val (.int kk)] [(.long ((1 : Int64) <<< ((kk - (1 : Int32)) &&& 0x3f).toInt64)), (.long xx)])) (fun t_ k_ => XS.lshl X0.here hx rfl (hb hby d1_46) rfl k_) ?_
        refine own_Goes.via (T' := s₁) (g' := (mkF m 48 #[.val (.long xl), .second, .val (.long xx), .second, .val (.int kk)] [(.long (1 : Int64)), (.long ((1 : Int64) <<< ((kk - (1 : Int32)) &&& 0x3f).toInt64)), (.long xx)])) (fun t_ k_ => XS.lconst X0.here hx rfl (hb hby d1_47) k_) ?_
        refine own_Goes.via (T' := s₁) (g' := (mkF m 49 #[.val (.long xl), .second, .val (.long xx), .second, .val (.int kk)] [(.long (((1 : Int64) <<< ((kk - (1 : Int32)) &&& 0x3f).toInt64) - (1 : Int64))), (.long xx)])) (fun t_ k_ => XS.lsub X0.here hx rfl (hb hby d1_48) rfl k_) ?_
        refine own_Goes.via (T' := s₁) (g' := (mkF m 50 #[.val (.long xl), .second, .val (.long xx), .second, .val (.int kk)] [(.long (xx - (((1 : Int64) <<< ((kk - (1 : Int32)) &&& 0x3f).toInt64) - (1 : Int64))))])) (fun t_ k_ => XS.lsub X0.here hx rfl (hb hby d1_49) rfl k_) ?_
        refine own_Goes.via (T' := s₁) (g' := (mkF m 51 #[.val (.long xl), .second, .val (.long (xx - (((1 : Int64) <<< ((kk - (1 : Int32)) &&& 0x3f).toInt64) - (1 : Int64)))), .second, .val (.int kk)] [])) (fun t_ k_ => XS.lstoreN X0.here hx rfl (hb hby d1_50) rfl (l' := #[.val (.long xl), .second, .val (.long (xx - (((1 : Int64) <<< ((kk - (1 : Int32)) &&& 0x3f).toInt64) - (1 : Int64)))), .second, .val (.int kk)]) rfl k_) ?_
        obtain ⟨v4, hv4⟩ : ∃ z : Int64, z = (xx - (((1 : Int64) <<< ((kk - (1 : Int32)) &&& 0x3f).toInt64) - (1 : Int64))) := ⟨_, rfl⟩
        rw [← hv4]
        refine own_Goes.via (T' := s₁) (g' := (mkF m 2 #[.val (.long xl), .second, .val (.long v4), .second, .val (.int kk)] [])) (fun t_ k_ => XS.goto X0.here hx rfl (pc0 := 51) (pc' := 2) rfl (hb hby d1_51) (by decide) (by decide) k_) ?_
        refine own_Goes.via (T' := s₁) (g' := (mkF m 3 #[.val (.long xl), .second, .val (.long v4), .second, .val (.int kk)] [(.int (1 : Int32))])) (fun t_ k_ => XS.iconst X0.here hx rfl (hb hby d1_2) k_) ?_
        refine own_Goes.via (T' := s₁) (g' := (mkF m 5 #[.val (.long xl), .second, .val (.long v4), .second, .val (.int (1 : Int32))] [])) (fun t_ k_ => XS.istore X0.here hx rfl (hb hby d1_3) rfl (l' := #[.val (.long xl), .second, .val (.long v4), .second, .val (.int (1 : Int32))]) rfl k_) ?_
        exact IH _ _ (own_pl1_3 hv4 hc13_1 hc30_3 hf hI) (own_pl1_4 hv4 hc13_1 hc30_3 hf hI)
theorem pn_0 : plainName "com/example/gridwright/gridwright/games/lyne/SolverTermPinLaw" = true := by first | (simp [plainName, overriddenIn]; done) | decide +kernel
theorem pd_0_0 : parseMethodDescriptor "(J)J" = some ⟨[.long], some .long⟩ := by decide +kernel
theorem ef_0 (m : MethodId) (xk : Int32) (xx : Int64) (xf : Int32) : entryFrame m #[(.int xk), (.long xx), (.int xf)] maxLocals = mkF m 0 #[.val (.int xk), .val (.long xx), .second, .val (.int xf), .unset, .unset, .unset, .unset, .unset, .unset, .unset, .unset, .unset] [] := by first | (simp [entryFrame, mkF, argsToLocals, Value.category, maxLocals]; done) | rfl
def Q0 (Z : State) (xk : Int32) (xx : Int64) (xf : Int32) (h0 : Heap) (n0 : Nat) (v : Option Value) (h : Heap) (L : List Loc) : Prop := v = some (.int 1) ∧ Fr n0 L
set_option maxRecDepth 65536 in
theorem own_pl0_0 {xk : Int32} {xf : Int32} {v2 : Int32} {v3 : Int64} (hv2 : v2 = ((1 : Int32) + ((xk &&& (2147483647 : Int32)) % (63 : Int32)))) (hv3 : v3 = ((1 : Int64) <<< ((v2 - (1 : Int32)) &&& 0x3f).toInt64)) (hc22_4 : (xf &&& (1 : Int32)) = (0 : Int32)) (nz7_1 : (63 : Int32) ≠ (0 : Int32)) : v3 ≠ (0 : Int64) := by
  have m := Jvm.Kit.i32_mask xk (2147483647 : Int32) (k := 31) (by decide) (by decide)
  have t63 : (63 : Int32).toInt = 63 := rfl
  have o : (1 : Int32).toInt = 1 := rfl
  have r : ((xk &&& (2147483647 : Int32)) % (63 : Int32)).toInt = (xk &&& (2147483647 : Int32)).toInt % 63 := Jvm.Kit.i32_rem_nonneg (by omega)
  have e2 : v2.toInt = 1 + ((xk &&& (2147483647 : Int32)) % (63 : Int32)).toInt := by
    rw [hv2, Jvm.Kit.i32_add (by rw [o, r]; omega) (by rw [o, r]; omega), o]
  have k1 := own_k1 (k := v2) (by omega)
  have p0 := own_p0 (k := v2 - (1 : Int32)) (by omega) (by omega)
  rw [← hv3] at p0
  have pp : 0 < 2 ^ (v2 - (1 : Int32)).toInt.toNat := Nat.two_pow_pos _
  have pb : 2 ^ (v2 - (1 : Int32)).toInt.toNat ≤ 2 ^ 62 := Nat.pow_le_pow_right (by decide) (by omega)
  generalize hj : (v2 - (1 : Int32)).toInt.toNat = j at *
  
  intro q
  rw [q] at p0
  have z : (0 : Int64).toInt = 0 := rfl
  omega
set_option maxRecDepth 65536 in
theorem own_pl0_1 {xk : Int32} {xx : Int64} {xf : Int32} {v2 : Int32} {v3 : Int64} {v40_5 : Int64} {v9 : Int64} (hv2 : v2 = ((1 : Int32) + ((xk &&& (2147483647 : Int32)) % (63 : Int32)))) (hv3 : v3 = ((1 : Int64) <<< ((v2 - (1 : Int32)) &&& 0x3f).toInt64)) (hv40_5 : v40_5 = (if (xf &&& (1 : Int32)) = (0 : Int32) then ((xx &&& (9223372036854775807 : Int64)) % v3) else (v3 - (1 : Int64)))) (hv9 : v9 = (v3 + v40_5)) (nz7_1 : (63 : Int32) ≠ (0 : Int32)) : (0 : Int64) < v9 := by
  have m := Jvm.Kit.i32_mask xk (2147483647 : Int32) (k := 31) (by decide) (by decide)
  have t63 : (63 : Int32).toInt = 63 := rfl
  have o : (1 : Int32).toInt = 1 := rfl
  have r : ((xk &&& (2147483647 : Int32)) % (63 : Int32)).toInt = (xk &&& (2147483647 : Int32)).toInt % 63 := Jvm.Kit.i32_rem_nonneg (by omega)
  have e2 : v2.toInt = 1 + ((xk &&& (2147483647 : Int32)) % (63 : Int32)).toInt := by
    rw [hv2, Jvm.Kit.i32_add (by rw [o, r]; omega) (by rw [o, r]; omega), o]
  have k1 := own_k1 (k := v2) (by omega)
  have p0 := own_p0 (k := v2 - (1 : Int32)) (by omega) (by omega)
  rw [← hv3] at p0
  have pp : 0 < 2 ^ (v2 - (1 : Int32)).toInt.toNat := Nat.two_pow_pos _
  have pb : 2 ^ (v2 - (1 : Int32)).toInt.toNat ≤ 2 ^ 62 := Nat.pow_le_pow_right (by decide) (by omega)
  generalize hj : (v2 - (1 : Int32)).toInt.toNat = j at *
  
  have o64 : (1 : Int64).toInt = 1 := rfl
  have hm1 : (v3 - (1 : Int64)).toInt = v3.toInt - 1 := Jvm.Kit.i64_sub (by rw [o64]; omega) (by rw [o64]; omega)
  have off : 0 ≤ v40_5.toInt ∧ v40_5.toInt < v3.toInt := by
    rw [hv40_5]
    split
    · have mm := Jvm.Kit.i64_mask xx (9223372036854775807 : Int64) (k := 63) (by decide) (by decide)
      rw [Int64.toInt_mod, Int.tmod_eq_emod_of_nonneg (by rw [mm]; omega)]
      exact ⟨Int.emod_nonneg _ (by omega), Int.emod_lt_of_pos _ (by omega)⟩
    · rw [hm1]; omega
  have run : v9.toInt = v3.toInt + v40_5.toInt := by rw [hv9, Jvm.Kit.i64_add (by omega) (by omega)]
  have z64 : (0 : Int64).toInt = 0 := rfl
  rw [Int64.lt_iff_toInt_lt]
  omega
set_option maxRecDepth 65536 in
theorem own_pl0_2 {xk : Int32} {xx : Int64} {xf : Int32} {v2 : Int32} {v3 : Int64} {v40_5 : Int64} {v9 : Int64} {v12 : Int64} {v79_15 : Int32} (hv2 : v2 = ((1 : Int32) + ((xk &&& (2147483647 : Int32)) % (63 : Int32)))) (hv3 : v3 = ((1 : Int64) <<< ((v2 - (1 : Int32)) &&& 0x3f).toInt64)) (hv40_5 : v40_5 = (if (xf &&& (1 : Int32)) = (0 : Int32) then ((xx &&& (9223372036854775807 : Int64)) % v3) else (v3 - (1 : Int64)))) (hv9 : v9 = (v3 + v40_5)) (hv12 : v12 = (own_term v9)) (hv79_15 : v79_15 = (if v12 = v3 then (1 : Int32) else (0 : Int32))) (hc63_13 : v40_5 = (v3 - (1 : Int64))) (nz7_1 : (63 : Int32) ≠ (0 : Int32)) (cd51_11 : (0 : Int64) < v9) : v79_15 = 1 := by
  have m := Jvm.Kit.i32_mask xk (2147483647 : Int32) (k := 31) (by decide) (by decide)
  have t63 : (63 : Int32).toInt = 63 := rfl
  have o : (1 : Int32).toInt = 1 := rfl
  have r : ((xk &&& (2147483647 : Int32)) % (63 : Int32)).toInt = (xk &&& (2147483647 : Int32)).toInt % 63 := Jvm.Kit.i32_rem_nonneg (by omega)
  have e2 : v2.toInt = 1 + ((xk &&& (2147483647 : Int32)) % (63 : Int32)).toInt := by
    rw [hv2, Jvm.Kit.i32_add (by rw [o, r]; omega) (by rw [o, r]; omega), o]
  have k1 := own_k1 (k := v2) (by omega)
  have p0 := own_p0 (k := v2 - (1 : Int32)) (by omega) (by omega)
  rw [← hv3] at p0
  have pp : 0 < 2 ^ (v2 - (1 : Int32)).toInt.toNat := Nat.two_pow_pos _
  have pb : 2 ^ (v2 - (1 : Int32)).toInt.toNat ≤ 2 ^ 62 := Nat.pow_le_pow_right (by decide) (by omega)
  generalize hj : (v2 - (1 : Int32)).toInt.toNat = j at *
  
  have o64 : (1 : Int64).toInt = 1 := rfl
  have hm1 : (v3 - (1 : Int64)).toInt = v3.toInt - 1 := Jvm.Kit.i64_sub (by rw [o64]; omega) (by rw [o64]; omega)
  have off : 0 ≤ v40_5.toInt ∧ v40_5.toInt < v3.toInt := by
    rw [hv40_5]
    split
    · have mm := Jvm.Kit.i64_mask xx (9223372036854775807 : Int64) (k := 63) (by decide) (by decide)
      rw [Int64.toInt_mod, Int.tmod_eq_emod_of_nonneg (by rw [mm]; omega)]
      exact ⟨Int.emod_nonneg _ (by omega), Int.emod_lt_of_pos _ (by omega)⟩
    · rw [hm1]; omega
  have run : v9.toInt = v3.toInt + v40_5.toInt := by rw [hv9, Jvm.Kit.i64_add (by omega) (by omega)]
  have z64 : (0 : Int64).toInt = 0 := rfl
  
  have e : v40_5.toInt = v3.toInt - 1 := by rw [← hm1]; exact congrArg Int64.toInt hc63_13
  have ps : 2 ^ (j + 1) = 2 * 2 ^ j := by rw [Nat.pow_succ]; omega
  have u := own_luby_eq (n := v9.toInt.toNat) (j := j) (by omega) (by omega)
  rw [if_pos (by omega)] at u
  rw [hv79_15, if_pos]
  rw [hv12]
  unfold own_term
  rw [u]
  apply Int64.toInt_inj.mp
  rw [Int64.toInt_ofNat_of_lt (by omega)]
  omega
set_option maxRecDepth 65536 in
theorem own_pl0_3 {xk : Int32} {xx : Int64} {xf : Int32} {v2 : Int32} {v3 : Int64} {v40_5 : Int64} {v9 : Int64} {v12 : Int64} (hv2 : v2 = ((1 : Int32) + ((xk &&& (2147483647 : Int32)) % (63 : Int32)))) (hv3 : v3 = ((1 : Int64) <<< ((v2 - (1 : Int32)) &&& 0x3f).toInt64)) (hv40_5 : v40_5 = (if (xf &&& (1 : Int32)) = (0 : Int32) then ((xx &&& (9223372036854775807 : Int64)) % v3) else (v3 - (1 : Int64)))) (hv9 : v9 = (v3 + v40_5)) (hv12 : v12 = (own_term v9)) (hc63_13 : ¬ (v40_5 = (v3 - (1 : Int64)))) (nz7_1 : (63 : Int32) ≠ (0 : Int32)) (cd51_11 : (0 : Int64) < v9) : (0 : Int64) < (v9 - (v3 - (1 : Int64))) := by
  have m := Jvm.Kit.i32_mask xk (2147483647 : Int32) (k := 31) (by decide) (by decide)
  have t63 : (63 : Int32).toInt = 63 := rfl
  have o : (1 : Int32).toInt = 1 := rfl
  have r : ((xk &&& (2147483647 : Int32)) % (63 : Int32)).toInt = (xk &&& (2147483647 : Int32)).toInt % 63 := Jvm.Kit.i32_rem_nonneg (by omega)
  have e2 : v2.toInt = 1 + ((xk &&& (2147483647 : Int32)) % (63 : Int32)).toInt := by
    rw [hv2, Jvm.Kit.i32_add (by rw [o, r]; omega) (by rw [o, r]; omega), o]
  have k1 := own_k1 (k := v2) (by omega)
  have p0 := own_p0 (k := v2 - (1 : Int32)) (by omega) (by omega)
  rw [← hv3] at p0
  have pp : 0 < 2 ^ (v2 - (1 : Int32)).toInt.toNat := Nat.two_pow_pos _
  have pb : 2 ^ (v2 - (1 : Int32)).toInt.toNat ≤ 2 ^ 62 := Nat.pow_le_pow_right (by decide) (by omega)
  generalize hj : (v2 - (1 : Int32)).toInt.toNat = j at *
  
  have o64 : (1 : Int64).toInt = 1 := rfl
  have hm1 : (v3 - (1 : Int64)).toInt = v3.toInt - 1 := Jvm.Kit.i64_sub (by rw [o64]; omega) (by rw [o64]; omega)
  have off : 0 ≤ v40_5.toInt ∧ v40_5.toInt < v3.toInt := by
    rw [hv40_5]
    split
    · have mm := Jvm.Kit.i64_mask xx (9223372036854775807 : Int64) (k := 63) (by decide) (by decide)
      rw [Int64.toInt_mod, Int.tmod_eq_emod_of_nonneg (by rw [mm]; omega)]
      exact ⟨Int.emod_nonneg _ (by omega), Int.emod_lt_of_pos _ (by omega)⟩
    · rw [hm1]; omega
  have run : v9.toInt = v3.toInt + v40_5.toInt := by rw [hv9, Jvm.Kit.i64_add (by omega) (by omega)]
  have z64 : (0 : Int64).toInt = 0 := rfl
  rw [Int64.lt_iff_toInt_lt, Jvm.Kit.i64_sub (by rw [hm1]; omega) (by rw [hm1]; omega), hm1]
  omega
set_option maxRecDepth 65536 in
theorem own_pl0_4 {xk : Int32} {xx : Int64} {xf : Int32} {v2 : Int32} {v3 : Int64} {v40_5 : Int64} {v9 : Int64} {v12 : Int64} {v20 : Int64} {v101_22 : Int32} (hv2 : v2 = ((1 : Int32) + ((xk &&& (2147483647 : Int32)) % (63 : Int32)))) (hv3 : v3 = ((1 : Int64) <<< ((v2 - (1 : Int32)) &&& 0x3f).toInt64)) (hv40_5 : v40_5 = (if (xf &&& (1 : Int32)) = (0 : Int32) then ((xx &&& (9223372036854775807 : Int64)) % v3) else (v3 - (1 : Int64)))) (hv9 : v9 = (v3 + v40_5)) (hv12 : v12 = (own_term v9)) (hv20 : v20 = (own_term (v9 - (v3 - (1 : Int64))))) (hv101_22 : v101_22 = (if v12 = v20 then (1 : Int32) else (0 : Int32))) (hc63_13 : ¬ (v40_5 = (v3 - (1 : Int64)))) (nz7_1 : (63 : Int32) ≠ (0 : Int32)) (cd51_11 : (0 : Int64) < v9) (cd89_19 : (0 : Int64) < (v9 - (v3 - (1 : Int64)))) : v101_22 = 1 := by
  have m := Jvm.Kit.i32_mask xk (2147483647 : Int32) (k := 31) (by decide) (by decide)
  have t63 : (63 : Int32).toInt = 63 := rfl
  have o : (1 : Int32).toInt = 1 := rfl
  have r : ((xk &&& (2147483647 : Int32)) % (63 : Int32)).toInt = (xk &&& (2147483647 : Int32)).toInt % 63 := Jvm.Kit.i32_rem_nonneg (by omega)
  have e2 : v2.toInt = 1 + ((xk &&& (2147483647 : Int32)) % (63 : Int32)).toInt := by
    rw [hv2, Jvm.Kit.i32_add (by rw [o, r]; omega) (by rw [o, r]; omega), o]
  have k1 := own_k1 (k := v2) (by omega)
  have p0 := own_p0 (k := v2 - (1 : Int32)) (by omega) (by omega)
  rw [← hv3] at p0
  have pp : 0 < 2 ^ (v2 - (1 : Int32)).toInt.toNat := Nat.two_pow_pos _
  have pb : 2 ^ (v2 - (1 : Int32)).toInt.toNat ≤ 2 ^ 62 := Nat.pow_le_pow_right (by decide) (by omega)
  generalize hj : (v2 - (1 : Int32)).toInt.toNat = j at *
  
  have o64 : (1 : Int64).toInt = 1 := rfl
  have hm1 : (v3 - (1 : Int64)).toInt = v3.toInt - 1 := Jvm.Kit.i64_sub (by rw [o64]; omega) (by rw [o64]; omega)
  have off : 0 ≤ v40_5.toInt ∧ v40_5.toInt < v3.toInt := by
    rw [hv40_5]
    split
    · have mm := Jvm.Kit.i64_mask xx (9223372036854775807 : Int64) (k := 63) (by decide) (by decide)
      rw [Int64.toInt_mod, Int.tmod_eq_emod_of_nonneg (by rw [mm]; omega)]
      exact ⟨Int.emod_nonneg _ (by omega), Int.emod_lt_of_pos _ (by omega)⟩
    · rw [hm1]; omega
  have run : v9.toInt = v3.toInt + v40_5.toInt := by rw [hv9, Jvm.Kit.i64_add (by omega) (by omega)]
  have z64 : (0 : Int64).toInt = 0 := rfl
  
  have e : v40_5.toInt ≠ v3.toInt - 1 := fun q => hc63_13 (Int64.toInt_inj.mp (by rw [hm1]; exact q))
  have ps : 2 ^ (j + 1) = 2 * 2 ^ j := by rw [Nat.pow_succ]; omega
  have u := own_luby_eq (n := v9.toInt.toNat) (j := j) (by omega) (by omega)
  rw [if_neg (by omega)] at u
  have s : (v9 - (v3 - (1 : Int64))).toInt = v9.toInt - (v3.toInt - 1) := by rw [Jvm.Kit.i64_sub (by rw [hm1]; omega) (by rw [hm1]; omega), hm1]
  rw [hv101_22, if_pos]
  rw [hv12, hv20]
  unfold own_term
  rw [u]
  congr 2
  omega
set_option maxRecDepth 65536 in
set_option maxHeartbeats 40000000 in
theorem rm0 (l : Launch) (Z : State) (a0 : Array Value) (hw : ∀ d ∈ tables_1, d.before a0 Z = true) (ws : List Jvm.Cond) (xk : Int32) (xx : Int64) (xf : Int32) (h0 : Heap) (n0 : Nat) (Z0 : n0 ≤ h0.size) :
    MetFree l x (head1 (Jvm.Cond.code x code maxLocals ret :: ws) room_1) (fun a U => a = #[(.int xk), (.long xx), (.int xf)] ∧ Z.Warmed39 U.vm ∧ U.heap = h0) (fun _ _ _ _ _ => True) (fun _ U o U' => ∃ v L, o = .returned v ∧ Q0 Z xk xx xf h0 n0 v U'.heap L ∧ FrameEnd U o U' L 0 0) := by
  refine MetFree.of_bodySF (plainFor_of_name pn_0) hisR ?_
  intro p e s m args below meth c s₁ Bd hml0 hP hK
  obtain ⟨rfl, hZ, hh⟩ := hP
  have hx := Bd.exec
  have hby := Bd.bytes
  have hml : c.maxLocals = 13 := hml0
  have hown : s.vm.findClass "com/example/gridwright/gridwright/games/lyne/SolverTermPinLaw" = some m.cls := findClass_of_methodNamed Bd.named
  have hnm := (name_of_methodNamed Bd.named Bd.method).1
  have X0 : Stand p l e room_1 s m #[(.int xk), (.long xx), (.int xf)] below meth c s₁ [] 0 0 := Stand.of_body Bd
  have e0 : s₁.heap = h0 := by rw [← hh, Bd.state]; rfl
  have N0 := Fr.nil n0
  suffices G : own_Goes p.tables e below (fun o U' => ∃ v L, o = .returned v ∧ Q0 Z xk xx xf h0 n0 v U'.heap L ∧ FrameEnd s o U' L 0 0) s₁ (mkF m 0 #[.val (.int xk), .val (.long xx), .second, .val (.int xf), .unset, .unset, .unset, .unset, .unset, .unset, .unset, .unset, .unset] []) by
    obtain ⟨t2_, o2_, z1_, z2_, z3_, z4_⟩ := G
    exact ⟨t2_, o2_, castTop (ef_0 m xk xx xf) z1_, z2_, z3_, z4_⟩
  generalize hPd : (fun (o : Outcome) (U' : State) => ∃ v L, o = .returned v ∧ Q0 Z xk xx xf h0 n0 v U'.heap L ∧ FrameEnd s o U' L 0 0) = P
  refine own_Goes.via (T' := s₁) (g' := (mkF m 1 #[.val (.int xk), .val (.long xx), .second, .val (.int xf), .unset, .unset, .unset, .unset, .unset, .unset, .unset, .unset, .unset] [(.int (1 : Int32))])) (fun t_ k_ => XS.iconst X0.here hx rfl (hb hby at_0) k_) ?_
  refine own_Goes.via (T' := s₁) (g' := (mkF m 2 #[.val (.int xk), .val (.long xx), .second, .val (.int xf), .unset, .unset, .unset, .unset, .unset, .unset, .unset, .unset, .unset] [(.int xk), (.int (1 : Int32))])) (fun t_ k_ => XS.iloadN X0.here hx rfl (hb hby at_1) rfl k_) ?_
  refine own_Goes.via (T' := s₁) (g' := (mkF m 4 #[.val (.int xk), .val (.long xx), .second, .val (.int xf), .unset, .unset, .unset, .unset, .unset, .unset, .unset, .unset, .unset] [(.int (2147483647 : Int32)), (.int xk), (.int (1 : Int32))])) (X0.ldcInt hx hown (mvT hZ (hw _ (List.mem_of_getElem? (i := 0) rfl))) (g := (mkF m 2 #[.val (.int xk), .val (.long xx), .second, .val (.int xf), .unset, .unset, .unset, .unset, .unset, .unset, .unset, .unset, .unset] [(.int xk), (.int (1 : Int32))])) rfl (hb hby at_2)) ?_
  refine own_Goes.via (T' := s₁) (g' := (mkF m 5 #[.val (.int xk), .val (.long xx), .second, .val (.int xf), .unset, .unset, .unset, .unset, .unset, .unset, .unset, .unset, .unset] [(.int (xk &&& (2147483647 : Int32))), (.int (1 : Int32))])) (fun t_ k_ => XS.iand X0.here hx rfl (hb hby at_4) rfl k_) ?_
  refine own_Goes.via (T' := s₁) (g' := (mkF m 7 #[.val (.int xk), .val (.long xx), .second, .val (.int xf), .unset, .unset, .unset, .unset, .unset, .unset, .unset, .unset, .unset] [(.int (63 : Int32)), (.int (xk &&& (2147483647 : Int32))), (.int (1 : Int32))])) (fun t_ k_ => XS.bipush X0.here hx rfl (hb hby at_5) k_) ?_
  have nz7_1 : (63 : Int32) ≠ (0 : Int32) := by decide
  refine own_Goes.via (T' := s₁) (g' := (mkF m 8 #[.val (.int xk), .val (.long xx), .second, .val (.int xf), .unset, .unset, .unset, .unset, .unset, .unset, .unset, .unset, .unset] [(.int ((xk &&& (2147483647 : Int32)) % (63 : Int32))), (.int (1 : Int32))])) (fun t_ k_ => iremM X0 hx rfl (hb hby at_7) rfl nz7_1 k_) ?_
  refine own_Goes.via (T' := s₁) (g' := (mkF m 9 #[.val (.int xk), .val (.long xx), .second, .val (.int xf), .unset, .unset, .unset, .unset, .unset, .unset, .unset, .unset, .unset] [(.int ((1 : Int32) + ((xk &&& (2147483647 : Int32)) % (63 : Int32))))])) (fun t_ k_ => XS.iadd X0.here hx rfl (hb hby at_8) rfl k_) ?_
  refine own_Goes.via (T' := s₁) (g' := (mkF m 11 #[.val (.int xk), .val (.long xx), .second, .val (.int xf), .val (.int ((1 : Int32) + ((xk &&& (2147483647 : Int32)) % (63 : Int32)))), .unset, .unset, .unset, .unset, .unset, .unset, .unset, .unset] [])) (fun t_ k_ => XS.istore X0.here hx rfl (hb hby at_9) rfl (l' := #[.val (.int xk), .val (.long xx), .second, .val (.int xf), .val (.int ((1 : Int32) + ((xk &&& (2147483647 : Int32)) % (63 : Int32)))), .unset, .unset, .unset, .unset, .unset, .unset, .unset, .unset]) rfl k_) ?_
  obtain ⟨v2, hv2⟩ : ∃ z : Int32, z = ((1 : Int32) + ((xk &&& (2147483647 : Int32)) % (63 : Int32))) := ⟨_, rfl⟩
  rw [← hv2]
  refine own_Goes.via (T' := s₁) (g' := (mkF m 12 #[.val (.int xk), .val (.long xx), .second, .val (.int xf), .val (.int v2), .unset, .unset, .unset, .unset, .unset, .unset, .unset, .unset] [(.long (1 : Int64))])) (fun t_ k_ => XS.lconst X0.here hx rfl (hb hby at_11) k_) ?_
  refine own_Goes.via (T' := s₁) (g' := (mkF m 14 #[.val (.int xk), .val (.long xx), .second, .val (.int xf), .val (.int v2), .unset, .unset, .unset, .unset, .unset, .unset, .unset, .unset] [(.int v2), (.long (1 : Int64))])) (fun t_ k_ => XS.iload X0.here hx rfl (hb hby at_12) rfl k_) ?_
  refine own_Goes.via (T' := s₁) (g' := (mkF m 15 #[.val (.int xk), .val (.long xx), .second, .val (.int xf), .val (.int v2), .unset, .unset, .unset, .unset, .unset, .unset, .unset, .unset] [(.int (1 : Int32)), (.int v2), (.long (1 : Int64))])) (fun t_ k_ => XS.iconst X0.here hx rfl (hb hby at_14) k_) ?_
  refine own_Goes.via (T' := s₁) (g' := (mkF m 16 #[.val (.int xk), .val (.long xx), .second, .val (.int xf), .val (.int v2), .unset, .unset, .unset, .unset, .unset, .unset, .unset, .unset] [(.int (v2 - (1 : Int32))), (.long (1 : Int64))])) (fun t_ k_ => XS.isub X0.here hx rfl (hb hby at_15) rfl k_) ?_
  refine own_Goes.via (T' := s₁) (g' := (mkF m 17 #[.val (.int xk), .val (.long xx), .second, .val (.int xf), .val (.int v2), .unset, .unset, .unset, .unset, .unset, .unset, .unset, .unset] [(.long ((1 : Int64) <<< ((v2 - (1 : Int32)) &&& 0x3f).toInt64))])) (fun t_ k_ => XS.lshl X0.here hx rfl (hb hby at_16) rfl k_) ?_
  refine own_Goes.via (T' := s₁) (g' := (mkF m 19 #[.val (.int xk), .val (.long xx), .second, .val (.int xf), .val (.int v2), .val (.long ((1 : Int64) <<< ((v2 - (1 : Int32)) &&& 0x3f).toInt64)), .second, .unset, .unset, .unset, .unset, .unset, .unset] [])) (fun t_ k_ => XS.lstore X0.here hx rfl (hb hby at_17) rfl (l' := #[.val (.int xk), .val (.long xx), .second, .val (.int xf), .val (.int v2), .val (.long ((1 : Int64) <<< ((v2 - (1 : Int32)) &&& 0x3f).toInt64)), .second, .unset, .unset, .unset, .unset, .unset, .unset]) rfl k_) ?_
  obtain ⟨v3, hv3⟩ : ∃ z : Int64, z = ((1 : Int64) <<< ((v2 - (1 : Int32)) &&& 0x3f).toInt64) := ⟨_, rfl⟩
  rw [← hv3]
  refine own_Goes.via (T' := s₁) (g' := (mkF m 20 #[.val (.int xk), .val (.long xx), .second, .val (.int xf), .val (.int v2), .val (.long v3), .second, .unset, .unset, .unset, .unset, .unset, .unset] [(.int xf)])) (fun t_ k_ => XS.iloadN X0.here hx rfl (hb hby at_19) rfl k_) ?_
  refine own_Goes.via (T' := s₁) (g' := (mkF m 21 #[.val (.int xk), .val (.long xx), .second, .val (.int xf), .val (.int v2), .val (.long v3), .second, .unset, .unset, .unset, .unset, .unset, .unset] [(.int (1 : Int32)), (.int xf)])) (fun t_ k_ => XS.iconst X0.here hx rfl (hb hby at_20) k_) ?_
  refine own_Goes.via (T' := s₁) (g' := (mkF m 22 #[.val (.int xk), .val (.long xx), .second, .val (.int xf), .val (.int v2), .val (.long v3), .second, .unset, .unset, .unset, .unset, .unset, .unset] [(.int (xf &&& (1 : Int32)))])) (fun t_ k_ => XS.iand X0.here hx rfl (hb hby at_21) rfl k_) ?_
  suffices J40_7 : ∀ (v40_5 : Int64) (hv40_5 : v40_5 = (if (xf &&& (1 : Int32)) = (0 : Int32) then ((xx &&& (9223372036854775807 : Int64)) % v3) else (v3 - (1 : Int64)))), own_Goes p.tables e below P s₁ (mkF m 40 #[.val (.int xk), .val (.long xx), .second, .val (.int xf), .val (.int v2), .val (.long v3), .second, .unset, .unset, .unset, .unset, .unset, .unset] [(.long v40_5)]) by
    by_cases hc22_4 : (xf &&& (1 : Int32)) = (0 : Int32)
    · refine own_Goes.via (T' := s₁) (g' := (mkF m 32 #[.val (.int xk), .val (.long xx), .second, .val (.int xf), .val (.int v2), .val (.long v3), .second, .unset, .unset, .unset, .unset, .unset, .unset] [])) (fun t_ k_ => XS.ifYes X0.here hx rfl (pc0 := 22) (pc' := 32) rfl (hb hby at_22) rfl ((if0 _ _).trans (teq hc22_4).1) (by decide) (by decide) k_) ?_
      refine own_Goes.via (T' := s₁) (g' := (mkF m 33 #[.val (.int xk), .val (.long xx), .second, .val (.int xf), .val (.int v2), .val (.long v3), .second, .unset, .unset, .unset, .unset, .unset, .unset] [(.long xx)])) (fun t_ k_ => XS.lloadN X0.here hx rfl (hb hby at_32) rfl k_) ?_
      refine own_Goes.via (T' := s₁) (g' := (mkF m 36 #[.val (.int xk), .val (.long xx), .second, .val (.int xf), .val (.int v2), .val (.long v3), .second, .unset, .unset, .unset, .unset, .unset, .unset] [(.long (9223372036854775807 : Int64)), (.long xx)])) (X0.ldc2Long hx hown (mvT hZ (hw _ (List.mem_of_getElem? (i := 5) rfl))) (g := (mkF m 33 #[.val (.int xk), .val (.long xx), .second, .val (.int xf), .val (.int v2), .val (.long v3), .second, .unset, .unset, .unset, .unset, .unset, .unset] [(.long xx)])) rfl (hb hby at_33)) ?_
      refine own_Goes.via (T' := s₁) (g' := (mkF m 37 #[.val (.int xk), .val (.long xx), .second, .val (.int xf), .val (.int v2), .val (.long v3), .second, .unset, .unset, .unset, .unset, .unset, .unset] [(.long (xx &&& (9223372036854775807 : Int64)))])) (fun t_ k_ => XS.land X0.here hx rfl (hb hby at_36) rfl k_) ?_
      refine own_Goes.via (T' := s₁) (g' := (mkF m 39 #[.val (.int xk), .val (.long xx), .second, .val (.int xf), .val (.int v2), .val (.long v3), .second, .unset, .unset, .unset, .unset, .unset, .unset] [(.long v3), (.long (xx &&& (9223372036854775807 : Int64)))])) (fun t_ k_ => XS.lload X0.here hx rfl (hb hby at_37) rfl k_) ?_
      have nz39_8 : v3 ≠ (0 : Int64) := own_pl0_0 hv2 hv3 hc22_4 nz7_1
      refine own_Goes.via (T' := s₁) (g' := (mkF m 40 #[.val (.int xk), .val (.long xx), .second, .val (.int xf), .val (.int v2), .val (.long v3), .second, .unset, .unset, .unset, .unset, .unset, .unset] [(.long ((xx &&& (9223372036854775807 : Int64)) % v3))])) (fun t_ k_ => XS.lrem X0.here hx rfl (hb hby at_39) rfl nz39_8 (by rw [own_lrem]; exact k_)) ?_
      exact J40_7 ((xx &&& (9223372036854775807 : Int64)) % v3) ((if_pos hc22_4)).symm
    · refine own_Goes.via (T' := s₁) (g' := (mkF m 25 #[.val (.int xk), .val (.long xx), .second, .val (.int xf), .val (.int v2), .val (.long v3), .second, .unset, .unset, .unset, .unset, .unset, .unset] [])) (fun t_ k_ => XS.ifNo X0.here hx rfl (hb hby at_22) rfl ((if0 _ _).trans (feq hc22_4).1) k_) ?_
      refine own_Goes.via (T' := s₁) (g' := (mkF m 27 #[.val (.int xk), .val (.long xx), .second, .val (.int xf), .val (.int v2), .val (.long v3), .second, .unset, .unset, .unset, .unset, .unset, .unset] [(.long v3)])) (fun t_ k_ => XS.lload X0.here hx rfl (hb hby at_25) rfl k_) ?_
      refine own_Goes.via (T' := s₁) (g' := (mkF m 28 #[.val (.int xk), .val (.long xx), .second, .val (.int xf), .val (.int v2), .val (.long v3), .second, .unset, .unset, .unset, .unset, .unset, .unset] [(.long (1 : Int64)), (.long v3)])) (fun t_ k_ => XS.lconst X0.here hx rfl (hb hby at_27) k_) ?_
      refine own_Goes.via (T' := s₁) (g' := (mkF m 29 #[.val (.int xk), .val (.long xx), .second, .val (.int xf), .val (.int v2), .val (.long v3), .second, .unset, .unset, .unset, .unset, .unset, .unset] [(.long (v3 - (1 : Int64)))])) (fun t_ k_ => XS.lsub X0.here hx rfl (hb hby at_28) rfl k_) ?_
      refine own_Goes.via (T' := s₁) (g' := (mkF m 40 #[.val (.int xk), .val (.long xx), .second, .val (.int xf), .val (.int v2), .val (.long v3), .second, .unset, .unset, .unset, .unset, .unset, .unset] [(.long (v3 - (1 : Int64)))])) (fun t_ k_ => XS.goto X0.here hx rfl (pc0 := 29) (pc' := 40) rfl (hb hby at_29) (by decide) (by decide) k_) ?_
      exact J40_7 (v3 - (1 : Int64)) ((if_neg hc22_4)).symm
  intro v40_5 hv40_5
  refine own_Goes.via (T' := s₁) (g' := (mkF m 42 #[.val (.int xk), .val (.long xx), .second, .val (.int xf), .val (.int v2), .val (.long v3), .second, .val (.long v40_5), .second, .unset, .unset, .unset, .unset] [])) (fun t_ k_ => XS.lstore X0.here hx rfl (hb hby at_40) rfl (l' := #[.val (.int xk), .val (.long xx), .second, .val (.int xf), .val (.int v2), .val (.long v3), .second, .val (.long v40_5), .second, .unset, .unset, .unset, .unset]) rfl k_) ?_
  refine own_Goes.via (T' := s₁) (g' := (mkF m 44 #[.val (.int xk), .val (.long xx), .second, .val (.int xf), .val (.int v2), .val (.long v3), .second, .val (.long v40_5), .second, .unset, .unset, .unset, .unset] [(.long v3)])) (fun t_ k_ => XS.lload X0.here hx rfl (hb hby at_42) rfl k_) ?_
  refine own_Goes.via (T' := s₁) (g' := (mkF m 46 #[.val (.int xk), .val (.long xx), .second, .val (.int xf), .val (.int v2), .val (.long v3), .second, .val (.long v40_5), .second, .unset, .unset, .unset, .unset] [(.long v40_5), (.long v3)])) (fun t_ k_ => XS.lload X0.here hx rfl (hb hby at_44) rfl k_) ?_
  refine own_Goes.via (T' := s₁) (g' := (mkF m 47 #[.val (.int xk), .val (.long xx), .second, .val (.int xf), .val (.int v2), .val (.long v3), .second, .val (.long v40_5), .second, .unset, .unset, .unset, .unset] [(.long (v3 + v40_5))])) (fun t_ k_ => XS.ladd X0.here hx rfl (hb hby at_46) rfl k_) ?_
  refine own_Goes.via (T' := s₁) (g' := (mkF m 49 #[.val (.int xk), .val (.long xx), .second, .val (.int xf), .val (.int v2), .val (.long v3), .second, .val (.long v40_5), .second, .val (.long (v3 + v40_5)), .second, .unset, .unset] [])) (fun t_ k_ => XS.lstore X0.here hx rfl (hb hby at_47) rfl (l' := #[.val (.int xk), .val (.long xx), .second, .val (.int xf), .val (.int v2), .val (.long v3), .second, .val (.long v40_5), .second, .val (.long (v3 + v40_5)), .second, .unset, .unset]) rfl k_) ?_
  obtain ⟨v9, hv9⟩ : ∃ z : Int64, z = (v3 + v40_5) := ⟨_, rfl⟩
  rw [← hv9]
  refine own_Goes.via (T' := s₁) (g' := (mkF m 51 #[.val (.int xk), .val (.long xx), .second, .val (.int xf), .val (.int v2), .val (.long v3), .second, .val (.long v40_5), .second, .val (.long v9), .second, .unset, .unset] [(.long v9)])) (fun t_ k_ => XS.lload X0.here hx rfl (hb hby at_49) rfl k_) ?_
  have cd51_11 : (0 : Int64) < v9 := own_pl0_1 hv2 hv3 hv40_5 hv9 nz7_1
  obtain ⟨_, _, ⟨T10, L10, k10, n10⟩, -, X10, ⟨Lc10, hQ10, l10, y10, z10⟩, st10⟩ := Jvm.LawKit.callS X0 hx (y := (⟨"com/example/gridwright/gridwright/games/lyne/Solver", "term", "(J)J"⟩ : MethodName)) hown (mvT hZ (hw _ (List.mem_of_getElem? (i := 1) rfl))) (mvT hZ (hw _ (List.mem_of_getElem? (i := 2) rfl))) (mvT hZ (hw _ (List.mem_of_getElem? (i := 3) rfl))) (mvT hZ (hw _ (List.mem_of_getElem? (i := 4) rfl))) (by decide) (backOf (W := 0) (rm1 l Z a0 hw [] v9 h0 n0 Z0 cd51_11) hZ (hw _ (List.mem_of_getElem? (i := 4) rfl)) (hw _ (List.mem_of_getElem? (i := 3) rfl)) (by decide) (by decide)) (g := (mkF m 51 #[.val (.int xk), .val (.long xx), .second, .val (.int xf), .val (.int v2), .val (.long v3), .second, .val (.long v40_5), .second, .val (.long v9), .second, .unset, .unset] [(.long v9)])) rfl (by rw [hml]; rfl) (argsL := [(.long v9)]) (rest := []) (lenOf pd_0_0 rfl) rfl (by show 2 * 0 + _ ≤ _; exact Nat.le_of_eq rfl) (hb hby at_51) (fun _ _ => ⟨rfl, e0, (by decide : 0 + 0 ≤ _), (by decide : 0 + 0 ≤ _)⟩)
  dsimp only [Pt.U, Pt.locs, Pt.cells, Pt.slots] at X10 l10 y10 z10 st10 hQ10
  subst l10 y10 z10
  obtain ⟨rfl, Nq10, hh10⟩ := hQ10
  have N10 := Fr.app N0 Nq10
  refine own_Goes.via (T' := T10) (g' := (mkF m 54 #[.val (.int xk), .val (.long xx), .second, .val (.int xf), .val (.int v2), .val (.long v3), .second, .val (.long v40_5), .second, .val (.long v9), .second, .unset, .unset] [(.long (own_term v9))])) (st10) ?_
  obtain ⟨v12, hv12⟩ : ∃ z : Int64, z = (own_term v9) := ⟨_, rfl⟩
  rw [← hv12]
  refine own_Goes.via (T' := T10) (g' := (mkF m 56 #[.val (.int xk), .val (.long xx), .second, .val (.int xf), .val (.int v2), .val (.long v3), .second, .val (.long v40_5), .second, .val (.long v9), .second, .val (.long v12), .second] [])) (fun t_ k_ => XS.lstore X10.here hx rfl (hb hby at_54) rfl (l' := #[.val (.int xk), .val (.long xx), .second, .val (.int xf), .val (.int v2), .val (.long v3), .second, .val (.long v40_5), .second, .val (.long v9), .second, .val (.long v12), .second]) rfl k_) ?_
  refine own_Goes.via (T' := T10) (g' := (mkF m 58 #[.val (.int xk), .val (.long xx), .second, .val (.int xf), .val (.int v2), .val (.long v3), .second, .val (.long v40_5), .second, .val (.long v9), .second, .val (.long v12), .second] [(.long v40_5)])) (fun t_ k_ => XS.lload X10.here hx rfl (hb hby at_56) rfl k_) ?_
  refine own_Goes.via (T' := T10) (g' := (mkF m 60 #[.val (.int xk), .val (.long xx), .second, .val (.int xf), .val (.int v2), .val (.long v3), .second, .val (.long v40_5), .second, .val (.long v9), .second, .val (.long v12), .second] [(.long v3), (.long v40_5)])) (fun t_ k_ => XS.lload X10.here hx rfl (hb hby at_58) rfl k_) ?_
  refine own_Goes.via (T' := T10) (g' := (mkF m 61 #[.val (.int xk), .val (.long xx), .second, .val (.int xf), .val (.int v2), .val (.long v3), .second, .val (.long v40_5), .second, .val (.long v9), .second, .val (.long v12), .second] [(.long (1 : Int64)), (.long v3), (.long v40_5)])) (fun t_ k_ => XS.lconst X10.here hx rfl (hb hby at_60) k_) ?_
  refine own_Goes.via (T' := T10) (g' := (mkF m 62 #[.val (.int xk), .val (.long xx), .second, .val (.int xf), .val (.int v2), .val (.long v3), .second, .val (.long v40_5), .second, .val (.long v9), .second, .val (.long v12), .second] [(.long (v3 - (1 : Int64))), (.long v40_5)])) (fun t_ k_ => XS.lsub X10.here hx rfl (hb hby at_61) rfl k_) ?_
  refine own_Goes.via (T' := T10) (g' := (mkF m 63 #[.val (.int xk), .val (.long xx), .second, .val (.int xf), .val (.int v2), .val (.long v3), .second, .val (.long v40_5), .second, .val (.long v9), .second, .val (.long v12), .second] [(.int (lcmpW v40_5 (v3 - (1 : Int64))))])) (fun t_ k_ => XS.lcmp X10.here hx rfl (hb hby at_62) rfl k_) ?_
  by_cases hc63_13 : v40_5 = (v3 - (1 : Int64))
  · refine own_Goes.via (T' := T10) (g' := (mkF m 66 #[.val (.int xk), .val (.long xx), .second, .val (.int xf), .val (.int v2), .val (.long v3), .second, .val (.long v40_5), .second, .val (.long v9), .second, .val (.long v12), .second] [])) (fun t_ k_ => XS.ifNo X10.here hx rfl (hb hby at_63) rfl (own_eqT hc63_13).2 k_) ?_
    refine own_Goes.via (T' := T10) (g' := (mkF m 68 #[.val (.int xk), .val (.long xx), .second, .val (.int xf), .val (.int v2), .val (.long v3), .second, .val (.long v40_5), .second, .val (.long v9), .second, .val (.long v12), .second] [(.long v12)])) (fun t_ k_ => XS.lload X10.here hx rfl (hb hby at_66) rfl k_) ?_
    refine own_Goes.via (T' := T10) (g' := (mkF m 70 #[.val (.int xk), .val (.long xx), .second, .val (.int xf), .val (.int v2), .val (.long v3), .second, .val (.long v40_5), .second, .val (.long v9), .second, .val (.long v12), .second] [(.long v3), (.long v12)])) (fun t_ k_ => XS.lload X10.here hx rfl (hb hby at_68) rfl k_) ?_
    refine own_Goes.via (T' := T10) (g' := (mkF m 71 #[.val (.int xk), .val (.long xx), .second, .val (.int xf), .val (.int v2), .val (.long v3), .second, .val (.long v40_5), .second, .val (.long v9), .second, .val (.long v12), .second] [(.int (lcmpW v12 v3))])) (fun t_ k_ => XS.lcmp X10.here hx rfl (hb hby at_70) rfl k_) ?_
    suffices J79_17 : ∀ (v79_15 : Int32) (hv79_15 : v79_15 = (if v12 = v3 then (1 : Int32) else (0 : Int32))), own_Goes p.tables e below P T10 (mkF m 79 #[.val (.int xk), .val (.long xx), .second, .val (.int xf), .val (.int v2), .val (.long v3), .second, .val (.long v40_5), .second, .val (.long v9), .second, .val (.long v12), .second] [(.int v79_15)]) by
      by_cases hc71_14 : v12 = v3
      · refine own_Goes.via (T' := T10) (g' := (mkF m 74 #[.val (.int xk), .val (.long xx), .second, .val (.int xf), .val (.int v2), .val (.long v3), .second, .val (.long v40_5), .second, .val (.long v9), .second, .val (.long v12), .second] [])) (fun t_ k_ => XS.ifNo X10.here hx rfl (hb hby at_71) rfl (own_eqT hc71_14).2 k_) ?_
        refine own_Goes.via (T' := T10) (g' := (mkF m 75 #[.val (.int xk), .val (.long xx), .second, .val (.int xf), .val (.int v2), .val (.long v3), .second, .val (.long v40_5), .second, .val (.long v9), .second, .val (.long v12), .second] [(.int (1 : Int32))])) (fun t_ k_ => XS.iconst X10.here hx rfl (hb hby at_74) k_) ?_
        refine own_Goes.via (T' := T10) (g' := (mkF m 79 #[.val (.int xk), .val (.long xx), .second, .val (.int xf), .val (.int v2), .val (.long v3), .second, .val (.long v40_5), .second, .val (.long v9), .second, .val (.long v12), .second] [(.int (1 : Int32))])) (fun t_ k_ => XS.goto X10.here hx rfl (pc0 := 75) (pc' := 79) rfl (hb hby at_75) (by decide) (by decide) k_) ?_
        exact J79_17 (1 : Int32) ((if_pos hc71_14)).symm
      · refine own_Goes.via (T' := T10) (g' := (mkF m 78 #[.val (.int xk), .val (.long xx), .second, .val (.int xf), .val (.int v2), .val (.long v3), .second, .val (.long v40_5), .second, .val (.long v9), .second, .val (.long v12), .second] [])) (fun t_ k_ => XS.ifYes X10.here hx rfl (pc0 := 71) (pc' := 78) rfl (hb hby at_71) rfl (own_eqF hc71_14).2 (by decide) (by decide) k_) ?_
        refine own_Goes.via (T' := T10) (g' := (mkF m 79 #[.val (.int xk), .val (.long xx), .second, .val (.int xf), .val (.int v2), .val (.long v3), .second, .val (.long v40_5), .second, .val (.long v9), .second, .val (.long v12), .second] [(.int (0 : Int32))])) (fun t_ k_ => XS.iconst X10.here hx rfl (hb hby at_78) k_) ?_
        exact J79_17 (0 : Int32) ((if_neg hc71_14)).symm
    intro v79_15 hv79_15
    have hfin : v79_15 = 1 := own_pl0_2 hv2 hv3 hv40_5 hv9 hv12 hv79_15 hc63_13 nz7_1 cd51_11
    rw [hfin]
    obtain ⟨fs, hr, hrun, hended, hW, hsame⟩ := X10.leave (v := some (.int 1)) (fun h => by rw [Bd.returns] at h; cases h)
    refine own_Goes.fin (retN X10 hx (t := .boolean) Bd.returns (by simp) (hb hby at_79) hr) hrun hended ?_
    subst hPd
    refine ⟨_, _, rfl, ?_, ⟨_, rfl⟩, hW, hsame.mono (by decide) (by decide)⟩
    show Q0 Z xk xx xf h0 n0 _ T10.heap _
    rw [hh10]
    exact ⟨rfl, N10⟩
  · refine own_Goes.via (T' := T10) (g' := (mkF m 80 #[.val (.int xk), .val (.long xx), .second, .val (.int xf), .val (.int v2), .val (.long v3), .second, .val (.long v40_5), .second, .val (.long v9), .second, .val (.long v12), .second] [])) (fun t_ k_ => XS.ifYes X10.here hx rfl (pc0 := 63) (pc' := 80) rfl (hb hby at_63) rfl (own_eqF hc63_13).2 (by decide) (by decide) k_) ?_
    refine own_Goes.via (T' := T10) (g' := (mkF m 82 #[.val (.int xk), .val (.long xx), .second, .val (.int xf), .val (.int v2), .val (.long v3), .second, .val (.long v40_5), .second, .val (.long v9), .second, .val (.long v12), .second] [(.long v12)])) (fun t_ k_ => XS.lload X10.here hx rfl (hb hby at_80) rfl k_) ?_
    refine own_Goes.via (T' := T10) (g' := (mkF m 84 #[.val (.int xk), .val (.long xx), .second, .val (.int xf), .val (.int v2), .val (.long v3), .second, .val (.long v40_5), .second, .val (.long v9), .second, .val (.long v12), .second] [(.long v9), (.long v12)])) (fun t_ k_ => XS.lload X10.here hx rfl (hb hby at_82) rfl k_) ?_
    refine own_Goes.via (T' := T10) (g' := (mkF m 86 #[.val (.int xk), .val (.long xx), .second, .val (.int xf), .val (.int v2), .val (.long v3), .second, .val (.long v40_5), .second, .val (.long v9), .second, .val (.long v12), .second] [(.long v3), (.long v9), (.long v12)])) (fun t_ k_ => XS.lload X10.here hx rfl (hb hby at_84) rfl k_) ?_
    refine own_Goes.via (T' := T10) (g' := (mkF m 87 #[.val (.int xk), .val (.long xx), .second, .val (.int xf), .val (.int v2), .val (.long v3), .second, .val (.long v40_5), .second, .val (.long v9), .second, .val (.long v12), .second] [(.long (1 : Int64)), (.long v3), (.long v9), (.long v12)])) (fun t_ k_ => XS.lconst X10.here hx rfl (hb hby at_86) k_) ?_
    refine own_Goes.via (T' := T10) (g' := (mkF m 88 #[.val (.int xk), .val (.long xx), .second, .val (.int xf), .val (.int v2), .val (.long v3), .second, .val (.long v40_5), .second, .val (.long v9), .second, .val (.long v12), .second] [(.long (v3 - (1 : Int64))), (.long v9), (.long v12)])) (fun t_ k_ => XS.lsub X10.here hx rfl (hb hby at_87) rfl k_) ?_
    refine own_Goes.via (T' := T10) (g' := (mkF m 89 #[.val (.int xk), .val (.long xx), .second, .val (.int xf), .val (.int v2), .val (.long v3), .second, .val (.long v40_5), .second, .val (.long v9), .second, .val (.long v12), .second] [(.long (v9 - (v3 - (1 : Int64)))), (.long v12)])) (fun t_ k_ => XS.lsub X10.here hx rfl (hb hby at_88) rfl k_) ?_
    have cd89_19 : (0 : Int64) < (v9 - (v3 - (1 : Int64))) := own_pl0_3 hv2 hv3 hv40_5 hv9 hv12 hc63_13 nz7_1 cd51_11
    obtain ⟨_, _, ⟨T18, L18, k18, n18⟩, -, X18, ⟨Lc18, hQ18, l18, y18, z18⟩, st18⟩ := Jvm.LawKit.callS X10 hx (y := (⟨"com/example/gridwright/gridwright/games/lyne/Solver", "term", "(J)J"⟩ : MethodName)) hown (mvT hZ (hw _ (List.mem_of_getElem? (i := 1) rfl))) (mvT hZ (hw _ (List.mem_of_getElem? (i := 2) rfl))) (mvT hZ (hw _ (List.mem_of_getElem? (i := 3) rfl))) (mvT hZ (hw _ (List.mem_of_getElem? (i := 4) rfl))) (by decide) (backOf (W := 2) (rm1 l Z a0 hw [] (v9 - (v3 - (1 : Int64))) h0 n0 Z0 cd89_19) hZ (hw _ (List.mem_of_getElem? (i := 4) rfl)) (hw _ (List.mem_of_getElem? (i := 3) rfl)) (by decide) (by decide)) (g := (mkF m 89 #[.val (.int xk), .val (.long xx), .second, .val (.int xf), .val (.int v2), .val (.long v3), .second, .val (.long v40_5), .second, .val (.long v9), .second, .val (.long v12), .second] [(.long (v9 - (v3 - (1 : Int64)))), (.long v12)])) rfl (by rw [hml]; rfl) (argsL := [(.long (v9 - (v3 - (1 : Int64))))]) (rest := [(.long v12)]) (lenOf pd_0_0 rfl) rfl (by show 2 * 0 + _ ≤ _; exact Nat.le_of_eq rfl) (hb hby at_89) (fun _ _ => ⟨rfl, hh10, (by decide : 0 + 0 ≤ _), (by decide : 0 + 0 ≤ _)⟩)
    dsimp only [Pt.U, Pt.locs, Pt.cells, Pt.slots] at X18 l18 y18 z18 st18 hQ18
    subst l18 y18 z18
    obtain ⟨rfl, Nq18, hh18⟩ := hQ18
    have N18 := Fr.app N10 Nq18
    refine own_Goes.via (T' := T18) (g' := (mkF m 92 #[.val (.int xk), .val (.long xx), .second, .val (.int xf), .val (.int v2), .val (.long v3), .second, .val (.long v40_5), .second, .val (.long v9), .second, .val (.long v12), .second] [(.long (own_term (v9 - (v3 - (1 : Int64))))), (.long v12)])) (st18) ?_
    obtain ⟨v20, hv20⟩ : ∃ z : Int64, z = (own_term (v9 - (v3 - (1 : Int64)))) := ⟨_, rfl⟩
    rw [← hv20]
    refine own_Goes.via (T' := T18) (g' := (mkF m 93 #[.val (.int xk), .val (.long xx), .second, .val (.int xf), .val (.int v2), .val (.long v3), .second, .val (.long v40_5), .second, .val (.long v9), .second, .val (.long v12), .second] [(.int (lcmpW v12 v20))])) (fun t_ k_ => XS.lcmp X18.here hx rfl (hb hby at_92) rfl k_) ?_
    suffices J101_24 : ∀ (v101_22 : Int32) (hv101_22 : v101_22 = (if v12 = v20 then (1 : Int32) else (0 : Int32))), own_Goes p.tables e below P T18 (mkF m 101 #[.val (.int xk), .val (.long xx), .second, .val (.int xf), .val (.int v2), .val (.long v3), .second, .val (.long v40_5), .second, .val (.long v9), .second, .val (.long v12), .second] [(.int v101_22)]) by
      by_cases hc93_21 : v12 = v20
      · refine own_Goes.via (T' := T18) (g' := (mkF m 96 #[.val (.int xk), .val (.long xx), .second, .val (.int xf), .val (.int v2), .val (.long v3), .second, .val (.long v40_5), .second, .val (.long v9), .second, .val (.long v12), .second] [])) (fun t_ k_ => XS.ifNo X18.here hx rfl (hb hby at_93) rfl (own_eqT hc93_21).2 k_) ?_
        refine own_Goes.via (T' := T18) (g' := (mkF m 97 #[.val (.int xk), .val (.long xx), .second, .val (.int xf), .val (.int v2), .val (.long v3), .second, .val (.long v40_5), .second, .val (.long v9), .second, .val (.long v12), .second] [(.int (1 : Int32))])) (fun t_ k_ => XS.iconst X18.here hx rfl (hb hby at_96) k_) ?_
        refine own_Goes.via (T' := T18) (g' := (mkF m 101 #[.val (.int xk), .val (.long xx), .second, .val (.int xf), .val (.int v2), .val (.long v3), .second, .val (.long v40_5), .second, .val (.long v9), .second, .val (.long v12), .second] [(.int (1 : Int32))])) (fun t_ k_ => XS.goto X18.here hx rfl (pc0 := 97) (pc' := 101) rfl (hb hby at_97) (by decide) (by decide) k_) ?_
        exact J101_24 (1 : Int32) ((if_pos hc93_21)).symm
      · refine own_Goes.via (T' := T18) (g' := (mkF m 100 #[.val (.int xk), .val (.long xx), .second, .val (.int xf), .val (.int v2), .val (.long v3), .second, .val (.long v40_5), .second, .val (.long v9), .second, .val (.long v12), .second] [])) (fun t_ k_ => XS.ifYes X18.here hx rfl (pc0 := 93) (pc' := 100) rfl (hb hby at_93) rfl (own_eqF hc93_21).2 (by decide) (by decide) k_) ?_
        refine own_Goes.via (T' := T18) (g' := (mkF m 101 #[.val (.int xk), .val (.long xx), .second, .val (.int xf), .val (.int v2), .val (.long v3), .second, .val (.long v40_5), .second, .val (.long v9), .second, .val (.long v12), .second] [(.int (0 : Int32))])) (fun t_ k_ => XS.iconst X18.here hx rfl (hb hby at_100) k_) ?_
        exact J101_24 (0 : Int32) ((if_neg hc93_21)).symm
    intro v101_22 hv101_22
    have hfin : v101_22 = 1 := own_pl0_4 hv2 hv3 hv40_5 hv9 hv12 hv20 hv101_22 hc63_13 nz7_1 cd51_11 cd89_19
    rw [hfin]
    obtain ⟨fs, hr, hrun, hended, hW, hsame⟩ := X18.leave (v := some (.int 1)) (fun h => by rw [Bd.returns] at h; cases h)
    refine own_Goes.fin (retN X18 hx (t := .boolean) Bd.returns (by simp) (hb hby at_101) hr) hrun hended ?_
    subst hPd
    refine ⟨_, _, rfl, ?_, ⟨_, rfl⟩, hW, hsame.mono (by decide) (by decide)⟩
    show Q0 Z xk xx xf h0 n0 _ T18.heap _
    rw [hh18]
    exact ⟨rfl, N18⟩
set_option maxRecDepth 65536 in
set_option maxHeartbeats 40000000 in
theorem comes_1 {Post : Tables → Env → Array Value → State → Outcome → State → Prop} (hpost : ∀ tb e args s v u, (limb_1_1.after args s (.returned v) u = true ∧ limb_1_2.after args s (.returned v) u = true ∧ True) → FrameEnd s (.returned v) u (Jvm.fieldLocs frame_1_writes args s ++ Jvm.arrayLocs frame_1_arrays args s ++ Jvm.staticLocs frame_1_statics s) 0 0 → Post tb e args s (.returned v) u) :
    ArmFor flags0 classFile x code maxLocals ret World_1 tables_1 room_1 Calls_1 rest_1 Pre_1 Post := by
  intro l hfl _ _ p e ha hc hk s m args below hf hA hF happ hP
  obtain ⟨hcalls, hrest, hpre⟩ := hP
  obtain ⟨-, -, -, hnamed, -, -, -, hat⟩ := (Spec.applies_iff hf).mp happ
  obtain ⟨hg, hn⟩ := and_e (Cond.before_iff.mp (show (Jvm.Cond.and given_1 narrow_1).before args s = true from hpre))
  obtain ⟨g1, g2⟩ := and_e hg
  obtain ⟨g3, g4⟩ := and_e g2
  obtain ⟨g5, g6⟩ := and_e g4
  obtain ⟨w0, w1, w2, rfl⟩ : ∃ w0 w1 w2 : Value, args = #[w0, w1, w2] := by
    have hs : args.size = 3 := by simpa [Cond.value, given_1] using g1
    obtain ⟨L⟩ := args
    match L, hs with
    | [w0, w1, w2], _ => exact ⟨w0, w1, w2, rfl⟩
  have hw := fun d (hd : d ∈ tables_1) => atoms_spec (ws := Jvm.Cond.code x code maxLocals ret :: tables_1) hat d (List.mem_cons_of_mem _ hd)
  have hfit : Fit s := fun {y c} hc i hi => by
    obtain ⟨ha, rfl⟩ := Array.getElem?_eq_some_iff.mp hc
    have q := List.all_eq_true.mp ((Array.all_eq_true_iff_forall_mem.mp hF) _ (Array.getElem_mem ha)) i (List.mem_range.mpr hi)
    simpa [Array.getElem?_eq_getElem hi] using q
  obtain ⟨i0, ei0⟩ := is_v g3
  obtain rfl : w0 = (.int i0) := Option.some.inj ei0
  obtain ⟨i1, ei1⟩ := isL_v g5
  obtain rfl : w1 = (.long i1) := Option.some.inj ei1
  obtain ⟨i2, ei2⟩ := is_v g6
  obtain rfl : w2 = (.int i2) := Option.some.inj ei2
  obtain ⟨n, o, h1, h2, h3, _, L, rfl, ⟨rfl, N⟩, hq⟩ := rm0 l s _ hw tables_1 i0 i1 i2  s.heap s.heap.size (Nat.le_refl _)  p e ha hc hk s m _ below hf ((Spec.applies_iff_loose hf).mp happ).1 ⟨rfl, State.Warmed39.refl s, rfl⟩ trivial
  refine ⟨n, _, h1, h2, h3, hpost _ _ _ _ _ _ ⟨Cond.after_iff.mpr rfl, Cond.after_iff.mpr (eq_i res_at (Term.int_eval (1)) rfl), trivial⟩ ⟨hq.1, hq.2.1, (hq.2.2.sift fun y hy => Or.inr (N y hy)).mono (by decide) (by decide)⟩⟩
theorem main_1_1 : Claimed_1_1 := comes_1 fun _ _ _ _ _ _ h hF => ⟨h.1, hF⟩
theorem main_1_2 : Claimed_1_2 := comes_1 fun _ _ _ _ _ _ h hF => ⟨h.2.1, hF⟩
end Jvm.Pilot.@@N@@
namespace Jvm.Pilot.@@N@@
open Jvm Jvm.ClassFile Sem Op Lib Jvm.Free Jvm.Stand Jvm.Pilot.@@N@@.Jvm.D
/-! MADE BY PROGRAM (witnessworld.py) out of the Statement's table words and the real class files: 9 classes; the members and pool entries that the words name. The judged class is class 1, her method 1. -/
namespace start1
open Jvm.ClassFile
def u (s : String) : CpInfo := .utf8 (stringToUtf16 s)
/-- a pool by its gaps: so many unusable entries, then the entry; so many at the end -/
def gap : Nat → List CpInfo → List CpInfo
  | 0, r => r
  | n + 1, r => .unusable :: gap n r
def poolList (es : List (Nat × CpInfo)) (last : Nat) : List CpInfo := es.foldr (fun e r => gap e.1 (e.2 :: r)) (gap last [])
def pool (es : List (Nat × CpInfo)) (last : Nat) : Array CpInfo := ⟨poolList es last⟩
def fileOf (pool : Array CpInfo) (this : Nat) (attrs : Array Attribute := #[]) (ms : Array MethodInfo := #[]) (fl : Nat := 33) (sup : Nat := 0) (ifs : Array Nat := #[]) (fds : Array FieldInfo := #[]) : ClassFile where
  minorVersion := 0
  majorVersion := 65
  constantPool := pool
  accessFlags := fl
  thisClass := this
  superClass := sup
  interfaces := ifs
  fields := fds
  methods := ms
  attributes := attrs
def plain (name : String) (sup : Option ClassId) : Class where
  name := name
  kind := .ordinary
  loader := none
  accessFlags := 33
  super := sup
  interfaces := #[]
  cf := none
  fields := #[]
  methods := #[]
  instanceTypes := #[]
  staticTypes := #[]
  resolved := #[]
  callSites := []
  init := .initialized
  statics := none
  mirror := none

def pool0 : Array CpInfo := pool [(5, u "<init>"), (0, u "()V"), (1, .class_ 10), (1, u "java/lang/Object")] 113

def k0m0 : Method := { name := "<init>", desc := "()V", sig := { parameters := [], returnType := none }, accessFlags := 1, code := none }
/-- java/lang/Object -/
def k0 : Class := { plain "java/lang/Object" none with
  accessFlags := 33
  interfaces := #[]
  cf := some (fileOf pool0 8 #[] #[{ accessFlags := 1, nameIndex := 5, descriptorIndex := 6, attributes := #[] }] 33 0 #[] #[])
  fields := #[]
  methods := #[k0m0]
  instanceTypes := #[]
  staticTypes := #[]
  resolved := Array.replicate 124 none
  statics := none }

def pool1 : Array CpInfo := pool [(2, .class_ 4), (1, u "java/lang/Object"), (0, u "<init>"), (0, u "()V"), (0, .integer 2147483647), (2, .long 9223372036854775807), (1, .methodref 13 14), (0, .class_ 15), (0, .nameAndType 16 17), (0, u "com/example/gridwright/gridwright/games/lyne/Solver"), (0, u "term"), (0, u "(J)J"), (0, .class_ 19), (0, u "com/example/gridwright/gridwright/games/lyne/SolverTermPinLaw"), (2, u "law"), (0, u "(IJI)Z")] 3

def k1m0 : Method := { name := "<init>", desc := "()V", sig := { parameters := [], returnType := none }, accessFlags := 1, code := none }
def k1c1 : Code := { maxStack := 8, maxLocals := 13, code := code, exceptionTable := #[], attributes := #[] }
def k1m1 : Method := { name := "law", desc := "(IJI)Z", sig := { parameters := [.int, .long, .int], returnType := some .boolean }, accessFlags := 9, code := some k1c1 }
/-- com/example/gridwright/gridwright/games/lyne/SolverTermPinLaw -/
def k1 : Class := { plain "com/example/gridwright/gridwright/games/lyne/SolverTermPinLaw" (some 0) with
  accessFlags := 49
  interfaces := #[]
  cf := some (fileOf pool1 18 #[] #[{ accessFlags := 1, nameIndex := 5, descriptorIndex := 6, attributes := #[] }, { accessFlags := 9, nameIndex := 22, descriptorIndex := 23, attributes := #[] }] 49 2 #[] #[])
  fields := #[]
  methods := #[k1m0, k1m1]
  instanceTypes := #[]
  staticTypes := #[]
  resolved := Array.replicate 27 none
  statics := none }

def pool2 : Array CpInfo := pool [(2, .class_ 4), (1, u "java/lang/Object"), (8, .class_ 15), (1, u "com/example/gridwright/gridwright/games/lyne/Solver"), (0, u "drawing"), (0, u "Lcom/example/gridwright/gridwright/games/lyne/Drawing;"), (7, u "edges"), (0, u "Lcom/example/gridwright/gridwright/games/lyne/EdgeNeeds;"), (7, u "reach"), (0, u "Lcom/example/gridwright/gridwright/games/lyne/Reach;"), (7, u "lookahead"), (0, u "Lcom/example/gridwright/gridwright/games/lyne/Lookahead;"), (13, u "failed"), (0, u "Lcom/example/gridwright/gridwright/search/FailedStates;"), (5, u "faults"), (0, u "[J"), (2, u "run"), (0, u "J"), (4, u "term"), (0, u "(J)J"), (2, u "pointsLeft"), (140, u "FAILED_STATES_BYTES"), (1, u "RUN_POINTS")] 11

def k2c0 : Code := { maxStack := 6, maxLocals := 5, code := prog_37_method_5_code, exceptionTable := #[], attributes := #[] }
def k2m0 : Method := { name := "term", desc := "(J)J", sig := { parameters := [.long], returnType := some .long }, accessFlags := 8, code := some k2c0 }
/-- com/example/gridwright/gridwright/games/lyne/Solver -/
def k2 : Class := { plain "com/example/gridwright/gridwright/games/lyne/Solver" (some 0) with
  accessFlags := 48
  interfaces := #[]
  cf := some (fileOf pool2 13 #[] #[{ accessFlags := 8, nameIndex := 75, descriptorIndex := 76, attributes := #[] }] 48 2 #[] #[{ accessFlags := 26, nameIndex := 220, descriptorIndex := 70, attributes := #[] }, { accessFlags := 26, nameIndex := 222, descriptorIndex := 70, attributes := #[] }, { accessFlags := 18, nameIndex := 16, descriptorIndex := 17, attributes := #[] }, { accessFlags := 18, nameIndex := 25, descriptorIndex := 26, attributes := #[] }, { accessFlags := 18, nameIndex := 34, descriptorIndex := 35, attributes := #[] }, { accessFlags := 18, nameIndex := 43, descriptorIndex := 44, attributes := #[] }, { accessFlags := 18, nameIndex := 58, descriptorIndex := 59, attributes := #[] }, { accessFlags := 18, nameIndex := 65, descriptorIndex := 66, attributes := #[] }, { accessFlags := 2, nameIndex := 69, descriptorIndex := 70, attributes := #[] }, { accessFlags := 2, nameIndex := 79, descriptorIndex := 70, attributes := #[] }])
  fields := #[{ name := "FAILED_STATES_BYTES", type := .long, accessFlags := 26, slot := 0, constantValue := 0 }, { name := "RUN_POINTS", type := .long, accessFlags := 26, slot := 1, constantValue := 0 }, { name := "drawing", type := (.object "com/example/gridwright/gridwright/games/lyne/Drawing"), accessFlags := 18, slot := 0, constantValue := 0 }, { name := "edges", type := (.object "com/example/gridwright/gridwright/games/lyne/EdgeNeeds"), accessFlags := 18, slot := 1, constantValue := 0 }, { name := "reach", type := (.object "com/example/gridwright/gridwright/games/lyne/Reach"), accessFlags := 18, slot := 2, constantValue := 0 }, { name := "lookahead", type := (.object "com/example/gridwright/gridwright/games/lyne/Lookahead"), accessFlags := 18, slot := 3, constantValue := 0 }, { name := "failed", type := (.object "com/example/gridwright/gridwright/search/FailedStates"), accessFlags := 18, slot := 4, constantValue := 0 }, { name := "faults", type := (.array .long), accessFlags := 18, slot := 5, constantValue := 0 }, { name := "run", type := .long, accessFlags := 2, slot := 6, constantValue := 0 }, { name := "pointsLeft", type := .long, accessFlags := 2, slot := 7, constantValue := 0 }]
  methods := #[k2m0]
  instanceTypes := #[(.object "com/example/gridwright/gridwright/games/lyne/Drawing"), (.object "com/example/gridwright/gridwright/games/lyne/EdgeNeeds"), (.object "com/example/gridwright/gridwright/games/lyne/Reach"), (.object "com/example/gridwright/gridwright/games/lyne/Lookahead"), (.object "com/example/gridwright/gridwright/search/FailedStates"), (.array .long), .long, .long]
  staticTypes := #[.long, .long]
  resolved := Array.replicate 234 none
  statics := none }

def pool3 : Array CpInfo := pool [(1, u "java/lang/Cloneable"), (0, .class_ 1), (0, u "java/lang/Object"), (0, .class_ 3)] 3

/-- java/lang/Cloneable -/
def k3 : Class := { plain "java/lang/Cloneable" (some 0) with
  accessFlags := 1537
  interfaces := #[]
  cf := some (fileOf pool3 2 #[] #[] 1537 4 #[] #[])
  fields := #[]
  methods := #[]
  instanceTypes := #[]
  staticTypes := #[]
  resolved := Array.replicate 8 none
  statics := none }

def pool4 : Array CpInfo := pool [(1, u "java/io/Serializable"), (0, .class_ 1), (0, u "java/lang/Object"), (0, .class_ 3)] 3

/-- java/io/Serializable -/
def k4 : Class := { plain "java/io/Serializable" (some 0) with
  accessFlags := 1537
  interfaces := #[]
  cf := some (fileOf pool4 2 #[] #[] 1537 4 #[] #[])
  fields := #[]
  methods := #[]
  instanceTypes := #[]
  staticTypes := #[]
  resolved := Array.replicate 8 none
  statics := none }

/-- the primitive byte -/
def k5 : Class := { plain "byte" none with kind := .primitive 'B', accessFlags := 0x411 }
/-- [B -/
def k6 : Class := { plain "[B" (some 0) with kind := .array 5 .byte, interfaces := #[3, 4], accessFlags := 1041 }

/-- the primitive int -/
def k7 : Class := { plain "int" none with kind := .primitive 'I', accessFlags := 0x411 }
/-- [I -/
def k8 : Class := { plain "[I" (some 0) with kind := .array 7 .int, interfaces := #[3, 4], accessFlags := 1041 }

def heap : Heap := #[]
def classes : Array Class := #[k0, k1, k2, k3, k4, k5, k6, k7, k8]
def interned : List (Array UInt16 × Addr) := []
def slotsUsed : Nat := 0
def theMethod : MethodId := ⟨1, 1⟩
def args0 : Array Value := #[.int 5, .long 7, .int 9]
def aboutOver (below : List Frame) : State where
  vm := { classes := classes, interned := interned.toArray }
  heap := heap
  slotsUsed := slotsUsed
  threads := #[{ frames := .invoking theMethod args0 :: below }]
def below0 : List Frame := [.native { method := ⟨0, 0⟩, args := #[] }]
def about1 : State := aboutOver below0
def p0 : Program := .bare "" "" ""
def e0 : Env := launch0.env 0 0 0
theorem w_frames : about1.frames = Frame.invoking theMethod args0 :: below0 := rfl
set_option maxRecDepth 65536 in
theorem w_args : argsFit about1.vm theMethod args0 = true := by decide +kernel
set_option maxRecDepth 65536 in
theorem w_heap : heapFits about1 = true := by decide +kernel
set_option maxRecDepth 65536 in
theorem w_runnable : about1.curStatus? = some .runnable := by decide +kernel
set_option maxRecDepth 65536 in
theorem w_alone : about1.alone = true := by decide +kernel
set_option maxRecDepth 65536 in
theorem w_named : about1.methodNamed? x = some theMethod := by decide +kernel
set_option maxRecDepth 65536 in
theorem w_hears : about1.hears theMethod below0 = true := by decide +kernel
set_option maxRecDepth 65536 in
theorem w_ripe : about1.ripe theMethod args0 below0 = true := by decide +kernel
theorem w_running : about1.status = .running := rfl
set_option maxRecDepth 65536 in
theorem w_room : about1.hasRoom e0.platform room_1 = true :=
  launch0.hasRoom_least _ room_1 (by decide +kernel) (by decide +kernel) (by decide +kernel) (by decide +kernel) (by decide +kernel) (by decide +kernel)
theorem allAtoms_all (ts : List Jvm.Cond) (a : Array Jvm.Value) (st : Jvm.State) : (allAtoms ts).before a st = ts.all (fun c => c.before a st) := by
  induction ts with
  | nil => rfl
  | cons c t ih =>
    show (Jvm.Cond.and c (allAtoms t)).before a st = _
    rw [Jvm.Cond.before_and, ih, List.all_cons]
def words1 : List Jvm.Cond := Jvm.Cond.code x code maxLocals ret :: tables_1
/-- a 'code' word, met by the world's own term for the bytes: nothing is compared byte by byte -/
theorem code_word {y : MethodName} {bytes : ByteArray} {mx : Nat} {rt : Option FieldType} {a : Array Value} {s : State} {m : MethodId} {meth : Method} {c : Code} (h1 : s.methodNamed? y = some m) (h2 : s.vm.method? m = some meth) (h3 : meth.code = some c) (h4 : c.code = bytes)
    (h5 : (c.maxLocals == mx && c.exceptionTable.isEmpty && decide (c.maxStack ≤ mostOperands) && decide (meth.sig.returnType = rt) && !meth.locks && decide (parseMethodDescriptor y.desc = some meth.sig)) = true) : (Jvm.Cond.code y bytes mx rt).before a s = true := by
  simp only [Bool.and_eq_true, beq_iff_eq, Bool.not_eq_true', decide_eq_true_eq] at h5
  obtain ⟨⟨⟨⟨⟨g1, g2⟩, g3⟩, g4⟩, g5⟩, g6⟩ := h5
  simp [Cond.before, Cond.holds, Cond.value, h1, h2, h3, h4, g1, g2, g3, g4, g5, g6]
def isCode : Jvm.Cond → Bool
  | .code _ _ _ _ => true
  | _ => false
theorem all_split {L : List Jvm.Cond} {P : Jvm.Cond → Bool} (h1 : L.all (fun c => isCode c || P c) = true) (h2 : ∀ c ∈ L.filter isCode, P c = true) : L.all P = true := by
  refine List.all_eq_true.mpr fun c hc => ?_
  have h := List.all_eq_true.mp h1 c hc
  rcases Bool.eq_false_or_eq_true (isCode c) with hi | hi
  · exact h2 c (List.mem_filter.mpr ⟨hc, hi⟩)
  · simpa [hi] using h
set_option maxRecDepth 65536 in
theorem w_c0 : (Jvm.Cond.code x code maxLocals ret).before args0 about1 = true := code_word (m := ⟨1, 1⟩) (meth := k1m1) (c := k1c1) (by decide +kernel) rfl rfl rfl (by decide +kernel)
set_option maxRecDepth 65536 in
theorem w_c1 : (Jvm.Cond.code ({ cls := "com/example/gridwright/gridwright/games/lyne/Solver", name := "term", desc := "(J)J" } : Jvm.MethodName) prog_37_method_5_code (5 : Nat) (Option.some Jvm.ClassFile.FieldType.long)).before args0 about1 = true := code_word (m := ⟨2, 0⟩) (meth := k2m0) (c := k2c0) (by decide +kernel) rfl rfl rfl (by decide +kernel)
def codes1 : List Jvm.Cond := [Jvm.Cond.code x code maxLocals ret, Jvm.Cond.code ({ cls := "com/example/gridwright/gridwright/games/lyne/Solver", name := "term", desc := "(J)J" } : Jvm.MethodName) prog_37_method_5_code (5 : Nat) (Option.some Jvm.ClassFile.FieldType.long)]
set_option maxRecDepth 65536 in
theorem codes_eq : words1.filter isCode = codes1 := rfl
theorem w_codes : ∀ c ∈ words1.filter isCode, c.before args0 about1 = true := by
  rw [codes_eq]
  intro c hc
  simp only [codes1, List.mem_cons, List.not_mem_nil, or_false] at hc
  rcases hc with rfl | rfl
  · exact w_c0
  · exact w_c1
set_option maxRecDepth 65536 in
theorem w_t1 : words1.all (fun c => isCode c || c.before args0 about1) = true := by decide +kernel
theorem w_tables : (allAtoms (Jvm.Cond.code x code maxLocals ret :: tables_1)).before args0 about1 = true := by
  rw [allAtoms_all]
  show words1.all (fun c => c.before args0 about1) = true
  refine all_split ?_ w_codes
  rw [w_t1]
set_option maxRecDepth 65536 in
theorem w_case : (Jvm.Cond.and given_1 narrow_1).before args0 about1 = true := by decide +kernel
theorem w_applies : (headSpec (Jvm.Cond.code x code maxLocals ret :: tables_1) room_1).applies x e0.platform about1 = true :=
  (Spec.applies_iff w_frames).mpr ⟨w_running, w_runnable, w_alone, w_named, w_hears, w_ripe, w_room, w_tables⟩
theorem atStart : AtStart classFile x code maxLocals ret World_1 tables_1 room_1 Calls_1 rest_1 Pre_1 launch0 p0 e0 about1 theMethod args0 below0 :=
  ⟨lists_1, trivial, launch0.admits_env _ _ _, launch0.least_env, fairChoices_fair.cas, fairChoices_fair.clock, w_frames, w_args, w_heap, w_applies, trivial, trivial, w_case⟩
end start1
theorem witness_1 : WitnessClaimed_1 := ⟨start1.p0, start1.e0, start1.about1, start1.theMethod, start1.args0, start1.below0, start1.atStart⟩
end Jvm.Pilot.@@N@@
