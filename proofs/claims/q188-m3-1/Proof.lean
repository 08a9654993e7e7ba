import JvmDerived
import JvmDerived.Pilot.@@N@@Statement
import JvmDerived.Pilot.@@N@@Code
set_option linter.unusedVariables false
set_option linter.unusedSimpArgs false
@@BLOCK:NumsL.lean.txt@@
namespace Jvm.Pilot.@@N@@
open Jvm Jvm.ClassFile Sem Op Lib Jvm.Free Jvm.Stand Jvm.LawKit Jvm.RoadKit Bundle Jvm.Pilot.@@N@@.Jvm.D
/-- from the state T with the frame g the run comes to an end that P speaks of -/
def own_Goes (tb : Tables) (e : Env) (below : List Frame) (P : Outcome → State → Prop) (T : State) (g : JFrame) : Prop :=
  ∃ s₂ o, Steps tb e below (T.setTop g) s₂ ∧ s₂.status = .running ∧ Ended s₂ below o ∧ P o s₂
theorem own_Goes.via {tb : Tables} {e : Env} {below : List Frame} {P : Outcome → State → Prop} {T T' : State} {g g' : JFrame} (h : ∀ t, Steps tb e below (T'.setTop g') t → Steps tb e below (T.setTop g) t) (k : own_Goes tb e below P T' g') : own_Goes tb e below P T g := by
  obtain ⟨s₂, o, a, b⟩ := k
  exact ⟨s₂, o, h _ a, b⟩
theorem own_Goes.fin {tb : Tables} {e : Env} {below : List Frame} {P : Outcome → State → Prop} {T s₂ : State} {g : JFrame} {o : Outcome} (h1 : Steps tb e below (T.setTop g) s₂) (h2 : s₂.status = .running) (h3 : Ended s₂ below o) (h4 : P o s₂) : own_Goes tb e below P T g := ⟨s₂, o, h1, h2, h3, h4⟩
theorem own_ltT {x y : Int64} (h : x < y) : ifCond.holds .lt (lcmpW x y) = true ∧ ifCond.holds .ge (lcmpW x y) = false := by
  have q : lcmpW x y < 0 := by rw [lcW]; exact (lc_lt x y).mpr h
  exact ⟨(if0 _ _).trans (tlt q).1, (if0 _ _).trans (tlt q).2.1⟩
theorem own_ltF {x y : Int64} (h : ¬ x < y) : ifCond.holds .lt (lcmpW x y) = false ∧ ifCond.holds .ge (lcmpW x y) = true := by
  have q : ¬ lcmpW x y < 0 := by rw [lcW]; exact fun z => h ((lc_lt x y).mp z)
  exact ⟨(if0 _ _).trans (flt q).1, (if0 _ _).trans (flt q).2.1⟩
theorem own_gtT {x y : Int64} (h : y < x) : ifCond.holds .gt (lcmpW x y) = true ∧ ifCond.holds .le (lcmpW x y) = false := by
  have q : 0 < lcmpW x y := by rw [lcW]; exact (lc_gt x y).mpr h
  exact ⟨(if0 _ _).trans (tlt q).2.2.1, (if0 _ _).trans (tlt q).2.2.2⟩
theorem own_gtF {x y : Int64} (h : ¬ y < x) : ifCond.holds .gt (lcmpW x y) = false ∧ ifCond.holds .le (lcmpW x y) = true := by
  have q : ¬ 0 < lcmpW x y := by rw [lcW]; exact fun z => h ((lc_gt x y).mp z)
  exact ⟨(if0 _ _).trans (flt q).2.2.1, (if0 _ _).trans (flt q).2.2.2⟩
theorem own_eqT {x y : Int64} (h : x = y) : ifCond.holds .eq (lcmpW x y) = true ∧ ifCond.holds .ne (lcmpW x y) = false := by
  have q : lcmpW x y = 0 := by rw [lcW]; exact (lc_eq x y).mpr h
  exact ⟨(if0 _ _).trans (teq q).1, (if0 _ _).trans (teq q).2⟩
theorem own_eqF {x y : Int64} (h : ¬ x = y) : ifCond.holds .eq (lcmpW x y) = false ∧ ifCond.holds .ne (lcmpW x y) = true := by
  have q : ¬ lcmpW x y = 0 := by rw [lcW]; exact fun z => h ((lc_eq x y).mp z)
  exact ⟨(if0 _ _).trans (feq q).1, (if0 _ _).trans (feq q).2⟩
theorem own_lrem (x y : Int64) : x - (x / y) * y = x % y := Int64.toInt_inj.mp (by rw [Jvm.Kit.i64_rem, Int64.toInt_mod])
theorem own_neg {x : Int32} (h : 0 ≤ x.toInt) : ¬ x < 0 := by
  rw [Int32.lt_iff_toInt_lt]
  have z : (0 : Int32).toInt = 0 := rfl
  omega
theorem own_cap {x : Int32} {n : Nat} (h : x.toInt ≤ n) : x.toNatClampNeg ≤ n := by
  show x.toInt.toNat ≤ n
  omega
theorem own_m31 (x : Int32) : 0 ≤ (x &&& (31 : Int32)).toInt ∧ (x &&& (31 : Int32)).toInt ≤ 31 := by
  have m := Jvm.Kit.i32_mask x (31 : Int32) (k := 5) (by decide) (by decide)
  rw [m]; omega
theorem own_m3 (x : Int32) : 0 ≤ (x &&& (3 : Int32)).toInt ∧ (x &&& (3 : Int32)).toInt ≤ 3 := by
  have m := Jvm.Kit.i32_mask x (3 : Int32) (k := 2) (by decide) (by decide)
  rw [m]; omega
theorem own_selP {Z : State} {a0 : Array Value} {C : String} {y z : MethodName} (hz : (Cond.selects C z z).before a0 Z = true) (e : z.cls = y.cls) (hp : (Cond.privateMethod y).before a0 Z = true) (hi : (Cond.instanceMethod y).before a0 Z = true) (hy : y.cls ≠ "java/lang/invoke/MethodHandle" ∧ y.cls ≠ "java/lang/invoke/VarHandle") : (Cond.selects y.cls y y).before a0 Z = true := by
  obtain ⟨c2, r2, m2, -, -, q3, -, kP, hkP, hkPi⟩ := Cond.selects_spec hz
  exact selects_self_of_private (by rw [← e]; exact findClass_of_methodNamed q3) hkP hkPi (Cond.privateMethod_at hp) hi hy
def own_up (B : Nat → Int32) (i : Nat) (x : Int32) : Nat → Int32 := fun t => if t = i then x else B t
def own_sh (B : Nat → Int32) (k : Nat) : Nat → Int32 := fun i => B (k + i)
/-- an array of ints (bytes, ..) by a function of the place -/
def own_Gi (Z : State) (h : Heap) (a : Addr) (ty : FieldType) (n : Int32) (B : Nat → Int32) : Prop := ∃ c : Cell, Arr Z h a c ty ∧ c.slots.size = n.toNatClampNeg ∧ ¬ n < 0 ∧ ∀ i, i < c.slots.size → c.slots[i]? = some (.int (B i)) ∧ fits ty (.int (B i)) = true
/-- an array of whose components nothing is known but the type -/
def own_Un (Z : State) (h : Heap) (a : Addr) (ty : FieldType) (n : Int32) : Prop := ∃ c : Cell, Arr Z h a c ty ∧ c.slots.size = n.toNatClampNeg ∧ ¬ n < 0 ∧ ∀ i, i < c.slots.size → ∃ v, c.slots[i]? = some v ∧ fits ty v = true
def own_cp (sp dp nn zs zd : Int32) : Prop := ¬ sp < 0 ∧ ¬ dp < 0 ∧ ¬ nn < 0 ∧ sp.toNatClampNeg + nn.toNatClampNeg ≤ zs.toNatClampNeg ∧ dp.toNatClampNeg + nn.toNatClampNeg ≤ zd.toNatClampNeg
def own_zero : Nat → Int32 := fun _ => 0
section OwnArrays
variable {Z : State} {h h' : Heap} {a b : Addr} {n n' j x : Int32} {B B' : Nat → Int32} {ty : FieldType} {sl : Nat} {v dv : Value} {ws : List Addr} {k : ClassId} {vs : List Value}
theorem own_Gi.lt (F : own_Gi Z h a ty n B) : a < h.size := by obtain ⟨c, A, -⟩ := F; exact A.lt
theorem own_Gi.ext (F : own_Gi Z h a ty n B) (E : Ext h h') : own_Gi Z h' a ty n B := by obtain ⟨c, A, r⟩ := F; exact ⟨c, A.ext E, r⟩
theorem own_Gi.other (F : own_Gi Z h b ty n B) (W : Wr h h' a sl v) (q : b ≠ a) : own_Gi Z h' b ty n B := by obtain ⟨c, A, r⟩ := F; exact ⟨c, A.other W q, r⟩
theorem own_Gi.keep (F : own_Gi Z h a ty n B) (K : Keep h h' ws) (q : a ∉ ws) : own_Gi Z h' a ty n B := by obtain ⟨c, A, r⟩ := F; exact ⟨c, ⟨K.2.1 a c A.1 q, A.2⟩, r⟩
theorem own_Gi.of (F : Arv Z h a k ty n vs dv) (q : ∀ i, i < n.toNatClampNeg → vs.getD i dv = .int (B i)) : own_Gi Z h a ty n B := by
  obtain ⟨c, A, -, S, N, H, G⟩ := F
  exact ⟨c, A, S, N, fun i hi => by rw [← q i (S ▸ hi)]; exact ⟨H i hi, G i hi⟩⟩
theorem own_Gi.congr (F : own_Gi Z h a ty n B) (q : ∀ i, i < n.toNatClampNeg → B i = B' i) : own_Gi Z h a ty n B' := by
  obtain ⟨c, A, S, N, H⟩ := F
  exact ⟨c, A, S, N, fun i hi => by rw [← q i (S ▸ hi)]; exact H i hi⟩
theorem own_Gi.cast (F : own_Gi Z h a ty n B) (e : n = n') (q : ∀ i, i < n.toNatClampNeg → B i = B' i) : own_Gi Z h a ty n' B' := e ▸ F.congr q
theorem own_Gi.set (F : own_Gi Z h a ty n B) (W : Wr h h' a sl (.int x)) (hv : fits ty (.int x) = true) : own_Gi Z h' a ty n (own_up B sl x) := by
  obtain ⟨c, A, S, N, H⟩ := F
  refine ⟨_, A.same W, by rw [sz_set]; exact S, N, fun i hi => ?_⟩
  rw [sz_set] at hi
  by_cases u : sl = i
  · subst u; rw [own_up, if_pos rfl]; exact ⟨by simp [Cell.setSlot, hi], hv⟩
  · have := H i hi; rw [own_up, if_neg (fun z => u z.symm)]
    simp only [Cell.setSlot]; rw [Array.getElem?_setIfInBounds_ne u]; exact this
theorem own_Gi.rd (F : own_Gi Z h a ty n B) (q : ¬ j < 0 ∧ j < n) : ∃ c : Cell, Arr Z h a c ty ∧ c.slots.size = n.toNatClampNeg ∧ c.slots[j.toNatClampNeg]? = some (.int (B j.toNatClampNeg)) := by
  obtain ⟨c, A, S, N, H⟩ := F
  exact ⟨c, A, S, (H _ (Nat.lt_of_not_le fun y => inb_of S q (Or.inr y))).1⟩
theorem own_Gi.arv (F : own_Gi Z h a ty n B) : ∃ (k : ClassId) (vs : List Value), Arv Z h a k ty n vs (.int 0) ∧ vs.length = n.toNatClampNeg ∧ ∀ i, i < n.toNatClampNeg → vs.getD i (.int 0) = .int (B i) := by
  obtain ⟨c, A, S, N, H⟩ := F
  have q : ∀ i, i < c.slots.size → c.slots.toList.getD i (.int 0) = .int (B i) := fun i hi => by
    rw [List.getD_eq_getElem?_getD, Array.getElem?_toList, (H i hi).1]; rfl
  exact ⟨c.cls, c.slots.toList, ⟨c, A, rfl, S, N, fun i hi => by rw [q i hi]; exact (H i hi).1, fun i hi => by rw [q i hi]; exact (H i hi).2⟩, by simpa using S, fun i hi => q i (S ▸ hi)⟩
theorem own_Gi.new (A : Arr Z h a (newA k ty n) ty) (q : ¬ n < 0) (e : defaultValue ty = .int 0 := by rfl) : own_Gi Z h a ty n own_zero := own_Gi.of (Arv.new A q) fun i _ => e
/-- a whole new array filled by one copy -/
theorem own_Gi.copied {sp dp nn : Int32} {vs vd us : List Value} {dd : Value} {n1 : Int32} (F : Arv Z h b k ty n (vd.take dp.toNatClampNeg ++ us ++ vd.drop (dp.toNatClampNeg + nn.toNatClampNeg)) dd) (hus : us = (List.range nn.toNatClampNeg).map fun i => vs.getD (sp.toNatClampNeg + i) (.int 0)) (e : dp.toNatClampNeg = 0) (e1 : nn.toNatClampNeg = n.toNatClampNeg) (g : ∀ i, i < n1.toNatClampNeg → vs.getD i (.int 0) = .int (B i)) (e2 : sp.toNatClampNeg + nn.toNatClampNeg ≤ n1.toNatClampNeg) : own_Gi Z h b ty n (own_sh B sp.toNatClampNeg) := by
  refine own_Gi.of F fun i hi => ?_
  have l : i < ((List.range nn.toNatClampNeg).map fun i => vs.getD (sp.toNatClampNeg + i) (.int 0)).length := by simp; omega
  rw [e, hus, List.take_zero, List.nil_append, List.getD_eq_getElem?_getD, List.getElem?_append_left l, List.getElem?_map, List.getElem?_range (by omega)]
  show vs.getD (sp.toNatClampNeg + i) (.int 0) = _
  rw [g _ (by omega)]; rfl
theorem own_Un.lt (F : own_Un Z h a ty n) : a < h.size := by obtain ⟨c, A, -⟩ := F; exact A.lt
theorem own_Un.ext (F : own_Un Z h a ty n) (E : Ext h h') : own_Un Z h' a ty n := by obtain ⟨c, A, r⟩ := F; exact ⟨c, A.ext E, r⟩
theorem own_Un.other (F : own_Un Z h b ty n) (W : Wr h h' a sl v) (q : b ≠ a) : own_Un Z h' b ty n := by obtain ⟨c, A, r⟩ := F; exact ⟨c, A.other W q, r⟩
theorem own_Un.keep (F : own_Un Z h a ty n) (K : Keep h h' ws) (q : a ∉ ws) : own_Un Z h' a ty n := by obtain ⟨c, A, r⟩ := F; exact ⟨c, ⟨K.2.1 a c A.1 q, A.2⟩, r⟩
theorem own_Un.of (F : Arv Z h a k ty n vs dv) : own_Un Z h a ty n := by
  obtain ⟨c, A, -, S, N, H, G⟩ := F
  exact ⟨c, A, S, N, fun i hi => ⟨_, H i hi, G i hi⟩⟩
theorem own_Un.arv (F : own_Un Z h a ty n) : ∃ (k : ClassId) (vs : List Value), Arv Z h a k ty n vs (.int 0) ∧ vs.length = n.toNatClampNeg := by
  obtain ⟨c, A, S, N, H⟩ := F
  refine ⟨c.cls, c.slots.toList, ⟨c, A, rfl, S, N, fun i hi => ?_, fun i hi => ?_⟩, by simpa using S⟩
  · obtain ⟨v, e, -⟩ := H i hi
    rw [List.getD_eq_getElem?_getD, Array.getElem?_toList, e]; rfl
  · obtain ⟨v, e, f⟩ := H i hi
    rw [List.getD_eq_getElem?_getD, Array.getElem?_toList, e]; exact f
theorem own_Un.set (F : own_Un Z h a ty n) (W : Wr h h' a sl v) (hv : fits ty v = true) : own_Un Z h' a ty n := by
  obtain ⟨c, A, S, N, H⟩ := F
  refine ⟨_, A.same W, by rw [sz_set]; exact S, N, fun i hi => ?_⟩
  rw [sz_set] at hi
  by_cases u : sl = i
  · subst u; exact ⟨v, by simp [Cell.setSlot, hi], hv⟩
  · obtain ⟨w, e, f⟩ := H i hi
    exact ⟨w, by simp only [Cell.setSlot]; rw [Array.getElem?_setIfInBounds_ne u, e], f⟩
theorem own_Un.rdB (F : own_Un Z h a .byte n) (q : ¬ j < 0 ∧ j < n) : ∃ (c : Cell) (x : Int32), Arr Z h a c .byte ∧ c.slots.size = n.toNatClampNeg ∧ c.slots[j.toNatClampNeg]? = some (.int x) := by
  obtain ⟨c, A, S, N, H⟩ := F
  obtain ⟨v, e, f⟩ := H _ (Nat.lt_of_not_le fun y => inb_of S q (Or.inr y))
  obtain ⟨x, rfl⟩ := fit_I f (by simp)
  exact ⟨c, x, A, S, e⟩
theorem own_Un.rdJ (F : own_Un Z h a .long n) (q : ¬ j < 0 ∧ j < n) : ∃ (c : Cell) (x : Int64), Arr Z h a c .long ∧ c.slots.size = n.toNatClampNeg ∧ c.slots[j.toNatClampNeg]? = some (.long x) := by
  obtain ⟨c, A, S, N, H⟩ := F
  obtain ⟨v, e, f⟩ := H _ (Nat.lt_of_not_le fun y => inb_of S q (Or.inr y))
  cases v <;> simp [fits] at f
  exact ⟨c, _, A, S, e⟩
end OwnArrays
def own_dl (f t d i : Int32) : Int32 := if f < i then (if t < i then 0 else d) else 0
def own_mv (B : Nat → Int32) (f t d : Int32) : Nat → Int32 := fun i => if i = 0 then B i else B i + own_dl f t d (Nat.toInt32 i)
def own_mvp (B : Nat → Int32) (f t d x : Int32) : Nat → Int32 := fun i => if i < x.toNatClampNeg then own_mv B f t d i else B i
def own_tr (B : Nat → Int32) (f t : Int32) : Nat → Int32 := if f < t then own_mv B f t (-1) else own_mv B t f 1
def own_pl (x n : Int32) : Int32 := (x &&& (2147483647 : Int32)) % n
theorem own_z : (0 : Int32).toInt = 0 := rfl
theorem own_lt {x y : Int32} : x < y ↔ x.toInt < y.toInt := Int32.lt_iff_toInt_lt
theorem own_pos {x : Int32} (h : (0 : Int32) < x) : ¬ x < 0 := by
  rw [own_lt, own_z] at *; omega
theorem own_inc {x n : Int32} (h : x < n) : (x + 1).toInt = x.toInt + 1 := by
  rw [own_lt] at h
  have e : (1 : Int32).toInt = 1 := rfl
  have := Int32.toInt_lt n
  have := Int32.le_toInt x
  rw [Jvm.Kit.i32_add (by omega) (by omega), e]
theorem own_cl {x : Int32} {i : Nat} : i < x.toNatClampNeg ↔ (i : Int) < x.toInt := by
  show i < x.toInt.toNat ↔ _
  omega
theorem own_mvp_0 (B : Nat → Int32) (f t d : Int32) (N : Nat) : ∀ i, i < N → B i = own_mvp B f t d 1 i := fun i _ => by
  unfold own_mvp
  have e : (1 : Int32).toNatClampNeg = 1 := rfl
  rw [e]
  split
  · rename_i h
    unfold own_mv
    rw [if_pos (by omega)]
  · rfl
theorem own_mvp_step {B : Nat → Int32} {f t d x v y : Int32} {N : Nat} (h0 : (0 : Int32) < x) (e : v.toInt = x.toInt + 1) (hd : y = own_dl f t d x) : ∀ i, i < N → own_up (own_mvp B f t d x) x.toNatClampNeg (own_mvp B f t d x x.toNatClampNeg + y) i = own_mvp B f t d v i := fun i _ => by
  have h1 : 0 < x.toInt := by rw [own_lt, own_z] at h0; exact h0
  have a : (x.toNatClampNeg : Int) = x.toInt := by show ((x.toInt.toNat : Nat) : Int) = _; omega
  unfold own_up
  by_cases q : i = x.toNatClampNeg
  · subst q
    have b : (x.toNatClampNeg).toInt32 = x := (back32 (own_pos h0)).1
    rw [if_pos rfl]
    unfold own_mvp
    rw [if_neg (Nat.lt_irrefl _), if_pos (own_cl.mpr (by omega))]
    unfold own_mv
    rw [if_neg (by omega), b, hd]
  · rw [if_neg q]
    unfold own_mvp
    by_cases c : i < x.toNatClampNeg
    · rw [if_pos c, if_pos (own_cl.mpr (by omega))]
    · rw [if_neg c, if_neg (fun z => by have := own_cl.mp z; omega)]
theorem own_mvp_end {B : Nat → Int32} {f t d x n : Int32} (h : ¬ x < n) : ∀ i, i < n.toNatClampNeg → own_mvp B f t d x i = own_mv B f t d i := fun i hi => by
  unfold own_mvp
  rw [own_lt] at h
  have := own_cl.mp hi
  rw [if_pos (own_cl.mpr (by omega))]
theorem own_cpI {v s : Int32} (h : 0 ≤ v.toInt ∧ v.toInt ≤ s.toInt ∧ s.toInt ≤ 3) : own_cp v (v + (1 : Int32)) (s - v) 104 104 := by
  obtain ⟨h1, h2, h3⟩ := h
  have e : (1 : Int32).toInt = 1 := rfl
  have c : (104 : Int32).toNatClampNeg = 104 := rfl
  have a : (v + 1).toInt = v.toInt + 1 := by rw [Jvm.Kit.i32_add (by omega) (by omega), e]
  have b : (s - v).toInt = s.toInt - v.toInt := Jvm.Kit.i32_sub (by omega) (by omega)
  unfold own_cp
  rw [own_lt, own_lt, own_lt, own_z, a, b, c]
  refine ⟨by omega, by omega, by omega, ?_, ?_⟩
  · show v.toInt.toNat + (s - v).toInt.toNat ≤ 104
    rw [b]; omega
  · show (v + 1).toInt.toNat + (s - v).toInt.toNat ≤ 104
    rw [a, b]; omega
theorem own_cpA {v s : Int32} (h1 : 0 ≤ v.toInt) (h2 : v.toInt + 1 ≤ s.toInt) (h3 : s.toInt ≤ 3) : own_cp (v + (1 : Int32)) v ((s - v) - (1 : Int32)) 104 104 := by
  have e : (1 : Int32).toInt = 1 := rfl
  have c : (104 : Int32).toNatClampNeg = 104 := rfl
  have a : (v + 1).toInt = v.toInt + 1 := by rw [Jvm.Kit.i32_add (by omega) (by omega), e]
  have b : (s - v).toInt = s.toInt - v.toInt := Jvm.Kit.i32_sub (by omega) (by omega)
  have d : (s - v - 1).toInt = s.toInt - v.toInt - 1 := by rw [Jvm.Kit.i32_sub (by omega) (by omega), b, e]
  unfold own_cp
  rw [own_lt, own_lt, own_lt, own_z, a, d, c]
  refine ⟨by omega, by omega, by omega, ?_, ?_⟩
  · show (v + 1).toInt.toNat + (s - v - 1).toInt.toNat ≤ 104
    rw [a, d]; omega
  · show v.toInt.toNat + (s - v - 1).toInt.toNat ≤ 104
    rw [d]; omega
theorem own_cpR {v l s : Int32} (h1 : 0 ≤ v.toInt) (h2 : 0 ≤ l.toInt) (h3 : v.toInt + l.toInt ≤ s.toInt) (h4 : s.toInt ≤ 3) : own_cp (v + l) v ((s - v) - l) 104 104 := by
  have c : (104 : Int32).toNatClampNeg = 104 := rfl
  have a : (v + l).toInt = v.toInt + l.toInt := Jvm.Kit.i32_add (by omega) (by omega)
  have b : (s - v).toInt = s.toInt - v.toInt := Jvm.Kit.i32_sub (by omega) (by omega)
  have d : (s - v - l).toInt = s.toInt - v.toInt - l.toInt := by rw [Jvm.Kit.i32_sub (by omega) (by omega), b]
  unfold own_cp
  rw [own_lt, own_lt, own_lt, own_z, a, d, c]
  refine ⟨by omega, by omega, by omega, ?_, ?_⟩
  · show (v + l).toInt.toNat + (s - v - l).toInt.toNat ≤ 104
    rw [a, d]; omega
  · show v.toInt.toNat + (s - v - l).toInt.toNat ≤ 104
    rw [d]; omega
theorem own_in {v : Int32} {n : Int32} (h1 : 0 ≤ v.toInt) (h2 : v.toInt < n.toInt) : ¬ v < 0 ∧ v < n := by
  rw [own_lt, own_lt, own_z]; omega
theorem own_in' {v : Int32} {n : Int32} (h : ¬ v < 0 ∧ v < n) : 0 ≤ v.toInt ∧ v.toInt < n.toInt := by
  rw [own_lt, own_lt, own_z] at h; omega
theorem own_104 : (104 : Int32).toInt = 104 := rfl
theorem own_pred {n : Int32} (h : (0 : Int32) < n) : ¬ (n - (1 : Int32)) < 0 ∧ (n - (1 : Int32)) < n := by
  rw [own_lt, own_z] at h
  have e : (1 : Int32).toInt = 1 := rfl
  have := Int32.toInt_lt n
  have a : (n - 1).toInt = n.toInt - 1 := by rw [Jvm.Kit.i32_sub (by omega) (by omega), e]
  exact own_in (by omega) (by omega)
/-- what the row and the counts hold: place t begins at B t and holds C t cards; tot in all -/
def own_Inv (n : Int32) (B C : Nat → Int32) (tot : Int) : Prop := (1 ≤ n.toInt ∧ n.toInt ≤ 4) ∧ (0 ≤ tot ∧ tot ≤ 3) ∧ (B 0).toInt = 0 ∧ (∀ t, t < n.toNatClampNeg → 0 ≤ (C t).toInt ∧ (B (t + 1)).toInt = (B t).toInt + (C t).toInt) ∧ (B n.toNatClampNeg).toInt = tot
theorem own_N {n : Int32} (h : 1 ≤ n.toInt) : (n.toNatClampNeg : Int) = n.toInt := by show ((n.toInt.toNat : Nat) : Int) = _; omega
section OwnInv
variable {n : Int32} {B C : Nat → Int32} {tot : Int}
theorem own_Inv.mono (I : own_Inv n B C tot) (s : Nat) : ∀ d, s + d ≤ n.toNatClampNeg → (B s).toInt ≤ (B (s + d)).toInt
  | 0, _ => Int.le_refl _
  | d + 1, h => by
    have q := I.mono s d (by omega)
    have r := I.2.2.2.1 (s + d) (by omega)
    rw [show s + (d + 1) = s + d + 1 from rfl]
    omega
theorem own_Inv.le (I : own_Inv n B C tot) {s t : Nat} (h1 : s ≤ t) (h2 : t ≤ n.toNatClampNeg) : (B s).toInt ≤ (B t).toInt := by
  have q := I.mono s (t - s) (by omega)
  rwa [show s + (t - s) = t by omega] at q
theorem own_Inv.bd (I : own_Inv n B C tot) {t : Nat} (h : t ≤ n.toNatClampNeg) : 0 ≤ (B t).toInt ∧ (B t).toInt ≤ tot := by
  have a := I.le (Nat.zero_le t) h
  have b := I.le h (Nat.le_refl _)
  have c := I.2.2.1
  have d := I.2.2.2.2
  omega
theorem own_Inv.cb (I : own_Inv n B C tot) {t : Nat} (h : t < n.toNatClampNeg) : 0 ≤ (C t).toInt ∧ (B (t + 1)).toInt = (B t).toInt + (C t).toInt ∧ (C t).toInt ≤ tot := by
  obtain ⟨a, b⟩ := I.2.2.2.1 t h
  have c := I.bd (t := t) (by omega)
  have d := I.bd (t := t + 1) (by omega)
  omega
theorem own_pl_in (x : Int32) (h : 1 ≤ n.toInt) : 0 ≤ (own_pl x n).toInt ∧ (own_pl x n).toInt < n.toInt := by
  have m := Jvm.Kit.i32_mask x (2147483647 : Int32) (k := 31) (by decide) (by decide)
  have q : (own_pl x n).toInt = (x &&& (2147483647 : Int32)).toInt % n.toInt := Jvm.Kit.i32_rem_nonneg (by omega)
  rw [q]
  exact ⟨Int.emod_nonneg _ (by omega), Int.emod_lt_of_pos _ (by omega)⟩
theorem own_rem {x y : Int32} (h : 0 ≤ x.toInt) (hy : 1 ≤ y.toInt) : 0 ≤ (x % y).toInt ∧ (x % y).toInt < y.toInt := by
  rw [Jvm.Kit.i32_rem_nonneg h]
  exact ⟨Int.emod_nonneg _ (by omega), Int.emod_lt_of_pos _ (by omega)⟩
theorem own_and7 (x : Int32) : 0 ≤ (x &&& (7 : Int32)).toInt := by
  rw [Jvm.Kit.i32_mask x (7 : Int32) (k := 3) (by decide) (by decide)]; omega
theorem own_andM (x : Int32) : 0 ≤ (x &&& (2147483647 : Int32)).toInt := by
  rw [Jvm.Kit.i32_mask x (2147483647 : Int32) (k := 31) (by decide) (by decide)]; omega
theorem own_ne0 {x : Int32} (h : 1 ≤ x.toInt) : x ≠ (0 : Int32) := fun q => by
  rw [q, own_z] at h; omega
def own_D (f t d : Int32) (i : Nat) : Int := if f.toInt < i ∧ (i : Int) ≤ t.toInt then d.toInt else 0
theorem own_mv_at {f t d : Int32} {i : Nat} (hi : i ≤ 5) (hf : 0 ≤ f.toInt) (hb : -10 ≤ (B i).toInt ∧ (B i).toInt ≤ 10) (hd : -10 ≤ d.toInt ∧ d.toInt ≤ 10) : (own_mv B f t d i).toInt = (B i).toInt + own_D f t d i := by
  have e : (Nat.toInt32 i).toInt = i := len_toInt (by omega)
  unfold own_mv own_D
  by_cases c : i = 0
  · rw [if_pos c, if_neg (by omega)]; omega
  · rw [if_neg c]
    have w : (own_dl f t d (Nat.toInt32 i)).toInt = if f.toInt < i ∧ (i : Int) ≤ t.toInt then d.toInt else 0 := by
      unfold own_dl
      by_cases g : f < Nat.toInt32 i
      · rw [if_pos g]
        rw [own_lt, e] at g
        by_cases k : t < Nat.toInt32 i
        · rw [if_pos k]
          rw [own_lt, e] at k
          rw [if_neg (by omega)]; rfl
        · rw [if_neg k]
          rw [own_lt, e] at k
          rw [if_pos (by omega)]
      · rw [if_neg g]
        rw [own_lt, e] at g
        rw [if_neg (by omega)]; rfl
    rw [Jvm.Kit.i32_add, w]
    all_goals rw [w]; split <;> omega
theorem own_inv0 (h : 1 ≤ n.toInt ∧ n.toInt ≤ 4) : own_Inv n own_zero own_zero (0 : Int) := ⟨h, by omega, rfl, fun t _ => ⟨by show (0 : Int) ≤ 0; omega, rfl⟩, rfl⟩
theorem own_n1 (h : n.toInt ≤ 4) (h1 : 1 ≤ n.toInt) : (n + (1 : Int32)).toInt = n.toInt + 1 := by
  have e : (1 : Int32).toInt = 1 := rfl
  rw [Jvm.Kit.i32_add (by omega) (by omega), e]
theorem own_Inv.at (I : own_Inv n B C tot) {p : Int32} (h : 0 ≤ p.toInt ∧ p.toInt < n.toInt) : 0 ≤ (C p.toNatClampNeg).toInt ∧ (B (p.toNatClampNeg + 1)).toInt = (B p.toNatClampNeg).toInt + (C p.toNatClampNeg).toInt ∧ (C p.toNatClampNeg).toInt ≤ tot ∧ 0 ≤ (B p.toNatClampNeg).toInt ∧ (B (p.toNatClampNeg + 1)).toInt ≤ tot := by
  have N := own_N I.1.1
  have P : (p.toNatClampNeg : Int) = p.toInt := by show ((p.toInt.toNat : Nat) : Int) = _; omega
  have c := I.cb (t := p.toNatClampNeg) (by omega)
  have a := I.bd (t := p.toNatClampNeg) (by omega)
  have b := I.bd (t := p.toNatClampNeg + 1) (by omega)
  omega
theorem own_Inv.ins (I : own_Inv n B C tot) (ht : tot ≤ 2) {p : Int32} (h : 0 ≤ p.toInt ∧ p.toInt < n.toInt) : own_Inv n (own_mv B p (n + (1 : Int32)) (1 : Int32)) (own_up C p.toNatClampNeg (C p.toNatClampNeg + (1 : Int32))) (tot + 1) := by
  have N := own_N I.1.1
  have P : (p.toNatClampNeg : Int) = p.toInt := by show ((p.toInt.toNat : Nat) : Int) = _; omega
  have e : (1 : Int32).toInt = 1 := rfl
  have en := own_n1 I.1.2 I.1.1
  have hn := I.1
  have ht0 := I.2.1
  have mv : ∀ i, i ≤ n.toNatClampNeg → (own_mv B p (n + (1 : Int32)) (1 : Int32) i).toInt = (B i).toInt + own_D p (n + (1 : Int32)) 1 i := fun i hi => by
    have b := I.bd hi
    exact own_mv_at (by omega) h.1 (by omega) (by omega)
  have D : ∀ i : Nat, i ≤ n.toNatClampNeg → own_D p (n + (1 : Int32)) 1 i = if p.toInt < i then 1 else 0 := fun i hi => by
    unfold own_D
    rw [en, e]
    by_cases q : p.toInt < i
    · rw [if_pos (by omega), if_pos q]
    · rw [if_neg (by omega), if_neg q]
  refine ⟨I.1, by omega, ?_, fun t ht => ?_, ?_⟩
  · rw [mv 0 (Nat.zero_le _), D 0 (Nat.zero_le _), if_neg (by omega), I.2.2.1]; rfl
  · have c := I.cb ht
    rw [mv t (by omega), mv (t + 1) (by omega), D t (by omega), D (t + 1) (by omega)]
    unfold own_up
    by_cases q : t = p.toNatClampNeg
    · rw [if_pos q, ← q]
      have a : (C t + 1).toInt = (C t).toInt + 1 := by rw [Jvm.Kit.i32_add (by omega) (by omega), e]
      rw [a, if_neg (c := p.toInt < (t : Int)) (by omega), if_pos (c := p.toInt < ((t + 1 : Nat) : Int)) (by omega)]
      omega
    · rw [if_neg q]
      by_cases g : p.toInt < t
      · rw [if_pos g, if_pos (by omega)]; omega
      · rw [if_neg g, if_neg (by omega)]; omega
  · rw [mv _ (Nat.le_refl _), D _ (Nat.le_refl _), if_pos (by omega), I.2.2.2.2]
theorem own_Inv.tr (I : own_Inv n B C tot) {p q : Int32} (hp : 0 ≤ p.toInt ∧ p.toInt < n.toInt) (hq : 0 ≤ q.toInt ∧ q.toInt < n.toInt) (hne : p.toInt ≠ q.toInt) (hc : 1 ≤ (C p.toNatClampNeg).toInt) :
    own_Inv n (own_tr B p q) (own_up (own_up C p.toNatClampNeg (C p.toNatClampNeg - (1 : Int32))) q.toNatClampNeg (own_up C p.toNatClampNeg (C p.toNatClampNeg - (1 : Int32)) q.toNatClampNeg + (1 : Int32))) tot := by
  have N := own_N I.1.1
  have P : (p.toNatClampNeg : Int) = p.toInt := by show ((p.toInt.toNat : Nat) : Int) = _; omega
  have Q : (q.toNatClampNeg : Int) = q.toInt := by show ((q.toInt.toNat : Nat) : Int) = _; omega
  have e : (1 : Int32).toInt = 1 := rfl
  have e' : (-1 : Int32).toInt = -1 := rfl
  have hn := I.1
  have ht0 := I.2.1
  have tr : ∀ i : Nat, i ≤ n.toNatClampNeg → (own_tr B p q i).toInt = (B i).toInt + (if p.toInt < i ∧ (i : Int) ≤ q.toInt then -1 else 0) + (if q.toInt < i ∧ (i : Int) ≤ p.toInt then 1 else 0) := fun i hi => by
    have b := I.bd hi
    unfold own_tr
    by_cases c : p < q
    · rw [if_pos c]
      rw [own_lt] at c
      rw [own_mv_at (by omega) hp.1 (by omega) (by omega)]
      unfold own_D
      rw [e', if_neg (c := q.toInt < i ∧ (i : Int) ≤ p.toInt) (by omega)]
      omega
    · rw [if_neg c]
      rw [own_lt] at c
      rw [own_mv_at (by omega) hq.1 (by omega) (by omega)]
      unfold own_D
      rw [e, if_neg (c := p.toInt < i ∧ (i : Int) ≤ q.toInt) (by omega)]
      omega
  have cu : ∀ t, t < n.toNatClampNeg → (own_up (own_up C p.toNatClampNeg (C p.toNatClampNeg - (1 : Int32))) q.toNatClampNeg (own_up C p.toNatClampNeg (C p.toNatClampNeg - (1 : Int32)) q.toNatClampNeg + (1 : Int32)) t).toInt = (C t).toInt + (if t = p.toNatClampNeg then -1 else 0) + (if t = q.toNatClampNeg then 1 else 0) := fun t ht => by
    have c := I.cb ht
    unfold own_up
    by_cases a : t = q.toNatClampNeg
    · rw [if_pos a, if_pos a, if_neg (c := t = p.toNatClampNeg) (by omega), if_neg (by omega), ← a]
      rw [Jvm.Kit.i32_add (by omega) (by omega), e]; omega
    · rw [if_neg a, if_neg a]
      by_cases b : t = p.toNatClampNeg
      · rw [if_pos b, if_pos b, ← b]
        rw [← b] at hc
        rw [Jvm.Kit.i32_sub (by omega) (by omega), e]; omega
      · rw [if_neg b, if_neg b]; omega
  refine ⟨I.1, I.2.1, ?_, fun t ht => ?_, ?_⟩
  · rw [tr 0 (Nat.zero_le _), if_neg (by omega), if_neg (by omega), I.2.2.1]; rfl
  · have c := I.cb ht
    rw [tr t (by omega), tr (t + 1) (by omega), cu t ht]
    have c0 : t = p.toNatClampNeg → 1 ≤ (C t).toInt := fun z => by rw [z]; exact hc
    have c1 : t = p.toNatClampNeg ↔ (t : Int) = p.toInt := by omega
    have c2 : t = q.toNatClampNeg ↔ (t : Int) = q.toInt := by omega
    by_cases a : t = p.toNatClampNeg
    · have := c0 a
      have a' := c1.mp a
      rw [if_pos a, if_neg (c := t = q.toNatClampNeg) (by omega)]
      rw [if_neg (c := p.toInt < t ∧ (t : Int) ≤ q.toInt) (by omega)]
      by_cases g : p.toInt < q.toInt
      · rw [if_neg (c := q.toInt < t ∧ (t : Int) ≤ p.toInt) (by omega), if_pos (c := p.toInt < (t + 1 : Nat) ∧ ((t + 1 : Nat) : Int) ≤ q.toInt) (by omega), if_neg (c := q.toInt < (t + 1 : Nat) ∧ ((t + 1 : Nat) : Int) ≤ p.toInt) (by omega)]; omega
      · rw [if_pos (c := q.toInt < t ∧ (t : Int) ≤ p.toInt) (by omega), if_neg (c := p.toInt < (t + 1 : Nat) ∧ ((t + 1 : Nat) : Int) ≤ q.toInt) (by omega), if_neg (c := q.toInt < (t + 1 : Nat) ∧ ((t + 1 : Nat) : Int) ≤ p.toInt) (by omega)]; omega
    · rw [if_neg a]
      have a' : (t : Int) ≠ p.toInt := fun z => a (c1.mpr z)
      by_cases b : t = q.toNatClampNeg
      · have b' := c2.mp b
        rw [if_pos b]
        rw [if_neg (c := q.toInt < t ∧ (t : Int) ≤ p.toInt) (by omega)]
        by_cases g : p.toInt < q.toInt
        · rw [if_pos (c := p.toInt < t ∧ (t : Int) ≤ q.toInt) (by omega), if_neg (c := p.toInt < (t + 1 : Nat) ∧ ((t + 1 : Nat) : Int) ≤ q.toInt) (by omega), if_neg (c := q.toInt < (t + 1 : Nat) ∧ ((t + 1 : Nat) : Int) ≤ p.toInt) (by omega)]; omega
        · rw [if_neg (c := p.toInt < t ∧ (t : Int) ≤ q.toInt) (by omega), if_neg (c := p.toInt < (t + 1 : Nat) ∧ ((t + 1 : Nat) : Int) ≤ q.toInt) (by omega), if_pos (c := q.toInt < (t + 1 : Nat) ∧ ((t + 1 : Nat) : Int) ≤ p.toInt) (by omega)]; omega
      · have b' : (t : Int) ≠ q.toInt := fun z => b (c2.mpr z)
        rw [if_neg b]
        by_cases g1 : p.toInt < t ∧ (t : Int) ≤ q.toInt
        · rw [if_pos g1, if_neg (c := q.toInt < t ∧ (t : Int) ≤ p.toInt) (by omega), if_pos (c := p.toInt < (t + 1 : Nat) ∧ ((t + 1 : Nat) : Int) ≤ q.toInt) (by omega), if_neg (c := q.toInt < (t + 1 : Nat) ∧ ((t + 1 : Nat) : Int) ≤ p.toInt) (by omega)]; omega
        · rw [if_neg g1, if_neg (c := p.toInt < (t + 1 : Nat) ∧ ((t + 1 : Nat) : Int) ≤ q.toInt) (by omega)]
          by_cases g2 : q.toInt < t ∧ (t : Int) ≤ p.toInt
          · rw [if_pos g2, if_pos (c := q.toInt < (t + 1 : Nat) ∧ ((t + 1 : Nat) : Int) ≤ p.toInt) (by omega)]; omega
          · rw [if_neg g2, if_neg (c := q.toInt < (t + 1 : Nat) ∧ ((t + 1 : Nat) : Int) ≤ p.toInt) (by omega)]; omega
  · rw [tr _ (Nat.le_refl _), if_neg (by omega), if_neg (by omega), I.2.2.2.2]; omega
theorem own_up_ge {i j : Nat} {x : Int32} (h : 1 ≤ (C j).toInt) (hx : 1 ≤ x.toInt) : 1 ≤ (own_up C i x j).toInt := by
  unfold own_up
  split <;> assumption
end OwnInv
section OwnInv2
variable {n : Int32} {B C : Nat → Int32} {tot : Int}
theorem own_Inv.up1 (I : own_Inv n B C tot) {p : Int32} (h : 0 ≤ p.toInt ∧ p.toInt < n.toInt) : 1 ≤ ((C p.toNatClampNeg) + (1 : Int32)).toInt := by
  have c := I.at h
  have e : (1 : Int32).toInt = 1 := rfl
  have g := I.2.1
  rw [Jvm.Kit.i32_add (by omega) (by omega), e]; omega
theorem own_to {F x T : Int32} (hn : 1 ≤ n.toInt ∧ n.toInt ≤ 4) (h2 : ¬ n < (2 : Int32)) (hF : 0 ≤ F.toInt ∧ F.toInt < n.toInt) (hx : 0 ≤ x.toInt) (hT : T = ((F + (1 : Int32)) + (x % (n - (1 : Int32)))) % n) : (0 ≤ T.toInt ∧ T.toInt < n.toInt) ∧ F.toInt ≠ T.toInt := by
  have e : (1 : Int32).toInt = 1 := rfl
  have e2 : (2 : Int32).toInt = 2 := rfl
  rw [own_lt, e2] at h2
  have a : (n - 1).toInt = n.toInt - 1 := by rw [Jvm.Kit.i32_sub (by omega) (by omega), e]
  have b := own_rem (x := x) (y := n - 1) hx (by omega)
  have c : (F + 1).toInt = F.toInt + 1 := by rw [Jvm.Kit.i32_add (by omega) (by omega), e]
  have d : ((F + 1) + (x % (n - 1))).toInt = F.toInt + 1 + (x % (n - 1)).toInt := by rw [Jvm.Kit.i32_add (by omega) (by omega), c]
  have q : T.toInt = (F.toInt + 1 + (x % (n - 1)).toInt) % n.toInt := by rw [hT, Jvm.Kit.i32_rem_nonneg (by omega), d]
  generalize (x % (n - 1)).toInt = y at *
  have k : n.toInt = 2 ∨ n.toInt = 3 ∨ n.toInt = 4 := by omega
  rcases k with k | k | k <;> rw [k] at q <;> omega
theorem own_clI {p : Int32} (h : 0 ≤ p.toInt) : (p.toNatClampNeg : Int) = p.toInt := by show ((p.toInt.toNat : Nat) : Int) = _; omega
theorem own_okT (I : own_Inv n B C tot) {F T o : Int32} (hF : 0 ≤ F.toInt ∧ F.toInt < n.toInt) (hT : 0 ≤ T.toInt ∧ T.toInt < n.toInt) (hne : F.toInt ≠ T.toInt) (ho : 0 ≤ o.toInt ∧ o.toInt < (C F.toNatClampNeg).toInt) :
    0 ≤ ((B F.toNatClampNeg) + o).toInt ∧ ((B F.toNatClampNeg) + o).toInt ≤ 3 ∧ 0 ≤ (B (T + (1 : Int32)).toNatClampNeg).toInt ∧ (B (T + (1 : Int32)).toNatClampNeg).toInt ≤ 3 ∧ (F < T → ((B F.toNatClampNeg) + o).toInt + 1 ≤ (B (T + (1 : Int32)).toNatClampNeg).toInt) ∧ (¬ F < T → (B (T + (1 : Int32)).toNatClampNeg).toInt ≤ ((B F.toNatClampNeg) + o).toInt) := by
  have N := own_N I.1.1
  have e : (1 : Int32).toInt = 1 := rfl
  have hn := I.1
  have ht := I.2.1
  have c := I.at hF
  have P := own_clI hF.1
  have Q := own_clI hT.1
  have t1 : (T + 1).toInt = T.toInt + 1 := by rw [Jvm.Kit.i32_add (by omega) (by omega), e]
  have t2 : (T + 1).toNatClampNeg = T.toNatClampNeg + 1 := by show (T + 1).toInt.toNat = T.toInt.toNat + 1; omega
  have j := I.bd (t := T.toNatClampNeg + 1) (by omega)
  have i : ((B F.toNatClampNeg) + o).toInt = (B F.toNatClampNeg).toInt + o.toInt := Jvm.Kit.i32_add (by omega) (by omega)
  rw [t2, i, own_lt]
  refine ⟨by omega, by omega, by omega, by omega, fun g => ?_, fun g => ?_⟩
  · have m := I.le (s := F.toNatClampNeg + 1) (t := T.toNatClampNeg + 1) (by omega) (by omega)
    omega
  · have m := I.le (s := T.toNatClampNeg + 1) (t := F.toNatClampNeg) (by omega) (by omega)
    omega
theorem own_n1p (hn : 1 ≤ n.toInt ∧ n.toInt ≤ 4) : ((n + (1 : Int32)) - (1 : Int32)).toNatClampNeg = n.toNatClampNeg := by
  have e : (1 : Int32).toInt = 1 := rfl
  have a := own_n1 hn.2 hn.1
  show ((n + 1) - 1).toInt.toNat = n.toInt.toNat
  rw [Jvm.Kit.i32_sub (by omega) (by omega), a, e]; omega
theorem own_lohi (I : own_Inv n B C tot) {q x y lo hi : Int32} (hq : 0 ≤ q.toInt ∧ q.toInt < n.toInt) (hx : 0 ≤ x.toInt) (hy : 0 ≤ y.toInt) (hlo : lo = x % ((C q.toNatClampNeg) + (1 : Int32))) (hhi : hi = lo + y % (((C q.toNatClampNeg) - lo) + (1 : Int32))) : 0 ≤ lo.toInt ∧ 0 ≤ (hi - lo).toInt ∧ lo.toInt + (hi - lo).toInt ≤ (C q.toNatClampNeg).toInt ∧ 1 ≤ (((C q.toNatClampNeg) - lo) + (1 : Int32)).toInt := by
  have e : (1 : Int32).toInt = 1 := rfl
  have c := I.at hq
  have ht := I.2.1
  have a : ((C q.toNatClampNeg) + (1 : Int32)).toInt = (C q.toNatClampNeg).toInt + 1 := by rw [Jvm.Kit.i32_add (by omega) (by omega), e]
  have b := own_rem (x := x) (y := (C q.toNatClampNeg) + (1 : Int32)) hx (by omega)
  rw [← hlo] at b
  have d : ((C q.toNatClampNeg) - lo).toInt = (C q.toNatClampNeg).toInt - lo.toInt := Jvm.Kit.i32_sub (by omega) (by omega)
  have d' : (((C q.toNatClampNeg) - lo) + (1 : Int32)).toInt = (C q.toNatClampNeg).toInt - lo.toInt + 1 := by rw [Jvm.Kit.i32_add (by omega) (by omega), d, e]
  have g := own_rem (x := y) (y := ((C q.toNatClampNeg) - lo) + (1 : Int32)) hy (by omega)
  generalize y % (((C q.toNatClampNeg) - lo) + (1 : Int32)) = z at *
  have k : hi.toInt = lo.toInt + z.toInt := by rw [hhi, Jvm.Kit.i32_add (by omega) (by omega)]
  have l : (hi - lo).toInt = z.toInt := by rw [Jvm.Kit.i32_sub (by omega) (by omega)]; omega
  omega
theorem own_okR (I : own_Inv n B C tot) {q lo hi : Int32} (hq : 0 ≤ q.toInt ∧ q.toInt < n.toInt) (h : 0 ≤ lo.toInt ∧ 0 ≤ (hi - lo).toInt ∧ lo.toInt + (hi - lo).toInt ≤ (C q.toNatClampNeg).toInt) : 0 ≤ ((B q.toNatClampNeg) + lo).toInt ∧ 0 ≤ (hi - lo).toInt ∧ ((B q.toNatClampNeg) + lo).toInt + (hi - lo).toInt ≤ (B ((n + (1 : Int32)) - (1 : Int32)).toNatClampNeg).toInt ∧ (B ((n + (1 : Int32)) - (1 : Int32)).toNatClampNeg).toInt ≤ 3 := by
  have c := I.at hq
  have ht := I.2.1
  rw [own_n1p I.1, I.2.2.2.2, Jvm.Kit.i32_add (by omega) (by omega)]
  omega
theorem own_fin (I : own_Inv n B C 3) : B ((n + (1 : Int32)) - (1 : Int32)).toNatClampNeg = (3 : Int32) := by
  rw [own_n1p I.1]
  exact Int32.toInt_inj.mp I.2.2.2.2
theorem own_fin3 (I : own_Inv n B C 3) {q lo hi : Int32} (hq : 0 ≤ q.toInt ∧ q.toInt < n.toInt) (h : 0 ≤ lo.toInt ∧ 0 ≤ (hi - lo).toInt ∧ lo.toInt + (hi - lo).toInt ≤ (C q.toNatClampNeg).toInt) : own_mv B q (n + (1 : Int32)) (-(hi - lo)) ((n + (1 : Int32)) - (1 : Int32)).toNatClampNeg = ((3 : Int32) - (hi - lo)) := by
  have c := I.at hq
  have N := own_N I.1.1
  have hn := I.1
  have e3 : (3 : Int32).toInt = 3 := rfl
  have ng : (-(hi - lo)).toInt = -(hi - lo).toInt := Jvm.Kit.i32_neg (by omega)
  rw [own_n1p I.1]
  apply Int32.toInt_inj.mp
  have t := I.2.2.2.2
  rw [own_mv_at (by omega) hq.1 (by omega) (by omega), t, Jvm.Kit.i32_sub (by omega) (by omega), e3]
  unfold own_D
  rw [own_n1 hn.2 hn.1, if_pos (by omega), ng]
  omega
theorem own_n {a : Int32} (h : n = ((1 : Int32) + (a &&& (3 : Int32)))) : 1 ≤ n.toInt ∧ n.toInt ≤ 4 := by
  have m := own_m3 a
  have e : (1 : Int32).toInt = 1 := rfl
  rw [h, Jvm.Kit.i32_add (by omega) (by omega), e]
  omega
theorem own_from {F v w : Int32} (I : own_Inv n B C tot) (hv : 0 ≤ v.toInt ∧ v.toInt < n.toInt) (hw : 0 ≤ w.toInt ∧ w.toInt < n.toInt) (h1 : 1 ≤ (C v.toNatClampNeg).toInt) (e : F = (if (C w.toNatClampNeg) = (0 : Int32) then v else w)) : (0 ≤ F.toInt ∧ F.toInt < n.toInt) ∧ 1 ≤ (C F.toNatClampNeg).toInt := by
  by_cases z : (C w.toNatClampNeg) = (0 : Int32)
  · rw [if_pos z] at e; subst e; exact ⟨hv, h1⟩
  · rw [if_neg z] at e; subst e
    have c := I.at hw
    have g : (C F.toNatClampNeg).toInt ≠ 0 := fun y => z (Int32.toInt_inj.mp y)
    exact ⟨hw, by omega⟩
end OwnInv2
theorem d9_0 : decode prog_7_method_2_code 0 = .ok (.lconst 1, 1) := by decide +kernel
theorem d9_1 : decode prog_7_method_2_code 1 = .ok (.iload_n 0, 1) := by decide +kernel
theorem d9_2 : decode prog_7_method_2_code 2 = .ok (.lshl, 1) := by decide +kernel
theorem d9_3 : decode prog_7_method_2_code 3 = .ok (.lreturn, 1) := by decide +kernel
theorem pn_9 : plainName "com/example/wildsuit/wildsuit/game/CardSet" = true := by first | (simp [plainName, overriddenIn]; done) | decide +kernel
theorem ef_9 (m : MethodId) (xc : Int32) : entryFrame m #[(.int xc)] 1 = mkF m 0 #[.val (.int xc)] [] := by first | (simp [entryFrame, mkF, argsToLocals, Value.category]; done) | rfl
def own_f9 (xc : Int32) : Int64 := ((1 : Int64) <<< (xc &&& 0x3f).toInt64)
def Q9 (Z : State) (xc : Int32) (h0 : Heap) (n0 : Nat) (v : Option Value) (h : Heap) (L : List Loc) : Prop := v = some (.long (own_f9 xc)) ∧ Fr n0 L ∧ h = h0
set_option maxRecDepth 65536 in
set_option maxHeartbeats 40000000 in
theorem rm9 (l : Launch) (Z : State) (a0 : Array Value) (hw : ∀ d ∈ tables_1, d.before a0 Z = true) (ws : List Jvm.Cond) (xc : Int32) (h0 : Heap) (n0 : Nat) (Z0 : n0 ≤ h0.size) :
    MetFree l (⟨"com/example/wildsuit/wildsuit/game/CardSet", "of", "(I)J"⟩ : MethodName) (head1 (Jvm.Cond.code (⟨"com/example/wildsuit/wildsuit/game/CardSet", "of", "(I)J"⟩ : MethodName) prog_7_method_2_code 1 (some .long) :: ws) ({ frames := 0, cells := 0, slots := 0, locals := 0 } : Room)) (fun a U => a = #[(.int xc)] ∧ Z.Warmed39 U.vm ∧ U.heap = h0) (fun _ _ _ _ _ => True) (fun _ U o U' => ∃ v L, o = .returned v ∧ Q9 Z xc h0 n0 v U'.heap L ∧ FrameEnd U o U' L ({ frames := 0, cells := 0, slots := 0, locals := 0 } : Room).cells ({ frames := 0, cells := 0, slots := 0, locals := 0 } : Room).slots) := by
  refine MetFree.of_bodySF (plainFor_of_name pn_9) hisR ?_
  intro p e s m args below meth c s₁ Bd hml0 hP hK
  obtain ⟨rfl, hZ, hh⟩ := hP
  have hx := Bd.exec
  have hby := Bd.bytes
  have hml : c.maxLocals = 1 := hml0
  have hown : s.vm.findClass "com/example/wildsuit/wildsuit/game/CardSet" = some m.cls := findClass_of_methodNamed Bd.named
  have hnm := (name_of_methodNamed Bd.named Bd.method).1
  have X0 : Stand p l e ({ frames := 0, cells := 0, slots := 0, locals := 0 } : Room) s m #[(.int xc)] below meth c s₁ [] 0 0 := Stand.of_body Bd
  have e0 : s₁.heap = h0 := by rw [← hh, Bd.state]; rfl
  have N0 := Fr.nil n0
  suffices G : own_Goes p.tables e below (fun o U' => ∃ v L, o = .returned v ∧ Q9 Z xc h0 n0 v U'.heap L ∧ FrameEnd s o U' L ({ frames := 0, cells := 0, slots := 0, locals := 0 } : Room).cells ({ frames := 0, cells := 0, slots := 0, locals := 0 } : Room).slots) s₁ (mkF m 0 #[.val (.int xc)] []) by
    obtain ⟨t2_, o2_, z1_, z2_, z3_, z4_⟩ := G
    exact ⟨t2_, o2_, castTop (ef_9 m xc) z1_, z2_, z3_, z4_⟩
  generalize hPd : (fun (o : Outcome) (U' : State) => ∃ v L, o = .returned v ∧ Q9 Z xc h0 n0 v U'.heap L ∧ FrameEnd s o U' L ({ frames := 0, cells := 0, slots := 0, locals := 0 } : Room).cells ({ frames := 0, cells := 0, slots := 0, locals := 0 } : Room).slots) = P
  refine own_Goes.via (T' := s₁) (g' := (mkF m 1 #[.val (.int xc)] [(.long (1 : Int64))])) (fun t_ k_ => XS.lconst X0.here hx rfl (hb hby d9_0) k_) ?_
  refine own_Goes.via (T' := s₁) (g' := (mkF m 2 #[.val (.int xc)] [(.int xc), (.long (1 : Int64))])) (fun t_ k_ => XS.iloadN X0.here hx rfl (hb hby d9_1) rfl k_) ?_
  refine own_Goes.via (T' := s₁) (g' := (mkF m 3 #[.val (.int xc)] [(.long ((1 : Int64) <<< (xc &&& 0x3f).toInt64))])) (fun t_ k_ => XS.lshl X0.here hx rfl (hb hby d9_2) rfl k_) ?_
  obtain ⟨fs, hr, hrun, hended, hW, hsame⟩ := X0.leave (v := some (.long ((1 : Int64) <<< (xc &&& 0x3f).toInt64))) (fun h => by rw [Bd.returns] at h; cases h)
  refine own_Goes.fin (retOut X0 hx Bd.returns rfl (Or.inr (Or.inl ⟨rfl, rfl, _, rfl⟩)) (hb hby d9_3) hr) hrun hended ?_
  subst hPd
  refine ⟨_, _, rfl, ?_, ⟨_, rfl⟩, hW, hsame.mono (by decide) (by decide)⟩
  show Q9 Z xc h0 n0 _ s₁.heap _
  rw [e0]
  exact ⟨(by first | rfl | (simp only [own_f9])), N0, rfl⟩
theorem d8_0 : decode prog_7_method_3_code 0 = .ok (.lload_n 0, 1) := by decide +kernel
theorem d8_1 : decode prog_7_method_3_code 1 = .ok (.iload_n 2, 1) := by decide +kernel
theorem d8_2 : decode prog_7_method_3_code 2 = .ok (.lushr, 1) := by decide +kernel
theorem d8_3 : decode prog_7_method_3_code 3 = .ok (.lconst 1, 1) := by decide +kernel
theorem d8_4 : decode prog_7_method_3_code 4 = .ok (.land, 1) := by decide +kernel
theorem d8_5 : decode prog_7_method_3_code 5 = .ok (.lconst 0, 1) := by decide +kernel
theorem d8_6 : decode prog_7_method_3_code 6 = .ok (.lcmp, 1) := by decide +kernel
theorem d8_7 : decode prog_7_method_3_code 7 = .ok (.ifCond .eq 7, 3) := by decide +kernel
theorem d8_10 : decode prog_7_method_3_code 10 = .ok (.iconst 1, 1) := by decide +kernel
theorem d8_11 : decode prog_7_method_3_code 11 = .ok (.goto 4, 3) := by decide +kernel
theorem d8_14 : decode prog_7_method_3_code 14 = .ok (.iconst 0, 1) := by decide +kernel
theorem d8_15 : decode prog_7_method_3_code 15 = .ok (.ireturn, 1) := by decide +kernel
theorem pn_8 : plainName "com/example/wildsuit/wildsuit/game/CardSet" = true := by first | (simp [plainName, overriddenIn]; done) | decide +kernel
theorem ef_8 (m : MethodId) (xs : Int64) (xc : Int32) : entryFrame m #[(.long xs), (.int xc)] 3 = mkF m 0 #[.val (.long xs), .second, .val (.int xc)] [] := by first | (simp [entryFrame, mkF, argsToLocals, Value.category]; done) | rfl
def own_f8 (xs : Int64) (xc : Int32) : Int32 := (if (((xs.toUInt64 >>> (xc &&& 0x3f).toInt64.toUInt64).toInt64) &&& (1 : Int64)) = (0 : Int64) then (0 : Int32) else (1 : Int32))
def Q8 (Z : State) (xs : Int64) (xc : Int32) (h0 : Heap) (n0 : Nat) (v : Option Value) (h : Heap) (L : List Loc) : Prop := v = some (.int (own_f8 xs xc)) ∧ Fr n0 L ∧ h = h0
set_option maxRecDepth 65536 in
set_option maxHeartbeats 40000000 in
theorem rm8 (l : Launch) (Z : State) (a0 : Array Value) (hw : ∀ d ∈ tables_1, d.before a0 Z = true) (ws : List Jvm.Cond) (xs : Int64) (xc : Int32) (h0 : Heap) (n0 : Nat) (Z0 : n0 ≤ h0.size) :
    MetFree l (⟨"com/example/wildsuit/wildsuit/game/CardSet", "contains", "(JI)Z"⟩ : MethodName) (head1 (Jvm.Cond.code (⟨"com/example/wildsuit/wildsuit/game/CardSet", "contains", "(JI)Z"⟩ : MethodName) prog_7_method_3_code 3 (some .boolean) :: ws) ({ frames := 0, cells := 0, slots := 0, locals := 0 } : Room)) (fun a U => a = #[(.long xs), (.int xc)] ∧ Z.Warmed39 U.vm ∧ U.heap = h0) (fun _ _ _ _ _ => True) (fun _ U o U' => ∃ v L, o = .returned v ∧ Q8 Z xs xc h0 n0 v U'.heap L ∧ FrameEnd U o U' L ({ frames := 0, cells := 0, slots := 0, locals := 0 } : Room).cells ({ frames := 0, cells := 0, slots := 0, locals := 0 } : Room).slots) := by
  refine MetFree.of_bodySF (plainFor_of_name pn_8) hisR ?_
  intro p e s m args below meth c s₁ Bd hml0 hP hK
  obtain ⟨rfl, hZ, hh⟩ := hP
  have hx := Bd.exec
  have hby := Bd.bytes
  have hml : c.maxLocals = 3 := hml0
  have hown : s.vm.findClass "com/example/wildsuit/wildsuit/game/CardSet" = some m.cls := findClass_of_methodNamed Bd.named
  have hnm := (name_of_methodNamed Bd.named Bd.method).1
  have X0 : Stand p l e ({ frames := 0, cells := 0, slots := 0, locals := 0 } : Room) s m #[(.long xs), (.int xc)] below meth c s₁ [] 0 0 := Stand.of_body Bd
  have e0 : s₁.heap = h0 := by rw [← hh, Bd.state]; rfl
  have N0 := Fr.nil n0
  suffices G : own_Goes p.tables e below (fun o U' => ∃ v L, o = .returned v ∧ Q8 Z xs xc h0 n0 v U'.heap L ∧ FrameEnd s o U' L ({ frames := 0, cells := 0, slots := 0, locals := 0 } : Room).cells ({ frames := 0, cells := 0, slots := 0, locals := 0 } : Room).slots) s₁ (mkF m 0 #[.val (.long xs), .second, .val (.int xc)] []) by
    obtain ⟨t2_, o2_, z1_, z2_, z3_, z4_⟩ := G
    exact ⟨t2_, o2_, castTop (ef_8 m xs xc) z1_, z2_, z3_, z4_⟩
  generalize hPd : (fun (o : Outcome) (U' : State) => ∃ v L, o = .returned v ∧ Q8 Z xs xc h0 n0 v U'.heap L ∧ FrameEnd s o U' L ({ frames := 0, cells := 0, slots := 0, locals := 0 } : Room).cells ({ frames := 0, cells := 0, slots := 0, locals := 0 } : Room).slots) = P
  refine own_Goes.via (T' := s₁) (g' := (mkF m 1 #[.val (.long xs), .second, .val (.int xc)] [(.long xs)])) (fun t_ k_ => XS.lloadN X0.here hx rfl (hb hby d8_0) rfl k_) ?_
  refine own_Goes.via (T' := s₁) (g' := (mkF m 2 #[.val (.long xs), .second, .val (.int xc)] [(.int xc), (.long xs)])) (fun t_ k_ => XS.iloadN X0.here hx rfl (hb hby d8_1) rfl k_) ?_
  refine own_Goes.via (T' := s₁) (g' := (mkF m 3 #[.val (.long xs), .second, .val (.int xc)] [(.long ((xs.toUInt64 >>> (xc &&& 0x3f).toInt64.toUInt64).toInt64))])) (fun t_ k_ => XS.lushr X0.here hx rfl (hb hby d8_2) rfl k_) ?_
  refine own_Goes.via (T' := s₁) (g' := (mkF m 4 #[.val (.long xs), .second, .val (.int xc)] [(.long (1 : Int64)), (.long ((xs.toUInt64 >>> (xc &&& 0x3f).toInt64.toUInt64).toInt64))])) (fun t_ k_ => XS.lconst X0.here hx rfl (hb hby d8_3) k_) ?_
  refine own_Goes.via (T' := s₁) (g' := (mkF m 5 #[.val (.long xs), .second, .val (.int xc)] [(.long (((xs.toUInt64 >>> (xc &&& 0x3f).toInt64.toUInt64).toInt64) &&& (1 : Int64)))])) (fun t_ k_ => XS.land X0.here hx rfl (hb hby d8_4) rfl k_) ?_
  refine own_Goes.via (T' := s₁) (g' := (mkF m 6 #[.val (.long xs), .second, .val (.int xc)] [(.long (0 : Int64)), (.long (((xs.toUInt64 >>> (xc &&& 0x3f).toInt64.toUInt64).toInt64) &&& (1 : Int64)))])) (fun t_ k_ => XS.lconst X0.here hx rfl (hb hby d8_5) k_) ?_
  refine own_Goes.via (T' := s₁) (g' := (mkF m 7 #[.val (.long xs), .second, .val (.int xc)] [(.int (lcmpW (((xs.toUInt64 >>> (xc &&& 0x3f).toInt64.toUInt64).toInt64) &&& (1 : Int64)) (0 : Int64)))])) (fun t_ k_ => XS.lcmp X0.here hx rfl (hb hby d8_6) rfl k_) ?_
  suffices J15_4 : ∀ (v15_2 : Int32) (hv15_2 : v15_2 = (if (((xs.toUInt64 >>> (xc &&& 0x3f).toInt64.toUInt64).toInt64) &&& (1 : Int64)) = (0 : Int64) then (0 : Int32) else (1 : Int32))), own_Goes p.tables e below P s₁ (mkF m 15 #[.val (.long xs), .second, .val (.int xc)] [(.int v15_2)]) by
    by_cases hc7_1 : (((xs.toUInt64 >>> (xc &&& 0x3f).toInt64.toUInt64).toInt64) &&& (1 : Int64)) = (0 : Int64)
    · refine own_Goes.via (T' := s₁) (g' := (mkF m 14 #[.val (.long xs), .second, .val (.int xc)] [])) (fun t_ k_ => XS.ifYes X0.here hx rfl (pc0 := 7) (pc' := 14) rfl (hb hby d8_7) rfl (own_eqT hc7_1).1 (by decide) (by decide) k_) ?_
      refine own_Goes.via (T' := s₁) (g' := (mkF m 15 #[.val (.long xs), .second, .val (.int xc)] [(.int (0 : Int32))])) (fun t_ k_ => XS.iconst X0.here hx rfl (hb hby d8_14) k_) ?_
      exact J15_4 (0 : Int32) ((if_pos hc7_1)).symm
    · refine own_Goes.via (T' := s₁) (g' := (mkF m 10 #[.val (.long xs), .second, .val (.int xc)] [])) (fun t_ k_ => XS.ifNo X0.here hx rfl (hb hby d8_7) rfl (own_eqF hc7_1).1 k_) ?_
      refine own_Goes.via (T' := s₁) (g' := (mkF m 11 #[.val (.long xs), .second, .val (.int xc)] [(.int (1 : Int32))])) (fun t_ k_ => XS.iconst X0.here hx rfl (hb hby d8_10) k_) ?_
      refine own_Goes.via (T' := s₁) (g' := (mkF m 15 #[.val (.long xs), .second, .val (.int xc)] [(.int (1 : Int32))])) (fun t_ k_ => XS.goto X0.here hx rfl (pc0 := 11) (pc' := 15) rfl (hb hby d8_11) (by decide) (by decide) k_) ?_
      exact J15_4 (1 : Int32) ((if_neg hc7_1)).symm
  intro v15_2 hv15_2
  have hnar5 : nar .boolean v15_2 = v15_2 := by rw [hv15_2]; (repeat' split) <;> rfl
  obtain ⟨fs, hr, hrun, hended, hW, hsame⟩ := X0.leave (v := some (.int v15_2)) (fun h => by rw [Bd.returns] at h; cases h)
  refine own_Goes.fin (retN X0 hx (t := .boolean) Bd.returns (by simp) (hb hby d8_15) (by rw [hnar5]; exact hr)) hrun hended ?_
  subst hPd
  refine ⟨_, _, rfl, ?_, ⟨_, rfl⟩, hW, hsame.mono (by decide) (by decide)⟩
  show Q8 Z xs xc h0 n0 _ s₁.heap _
  rw [e0]
  exact ⟨(by subst hv15_2; first | rfl | (simp only [own_f8])), N0, rfl⟩
theorem d7_0 : decode prog_36_method_11_code 0 = .ok (.aload_n 0, 1) := by decide +kernel
theorem d7_1 : decode prog_36_method_11_code 1 = .ok (.getfield 17, 3) := by decide +kernel
theorem d7_4 : decode prog_36_method_11_code 4 = .ok (.iload_n 1, 1) := by decide +kernel
theorem d7_5 : decode prog_36_method_11_code 5 = .ok (.laload, 1) := by decide +kernel
theorem d7_6 : decode prog_36_method_11_code 6 = .ok (.iload_n 2, 1) := by decide +kernel
theorem d7_7 : decode prog_36_method_11_code 7 = .ok (.invokestatic 56, 3) := by decide +kernel
theorem d7_10 : decode prog_36_method_11_code 10 = .ok (.ifCond .eq 19, 3) := by decide +kernel
theorem d7_13 : decode prog_36_method_11_code 13 = .ok (.aload_n 0, 1) := by decide +kernel
theorem d7_14 : decode prog_36_method_11_code 14 = .ok (.getfield 21, 3) := by decide +kernel
theorem d7_17 : decode prog_36_method_11_code 17 = .ok (.iload_n 1, 1) := by decide +kernel
theorem d7_18 : decode prog_36_method_11_code 18 = .ok (.dup2, 1) := by decide +kernel
theorem d7_19 : decode prog_36_method_11_code 19 = .ok (.laload, 1) := by decide +kernel
theorem d7_20 : decode prog_36_method_11_code 20 = .ok (.iload_n 2, 1) := by decide +kernel
theorem d7_21 : decode prog_36_method_11_code 21 = .ok (.invokestatic 62, 3) := by decide +kernel
theorem d7_24 : decode prog_36_method_11_code 24 = .ok (.lor, 1) := by decide +kernel
theorem d7_25 : decode prog_36_method_11_code 25 = .ok (.lastore, 1) := by decide +kernel
theorem d7_26 : decode prog_36_method_11_code 26 = .ok (.goto 16, 3) := by decide +kernel
theorem d7_29 : decode prog_36_method_11_code 29 = .ok (.aload_n 0, 1) := by decide +kernel
theorem d7_30 : decode prog_36_method_11_code 30 = .ok (.getfield 17, 3) := by decide +kernel
theorem d7_33 : decode prog_36_method_11_code 33 = .ok (.iload_n 1, 1) := by decide +kernel
theorem d7_34 : decode prog_36_method_11_code 34 = .ok (.dup2, 1) := by decide +kernel
theorem d7_35 : decode prog_36_method_11_code 35 = .ok (.laload, 1) := by decide +kernel
theorem d7_36 : decode prog_36_method_11_code 36 = .ok (.iload_n 2, 1) := by decide +kernel
theorem d7_37 : decode prog_36_method_11_code 37 = .ok (.invokestatic 62, 3) := by decide +kernel
theorem d7_40 : decode prog_36_method_11_code 40 = .ok (.lor, 1) := by decide +kernel
theorem d7_41 : decode prog_36_method_11_code 41 = .ok (.lastore, 1) := by decide +kernel
theorem d7_42 : decode prog_36_method_11_code 42 = .ok (.return_, 1) := by decide +kernel
theorem pn_7 : plainName "com/example/wildsuit/wildsuit/game/Row" = true := by first | (simp [plainName, overriddenIn]; done) | decide +kernel
theorem pd_7_0 : parseMethodDescriptor "(JI)Z" = some ⟨[.long, .int], some .boolean⟩ := by decide +kernel
theorem pd_7_1 : parseMethodDescriptor "(I)J" = some ⟨[.int], some .long⟩ := by decide +kernel
theorem ef_7 (m : MethodId) (ao : Addr) (xp : Int32) (xc : Int32) : entryFrame m #[(.ref ao), (.int xp), (.int xc)] 3 = mkF m 0 #[.val (.ref ao), .val (.int xp), .val (.int xc)] [] := by first | (simp [entryFrame, mkF, argsToLocals, Value.category]; done) | rfl
def Q7 (Z : State) (ao : Addr) (xp : Int32) (xc : Int32) (bh : Addr) (bt : Addr) (nn : Int32) (h0 : Heap) (n0 : Nat) (v : Option Value) (h : Heap) (L : List Loc) : Prop := v = none ∧ Fr n0 L ∧ Keep h0 h [bh, bt] ∧ own_Un Z h bh .long nn ∧ own_Un Z h bt .long nn
set_option maxRecDepth 65536 in
set_option maxHeartbeats 40000000 in
theorem rm7 (l : Launch) (Z : State) (a0 : Array Value) (hw : ∀ d ∈ tables_1, d.before a0 Z = true) (ws : List Jvm.Cond) (ao : Addr) (xp : Int32) (xc : Int32) (bh : Addr) (bt : Addr) (nn : Int32) (h0 : Heap) (n0 : Nat) (Z0 : n0 ≤ h0.size) (PF0 : Exa Z h0 ao "com/example/wildsuit/wildsuit/game/Row") (PF1 : Exa Z h0 bh "[J") (PF2 : Exa Z h0 bt "[J") (PF3 : Fld Z h0 ao "com/example/wildsuit/wildsuit/game/Row" "held" "[J" (.ref bh)) (PF4 : Fld Z h0 ao "com/example/wildsuit/wildsuit/game/Row" "heldTwice" "[J" (.ref bt)) (PF5 : own_Un Z h0 bh .long nn) (PF6 : own_Un Z h0 bt .long nn) (PN0 : bh ≠ bt) (ge_bh : n0 ≤ bh) (ge_bt : n0 ≤ bt) (hp : ¬ xp < 0 ∧ xp < nn) :
    MetFree l (⟨"com/example/wildsuit/wildsuit/game/Row", "hold", "(II)V"⟩ : MethodName) (head1 (Jvm.Cond.code (⟨"com/example/wildsuit/wildsuit/game/Row", "hold", "(II)V"⟩ : MethodName) prog_36_method_11_code 3 none :: ws) ({ frames := 1, cells := 0, slots := 0, locals := 16 } : Room)) (fun a U => a = #[(.ref ao), (.int xp), (.int xc)] ∧ Z.Warmed39 U.vm ∧ U.heap = h0) (fun _ _ _ _ _ => True) (fun _ U o U' => ∃ v L, o = .returned v ∧ Q7 Z ao xp xc bh bt nn h0 n0 v U'.heap L ∧ FrameEnd U o U' L ({ frames := 1, cells := 0, slots := 0, locals := 16 } : Room).cells ({ frames := 1, cells := 0, slots := 0, locals := 16 } : Room).slots) := by
  refine MetFree.of_bodySF (plainFor_of_name pn_7) hisR ?_
  intro p e s m args below meth c s₁ Bd hml0 hP hK
  obtain ⟨rfl, hZ, hh⟩ := hP
  have hx := Bd.exec
  have hby := Bd.bytes
  have hml : c.maxLocals = 3 := hml0
  have hown : s.vm.findClass "com/example/wildsuit/wildsuit/game/Row" = some m.cls := findClass_of_methodNamed Bd.named
  have hnm := (name_of_methodNamed Bd.named Bd.method).1
  have X0 : Stand p l e ({ frames := 1, cells := 0, slots := 0, locals := 16 } : Room) s m #[(.ref ao), (.int xp), (.int xc)] below meth c s₁ [] 0 0 := Stand.of_body Bd
  have e0 : s₁.heap = h0 := by rw [← hh, Bd.state]; rfl
  have N0 := Fr.nil n0
  suffices G : own_Goes p.tables e below (fun o U' => ∃ v L, o = .returned v ∧ Q7 Z ao xp xc bh bt nn h0 n0 v U'.heap L ∧ FrameEnd s o U' L ({ frames := 1, cells := 0, slots := 0, locals := 16 } : Room).cells ({ frames := 1, cells := 0, slots := 0, locals := 16 } : Room).slots) s₁ (mkF m 0 #[.val (.ref ao), .val (.int xp), .val (.int xc)] []) by
    obtain ⟨t2_, o2_, z1_, z2_, z3_, z4_⟩ := G
    exact ⟨t2_, o2_, castTop (ef_7 m ao xp xc) z1_, z2_, z3_, z4_⟩
  generalize hPd : (fun (o : Outcome) (U' : State) => ∃ v L, o = .returned v ∧ Q7 Z ao xp xc bh bt nn h0 n0 v U'.heap L ∧ FrameEnd s o U' L ({ frames := 1, cells := 0, slots := 0, locals := 16 } : Room).cells ({ frames := 1, cells := 0, slots := 0, locals := 16 } : Room).slots) = P
  refine own_Goes.via (T' := s₁) (g' := (mkF m 1 #[.val (.ref ao), .val (.int xp), .val (.int xc)] [(.ref ao)])) (fun t_ k_ => XS.aloadN X0.here hx rfl (hb hby d7_0) rfl rfl k_) ?_
  obtain ⟨T1, X1, e1, st1⟩ := getF X0 hx hZ hown (host := "") (Or.inl (hw _ (List.mem_of_getElem? (i := 16) rfl))) Via.refl e0 PF3 (g := (mkF m 1 #[.val (.ref ao), .val (.int xp), .val (.int xc)] [(.ref ao)])) rfl rfl (hb hby d7_1)
  refine own_Goes.via (T' := T1) (g' := (mkF m 4 #[.val (.ref ao), .val (.int xp), .val (.int xc)] [(.ref bh)])) (st1) ?_
  refine own_Goes.via (T' := T1) (g' := (mkF m 5 #[.val (.ref ao), .val (.int xp), .val (.int xc)] [(.int xp), (.ref bh)])) (fun t_ k_ => XS.iloadN X1.here hx rfl (hb hby d7_4) rfl k_) ?_
  have in5_3 : ¬ xp < 0 ∧ xp < nn := hp
  obtain ⟨cl2, xj2, Ar2, Sl2, at2⟩ := PF5.rdJ in5_3
  refine own_Goes.via (T' := T1) (g' := (mkF m 6 #[.val (.ref ao), .val (.int xp), .val (.int xc)] [(.long xj2)])) (fun t_ k_ => X1.laload hx (j := xp) (v := (.long xj2)) (by rw [e1]; exact Ar2.1) (State.isArrayOf_alike hZ.alike Ar2.2.1) Ar2.2.2 (inb_of Sl2 in5_3) at2 (g := (mkF m 5 #[.val (.ref ao), .val (.int xp), .val (.int xc)] [(.int xp), (.ref bh)])) rfl rfl (hb hby d7_5) _ k_) ?_
  refine own_Goes.via (T' := T1) (g' := (mkF m 7 #[.val (.ref ao), .val (.int xp), .val (.int xc)] [(.int xc), (.long xj2)])) (fun t_ k_ => XS.iloadN X1.here hx rfl (hb hby d7_6) rfl k_) ?_
  obtain ⟨_, _, ⟨T4, L4, k4, n4⟩, -, X4, ⟨Lc4, hQ4, l4, y4, z4⟩, st4⟩ := Jvm.LawKit.callS X1 hx (y := (⟨"com/example/wildsuit/wildsuit/game/CardSet", "contains", "(JI)Z"⟩ : MethodName)) hown (mvT hZ (hw _ (List.mem_of_getElem? (i := 48) rfl))) (mvT hZ (hw _ (List.mem_of_getElem? (i := 49) rfl))) (mvT hZ (hw _ (List.mem_of_getElem? (i := 50) rfl))) (mvT hZ (hw _ (List.mem_of_getElem? (i := 51) rfl))) (by decide) (backOf (W := 0) (rm8 l Z a0 hw [] xj2 xc h0 n0 Z0 ) hZ (hw _ (List.mem_of_getElem? (i := 51) rfl)) (hw _ (List.mem_of_getElem? (i := 50) rfl)) (by decide) (by decide)) (g := (mkF m 7 #[.val (.ref ao), .val (.int xp), .val (.int xc)] [(.int xc), (.long xj2)])) rfl (by rw [hml]; rfl) (argsL := [(.long xj2), (.int xc)]) (rest := []) (lenOf pd_7_0 rfl) rfl (by show 2 * 0 + _ ≤ _; exact Nat.le_of_eq rfl) (hb hby d7_7) (fun _ _ => ⟨rfl, e1, (by decide : 0 + 0 ≤ _), (by decide : 0 + 0 ≤ _)⟩)
  dsimp only [Pt.U, Pt.locs, Pt.cells, Pt.slots] at X4 l4 y4 z4 st4 hQ4
  subst l4 y4 z4
  obtain ⟨rfl, Nq4, hh4⟩ := hQ4
  have N4 := Fr.app N0 Nq4
  refine own_Goes.via (T' := T4) (g' := (mkF m 10 #[.val (.ref ao), .val (.int xp), .val (.int xc)] [(.int (own_f8 xj2 xc))])) (st4) ?_
  obtain ⟨v5, hv5⟩ : ∃ z : Int32, z = (own_f8 xj2 xc) := ⟨_, rfl⟩
  rw [← hv5]
  by_cases hc10_6 : v5 = (0 : Int32)
  · refine own_Goes.via (T' := T4) (g' := (mkF m 29 #[.val (.ref ao), .val (.int xp), .val (.int xc)] [])) (fun t_ k_ => XS.ifYes X4.here hx rfl (pc0 := 10) (pc' := 29) rfl (hb hby d7_10) rfl ((if0 _ _).trans (teq hc10_6).1) (by decide) (by decide) k_) ?_
    refine own_Goes.via (T' := T4) (g' := (mkF m 30 #[.val (.ref ao), .val (.int xp), .val (.int xc)] [(.ref ao)])) (fun t_ k_ => XS.aloadN X4.here hx rfl (hb hby d7_29) rfl rfl k_) ?_
    obtain ⟨T7, X7, e7, st7⟩ := getF X4 hx hZ hown (host := "") (Or.inl (hw _ (List.mem_of_getElem? (i := 16) rfl))) Via.refl hh4 PF3 (g := (mkF m 30 #[.val (.ref ao), .val (.int xp), .val (.int xc)] [(.ref ao)])) rfl rfl (hb hby d7_30)
    refine own_Goes.via (T' := T7) (g' := (mkF m 33 #[.val (.ref ao), .val (.int xp), .val (.int xc)] [(.ref bh)])) (st7) ?_
    refine own_Goes.via (T' := T7) (g' := (mkF m 34 #[.val (.ref ao), .val (.int xp), .val (.int xc)] [(.int xp), (.ref bh)])) (fun t_ k_ => XS.iloadN X7.here hx rfl (hb hby d7_33) rfl k_) ?_
    refine own_Goes.via (T' := T7) (g' := (mkF m 35 #[.val (.ref ao), .val (.int xp), .val (.int xc)] [(.int xp), (.ref bh), (.int xp), (.ref bh)])) (fun t_ k_ => by jvm_step X7.here [X7.here.top, hx, (hb hby d7_34), Value.category]; exact k_) ?_
    have in35_9 : ¬ xp < 0 ∧ xp < nn := hp
    obtain ⟨cl8, xj8, Ar8, Sl8, at8⟩ := PF5.rdJ in35_9
    refine own_Goes.via (T' := T7) (g' := (mkF m 36 #[.val (.ref ao), .val (.int xp), .val (.int xc)] [(.long xj8), (.int xp), (.ref bh)])) (fun t_ k_ => X7.laload hx (j := xp) (v := (.long xj8)) (by rw [e7]; exact Ar8.1) (State.isArrayOf_alike hZ.alike Ar8.2.1) Ar8.2.2 (inb_of Sl8 in35_9) at8 (g := (mkF m 35 #[.val (.ref ao), .val (.int xp), .val (.int xc)] [(.int xp), (.ref bh), (.int xp), (.ref bh)])) rfl rfl (hb hby d7_35) _ k_) ?_
    refine own_Goes.via (T' := T7) (g' := (mkF m 37 #[.val (.ref ao), .val (.int xp), .val (.int xc)] [(.int xc), (.long xj8), (.int xp), (.ref bh)])) (fun t_ k_ => XS.iloadN X7.here hx rfl (hb hby d7_36) rfl k_) ?_
    obtain ⟨_, _, ⟨T10, L10, k10, n10⟩, -, X10, ⟨Lc10, hQ10, l10, y10, z10⟩, st10⟩ := Jvm.LawKit.callS X7 hx (y := (⟨"com/example/wildsuit/wildsuit/game/CardSet", "of", "(I)J"⟩ : MethodName)) hown (mvT hZ (hw _ (List.mem_of_getElem? (i := 52) rfl))) (mvT hZ (hw _ (List.mem_of_getElem? (i := 53) rfl))) (mvT hZ (hw _ (List.mem_of_getElem? (i := 50) rfl))) (mvT hZ (hw _ (List.mem_of_getElem? (i := 54) rfl))) (by decide) (backOf (W := 4) (rm9 l Z a0 hw [] xc h0 n0 Z0 ) hZ (hw _ (List.mem_of_getElem? (i := 54) rfl)) (hw _ (List.mem_of_getElem? (i := 50) rfl)) (by decide) (by decide)) (g := (mkF m 37 #[.val (.ref ao), .val (.int xp), .val (.int xc)] [(.int xc), (.long xj8), (.int xp), (.ref bh)])) rfl (by rw [hml]; rfl) (argsL := [(.int xc)]) (rest := [(.long xj8), (.int xp), (.ref bh)]) (lenOf pd_7_1 rfl) rfl (by show 2 * 0 + _ ≤ _; exact Nat.le_of_eq rfl) (hb hby d7_37) (fun _ _ => ⟨rfl, e7, (by decide : 0 + 0 ≤ _), (by decide : 0 + 0 ≤ _)⟩)
    dsimp only [Pt.U, Pt.locs, Pt.cells, Pt.slots] at X10 l10 y10 z10 st10 hQ10
    subst l10 y10 z10
    obtain ⟨rfl, Nq10, hh10⟩ := hQ10
    have N10 := Fr.app N4 Nq10
    refine own_Goes.via (T' := T10) (g' := (mkF m 40 #[.val (.ref ao), .val (.int xp), .val (.int xc)] [(.long (own_f9 xc)), (.long xj8), (.int xp), (.ref bh)])) (st10) ?_
    obtain ⟨v11, hv11⟩ : ∃ z : Int64, z = (own_f9 xc) := ⟨_, rfl⟩
    rw [← hv11]
    refine own_Goes.via (T' := T10) (g' := (mkF m 41 #[.val (.ref ao), .val (.int xp), .val (.int xc)] [(.long (xj8 ||| v11)), (.int xp), (.ref bh)])) (fun t_ k_ => XS.lor X10.here hx rfl (hb hby d7_40) rfl k_) ?_
    obtain ⟨cl12, Ar12, Sl12, Ng12, -⟩ := id PF5
    have in41_13 : ¬ xp < 0 ∧ xp < nn := hp
    obtain ⟨T12, h12, X12, e12, W12, st12⟩ := stJ X10 hx hZ hh10 Ar12 (j := xp) (inb_of Sl12 in41_13) (g := (mkF m 41 #[.val (.ref ao), .val (.int xp), .val (.int xc)] [(.long (xj8 ||| v11)), (.int xp), (.ref bh)])) rfl rfl (hb hby d7_41)
    have E14 : Exa Z h12 ao "com/example/wildsuit/wildsuit/game/Row" := PF0.wr W12
    have E15 : Exa Z h12 bh "[J" := PF1.wr W12
    have E16 : Exa Z h12 bt "[J" := PF2.wr W12
    have F17 : Fld Z h12 ao "com/example/wildsuit/wildsuit/game/Row" "held" "[J" (.ref bh) := PF3.other W12 (Or.inl (Exa.ne E14 E15 (by decide)))
    have F18 : Fld Z h12 ao "com/example/wildsuit/wildsuit/game/Row" "heldTwice" "[J" (.ref bt) := PF4.other W12 (Or.inl (Exa.ne E14 E15 (by decide)))
    have U19 : own_Un Z h12 bt .long nn := PF6.other W12 (Ne.symm PN0)
    have U20 : own_Un Z h12 bh .long nn := PF5.set W12 rfl
    have N12 := Fr.snoc X12 N10 ge_bh
    have sz12 : n0 ≤ h12.size := Nat.le_trans Z0 (Keep.of_wr W12).1
    have K12 : Keep h0 h12 [bh, bt] := ((Keep.refl h0 [bh, bt])).wr W12 (Or.inl (List.mem_of_getElem? (i := 0) rfl))
    refine own_Goes.via (T' := T12) (g' := (mkF m 42 #[.val (.ref ao), .val (.int xp), .val (.int xc)] [])) (st12) ?_
    obtain ⟨fs, hr, hrun, hended, hW, hsame⟩ := X12.leave (v := none) (fun _ => rfl)
    refine own_Goes.fin (X12.returnOut hx Bd.returns (hb hby d7_42) hr) hrun hended ?_
    subst hPd
    refine ⟨_, _, rfl, ?_, ⟨_, rfl⟩, hW, hsame.mono (by decide) (by decide)⟩
    show Q7 Z ao xp xc bh bt nn h0 n0 _ T12.heap _
    rw [e12]
    exact ⟨rfl, N12, K12, U20, U19⟩
  · refine own_Goes.via (T' := T4) (g' := (mkF m 13 #[.val (.ref ao), .val (.int xp), .val (.int xc)] [])) (fun t_ k_ => XS.ifNo X4.here hx rfl (hb hby d7_10) rfl ((if0 _ _).trans (feq hc10_6).1) k_) ?_
    refine own_Goes.via (T' := T4) (g' := (mkF m 14 #[.val (.ref ao), .val (.int xp), .val (.int xc)] [(.ref ao)])) (fun t_ k_ => XS.aloadN X4.here hx rfl (hb hby d7_13) rfl rfl k_) ?_
    obtain ⟨T21, X21, e21, st21⟩ := getF X4 hx hZ hown (host := "") (Or.inl (hw _ (List.mem_of_getElem? (i := 18) rfl))) Via.refl hh4 PF4 (g := (mkF m 14 #[.val (.ref ao), .val (.int xp), .val (.int xc)] [(.ref ao)])) rfl rfl (hb hby d7_14)
    refine own_Goes.via (T' := T21) (g' := (mkF m 17 #[.val (.ref ao), .val (.int xp), .val (.int xc)] [(.ref bt)])) (st21) ?_
    refine own_Goes.via (T' := T21) (g' := (mkF m 18 #[.val (.ref ao), .val (.int xp), .val (.int xc)] [(.int xp), (.ref bt)])) (fun t_ k_ => XS.iloadN X21.here hx rfl (hb hby d7_17) rfl k_) ?_
    refine own_Goes.via (T' := T21) (g' := (mkF m 19 #[.val (.ref ao), .val (.int xp), .val (.int xc)] [(.int xp), (.ref bt), (.int xp), (.ref bt)])) (fun t_ k_ => by jvm_step X21.here [X21.here.top, hx, (hb hby d7_18), Value.category]; exact k_) ?_
    have in19_23 : ¬ xp < 0 ∧ xp < nn := hp
    obtain ⟨cl22, xj22, Ar22, Sl22, at22⟩ := PF6.rdJ in19_23
    refine own_Goes.via (T' := T21) (g' := (mkF m 20 #[.val (.ref ao), .val (.int xp), .val (.int xc)] [(.long xj22), (.int xp), (.ref bt)])) (fun t_ k_ => X21.laload hx (j := xp) (v := (.long xj22)) (by rw [e21]; exact Ar22.1) (State.isArrayOf_alike hZ.alike Ar22.2.1) Ar22.2.2 (inb_of Sl22 in19_23) at22 (g := (mkF m 19 #[.val (.ref ao), .val (.int xp), .val (.int xc)] [(.int xp), (.ref bt), (.int xp), (.ref bt)])) rfl rfl (hb hby d7_19) _ k_) ?_
    refine own_Goes.via (T' := T21) (g' := (mkF m 21 #[.val (.ref ao), .val (.int xp), .val (.int xc)] [(.int xc), (.long xj22), (.int xp), (.ref bt)])) (fun t_ k_ => XS.iloadN X21.here hx rfl (hb hby d7_20) rfl k_) ?_
    obtain ⟨_, _, ⟨T24, L24, k24, n24⟩, -, X24, ⟨Lc24, hQ24, l24, y24, z24⟩, st24⟩ := Jvm.LawKit.callS X21 hx (y := (⟨"com/example/wildsuit/wildsuit/game/CardSet", "of", "(I)J"⟩ : MethodName)) hown (mvT hZ (hw _ (List.mem_of_getElem? (i := 52) rfl))) (mvT hZ (hw _ (List.mem_of_getElem? (i := 53) rfl))) (mvT hZ (hw _ (List.mem_of_getElem? (i := 50) rfl))) (mvT hZ (hw _ (List.mem_of_getElem? (i := 54) rfl))) (by decide) (backOf (W := 4) (rm9 l Z a0 hw [] xc h0 n0 Z0 ) hZ (hw _ (List.mem_of_getElem? (i := 54) rfl)) (hw _ (List.mem_of_getElem? (i := 50) rfl)) (by decide) (by decide)) (g := (mkF m 21 #[.val (.ref ao), .val (.int xp), .val (.int xc)] [(.int xc), (.long xj22), (.int xp), (.ref bt)])) rfl (by rw [hml]; rfl) (argsL := [(.int xc)]) (rest := [(.long xj22), (.int xp), (.ref bt)]) (lenOf pd_7_1 rfl) rfl (by show 2 * 0 + _ ≤ _; exact Nat.le_of_eq rfl) (hb hby d7_21) (fun _ _ => ⟨rfl, e21, (by decide : 0 + 0 ≤ _), (by decide : 0 + 0 ≤ _)⟩)
    dsimp only [Pt.U, Pt.locs, Pt.cells, Pt.slots] at X24 l24 y24 z24 st24 hQ24
    subst l24 y24 z24
    obtain ⟨rfl, Nq24, hh24⟩ := hQ24
    have N24 := Fr.app N4 Nq24
    refine own_Goes.via (T' := T24) (g' := (mkF m 24 #[.val (.ref ao), .val (.int xp), .val (.int xc)] [(.long (own_f9 xc)), (.long xj22), (.int xp), (.ref bt)])) (st24) ?_
    obtain ⟨v25, hv25⟩ : ∃ z : Int64, z = (own_f9 xc) := ⟨_, rfl⟩
    rw [← hv25]
    refine own_Goes.via (T' := T24) (g' := (mkF m 25 #[.val (.ref ao), .val (.int xp), .val (.int xc)] [(.long (xj22 ||| v25)), (.int xp), (.ref bt)])) (fun t_ k_ => XS.lor X24.here hx rfl (hb hby d7_24) rfl k_) ?_
    obtain ⟨cl26, Ar26, Sl26, Ng26, -⟩ := id PF6
    have in25_27 : ¬ xp < 0 ∧ xp < nn := hp
    obtain ⟨T26, h26, X26, e26, W26, st26⟩ := stJ X24 hx hZ hh24 Ar26 (j := xp) (inb_of Sl26 in25_27) (g := (mkF m 25 #[.val (.ref ao), .val (.int xp), .val (.int xc)] [(.long (xj22 ||| v25)), (.int xp), (.ref bt)])) rfl rfl (hb hby d7_25)
    have E28 : Exa Z h26 ao "com/example/wildsuit/wildsuit/game/Row" := PF0.wr W26
    have E29 : Exa Z h26 bh "[J" := PF1.wr W26
    have E30 : Exa Z h26 bt "[J" := PF2.wr W26
    have F31 : Fld Z h26 ao "com/example/wildsuit/wildsuit/game/Row" "held" "[J" (.ref bh) := PF3.other W26 (Or.inl (Exa.ne E28 E30 (by decide)))
    have F32 : Fld Z h26 ao "com/example/wildsuit/wildsuit/game/Row" "heldTwice" "[J" (.ref bt) := PF4.other W26 (Or.inl (Exa.ne E28 E30 (by decide)))
    have U33 : own_Un Z h26 bh .long nn := PF5.other W26 PN0
    have U34 : own_Un Z h26 bt .long nn := PF6.set W26 rfl
    have N26 := Fr.snoc X26 N24 ge_bt
    have sz26 : n0 ≤ h26.size := Nat.le_trans Z0 (Keep.of_wr W26).1
    have K26 : Keep h0 h26 [bh, bt] := ((Keep.refl h0 [bh, bt])).wr W26 (Or.inl (List.mem_of_getElem? (i := 1) rfl))
    refine own_Goes.via (T' := T26) (g' := (mkF m 26 #[.val (.ref ao), .val (.int xp), .val (.int xc)] [])) (st26) ?_
    refine own_Goes.via (T' := T26) (g' := (mkF m 42 #[.val (.ref ao), .val (.int xp), .val (.int xc)] [])) (fun t_ k_ => XS.goto X26.here hx rfl (pc0 := 26) (pc' := 42) rfl (hb hby d7_26) (by decide) (by decide) k_) ?_
    obtain ⟨fs, hr, hrun, hended, hW, hsame⟩ := X26.leave (v := none) (fun _ => rfl)
    refine own_Goes.fin (X26.returnOut hx Bd.returns (hb hby d7_42) hr) hrun hended ?_
    subst hPd
    refine ⟨_, _, rfl, ?_, ⟨_, rfl⟩, hW, hsame.mono (by decide) (by decide)⟩
    show Q7 Z ao xp xc bh bt nn h0 n0 _ T26.heap _
    rw [e26]
    exact ⟨rfl, N26, K26, U33, U34⟩
theorem d12_0 : decode prog_36_method_12_code 0 = .ok (.aload_n 0, 1) := by decide +kernel
theorem d12_1 : decode prog_36_method_12_code 1 = .ok (.getfield 21, 3) := by decide +kernel
theorem d12_4 : decode prog_36_method_12_code 4 = .ok (.iload_n 1, 1) := by decide +kernel
theorem d12_5 : decode prog_36_method_12_code 5 = .ok (.laload, 1) := by decide +kernel
theorem d12_6 : decode prog_36_method_12_code 6 = .ok (.iload_n 2, 1) := by decide +kernel
theorem d12_7 : decode prog_36_method_12_code 7 = .ok (.invokestatic 56, 3) := by decide +kernel
theorem d12_10 : decode prog_36_method_12_code 10 = .ok (.ifCond .eq 23, 3) := by decide +kernel
theorem d12_13 : decode prog_36_method_12_code 13 = .ok (.aload_n 0, 1) := by decide +kernel
theorem d12_14 : decode prog_36_method_12_code 14 = .ok (.getfield 21, 3) := by decide +kernel
theorem d12_17 : decode prog_36_method_12_code 17 = .ok (.iload_n 1, 1) := by decide +kernel
theorem d12_18 : decode prog_36_method_12_code 18 = .ok (.dup2, 1) := by decide +kernel
theorem d12_19 : decode prog_36_method_12_code 19 = .ok (.laload, 1) := by decide +kernel
theorem d12_20 : decode prog_36_method_12_code 20 = .ok (.iload_n 2, 1) := by decide +kernel
theorem d12_21 : decode prog_36_method_12_code 21 = .ok (.invokestatic 62, 3) := by decide +kernel
theorem d12_24 : decode prog_36_method_12_code 24 = .ok (.ldc2_w 66, 3) := by decide +kernel
theorem d12_27 : decode prog_36_method_12_code 27 = .ok (.lxor, 1) := by decide +kernel
theorem d12_28 : decode prog_36_method_12_code 28 = .ok (.land, 1) := by decide +kernel
theorem d12_29 : decode prog_36_method_12_code 29 = .ok (.lastore, 1) := by decide +kernel
theorem d12_30 : decode prog_36_method_12_code 30 = .ok (.goto 20, 3) := by decide +kernel
theorem d12_33 : decode prog_36_method_12_code 33 = .ok (.aload_n 0, 1) := by decide +kernel
theorem d12_34 : decode prog_36_method_12_code 34 = .ok (.getfield 17, 3) := by decide +kernel
theorem d12_37 : decode prog_36_method_12_code 37 = .ok (.iload_n 1, 1) := by decide +kernel
theorem d12_38 : decode prog_36_method_12_code 38 = .ok (.dup2, 1) := by decide +kernel
theorem d12_39 : decode prog_36_method_12_code 39 = .ok (.laload, 1) := by decide +kernel
theorem d12_40 : decode prog_36_method_12_code 40 = .ok (.iload_n 2, 1) := by decide +kernel
theorem d12_41 : decode prog_36_method_12_code 41 = .ok (.invokestatic 62, 3) := by decide +kernel
theorem d12_44 : decode prog_36_method_12_code 44 = .ok (.ldc2_w 66, 3) := by decide +kernel
theorem d12_47 : decode prog_36_method_12_code 47 = .ok (.lxor, 1) := by decide +kernel
theorem d12_48 : decode prog_36_method_12_code 48 = .ok (.land, 1) := by decide +kernel
theorem d12_49 : decode prog_36_method_12_code 49 = .ok (.lastore, 1) := by decide +kernel
theorem d12_50 : decode prog_36_method_12_code 50 = .ok (.return_, 1) := by decide +kernel
theorem pn_12 : plainName "com/example/wildsuit/wildsuit/game/Row" = true := by first | (simp [plainName, overriddenIn]; done) | decide +kernel
theorem pd_12_0 : parseMethodDescriptor "(JI)Z" = some ⟨[.long, .int], some .boolean⟩ := by decide +kernel
theorem pd_12_1 : parseMethodDescriptor "(I)J" = some ⟨[.int], some .long⟩ := by decide +kernel
theorem ef_12 (m : MethodId) (ao : Addr) (xp : Int32) (xc : Int32) : entryFrame m #[(.ref ao), (.int xp), (.int xc)] 3 = mkF m 0 #[.val (.ref ao), .val (.int xp), .val (.int xc)] [] := by first | (simp [entryFrame, mkF, argsToLocals, Value.category]; done) | rfl
def Q12 (Z : State) (ao : Addr) (xp : Int32) (xc : Int32) (bh : Addr) (bt : Addr) (nn : Int32) (h0 : Heap) (n0 : Nat) (v : Option Value) (h : Heap) (L : List Loc) : Prop := v = none ∧ Fr n0 L ∧ Keep h0 h [bh, bt] ∧ own_Un Z h bh .long nn ∧ own_Un Z h bt .long nn
set_option maxRecDepth 65536 in
set_option maxHeartbeats 40000000 in
theorem rm12 (l : Launch) (Z : State) (a0 : Array Value) (hw : ∀ d ∈ tables_1, d.before a0 Z = true) (ws : List Jvm.Cond) (ao : Addr) (xp : Int32) (xc : Int32) (bh : Addr) (bt : Addr) (nn : Int32) (h0 : Heap) (n0 : Nat) (Z0 : n0 ≤ h0.size) (PF0 : Exa Z h0 ao "com/example/wildsuit/wildsuit/game/Row") (PF1 : Exa Z h0 bh "[J") (PF2 : Exa Z h0 bt "[J") (PF3 : Fld Z h0 ao "com/example/wildsuit/wildsuit/game/Row" "held" "[J" (.ref bh)) (PF4 : Fld Z h0 ao "com/example/wildsuit/wildsuit/game/Row" "heldTwice" "[J" (.ref bt)) (PF5 : own_Un Z h0 bh .long nn) (PF6 : own_Un Z h0 bt .long nn) (PN0 : bh ≠ bt) (ge_bh : n0 ≤ bh) (ge_bt : n0 ≤ bt) (hp : ¬ xp < 0 ∧ xp < nn) :
    MetFree l (⟨"com/example/wildsuit/wildsuit/game/Row", "release", "(II)V"⟩ : MethodName) (head1 (Jvm.Cond.code (⟨"com/example/wildsuit/wildsuit/game/Row", "release", "(II)V"⟩ : MethodName) prog_36_method_12_code 3 none :: ws) ({ frames := 1, cells := 0, slots := 0, locals := 16 } : Room)) (fun a U => a = #[(.ref ao), (.int xp), (.int xc)] ∧ Z.Warmed39 U.vm ∧ U.heap = h0) (fun _ _ _ _ _ => True) (fun _ U o U' => ∃ v L, o = .returned v ∧ Q12 Z ao xp xc bh bt nn h0 n0 v U'.heap L ∧ FrameEnd U o U' L ({ frames := 1, cells := 0, slots := 0, locals := 16 } : Room).cells ({ frames := 1, cells := 0, slots := 0, locals := 16 } : Room).slots) := by
  refine MetFree.of_bodySF (plainFor_of_name pn_12) hisR ?_
  intro p e s m args below meth c s₁ Bd hml0 hP hK
  obtain ⟨rfl, hZ, hh⟩ := hP
  have hx := Bd.exec
  have hby := Bd.bytes
  have hml : c.maxLocals = 3 := hml0
  have hown : s.vm.findClass "com/example/wildsuit/wildsuit/game/Row" = some m.cls := findClass_of_methodNamed Bd.named
  have hnm := (name_of_methodNamed Bd.named Bd.method).1
  have X0 : Stand p l e ({ frames := 1, cells := 0, slots := 0, locals := 16 } : Room) s m #[(.ref ao), (.int xp), (.int xc)] below meth c s₁ [] 0 0 := Stand.of_body Bd
  have e0 : s₁.heap = h0 := by rw [← hh, Bd.state]; rfl
  have N0 := Fr.nil n0
  suffices G : own_Goes p.tables e below (fun o U' => ∃ v L, o = .returned v ∧ Q12 Z ao xp xc bh bt nn h0 n0 v U'.heap L ∧ FrameEnd s o U' L ({ frames := 1, cells := 0, slots := 0, locals := 16 } : Room).cells ({ frames := 1, cells := 0, slots := 0, locals := 16 } : Room).slots) s₁ (mkF m 0 #[.val (.ref ao), .val (.int xp), .val (.int xc)] []) by
    obtain ⟨t2_, o2_, z1_, z2_, z3_, z4_⟩ := G
    exact ⟨t2_, o2_, castTop (ef_12 m ao xp xc) z1_, z2_, z3_, z4_⟩
  generalize hPd : (fun (o : Outcome) (U' : State) => ∃ v L, o = .returned v ∧ Q12 Z ao xp xc bh bt nn h0 n0 v U'.heap L ∧ FrameEnd s o U' L ({ frames := 1, cells := 0, slots := 0, locals := 16 } : Room).cells ({ frames := 1, cells := 0, slots := 0, locals := 16 } : Room).slots) = P
  refine own_Goes.via (T' := s₁) (g' := (mkF m 1 #[.val (.ref ao), .val (.int xp), .val (.int xc)] [(.ref ao)])) (fun t_ k_ => XS.aloadN X0.here hx rfl (hb hby d12_0) rfl rfl k_) ?_
  obtain ⟨T1, X1, e1, st1⟩ := getF X0 hx hZ hown (host := "") (Or.inl (hw _ (List.mem_of_getElem? (i := 18) rfl))) Via.refl e0 PF4 (g := (mkF m 1 #[.val (.ref ao), .val (.int xp), .val (.int xc)] [(.ref ao)])) rfl rfl (hb hby d12_1)
  refine own_Goes.via (T' := T1) (g' := (mkF m 4 #[.val (.ref ao), .val (.int xp), .val (.int xc)] [(.ref bt)])) (st1) ?_
  refine own_Goes.via (T' := T1) (g' := (mkF m 5 #[.val (.ref ao), .val (.int xp), .val (.int xc)] [(.int xp), (.ref bt)])) (fun t_ k_ => XS.iloadN X1.here hx rfl (hb hby d12_4) rfl k_) ?_
  have in5_3 : ¬ xp < 0 ∧ xp < nn := hp
  obtain ⟨cl2, xj2, Ar2, Sl2, at2⟩ := PF6.rdJ in5_3
  refine own_Goes.via (T' := T1) (g' := (mkF m 6 #[.val (.ref ao), .val (.int xp), .val (.int xc)] [(.long xj2)])) (fun t_ k_ => X1.laload hx (j := xp) (v := (.long xj2)) (by rw [e1]; exact Ar2.1) (State.isArrayOf_alike hZ.alike Ar2.2.1) Ar2.2.2 (inb_of Sl2 in5_3) at2 (g := (mkF m 5 #[.val (.ref ao), .val (.int xp), .val (.int xc)] [(.int xp), (.ref bt)])) rfl rfl (hb hby d12_5) _ k_) ?_
  refine own_Goes.via (T' := T1) (g' := (mkF m 7 #[.val (.ref ao), .val (.int xp), .val (.int xc)] [(.int xc), (.long xj2)])) (fun t_ k_ => XS.iloadN X1.here hx rfl (hb hby d12_6) rfl k_) ?_
  obtain ⟨_, _, ⟨T4, L4, k4, n4⟩, -, X4, ⟨Lc4, hQ4, l4, y4, z4⟩, st4⟩ := Jvm.LawKit.callS X1 hx (y := (⟨"com/example/wildsuit/wildsuit/game/CardSet", "contains", "(JI)Z"⟩ : MethodName)) hown (mvT hZ (hw _ (List.mem_of_getElem? (i := 48) rfl))) (mvT hZ (hw _ (List.mem_of_getElem? (i := 49) rfl))) (mvT hZ (hw _ (List.mem_of_getElem? (i := 50) rfl))) (mvT hZ (hw _ (List.mem_of_getElem? (i := 51) rfl))) (by decide) (backOf (W := 0) (rm8 l Z a0 hw [] xj2 xc h0 n0 Z0 ) hZ (hw _ (List.mem_of_getElem? (i := 51) rfl)) (hw _ (List.mem_of_getElem? (i := 50) rfl)) (by decide) (by decide)) (g := (mkF m 7 #[.val (.ref ao), .val (.int xp), .val (.int xc)] [(.int xc), (.long xj2)])) rfl (by rw [hml]; rfl) (argsL := [(.long xj2), (.int xc)]) (rest := []) (lenOf pd_12_0 rfl) rfl (by show 2 * 0 + _ ≤ _; exact Nat.le_of_eq rfl) (hb hby d12_7) (fun _ _ => ⟨rfl, e1, (by decide : 0 + 0 ≤ _), (by decide : 0 + 0 ≤ _)⟩)
  dsimp only [Pt.U, Pt.locs, Pt.cells, Pt.slots] at X4 l4 y4 z4 st4 hQ4
  subst l4 y4 z4
  obtain ⟨rfl, Nq4, hh4⟩ := hQ4
  have N4 := Fr.app N0 Nq4
  refine own_Goes.via (T' := T4) (g' := (mkF m 10 #[.val (.ref ao), .val (.int xp), .val (.int xc)] [(.int (own_f8 xj2 xc))])) (st4) ?_
  obtain ⟨v5, hv5⟩ : ∃ z : Int32, z = (own_f8 xj2 xc) := ⟨_, rfl⟩
  rw [← hv5]
  by_cases hc10_6 : v5 = (0 : Int32)
  · refine own_Goes.via (T' := T4) (g' := (mkF m 33 #[.val (.ref ao), .val (.int xp), .val (.int xc)] [])) (fun t_ k_ => XS.ifYes X4.here hx rfl (pc0 := 10) (pc' := 33) rfl (hb hby d12_10) rfl ((if0 _ _).trans (teq hc10_6).1) (by decide) (by decide) k_) ?_
    refine own_Goes.via (T' := T4) (g' := (mkF m 34 #[.val (.ref ao), .val (.int xp), .val (.int xc)] [(.ref ao)])) (fun t_ k_ => XS.aloadN X4.here hx rfl (hb hby d12_33) rfl rfl k_) ?_
    obtain ⟨T7, X7, e7, st7⟩ := getF X4 hx hZ hown (host := "") (Or.inl (hw _ (List.mem_of_getElem? (i := 16) rfl))) Via.refl hh4 PF3 (g := (mkF m 34 #[.val (.ref ao), .val (.int xp), .val (.int xc)] [(.ref ao)])) rfl rfl (hb hby d12_34)
    refine own_Goes.via (T' := T7) (g' := (mkF m 37 #[.val (.ref ao), .val (.int xp), .val (.int xc)] [(.ref bh)])) (st7) ?_
    refine own_Goes.via (T' := T7) (g' := (mkF m 38 #[.val (.ref ao), .val (.int xp), .val (.int xc)] [(.int xp), (.ref bh)])) (fun t_ k_ => XS.iloadN X7.here hx rfl (hb hby d12_37) rfl k_) ?_
    refine own_Goes.via (T' := T7) (g' := (mkF m 39 #[.val (.ref ao), .val (.int xp), .val (.int xc)] [(.int xp), (.ref bh), (.int xp), (.ref bh)])) (fun t_ k_ => by jvm_step X7.here [X7.here.top, hx, (hb hby d12_38), Value.category]; exact k_) ?_
    have in39_9 : ¬ xp < 0 ∧ xp < nn := hp
    obtain ⟨cl8, xj8, Ar8, Sl8, at8⟩ := PF5.rdJ in39_9
    refine own_Goes.via (T' := T7) (g' := (mkF m 40 #[.val (.ref ao), .val (.int xp), .val (.int xc)] [(.long xj8), (.int xp), (.ref bh)])) (fun t_ k_ => X7.laload hx (j := xp) (v := (.long xj8)) (by rw [e7]; exact Ar8.1) (State.isArrayOf_alike hZ.alike Ar8.2.1) Ar8.2.2 (inb_of Sl8 in39_9) at8 (g := (mkF m 39 #[.val (.ref ao), .val (.int xp), .val (.int xc)] [(.int xp), (.ref bh), (.int xp), (.ref bh)])) rfl rfl (hb hby d12_39) _ k_) ?_
    refine own_Goes.via (T' := T7) (g' := (mkF m 41 #[.val (.ref ao), .val (.int xp), .val (.int xc)] [(.int xc), (.long xj8), (.int xp), (.ref bh)])) (fun t_ k_ => XS.iloadN X7.here hx rfl (hb hby d12_40) rfl k_) ?_
    obtain ⟨_, _, ⟨T10, L10, k10, n10⟩, -, X10, ⟨Lc10, hQ10, l10, y10, z10⟩, st10⟩ := Jvm.LawKit.callS X7 hx (y := (⟨"com/example/wildsuit/wildsuit/game/CardSet", "of", "(I)J"⟩ : MethodName)) hown (mvT hZ (hw _ (List.mem_of_getElem? (i := 52) rfl))) (mvT hZ (hw _ (List.mem_of_getElem? (i := 53) rfl))) (mvT hZ (hw _ (List.mem_of_getElem? (i := 50) rfl))) (mvT hZ (hw _ (List.mem_of_getElem? (i := 54) rfl))) (by decide) (backOf (W := 4) (rm9 l Z a0 hw [] xc h0 n0 Z0 ) hZ (hw _ (List.mem_of_getElem? (i := 54) rfl)) (hw _ (List.mem_of_getElem? (i := 50) rfl)) (by decide) (by decide)) (g := (mkF m 41 #[.val (.ref ao), .val (.int xp), .val (.int xc)] [(.int xc), (.long xj8), (.int xp), (.ref bh)])) rfl (by rw [hml]; rfl) (argsL := [(.int xc)]) (rest := [(.long xj8), (.int xp), (.ref bh)]) (lenOf pd_12_1 rfl) rfl (by show 2 * 0 + _ ≤ _; exact Nat.le_of_eq rfl) (hb hby d12_41) (fun _ _ => ⟨rfl, e7, (by decide : 0 + 0 ≤ _), (by decide : 0 + 0 ≤ _)⟩)
    dsimp only [Pt.U, Pt.locs, Pt.cells, Pt.slots] at X10 l10 y10 z10 st10 hQ10
    subst l10 y10 z10
    obtain ⟨rfl, Nq10, hh10⟩ := hQ10
    have N10 := Fr.app N4 Nq10
    refine own_Goes.via (T' := T10) (g' := (mkF m 44 #[.val (.ref ao), .val (.int xp), .val (.int xc)] [(.long (own_f9 xc)), (.long xj8), (.int xp), (.ref bh)])) (st10) ?_
    obtain ⟨v11, hv11⟩ : ∃ z : Int64, z = (own_f9 xc) := ⟨_, rfl⟩
    rw [← hv11]
    refine own_Goes.via (T' := T10) (g' := (mkF m 47 #[.val (.ref ao), .val (.int xp), .val (.int xc)] [(.long (-1 : Int64)), (.long v11), (.long xj8), (.int xp), (.ref bh)])) (X10.ldc2Long hx hown (mvT hZ (hw _ (List.mem_of_getElem? (i := 69) rfl))) (g := (mkF m 44 #[.val (.ref ao), .val (.int xp), .val (.int xc)] [(.long v11), (.long xj8), (.int xp), (.ref bh)])) rfl (hb hby d12_44)) ?_
    refine own_Goes.via (T' := T10) (g' := (mkF m 48 #[.val (.ref ao), .val (.int xp), .val (.int xc)] [(.long (v11 ^^^ (-1 : Int64))), (.long xj8), (.int xp), (.ref bh)])) (fun t_ k_ => XS.lxor X10.here hx rfl (hb hby d12_47) rfl k_) ?_
    refine own_Goes.via (T' := T10) (g' := (mkF m 49 #[.val (.ref ao), .val (.int xp), .val (.int xc)] [(.long (xj8 &&& (v11 ^^^ (-1 : Int64)))), (.int xp), (.ref bh)])) (fun t_ k_ => XS.land X10.here hx rfl (hb hby d12_48) rfl k_) ?_
    obtain ⟨cl12, Ar12, Sl12, Ng12, -⟩ := id PF5
    have in49_13 : ¬ xp < 0 ∧ xp < nn := hp
    obtain ⟨T12, h12, X12, e12, W12, st12⟩ := stJ X10 hx hZ hh10 Ar12 (j := xp) (inb_of Sl12 in49_13) (g := (mkF m 49 #[.val (.ref ao), .val (.int xp), .val (.int xc)] [(.long (xj8 &&& (v11 ^^^ (-1 : Int64)))), (.int xp), (.ref bh)])) rfl rfl (hb hby d12_49)
    have E14 : Exa Z h12 ao "com/example/wildsuit/wildsuit/game/Row" := PF0.wr W12
    have E15 : Exa Z h12 bh "[J" := PF1.wr W12
    have E16 : Exa Z h12 bt "[J" := PF2.wr W12
    have F17 : Fld Z h12 ao "com/example/wildsuit/wildsuit/game/Row" "held" "[J" (.ref bh) := PF3.other W12 (Or.inl (Exa.ne E14 E15 (by decide)))
    have F18 : Fld Z h12 ao "com/example/wildsuit/wildsuit/game/Row" "heldTwice" "[J" (.ref bt) := PF4.other W12 (Or.inl (Exa.ne E14 E15 (by decide)))
    have U19 : own_Un Z h12 bt .long nn := PF6.other W12 (Ne.symm PN0)
    have U20 : own_Un Z h12 bh .long nn := PF5.set W12 rfl
    have N12 := Fr.snoc X12 N10 ge_bh
    have sz12 : n0 ≤ h12.size := Nat.le_trans Z0 (Keep.of_wr W12).1
    have K12 : Keep h0 h12 [bh, bt] := ((Keep.refl h0 [bh, bt])).wr W12 (Or.inl (List.mem_of_getElem? (i := 0) rfl))
    refine own_Goes.via (T' := T12) (g' := (mkF m 50 #[.val (.ref ao), .val (.int xp), .val (.int xc)] [])) (st12) ?_
    obtain ⟨fs, hr, hrun, hended, hW, hsame⟩ := X12.leave (v := none) (fun _ => rfl)
    refine own_Goes.fin (X12.returnOut hx Bd.returns (hb hby d12_50) hr) hrun hended ?_
    subst hPd
    refine ⟨_, _, rfl, ?_, ⟨_, rfl⟩, hW, hsame.mono (by decide) (by decide)⟩
    show Q12 Z ao xp xc bh bt nn h0 n0 _ T12.heap _
    rw [e12]
    exact ⟨rfl, N12, K12, U20, U19⟩
  · refine own_Goes.via (T' := T4) (g' := (mkF m 13 #[.val (.ref ao), .val (.int xp), .val (.int xc)] [])) (fun t_ k_ => XS.ifNo X4.here hx rfl (hb hby d12_10) rfl ((if0 _ _).trans (feq hc10_6).1) k_) ?_
    refine own_Goes.via (T' := T4) (g' := (mkF m 14 #[.val (.ref ao), .val (.int xp), .val (.int xc)] [(.ref ao)])) (fun t_ k_ => XS.aloadN X4.here hx rfl (hb hby d12_13) rfl rfl k_) ?_
    obtain ⟨T21, X21, e21, st21⟩ := getF X4 hx hZ hown (host := "") (Or.inl (hw _ (List.mem_of_getElem? (i := 18) rfl))) Via.refl hh4 PF4 (g := (mkF m 14 #[.val (.ref ao), .val (.int xp), .val (.int xc)] [(.ref ao)])) rfl rfl (hb hby d12_14)
    refine own_Goes.via (T' := T21) (g' := (mkF m 17 #[.val (.ref ao), .val (.int xp), .val (.int xc)] [(.ref bt)])) (st21) ?_
    refine own_Goes.via (T' := T21) (g' := (mkF m 18 #[.val (.ref ao), .val (.int xp), .val (.int xc)] [(.int xp), (.ref bt)])) (fun t_ k_ => XS.iloadN X21.here hx rfl (hb hby d12_17) rfl k_) ?_
    refine own_Goes.via (T' := T21) (g' := (mkF m 19 #[.val (.ref ao), .val (.int xp), .val (.int xc)] [(.int xp), (.ref bt), (.int xp), (.ref bt)])) (fun t_ k_ => by jvm_step X21.here [X21.here.top, hx, (hb hby d12_18), Value.category]; exact k_) ?_
    have in19_23 : ¬ xp < 0 ∧ xp < nn := hp
    obtain ⟨cl22, xj22, Ar22, Sl22, at22⟩ := PF6.rdJ in19_23
    refine own_Goes.via (T' := T21) (g' := (mkF m 20 #[.val (.ref ao), .val (.int xp), .val (.int xc)] [(.long xj22), (.int xp), (.ref bt)])) (fun t_ k_ => X21.laload hx (j := xp) (v := (.long xj22)) (by rw [e21]; exact Ar22.1) (State.isArrayOf_alike hZ.alike Ar22.2.1) Ar22.2.2 (inb_of Sl22 in19_23) at22 (g := (mkF m 19 #[.val (.ref ao), .val (.int xp), .val (.int xc)] [(.int xp), (.ref bt), (.int xp), (.ref bt)])) rfl rfl (hb hby d12_19) _ k_) ?_
    refine own_Goes.via (T' := T21) (g' := (mkF m 21 #[.val (.ref ao), .val (.int xp), .val (.int xc)] [(.int xc), (.long xj22), (.int xp), (.ref bt)])) (fun t_ k_ => XS.iloadN X21.here hx rfl (hb hby d12_20) rfl k_) ?_
    obtain ⟨_, _, ⟨T24, L24, k24, n24⟩, -, X24, ⟨Lc24, hQ24, l24, y24, z24⟩, st24⟩ := Jvm.LawKit.callS X21 hx (y := (⟨"com/example/wildsuit/wildsuit/game/CardSet", "of", "(I)J"⟩ : MethodName)) hown (mvT hZ (hw _ (List.mem_of_getElem? (i := 52) rfl))) (mvT hZ (hw _ (List.mem_of_getElem? (i := 53) rfl))) (mvT hZ (hw _ (List.mem_of_getElem? (i := 50) rfl))) (mvT hZ (hw _ (List.mem_of_getElem? (i := 54) rfl))) (by decide) (backOf (W := 4) (rm9 l Z a0 hw [] xc h0 n0 Z0 ) hZ (hw _ (List.mem_of_getElem? (i := 54) rfl)) (hw _ (List.mem_of_getElem? (i := 50) rfl)) (by decide) (by decide)) (g := (mkF m 21 #[.val (.ref ao), .val (.int xp), .val (.int xc)] [(.int xc), (.long xj22), (.int xp), (.ref bt)])) rfl (by rw [hml]; rfl) (argsL := [(.int xc)]) (rest := [(.long xj22), (.int xp), (.ref bt)]) (lenOf pd_12_1 rfl) rfl (by show 2 * 0 + _ ≤ _; exact Nat.le_of_eq rfl) (hb hby d12_21) (fun _ _ => ⟨rfl, e21, (by decide : 0 + 0 ≤ _), (by decide : 0 + 0 ≤ _)⟩)
    dsimp only [Pt.U, Pt.locs, Pt.cells, Pt.slots] at X24 l24 y24 z24 st24 hQ24
    subst l24 y24 z24
    obtain ⟨rfl, Nq24, hh24⟩ := hQ24
    have N24 := Fr.app N4 Nq24
    refine own_Goes.via (T' := T24) (g' := (mkF m 24 #[.val (.ref ao), .val (.int xp), .val (.int xc)] [(.long (own_f9 xc)), (.long xj22), (.int xp), (.ref bt)])) (st24) ?_
    obtain ⟨v25, hv25⟩ : ∃ z : Int64, z = (own_f9 xc) := ⟨_, rfl⟩
    rw [← hv25]
    refine own_Goes.via (T' := T24) (g' := (mkF m 27 #[.val (.ref ao), .val (.int xp), .val (.int xc)] [(.long (-1 : Int64)), (.long v25), (.long xj22), (.int xp), (.ref bt)])) (X24.ldc2Long hx hown (mvT hZ (hw _ (List.mem_of_getElem? (i := 69) rfl))) (g := (mkF m 24 #[.val (.ref ao), .val (.int xp), .val (.int xc)] [(.long v25), (.long xj22), (.int xp), (.ref bt)])) rfl (hb hby d12_24)) ?_
    refine own_Goes.via (T' := T24) (g' := (mkF m 28 #[.val (.ref ao), .val (.int xp), .val (.int xc)] [(.long (v25 ^^^ (-1 : Int64))), (.long xj22), (.int xp), (.ref bt)])) (fun t_ k_ => XS.lxor X24.here hx rfl (hb hby d12_27) rfl k_) ?_
    refine own_Goes.via (T' := T24) (g' := (mkF m 29 #[.val (.ref ao), .val (.int xp), .val (.int xc)] [(.long (xj22 &&& (v25 ^^^ (-1 : Int64)))), (.int xp), (.ref bt)])) (fun t_ k_ => XS.land X24.here hx rfl (hb hby d12_28) rfl k_) ?_
    obtain ⟨cl26, Ar26, Sl26, Ng26, -⟩ := id PF6
    have in29_27 : ¬ xp < 0 ∧ xp < nn := hp
    obtain ⟨T26, h26, X26, e26, W26, st26⟩ := stJ X24 hx hZ hh24 Ar26 (j := xp) (inb_of Sl26 in29_27) (g := (mkF m 29 #[.val (.ref ao), .val (.int xp), .val (.int xc)] [(.long (xj22 &&& (v25 ^^^ (-1 : Int64)))), (.int xp), (.ref bt)])) rfl rfl (hb hby d12_29)
    have E28 : Exa Z h26 ao "com/example/wildsuit/wildsuit/game/Row" := PF0.wr W26
    have E29 : Exa Z h26 bh "[J" := PF1.wr W26
    have E30 : Exa Z h26 bt "[J" := PF2.wr W26
    have F31 : Fld Z h26 ao "com/example/wildsuit/wildsuit/game/Row" "held" "[J" (.ref bh) := PF3.other W26 (Or.inl (Exa.ne E28 E30 (by decide)))
    have F32 : Fld Z h26 ao "com/example/wildsuit/wildsuit/game/Row" "heldTwice" "[J" (.ref bt) := PF4.other W26 (Or.inl (Exa.ne E28 E30 (by decide)))
    have U33 : own_Un Z h26 bh .long nn := PF5.other W26 PN0
    have U34 : own_Un Z h26 bt .long nn := PF6.set W26 rfl
    have N26 := Fr.snoc X26 N24 ge_bt
    have sz26 : n0 ≤ h26.size := Nat.le_trans Z0 (Keep.of_wr W26).1
    have K26 : Keep h0 h26 [bh, bt] := ((Keep.refl h0 [bh, bt])).wr W26 (Or.inl (List.mem_of_getElem? (i := 1) rfl))
    refine own_Goes.via (T' := T26) (g' := (mkF m 30 #[.val (.ref ao), .val (.int xp), .val (.int xc)] [])) (st26) ?_
    refine own_Goes.via (T' := T26) (g' := (mkF m 50 #[.val (.ref ao), .val (.int xp), .val (.int xc)] [])) (fun t_ k_ => XS.goto X26.here hx rfl (pc0 := 30) (pc' := 50) rfl (hb hby d12_30) (by decide) (by decide) k_) ?_
    obtain ⟨fs, hr, hrun, hended, hW, hsame⟩ := X26.leave (v := none) (fun _ => rfl)
    refine own_Goes.fin (X26.returnOut hx Bd.returns (hb hby d12_50) hr) hrun hended ?_
    subst hPd
    refine ⟨_, _, rfl, ?_, ⟨_, rfl⟩, hW, hsame.mono (by decide) (by decide)⟩
    show Q12 Z ao xp xc bh bt nn h0 n0 _ T26.heap _
    rw [e26]
    exact ⟨rfl, N26, K26, U33, U34⟩
theorem d3_0 : decode prog_36_method_4_code 0 = .ok (.aload_n 0, 1) := by decide +kernel
theorem d3_1 : decode prog_36_method_4_code 1 = .ok (.getfield 13, 3) := by decide +kernel
theorem d3_4 : decode prog_36_method_4_code 4 = .ok (.aload_n 0, 1) := by decide +kernel
theorem d3_5 : decode prog_36_method_4_code 5 = .ok (.getfield 13, 3) := by decide +kernel
theorem d3_8 : decode prog_36_method_4_code 8 = .ok (.arraylength, 1) := by decide +kernel
theorem d3_9 : decode prog_36_method_4_code 9 = .ok (.iconst 1, 1) := by decide +kernel
theorem d3_10 : decode prog_36_method_4_code 10 = .ok (.isub, 1) := by decide +kernel
theorem d3_11 : decode prog_36_method_4_code 11 = .ok (.iaload, 1) := by decide +kernel
theorem d3_12 : decode prog_36_method_4_code 12 = .ok (.ireturn, 1) := by decide +kernel
theorem pn_3 : plainName "com/example/wildsuit/wildsuit/game/Row" = true := by first | (simp [plainName, overriddenIn]; done) | decide +kernel
theorem ef_3 (m : MethodId) (ao : Addr) : entryFrame m #[(.ref ao)] 1 = mkF m 0 #[.val (.ref ao)] [] := by first | (simp [entryFrame, mkF, argsToLocals, Value.category]; done) | rfl
def Q3 (Z : State) (ao : Addr) (bo : Addr) (xm : Int32) (B : Nat → Int32) (h0 : Heap) (n0 : Nat) (v : Option Value) (h : Heap) (L : List Loc) : Prop := v = some (.int (B (xm - (1 : Int32)).toNatClampNeg)) ∧ Fr n0 L ∧ h = h0
set_option maxRecDepth 65536 in
set_option maxHeartbeats 40000000 in
theorem rm3 (l : Launch) (Z : State) (a0 : Array Value) (hw : ∀ d ∈ tables_1, d.before a0 Z = true) (ws : List Jvm.Cond) (ao : Addr) (bo : Addr) (xm : Int32) (B : Nat → Int32) (h0 : Heap) (n0 : Nat) (Z0 : n0 ≤ h0.size) (PF0 : Fld Z h0 ao "com/example/wildsuit/wildsuit/game/Row" "borders" "[I" (.ref bo)) (PF1 : own_Gi Z h0 bo .int xm B) (hone : (0 : Int32) < xm) :
    MetFree l (⟨"com/example/wildsuit/wildsuit/game/Row", "size", "()I"⟩ : MethodName) (head1 (Jvm.Cond.code (⟨"com/example/wildsuit/wildsuit/game/Row", "size", "()I"⟩ : MethodName) prog_36_method_4_code 1 (some .int) :: ws) ({ frames := 0, cells := 0, slots := 0, locals := 0 } : Room)) (fun a U => a = #[(.ref ao)] ∧ Z.Warmed39 U.vm ∧ U.heap = h0) (fun _ _ _ _ _ => True) (fun _ U o U' => ∃ v L, o = .returned v ∧ Q3 Z ao bo xm B h0 n0 v U'.heap L ∧ FrameEnd U o U' L ({ frames := 0, cells := 0, slots := 0, locals := 0 } : Room).cells ({ frames := 0, cells := 0, slots := 0, locals := 0 } : Room).slots) := by
  refine MetFree.of_bodySF (plainFor_of_name pn_3) hisR ?_
  intro p e s m args below meth c s₁ Bd hml0 hP hK
  obtain ⟨rfl, hZ, hh⟩ := hP
  have hx := Bd.exec
  have hby := Bd.bytes
  have hml : c.maxLocals = 1 := hml0
  have hown : s.vm.findClass "com/example/wildsuit/wildsuit/game/Row" = some m.cls := findClass_of_methodNamed Bd.named
  have hnm := (name_of_methodNamed Bd.named Bd.method).1
  have X0 : Stand p l e ({ frames := 0, cells := 0, slots := 0, locals := 0 } : Room) s m #[(.ref ao)] below meth c s₁ [] 0 0 := Stand.of_body Bd
  have e0 : s₁.heap = h0 := by rw [← hh, Bd.state]; rfl
  have N0 := Fr.nil n0
  suffices G : own_Goes p.tables e below (fun o U' => ∃ v L, o = .returned v ∧ Q3 Z ao bo xm B h0 n0 v U'.heap L ∧ FrameEnd s o U' L ({ frames := 0, cells := 0, slots := 0, locals := 0 } : Room).cells ({ frames := 0, cells := 0, slots := 0, locals := 0 } : Room).slots) s₁ (mkF m 0 #[.val (.ref ao)] []) by
    obtain ⟨t2_, o2_, z1_, z2_, z3_, z4_⟩ := G
    exact ⟨t2_, o2_, castTop (ef_3 m ao) z1_, z2_, z3_, z4_⟩
  generalize hPd : (fun (o : Outcome) (U' : State) => ∃ v L, o = .returned v ∧ Q3 Z ao bo xm B h0 n0 v U'.heap L ∧ FrameEnd s o U' L ({ frames := 0, cells := 0, slots := 0, locals := 0 } : Room).cells ({ frames := 0, cells := 0, slots := 0, locals := 0 } : Room).slots) = P
  refine own_Goes.via (T' := s₁) (g' := (mkF m 1 #[.val (.ref ao)] [(.ref ao)])) (fun t_ k_ => XS.aloadN X0.here hx rfl (hb hby d3_0) rfl rfl k_) ?_
  obtain ⟨T1, X1, e1, st1⟩ := getF X0 hx hZ hown (host := "") (Or.inl (hw _ (List.mem_of_getElem? (i := 13) rfl))) Via.refl e0 PF0 (g := (mkF m 1 #[.val (.ref ao)] [(.ref ao)])) rfl rfl (hb hby d3_1)
  refine own_Goes.via (T' := T1) (g' := (mkF m 4 #[.val (.ref ao)] [(.ref bo)])) (st1) ?_
  refine own_Goes.via (T' := T1) (g' := (mkF m 5 #[.val (.ref ao)] [(.ref ao), (.ref bo)])) (fun t_ k_ => XS.aloadN X1.here hx rfl (hb hby d3_4) rfl rfl k_) ?_
  obtain ⟨T2, X2, e2, st2⟩ := getF X1 hx hZ hown (host := "") (Or.inl (hw _ (List.mem_of_getElem? (i := 13) rfl))) Via.refl e1 PF0 (g := (mkF m 5 #[.val (.ref ao)] [(.ref ao), (.ref bo)])) rfl rfl (hb hby d3_5)
  refine own_Goes.via (T' := T2) (g' := (mkF m 8 #[.val (.ref ao)] [(.ref bo), (.ref bo)])) (st2) ?_
  obtain ⟨cl3, Ar3, Sl3, Ng3, -⟩ := id PF1
  refine own_Goes.via (T' := T2) (g' := (mkF m 9 #[.val (.ref ao)] [(.int xm), (.ref bo)])) (fun t_ k_ => X2.arraylength hx (by rw [e2]; exact Ar3.1) (State.isArrayOf_alike hZ.alike Ar3.2.1) (g := (mkF m 8 #[.val (.ref ao)] [(.ref bo), (.ref bo)])) rfl rfl (hb hby d3_8) _ (by rw [len_of Sl3 Ng3]; exact k_)) ?_
  refine own_Goes.via (T' := T2) (g' := (mkF m 10 #[.val (.ref ao)] [(.int (1 : Int32)), (.int xm), (.ref bo)])) (fun t_ k_ => XS.iconst X2.here hx rfl (hb hby d3_9) k_) ?_
  refine own_Goes.via (T' := T2) (g' := (mkF m 11 #[.val (.ref ao)] [(.int (xm - (1 : Int32))), (.ref bo)])) (fun t_ k_ => XS.isub X2.here hx rfl (hb hby d3_10) rfl k_) ?_
  have in11_5 : ¬ (xm - (1 : Int32)) < 0 ∧ (xm - (1 : Int32)) < xm := own_pred hone
  obtain ⟨cl4, Ar4, Sl4, at4⟩ := PF1.rd in11_5
  refine own_Goes.via (T' := T2) (g' := (mkF m 12 #[.val (.ref ao)] [(.int (B (xm - (1 : Int32)).toNatClampNeg))])) (fun t_ k_ => X2.iaload hx (j := (xm - (1 : Int32))) (v := (.int (B (xm - (1 : Int32)).toNatClampNeg))) (by rw [e2]; exact Ar4.1) (State.isArrayOf_alike hZ.alike Ar4.2.1) Ar4.2.2 (inb_of Sl4 in11_5) at4 (g := (mkF m 11 #[.val (.ref ao)] [(.int (xm - (1 : Int32))), (.ref bo)])) rfl rfl (hb hby d3_11) _ k_) ?_
  obtain ⟨fs, hr, hrun, hended, hW, hsame⟩ := X2.leave (v := some (.int (B (xm - (1 : Int32)).toNatClampNeg))) (fun h => by rw [Bd.returns] at h; cases h)
  refine own_Goes.fin (retOut X2 hx Bd.returns rfl (Or.inl ⟨rfl, Or.inl rfl, _, rfl⟩) (hb hby d3_12) hr) hrun hended ?_
  subst hPd
  refine ⟨_, _, rfl, ?_, ⟨_, rfl⟩, hW, hsame.mono (by decide) (by decide)⟩
  show Q3 Z ao bo xm B h0 n0 _ T2.heap _
  rw [e2]
  exact ⟨(by first | rfl | (simp only [])), N0, rfl⟩
theorem d6_0 : decode prog_36_method_13_code 0 = .ok (.iconst 1, 1) := by decide +kernel
theorem d6_1 : decode prog_36_method_13_code 1 = .ok (.istore 4, 2) := by decide +kernel
theorem d6_3 : decode prog_36_method_13_code 3 = .ok (.iload 4, 2) := by decide +kernel
theorem d6_5 : decode prog_36_method_13_code 5 = .ok (.aload_n 0, 1) := by decide +kernel
theorem d6_6 : decode prog_36_method_13_code 6 = .ok (.getfield 13, 3) := by decide +kernel
theorem d6_9 : decode prog_36_method_13_code 9 = .ok (.arraylength, 1) := by decide +kernel
theorem d6_10 : decode prog_36_method_13_code 10 = .ok (.if_icmp .ge 36, 3) := by decide +kernel
theorem d6_13 : decode prog_36_method_13_code 13 = .ok (.aload_n 0, 1) := by decide +kernel
theorem d6_14 : decode prog_36_method_13_code 14 = .ok (.getfield 13, 3) := by decide +kernel
theorem d6_17 : decode prog_36_method_13_code 17 = .ok (.iload 4, 2) := by decide +kernel
theorem d6_19 : decode prog_36_method_13_code 19 = .ok (.dup2, 1) := by decide +kernel
theorem d6_20 : decode prog_36_method_13_code 20 = .ok (.iaload, 1) := by decide +kernel
theorem d6_21 : decode prog_36_method_13_code 21 = .ok (.iload 4, 2) := by decide +kernel
theorem d6_23 : decode prog_36_method_13_code 23 = .ok (.iload_n 1, 1) := by decide +kernel
theorem d6_24 : decode prog_36_method_13_code 24 = .ok (.if_icmp .le 13, 3) := by decide +kernel
theorem d6_27 : decode prog_36_method_13_code 27 = .ok (.iload 4, 2) := by decide +kernel
theorem d6_29 : decode prog_36_method_13_code 29 = .ok (.iload_n 2, 1) := by decide +kernel
theorem d6_30 : decode prog_36_method_13_code 30 = .ok (.if_icmp .gt 7, 3) := by decide +kernel
theorem d6_33 : decode prog_36_method_13_code 33 = .ok (.iload_n 3, 1) := by decide +kernel
theorem d6_34 : decode prog_36_method_13_code 34 = .ok (.goto 4, 3) := by decide +kernel
theorem d6_37 : decode prog_36_method_13_code 37 = .ok (.iconst 0, 1) := by decide +kernel
theorem d6_38 : decode prog_36_method_13_code 38 = .ok (.iadd, 1) := by decide +kernel
theorem d6_39 : decode prog_36_method_13_code 39 = .ok (.iastore, 1) := by decide +kernel
theorem d6_40 : decode prog_36_method_13_code 40 = .ok (.iinc 4 1, 3) := by decide +kernel
theorem d6_43 : decode prog_36_method_13_code 43 = .ok (.goto (-40), 3) := by decide +kernel
theorem d6_46 : decode prog_36_method_13_code 46 = .ok (.return_, 1) := by decide +kernel
theorem pn_6 : plainName "com/example/wildsuit/wildsuit/game/Row" = true := by first | (simp [plainName, overriddenIn]; done) | decide +kernel
theorem ef_6 (m : MethodId) (ao : Addr) (xf : Int32) (xt : Int32) (xd : Int32) : entryFrame m #[(.ref ao), (.int xf), (.int xt), (.int xd)] 5 = mkF m 0 #[.val (.ref ao), .val (.int xf), .val (.int xt), .val (.int xd), .unset] [] := by first | (simp [entryFrame, mkF, argsToLocals, Value.category]; done) | rfl
def Q6 (Z : State) (ao : Addr) (xf : Int32) (xt : Int32) (xd : Int32) (bo : Addr) (xm : Int32) (B : Nat → Int32) (h0 : Heap) (n0 : Nat) (v : Option Value) (h : Heap) (L : List Loc) : Prop := v = none ∧ Fr n0 L ∧ Keep h0 h [bo] ∧ own_Gi Z h bo .int xm (own_mv B xf xt xd)
set_option maxRecDepth 65536 in
theorem own_pl6_0 {xm : Int32} (hone : (0 : Int32) < xm) : (0 : Int32) < (1 : Int32) := by
  decide
set_option maxRecDepth 65536 in
theorem own_pl6_1 {xm : Int32} {xi : Int32} (hone : (0 : Int32) < xm) (hiL3 : (0 : Int32) < xi) : ¬ ((xm.toInt - xi.toInt).toNat + 1 ≤ 0) := by
  omega
set_option maxRecDepth 65536 in
theorem own_pl6_2 {xm : Int32} {xi : Int32} {f1 : Nat} (hc10_8 : xi < xm) (hone : (0 : Int32) < xm) (hmL3 : (xm.toInt - xi.toInt).toNat + 1 ≤ f1 + 1) (hiL3 : (0 : Int32) < xi) : ¬ xi < 0 ∧ xi < xm := by
  exact ⟨own_pos hiL3, hc10_8⟩
set_option maxRecDepth 65536 in
theorem own_pl6_3 {xf : Int32} {xt : Int32} {xd : Int32} {xm : Int32} {xi : Int32} {f1 : Nat} {v38_13 : Int32} (hv38_13 : v38_13 = (if xf < xi then (if xt < xi then (0 : Int32) else xd) else (0 : Int32))) (hc10_8 : xi < xm) (hone : (0 : Int32) < xm) (hmL3 : (xm.toInt - xi.toInt).toNat + 1 ≤ f1 + 1) (hiL3 : (0 : Int32) < xi) (in20_11 : ¬ xi < 0 ∧ xi < xm) : ¬ xi < 0 ∧ xi < xm := by
  exact ⟨own_pos hiL3, hc10_8⟩
set_option maxRecDepth 65536 in
theorem own_pl6_4 {xf : Int32} {xt : Int32} {xd : Int32} {xm : Int32} {xi : Int32} {f1 : Nat} {v38_13 : Int32} {v23 : Int32} (hv38_13 : v38_13 = (if xf < xi then (if xt < xi then (0 : Int32) else xd) else (0 : Int32))) (hv23 : v23 = (xi + (1 : Int32))) (hc10_8 : xi < xm) (hone : (0 : Int32) < xm) (hmL3 : (xm.toInt - xi.toInt).toNat + 1 ≤ f1 + 1) (hiL3 : (0 : Int32) < xi) (in20_11 : ¬ xi < 0 ∧ xi < xm) (in39_18 : ¬ xi < 0 ∧ xi < xm) : (xm.toInt - v23.toInt).toNat + 1 ≤ f1 := by
  have e := own_inc hc10_8
  rw [← hv23] at e
  have q1 := own_lt.mp hc10_8
  omega
set_option maxRecDepth 65536 in
theorem own_pl6_5 {xf : Int32} {xt : Int32} {xd : Int32} {xm : Int32} {xi : Int32} {f1 : Nat} {v38_13 : Int32} {v23 : Int32} (hv38_13 : v38_13 = (if xf < xi then (if xt < xi then (0 : Int32) else xd) else (0 : Int32))) (hv23 : v23 = (xi + (1 : Int32))) (hc10_8 : xi < xm) (hone : (0 : Int32) < xm) (hmL3 : (xm.toInt - xi.toInt).toNat + 1 ≤ f1 + 1) (hiL3 : (0 : Int32) < xi) (in20_11 : ¬ xi < 0 ∧ xi < xm) (in39_18 : ¬ xi < 0 ∧ xi < xm) : (0 : Int32) < v23 := by
  have e := own_inc hc10_8
  rw [← hv23] at e
  have q1 := own_lt.mp hiL3
  rw [own_z] at q1
  rw [own_lt, own_z]
  omega
set_option maxRecDepth 65536 in
theorem own_pl6_6 {xf : Int32} {xt : Int32} {xd : Int32} {xm : Int32} {B : Nat → Int32} {xi : Int32} {f1 : Nat} {v38_13 : Int32} {v23 : Int32} (hv38_13 : v38_13 = (if xf < xi then (if xt < xi then (0 : Int32) else xd) else (0 : Int32))) (hv23 : v23 = (xi + (1 : Int32))) (hc10_8 : xi < xm) (hone : (0 : Int32) < xm) (hmL3 : (xm.toInt - xi.toInt).toNat + 1 ≤ f1 + 1) (hiL3 : (0 : Int32) < xi) (in20_11 : ¬ xi < 0 ∧ xi < xm) (in39_18 : ¬ xi < 0 ∧ xi < xm) : ∀ t, t < xm.toNatClampNeg → (own_up (own_mvp B xf xt xd xi) xi.toNatClampNeg (((own_mvp B xf xt xd xi) xi.toNatClampNeg) + v38_13)) t = own_mvp B xf xt xd v23 t := by
  have e := own_inc hc10_8
  rw [← hv23] at e
  exact own_mvp_step hiL3 e hv38_13
set_option maxRecDepth 65536 in
theorem own_pl6_7 {xf : Int32} {xt : Int32} {xd : Int32} {xm : Int32} {B : Nat → Int32} {xi : Int32} {f1 : Nat} (hc10_8 : ¬ (xi < xm)) (hone : (0 : Int32) < xm) (hmL3 : (xm.toInt - xi.toInt).toNat + 1 ≤ f1 + 1) (hiL3 : (0 : Int32) < xi) : ∀ t, t < xm.toNatClampNeg → own_mvp B xf xt xd xi t = own_mv B xf xt xd t := by
  exact own_mvp_end hc10_8
set_option maxRecDepth 65536 in
set_option maxHeartbeats 40000000 in
theorem rm6 (l : Launch) (Z : State) (a0 : Array Value) (hw : ∀ d ∈ tables_1, d.before a0 Z = true) (ws : List Jvm.Cond) (ao : Addr) (xf : Int32) (xt : Int32) (xd : Int32) (bo : Addr) (xm : Int32) (B : Nat → Int32) (h0 : Heap) (n0 : Nat) (Z0 : n0 ≤ h0.size) (PF0 : Exa Z h0 ao "com/example/wildsuit/wildsuit/game/Row") (PF1 : Exa Z h0 bo "[I") (PF2 : Fld Z h0 ao "com/example/wildsuit/wildsuit/game/Row" "borders" "[I" (.ref bo)) (PF3 : own_Gi Z h0 bo .int xm B) (ge_bo : n0 ≤ bo) (hone : (0 : Int32) < xm) :
    MetFree l (⟨"com/example/wildsuit/wildsuit/game/Row", "moveBorders", "(III)V"⟩ : MethodName) (head1 (Jvm.Cond.code (⟨"com/example/wildsuit/wildsuit/game/Row", "moveBorders", "(III)V"⟩ : MethodName) prog_36_method_13_code 5 none :: ws) ({ frames := 0, cells := 0, slots := 0, locals := 0 } : Room)) (fun a U => a = #[(.ref ao), (.int xf), (.int xt), (.int xd)] ∧ Z.Warmed39 U.vm ∧ U.heap = h0) (fun _ _ _ _ _ => True) (fun _ U o U' => ∃ v L, o = .returned v ∧ Q6 Z ao xf xt xd bo xm B h0 n0 v U'.heap L ∧ FrameEnd U o U' L ({ frames := 0, cells := 0, slots := 0, locals := 0 } : Room).cells ({ frames := 0, cells := 0, slots := 0, locals := 0 } : Room).slots) := by
  refine MetFree.of_bodySF (plainFor_of_name pn_6) hisR ?_
  intro p e s m args below meth c s₁ Bd hml0 hP hK
  obtain ⟨rfl, hZ, hh⟩ := hP
  have hx := Bd.exec
  have hby := Bd.bytes
  have hml : c.maxLocals = 5 := hml0
  have hown : s.vm.findClass "com/example/wildsuit/wildsuit/game/Row" = some m.cls := findClass_of_methodNamed Bd.named
  have hnm := (name_of_methodNamed Bd.named Bd.method).1
  have X0 : Stand p l e ({ frames := 0, cells := 0, slots := 0, locals := 0 } : Room) s m #[(.ref ao), (.int xf), (.int xt), (.int xd)] below meth c s₁ [] 0 0 := Stand.of_body Bd
  have e0 : s₁.heap = h0 := by rw [← hh, Bd.state]; rfl
  have N0 := Fr.nil n0
  suffices G : own_Goes p.tables e below (fun o U' => ∃ v L, o = .returned v ∧ Q6 Z ao xf xt xd bo xm B h0 n0 v U'.heap L ∧ FrameEnd s o U' L ({ frames := 0, cells := 0, slots := 0, locals := 0 } : Room).cells ({ frames := 0, cells := 0, slots := 0, locals := 0 } : Room).slots) s₁ (mkF m 0 #[.val (.ref ao), .val (.int xf), .val (.int xt), .val (.int xd), .unset] []) by
    obtain ⟨t2_, o2_, z1_, z2_, z3_, z4_⟩ := G
    exact ⟨t2_, o2_, castTop (ef_6 m ao xf xt xd) z1_, z2_, z3_, z4_⟩
  generalize hPd : (fun (o : Outcome) (U' : State) => ∃ v L, o = .returned v ∧ Q6 Z ao xf xt xd bo xm B h0 n0 v U'.heap L ∧ FrameEnd s o U' L ({ frames := 0, cells := 0, slots := 0, locals := 0 } : Room).cells ({ frames := 0, cells := 0, slots := 0, locals := 0 } : Room).slots) = P
  refine own_Goes.via (T' := s₁) (g' := (mkF m 1 #[.val (.ref ao), .val (.int xf), .val (.int xt), .val (.int xd), .unset] [(.int (1 : Int32))])) (fun t_ k_ => XS.iconst X0.here hx rfl (hb hby d6_0) k_) ?_
  refine own_Goes.via (T' := s₁) (g' := (mkF m 3 #[.val (.ref ao), .val (.int xf), .val (.int xt), .val (.int xd), .val (.int (1 : Int32))] [])) (fun t_ k_ => XS.istore X0.here hx rfl (hb hby d6_1) rfl (l' := #[.val (.ref ao), .val (.int xf), .val (.int xt), .val (.int xd), .val (.int (1 : Int32))]) rfl k_) ?_
  suffices LP3 : ∀ (f1 : Nat) (xi : Int32) (T1 : State) (L1 : List Loc) (X1 : Stand p l e ({ frames := 0, cells := 0, slots := 0, locals := 0 } : Room) s m #[(.ref ao), (.int xf), (.int xt), (.int xd)] below meth c T1 L1 0 0) (h1 : Heap) (e1 : T1.heap = h1) (N1 : Fr n0 L1) (sz1 : n0 ≤ h1.size) (K1 : Keep h0 h1 [bo]) (hmL3 : (xm.toInt - xi.toInt).toNat + 1 ≤ f1) (hiL3 : (0 : Int32) < xi) (E2 : Exa Z h1 ao "com/example/wildsuit/wildsuit/game/Row") (E3 : Exa Z h1 bo "[I") (F4 : Fld Z h1 ao "com/example/wildsuit/wildsuit/game/Row" "borders" "[I" (.ref bo)) (G5 : own_Gi Z h1 bo .int xm (own_mvp B xf xt xd xi)), own_Goes p.tables e below P T1 (mkF m 3 #[.val (.ref ao), .val (.int xf), .val (.int xt), .val (.int xd), .val (.int xi)] []) by
    exact LP3 _ (1 : Int32) s₁ _ X0 h0 e0 N0 Z0 (Keep.refl h0 [bo]) (Nat.le_refl _) (own_pl6_0 hone) PF0 PF1 PF2 (own_Gi.congr PF3 (own_mvp_0 B xf xt xd _))
  intro f1
  induction f1 with
  | zero =>
    intro xi T1 L1 X1 h1 e1 N1 sz1 K1 hmL3 hiL3 E2 E3 F4 G5
    exact absurd hmL3 (own_pl6_1 hone hiL3)
  | succ f1 IH3 =>
    intro xi T1 L1 X1 h1 e1 N1 sz1 K1 hmL3 hiL3 E2 E3 F4 G5
    refine own_Goes.via (T' := T1) (g' := (mkF m 5 #[.val (.ref ao), .val (.int xf), .val (.int xt), .val (.int xd), .val (.int xi)] [(.int xi)])) (fun t_ k_ => XS.iload X1.here hx rfl (hb hby d6_3) rfl k_) ?_
    refine own_Goes.via (T' := T1) (g' := (mkF m 6 #[.val (.ref ao), .val (.int xf), .val (.int xt), .val (.int xd), .val (.int xi)] [(.ref ao), (.int xi)])) (fun t_ k_ => XS.aloadN X1.here hx rfl (hb hby d6_5) rfl rfl k_) ?_
    obtain ⟨T6, X6, e6, st6⟩ := getF X1 hx hZ hown (host := "") (Or.inl (hw _ (List.mem_of_getElem? (i := 13) rfl))) Via.refl e1 F4 (g := (mkF m 6 #[.val (.ref ao), .val (.int xf), .val (.int xt), .val (.int xd), .val (.int xi)] [(.ref ao), (.int xi)])) rfl rfl (hb hby d6_6)
    refine own_Goes.via (T' := T6) (g' := (mkF m 9 #[.val (.ref ao), .val (.int xf), .val (.int xt), .val (.int xd), .val (.int xi)] [(.ref bo), (.int xi)])) (st6) ?_
    obtain ⟨cl7, Ar7, Sl7, Ng7, -⟩ := id G5
    refine own_Goes.via (T' := T6) (g' := (mkF m 10 #[.val (.ref ao), .val (.int xf), .val (.int xt), .val (.int xd), .val (.int xi)] [(.int xm), (.int xi)])) (fun t_ k_ => X6.arraylength hx (by rw [e6]; exact Ar7.1) (State.isArrayOf_alike hZ.alike Ar7.2.1) (g := (mkF m 9 #[.val (.ref ao), .val (.int xf), .val (.int xt), .val (.int xd), .val (.int xi)] [(.ref bo), (.int xi)])) rfl rfl (hb hby d6_9) _ (by rw [len_of Sl7 Ng7]; exact k_)) ?_
    by_cases hc10_8 : xi < xm
    · refine own_Goes.via (T' := T6) (g' := (mkF m 13 #[.val (.ref ao), .val (.int xf), .val (.int xt), .val (.int xd), .val (.int xi)] [])) (fun t_ k_ => XS.icmpNo X6.here hx rfl (hb hby d6_10) rfl (tlt hc10_8).2.1 k_) ?_
      refine own_Goes.via (T' := T6) (g' := (mkF m 14 #[.val (.ref ao), .val (.int xf), .val (.int xt), .val (.int xd), .val (.int xi)] [(.ref ao)])) (fun t_ k_ => XS.aloadN X6.here hx rfl (hb hby d6_13) rfl rfl k_) ?_
      obtain ⟨T9, X9, e9, st9⟩ := getF X6 hx hZ hown (host := "") (Or.inl (hw _ (List.mem_of_getElem? (i := 13) rfl))) Via.refl e6 F4 (g := (mkF m 14 #[.val (.ref ao), .val (.int xf), .val (.int xt), .val (.int xd), .val (.int xi)] [(.ref ao)])) rfl rfl (hb hby d6_14)
      refine own_Goes.via (T' := T9) (g' := (mkF m 17 #[.val (.ref ao), .val (.int xf), .val (.int xt), .val (.int xd), .val (.int xi)] [(.ref bo)])) (st9) ?_
      refine own_Goes.via (T' := T9) (g' := (mkF m 19 #[.val (.ref ao), .val (.int xf), .val (.int xt), .val (.int xd), .val (.int xi)] [(.int xi), (.ref bo)])) (fun t_ k_ => XS.iload X9.here hx rfl (hb hby d6_17) rfl k_) ?_
      refine own_Goes.via (T' := T9) (g' := (mkF m 20 #[.val (.ref ao), .val (.int xf), .val (.int xt), .val (.int xd), .val (.int xi)] [(.int xi), (.ref bo), (.int xi), (.ref bo)])) (fun t_ k_ => by jvm_step X9.here [X9.here.top, hx, (hb hby d6_19), Value.category]; exact k_) ?_
      have in20_11 : ¬ xi < 0 ∧ xi < xm := own_pl6_2 hc10_8 hone hmL3 hiL3
      obtain ⟨cl10, Ar10, Sl10, at10⟩ := G5.rd in20_11
      refine own_Goes.via (T' := T9) (g' := (mkF m 21 #[.val (.ref ao), .val (.int xf), .val (.int xt), .val (.int xd), .val (.int xi)] [(.int ((own_mvp B xf xt xd xi) xi.toNatClampNeg)), (.int xi), (.ref bo)])) (fun t_ k_ => X9.iaload hx (j := xi) (v := (.int ((own_mvp B xf xt xd xi) xi.toNatClampNeg))) (by rw [e9]; exact Ar10.1) (State.isArrayOf_alike hZ.alike Ar10.2.1) Ar10.2.2 (inb_of Sl10 in20_11) at10 (g := (mkF m 20 #[.val (.ref ao), .val (.int xf), .val (.int xt), .val (.int xd), .val (.int xi)] [(.int xi), (.ref bo), (.int xi), (.ref bo)])) rfl rfl (hb hby d6_20) _ k_) ?_
      refine own_Goes.via (T' := T9) (g' := (mkF m 23 #[.val (.ref ao), .val (.int xf), .val (.int xt), .val (.int xd), .val (.int xi)] [(.int xi), (.int ((own_mvp B xf xt xd xi) xi.toNatClampNeg)), (.int xi), (.ref bo)])) (fun t_ k_ => XS.iload X9.here hx rfl (hb hby d6_21) rfl k_) ?_
      refine own_Goes.via (T' := T9) (g' := (mkF m 24 #[.val (.ref ao), .val (.int xf), .val (.int xt), .val (.int xd), .val (.int xi)] [(.int xf), (.int xi), (.int ((own_mvp B xf xt xd xi) xi.toNatClampNeg)), (.int xi), (.ref bo)])) (fun t_ k_ => XS.iloadN X9.here hx rfl (hb hby d6_23) rfl k_) ?_
      suffices J38_15 : ∀ (v38_13 : Int32) (hv38_13 : v38_13 = (if xf < xi then (if xt < xi then (0 : Int32) else xd) else (0 : Int32))), own_Goes p.tables e below P T9 (mkF m 38 #[.val (.ref ao), .val (.int xf), .val (.int xt), .val (.int xd), .val (.int xi)] [(.int v38_13), (.int ((own_mvp B xf xt xd xi) xi.toNatClampNeg)), (.int xi), (.ref bo)]) by
        by_cases hc24_12 : xf < xi
        · refine own_Goes.via (T' := T9) (g' := (mkF m 27 #[.val (.ref ao), .val (.int xf), .val (.int xt), .val (.int xd), .val (.int xi)] [(.int ((own_mvp B xf xt xd xi) xi.toNatClampNeg)), (.int xi), (.ref bo)])) (fun t_ k_ => XS.icmpNo X9.here hx rfl (hb hby d6_24) rfl (tlt hc24_12).2.2.2 k_) ?_
          refine own_Goes.via (T' := T9) (g' := (mkF m 29 #[.val (.ref ao), .val (.int xf), .val (.int xt), .val (.int xd), .val (.int xi)] [(.int xi), (.int ((own_mvp B xf xt xd xi) xi.toNatClampNeg)), (.int xi), (.ref bo)])) (fun t_ k_ => XS.iload X9.here hx rfl (hb hby d6_27) rfl k_) ?_
          refine own_Goes.via (T' := T9) (g' := (mkF m 30 #[.val (.ref ao), .val (.int xf), .val (.int xt), .val (.int xd), .val (.int xi)] [(.int xt), (.int xi), (.int ((own_mvp B xf xt xd xi) xi.toNatClampNeg)), (.int xi), (.ref bo)])) (fun t_ k_ => XS.iloadN X9.here hx rfl (hb hby d6_29) rfl k_) ?_
          by_cases hc30_16 : xt < xi
          · refine own_Goes.via (T' := T9) (g' := (mkF m 37 #[.val (.ref ao), .val (.int xf), .val (.int xt), .val (.int xd), .val (.int xi)] [(.int ((own_mvp B xf xt xd xi) xi.toNatClampNeg)), (.int xi), (.ref bo)])) (fun t_ k_ => XS.icmpYes X9.here hx rfl (pc0 := 30) (pc' := 37) rfl (hb hby d6_30) rfl (tlt hc30_16).2.2.1 (by decide) (by decide) k_) ?_
            refine own_Goes.via (T' := T9) (g' := (mkF m 38 #[.val (.ref ao), .val (.int xf), .val (.int xt), .val (.int xd), .val (.int xi)] [(.int (0 : Int32)), (.int ((own_mvp B xf xt xd xi) xi.toNatClampNeg)), (.int xi), (.ref bo)])) (fun t_ k_ => XS.iconst X9.here hx rfl (hb hby d6_37) k_) ?_
            exact J38_15 (0 : Int32) (((if_pos hc24_12).trans (if_pos hc30_16))).symm
          · refine own_Goes.via (T' := T9) (g' := (mkF m 33 #[.val (.ref ao), .val (.int xf), .val (.int xt), .val (.int xd), .val (.int xi)] [(.int ((own_mvp B xf xt xd xi) xi.toNatClampNeg)), (.int xi), (.ref bo)])) (fun t_ k_ => XS.icmpNo X9.here hx rfl (hb hby d6_30) rfl (flt hc30_16).2.2.1 k_) ?_
            refine own_Goes.via (T' := T9) (g' := (mkF m 34 #[.val (.ref ao), .val (.int xf), .val (.int xt), .val (.int xd), .val (.int xi)] [(.int xd), (.int ((own_mvp B xf xt xd xi) xi.toNatClampNeg)), (.int xi), (.ref bo)])) (fun t_ k_ => XS.iloadN X9.here hx rfl (hb hby d6_33) rfl k_) ?_
            refine own_Goes.via (T' := T9) (g' := (mkF m 38 #[.val (.ref ao), .val (.int xf), .val (.int xt), .val (.int xd), .val (.int xi)] [(.int xd), (.int ((own_mvp B xf xt xd xi) xi.toNatClampNeg)), (.int xi), (.ref bo)])) (fun t_ k_ => XS.goto X9.here hx rfl (pc0 := 34) (pc' := 38) rfl (hb hby d6_34) (by decide) (by decide) k_) ?_
            exact J38_15 xd (((if_pos hc24_12).trans (if_neg hc30_16))).symm
        · refine own_Goes.via (T' := T9) (g' := (mkF m 37 #[.val (.ref ao), .val (.int xf), .val (.int xt), .val (.int xd), .val (.int xi)] [(.int ((own_mvp B xf xt xd xi) xi.toNatClampNeg)), (.int xi), (.ref bo)])) (fun t_ k_ => XS.icmpYes X9.here hx rfl (pc0 := 24) (pc' := 37) rfl (hb hby d6_24) rfl (flt hc24_12).2.2.2 (by decide) (by decide) k_) ?_
          refine own_Goes.via (T' := T9) (g' := (mkF m 38 #[.val (.ref ao), .val (.int xf), .val (.int xt), .val (.int xd), .val (.int xi)] [(.int (0 : Int32)), (.int ((own_mvp B xf xt xd xi) xi.toNatClampNeg)), (.int xi), (.ref bo)])) (fun t_ k_ => XS.iconst X9.here hx rfl (hb hby d6_37) k_) ?_
          exact J38_15 (0 : Int32) ((if_neg hc24_12)).symm
      intro v38_13 hv38_13
      refine own_Goes.via (T' := T9) (g' := (mkF m 39 #[.val (.ref ao), .val (.int xf), .val (.int xt), .val (.int xd), .val (.int xi)] [(.int (((own_mvp B xf xt xd xi) xi.toNatClampNeg) + v38_13)), (.int xi), (.ref bo)])) (fun t_ k_ => XS.iadd X9.here hx rfl (hb hby d6_38) rfl k_) ?_
      obtain ⟨cl17, Ar17, Sl17, Ng17, -⟩ := id G5
      have in39_18 : ¬ xi < 0 ∧ xi < xm := own_pl6_3 hv38_13 hc10_8 hone hmL3 hiL3 in20_11
      obtain ⟨T17, h17, X17, e17, W17, st17⟩ := stI X9 hx hZ e9 Ar17 (j := xi) (inb_of Sl17 in39_18) (g := (mkF m 39 #[.val (.ref ao), .val (.int xf), .val (.int xt), .val (.int xd), .val (.int xi)] [(.int (((own_mvp B xf xt xd xi) xi.toNatClampNeg) + v38_13)), (.int xi), (.ref bo)])) rfl rfl (hb hby d6_39)
      have E19 : Exa Z h17 ao "com/example/wildsuit/wildsuit/game/Row" := E2.wr W17
      have E20 : Exa Z h17 bo "[I" := E3.wr W17
      have F21 : Fld Z h17 ao "com/example/wildsuit/wildsuit/game/Row" "borders" "[I" (.ref bo) := F4.other W17 (Or.inl (Exa.ne E19 E20 (by decide)))
      have G22 : own_Gi Z h17 bo .int xm (own_up (own_mvp B xf xt xd xi) xi.toNatClampNeg (((own_mvp B xf xt xd xi) xi.toNatClampNeg) + v38_13)) := G5.set W17 rfl
      have N17 := Fr.snoc X17 N1 ge_bo
      have sz17 : n0 ≤ h17.size := Nat.le_trans sz1 (Keep.of_wr W17).1
      have K17 : Keep h0 h17 [bo] := (K1).wr W17 (Or.inl (List.mem_of_getElem? (i := 0) rfl))
      refine own_Goes.via (T' := T17) (g' := (mkF m 40 #[.val (.ref ao), .val (.int xf), .val (.int xt), .val (.int xd), .val (.int xi)] [])) (st17) ?_
      refine own_Goes.via (T' := T17) (g' := (mkF m 43 #[.val (.ref ao), .val (.int xf), .val (.int xt), .val (.int xd), .val (.int (xi + (1 : Int32)))] [])) (fun t_ k_ => XS.iinc X17.here hx rfl (hb hby d6_40) rfl (l' := #[.val (.ref ao), .val (.int xf), .val (.int xt), .val (.int xd), .val (.int (xi + (1 : Int32)))]) rfl k_) ?_
      obtain ⟨v23, hv23⟩ : ∃ z : Int32, z = (xi + (1 : Int32)) := ⟨_, rfl⟩
      rw [← hv23]
      refine own_Goes.via (T' := T17) (g' := (mkF m 3 #[.val (.ref ao), .val (.int xf), .val (.int xt), .val (.int xd), .val (.int v23)] [])) (fun t_ k_ => XS.goto X17.here hx rfl (pc0 := 43) (pc' := 3) rfl (hb hby d6_43) (by decide) (by decide) k_) ?_
      exact IH3 v23 T17 _ X17 h17 e17 N17 sz17 K17 (own_pl6_4 hv38_13 hv23 hc10_8 hone hmL3 hiL3 in20_11 in39_18) (own_pl6_5 hv38_13 hv23 hc10_8 hone hmL3 hiL3 in20_11 in39_18) E19 E20 F21 (own_Gi.congr G22 (own_pl6_6 hv38_13 hv23 hc10_8 hone hmL3 hiL3 in20_11 in39_18))
    · refine own_Goes.via (T' := T6) (g' := (mkF m 46 #[.val (.ref ao), .val (.int xf), .val (.int xt), .val (.int xd), .val (.int xi)] [])) (fun t_ k_ => XS.icmpYes X6.here hx rfl (pc0 := 10) (pc' := 46) rfl (hb hby d6_10) rfl (flt hc10_8).2.1 (by decide) (by decide) k_) ?_
      obtain ⟨fs, hr, hrun, hended, hW, hsame⟩ := X6.leave (v := none) (fun _ => rfl)
      refine own_Goes.fin (X6.returnOut hx Bd.returns (hb hby d6_46) hr) hrun hended ?_
      subst hPd
      refine ⟨_, _, rfl, ?_, ⟨_, rfl⟩, hW, hsame.mono (by decide) (by decide)⟩
      show Q6 Z ao xf xt xd bo xm B h0 n0 _ T6.heap _
      rw [e6]
      exact ⟨rfl, N1, K1, (own_Gi.congr G5 (own_pl6_7 hc10_8 hone hmL3 hiL3))⟩
theorem d5_0 : decode prog_36_method_7_code 0 = .ok (.aload_n 0, 1) := by decide +kernel
theorem d5_1 : decode prog_36_method_7_code 1 = .ok (.getfield 13, 3) := by decide +kernel
theorem d5_4 : decode prog_36_method_7_code 4 = .ok (.iload_n 1, 1) := by decide +kernel
theorem d5_5 : decode prog_36_method_7_code 5 = .ok (.iaload, 1) := by decide +kernel
theorem d5_6 : decode prog_36_method_7_code 6 = .ok (.iload_n 2, 1) := by decide +kernel
theorem d5_7 : decode prog_36_method_7_code 7 = .ok (.iadd, 1) := by decide +kernel
theorem d5_8 : decode prog_36_method_7_code 8 = .ok (.istore 4, 2) := by decide +kernel
theorem d5_10 : decode prog_36_method_7_code 10 = .ok (.aload_n 0, 1) := by decide +kernel
theorem d5_11 : decode prog_36_method_7_code 11 = .ok (.getfield 7, 3) := by decide +kernel
theorem d5_14 : decode prog_36_method_7_code 14 = .ok (.iload 4, 2) := by decide +kernel
theorem d5_16 : decode prog_36_method_7_code 16 = .ok (.aload_n 0, 1) := by decide +kernel
theorem d5_17 : decode prog_36_method_7_code 17 = .ok (.getfield 7, 3) := by decide +kernel
theorem d5_20 : decode prog_36_method_7_code 20 = .ok (.iload 4, 2) := by decide +kernel
theorem d5_22 : decode prog_36_method_7_code 22 = .ok (.iconst 1, 1) := by decide +kernel
theorem d5_23 : decode prog_36_method_7_code 23 = .ok (.iadd, 1) := by decide +kernel
theorem d5_24 : decode prog_36_method_7_code 24 = .ok (.aload_n 0, 1) := by decide +kernel
theorem d5_25 : decode prog_36_method_7_code 25 = .ok (.invokevirtual 24, 3) := by decide +kernel
theorem d5_28 : decode prog_36_method_7_code 28 = .ok (.iload 4, 2) := by decide +kernel
theorem d5_30 : decode prog_36_method_7_code 30 = .ok (.isub, 1) := by decide +kernel
theorem d5_31 : decode prog_36_method_7_code 31 = .ok (.invokestatic 28, 3) := by decide +kernel
theorem d5_34 : decode prog_36_method_7_code 34 = .ok (.aload_n 0, 1) := by decide +kernel
theorem d5_35 : decode prog_36_method_7_code 35 = .ok (.getfield 7, 3) := by decide +kernel
theorem d5_38 : decode prog_36_method_7_code 38 = .ok (.iload 4, 2) := by decide +kernel
theorem d5_40 : decode prog_36_method_7_code 40 = .ok (.iload_n 3, 1) := by decide +kernel
theorem d5_41 : decode prog_36_method_7_code 41 = .ok (.i2b, 1) := by decide +kernel
theorem d5_42 : decode prog_36_method_7_code 42 = .ok (.bastore, 1) := by decide +kernel
theorem d5_43 : decode prog_36_method_7_code 43 = .ok (.aload_n 0, 1) := by decide +kernel
theorem d5_44 : decode prog_36_method_7_code 44 = .ok (.iload_n 1, 1) := by decide +kernel
theorem d5_45 : decode prog_36_method_7_code 45 = .ok (.aload_n 0, 1) := by decide +kernel
theorem d5_46 : decode prog_36_method_7_code 46 = .ok (.getfield 13, 3) := by decide +kernel
theorem d5_49 : decode prog_36_method_7_code 49 = .ok (.arraylength, 1) := by decide +kernel
theorem d5_50 : decode prog_36_method_7_code 50 = .ok (.iconst 1, 1) := by decide +kernel
theorem d5_51 : decode prog_36_method_7_code 51 = .ok (.invokevirtual 34, 3) := by decide +kernel
theorem d5_54 : decode prog_36_method_7_code 54 = .ok (.aload_n 0, 1) := by decide +kernel
theorem d5_55 : decode prog_36_method_7_code 55 = .ok (.iload_n 1, 1) := by decide +kernel
theorem d5_56 : decode prog_36_method_7_code 56 = .ok (.iload_n 3, 1) := by decide +kernel
theorem d5_57 : decode prog_36_method_7_code 57 = .ok (.invokevirtual 38, 3) := by decide +kernel
theorem d5_60 : decode prog_36_method_7_code 60 = .ok (.return_, 1) := by decide +kernel
theorem pn_5 : plainName "com/example/wildsuit/wildsuit/game/Row" = true := by first | (simp [plainName, overriddenIn]; done) | decide +kernel
theorem pd_5_0 : parseMethodDescriptor "()I" = some ⟨[], some .int⟩ := by decide +kernel
theorem pd_5_1 : parseMethodDescriptor "(III)V" = some ⟨[.int, .int, .int], none⟩ := by decide +kernel
theorem pd_5_2 : parseMethodDescriptor "(II)V" = some ⟨[.int, .int], none⟩ := by decide +kernel
theorem ef_5 (m : MethodId) (ao : Addr) (xp : Int32) (xo : Int32) (xc : Int32) : entryFrame m #[(.ref ao), (.int xp), (.int xo), (.int xc)] 5 = mkF m 0 #[.val (.ref ao), .val (.int xp), .val (.int xo), .val (.int xc), .unset] [] := by first | (simp [entryFrame, mkF, argsToLocals, Value.category]; done) | rfl
def Q5 (Z : State) (ao : Addr) (xp : Int32) (xo : Int32) (xc : Int32) (bc : Addr) (bo : Addr) (bh : Addr) (bt : Addr) (xm : Int32) (nn : Int32) (B : Nat → Int32) (h0 : Heap) (n0 : Nat) (v : Option Value) (h : Heap) (L : List Loc) : Prop := v = none ∧ Fr n0 L ∧ Keep h0 h [bc, bo, bh, bt] ∧ own_Un Z h bc .byte (104 : Int32) ∧ own_Gi Z h bo .int xm (own_mv B xp xm (1 : Int32)) ∧ own_Un Z h bh .long nn ∧ own_Un Z h bt .long nn
set_option maxRecDepth 65536 in
theorem own_pl5_0 {xp : Int32} {xo : Int32} {xm : Int32} {nn : Int32} {B : Nat → Int32} {v4 : Int32} {v9 : Int32} (hv4 : v4 = ((B xp.toNatClampNeg) + xo)) (hv9 : v9 = (B (xm - (1 : Int32)).toNatClampNeg)) (hone : (0 : Int32) < xm) (hp : ¬ xp < 0 ∧ xp < nn) (hp1 : ¬ xp < 0 ∧ xp < xm) (hI : 0 ≤ ((B xp.toNatClampNeg) + xo).toInt ∧ ((B xp.toNatClampNeg) + xo).toInt ≤ (B (xm - (1 : Int32)).toNatClampNeg).toInt ∧ (B (xm - (1 : Int32)).toNatClampNeg).toInt ≤ 3) (in5_3 : ¬ xp < 0 ∧ xp < xm) (cd25_8 : (0 : Int32) < xm) : own_cp v4 (v4 + (1 : Int32)) (v9 - v4) (104 : Int32) (104 : Int32) := by
  rw [← hv4, ← hv9] at hI
  exact own_cpI hI
set_option maxRecDepth 65536 in
theorem own_pl5_1 {xp : Int32} {xo : Int32} {xm : Int32} {nn : Int32} {B : Nat → Int32} {v4 : Int32} {v9 : Int32} (hv4 : v4 = ((B xp.toNatClampNeg) + xo)) (hv9 : v9 = (B (xm - (1 : Int32)).toNatClampNeg)) (hone : (0 : Int32) < xm) (hp : ¬ xp < 0 ∧ xp < nn) (hp1 : ¬ xp < 0 ∧ xp < xm) (hI : 0 ≤ ((B xp.toNatClampNeg) + xo).toInt ∧ ((B xp.toNatClampNeg) + xo).toInt ≤ (B (xm - (1 : Int32)).toNatClampNeg).toInt ∧ (B (xm - (1 : Int32)).toNatClampNeg).toInt ≤ 3) (in5_3 : ¬ xp < 0 ∧ xp < xm) (cd25_8 : (0 : Int32) < xm) (cp31_11 : own_cp v4 (v4 + (1 : Int32)) (v9 - v4) (104 : Int32) (104 : Int32)) : ¬ v4 < 0 ∧ v4 < (104 : Int32) := by
  rw [← hv4] at hI
  exact own_in hI.1 (by rw [own_104]; omega)
set_option maxRecDepth 65536 in
set_option maxHeartbeats 40000000 in
theorem rm5 (l : Launch) (Z : State) (a0 : Array Value) (hw : ∀ d ∈ tables_1, d.before a0 Z = true) (ws : List Jvm.Cond) (ao : Addr) (xp : Int32) (xo : Int32) (xc : Int32) (bc : Addr) (bo : Addr) (bh : Addr) (bt : Addr) (xm : Int32) (nn : Int32) (B : Nat → Int32) (h0 : Heap) (n0 : Nat) (Z0 : n0 ≤ h0.size) (PF0 : Exa Z h0 ao "com/example/wildsuit/wildsuit/game/Row") (PF1 : Exa Z h0 bc "[B") (PF2 : Exa Z h0 bo "[I") (PF3 : Exa Z h0 bh "[J") (PF4 : Exa Z h0 bt "[J") (PF5 : Fld Z h0 ao "com/example/wildsuit/wildsuit/game/Row" "cards" "[B" (.ref bc)) (PF6 : Fld Z h0 ao "com/example/wildsuit/wildsuit/game/Row" "borders" "[I" (.ref bo)) (PF7 : Fld Z h0 ao "com/example/wildsuit/wildsuit/game/Row" "held" "[J" (.ref bh)) (PF8 : Fld Z h0 ao "com/example/wildsuit/wildsuit/game/Row" "heldTwice" "[J" (.ref bt)) (PF9 : own_Gi Z h0 bo .int xm B) (PF10 : own_Un Z h0 bc .byte (104 : Int32)) (PF11 : own_Un Z h0 bh .long nn) (PF12 : own_Un Z h0 bt .long nn) (PN0 : bh ≠ bt) (ge_bc : n0 ≤ bc) (ge_bo : n0 ≤ bo) (ge_bh : n0 ≤ bh) (ge_bt : n0 ≤ bt) (hone : (0 : Int32) < xm) (hp : ¬ xp < 0 ∧ xp < nn) (hp1 : ¬ xp < 0 ∧ xp < xm) (hI : 0 ≤ ((B xp.toNatClampNeg) + xo).toInt ∧ ((B xp.toNatClampNeg) + xo).toInt ≤ (B (xm - (1 : Int32)).toNatClampNeg).toInt ∧ (B (xm - (1 : Int32)).toNatClampNeg).toInt ≤ 3) :
    MetFree l (⟨"com/example/wildsuit/wildsuit/game/Row", "insert", "(III)V"⟩ : MethodName) (head1 (Jvm.Cond.code (⟨"com/example/wildsuit/wildsuit/game/Row", "insert", "(III)V"⟩ : MethodName) prog_36_method_7_code 5 none :: ws) ({ frames := 2, cells := 0, slots := 0, locals := 30 } : Room)) (fun a U => a = #[(.ref ao), (.int xp), (.int xo), (.int xc)] ∧ Z.Warmed39 U.vm ∧ U.heap = h0) (fun _ _ _ _ _ => True) (fun _ U o U' => ∃ v L, o = .returned v ∧ Q5 Z ao xp xo xc bc bo bh bt xm nn B h0 n0 v U'.heap L ∧ FrameEnd U o U' L ({ frames := 2, cells := 0, slots := 0, locals := 30 } : Room).cells ({ frames := 2, cells := 0, slots := 0, locals := 30 } : Room).slots) := by
  refine MetFree.of_bodySF (plainFor_of_name pn_5) hisR ?_
  intro p e s m args below meth c s₁ Bd hml0 hP hK
  obtain ⟨rfl, hZ, hh⟩ := hP
  have hx := Bd.exec
  have hby := Bd.bytes
  have hml : c.maxLocals = 5 := hml0
  have hown : s.vm.findClass "com/example/wildsuit/wildsuit/game/Row" = some m.cls := findClass_of_methodNamed Bd.named
  have hnm := (name_of_methodNamed Bd.named Bd.method).1
  have X0 : Stand p l e ({ frames := 2, cells := 0, slots := 0, locals := 30 } : Room) s m #[(.ref ao), (.int xp), (.int xo), (.int xc)] below meth c s₁ [] 0 0 := Stand.of_body Bd
  have e0 : s₁.heap = h0 := by rw [← hh, Bd.state]; rfl
  have N0 := Fr.nil n0
  suffices G : own_Goes p.tables e below (fun o U' => ∃ v L, o = .returned v ∧ Q5 Z ao xp xo xc bc bo bh bt xm nn B h0 n0 v U'.heap L ∧ FrameEnd s o U' L ({ frames := 2, cells := 0, slots := 0, locals := 30 } : Room).cells ({ frames := 2, cells := 0, slots := 0, locals := 30 } : Room).slots) s₁ (mkF m 0 #[.val (.ref ao), .val (.int xp), .val (.int xo), .val (.int xc), .unset] []) by
    obtain ⟨t2_, o2_, z1_, z2_, z3_, z4_⟩ := G
    exact ⟨t2_, o2_, castTop (ef_5 m ao xp xo xc) z1_, z2_, z3_, z4_⟩
  generalize hPd : (fun (o : Outcome) (U' : State) => ∃ v L, o = .returned v ∧ Q5 Z ao xp xo xc bc bo bh bt xm nn B h0 n0 v U'.heap L ∧ FrameEnd s o U' L ({ frames := 2, cells := 0, slots := 0, locals := 30 } : Room).cells ({ frames := 2, cells := 0, slots := 0, locals := 30 } : Room).slots) = P
  refine own_Goes.via (T' := s₁) (g' := (mkF m 1 #[.val (.ref ao), .val (.int xp), .val (.int xo), .val (.int xc), .unset] [(.ref ao)])) (fun t_ k_ => XS.aloadN X0.here hx rfl (hb hby d5_0) rfl rfl k_) ?_
  obtain ⟨T1, X1, e1, st1⟩ := getF X0 hx hZ hown (host := "") (Or.inl (hw _ (List.mem_of_getElem? (i := 13) rfl))) Via.refl e0 PF6 (g := (mkF m 1 #[.val (.ref ao), .val (.int xp), .val (.int xo), .val (.int xc), .unset] [(.ref ao)])) rfl rfl (hb hby d5_1)
  refine own_Goes.via (T' := T1) (g' := (mkF m 4 #[.val (.ref ao), .val (.int xp), .val (.int xo), .val (.int xc), .unset] [(.ref bo)])) (st1) ?_
  refine own_Goes.via (T' := T1) (g' := (mkF m 5 #[.val (.ref ao), .val (.int xp), .val (.int xo), .val (.int xc), .unset] [(.int xp), (.ref bo)])) (fun t_ k_ => XS.iloadN X1.here hx rfl (hb hby d5_4) rfl k_) ?_
  have in5_3 : ¬ xp < 0 ∧ xp < xm := hp1
  obtain ⟨cl2, Ar2, Sl2, at2⟩ := PF9.rd in5_3
  refine own_Goes.via (T' := T1) (g' := (mkF m 6 #[.val (.ref ao), .val (.int xp), .val (.int xo), .val (.int xc), .unset] [(.int (B xp.toNatClampNeg))])) (fun t_ k_ => X1.iaload hx (j := xp) (v := (.int (B xp.toNatClampNeg))) (by rw [e1]; exact Ar2.1) (State.isArrayOf_alike hZ.alike Ar2.2.1) Ar2.2.2 (inb_of Sl2 in5_3) at2 (g := (mkF m 5 #[.val (.ref ao), .val (.int xp), .val (.int xo), .val (.int xc), .unset] [(.int xp), (.ref bo)])) rfl rfl (hb hby d5_5) _ k_) ?_
  refine own_Goes.via (T' := T1) (g' := (mkF m 7 #[.val (.ref ao), .val (.int xp), .val (.int xo), .val (.int xc), .unset] [(.int xo), (.int (B xp.toNatClampNeg))])) (fun t_ k_ => XS.iloadN X1.here hx rfl (hb hby d5_6) rfl k_) ?_
  refine own_Goes.via (T' := T1) (g' := (mkF m 8 #[.val (.ref ao), .val (.int xp), .val (.int xo), .val (.int xc), .unset] [(.int ((B xp.toNatClampNeg) + xo))])) (fun t_ k_ => XS.iadd X1.here hx rfl (hb hby d5_7) rfl k_) ?_
  refine own_Goes.via (T' := T1) (g' := (mkF m 10 #[.val (.ref ao), .val (.int xp), .val (.int xo), .val (.int xc), .val (.int ((B xp.toNatClampNeg) + xo))] [])) (fun t_ k_ => XS.istore X1.here hx rfl (hb hby d5_8) rfl (l' := #[.val (.ref ao), .val (.int xp), .val (.int xo), .val (.int xc), .val (.int ((B xp.toNatClampNeg) + xo))]) rfl k_) ?_
  obtain ⟨v4, hv4⟩ : ∃ z : Int32, z = ((B xp.toNatClampNeg) + xo) := ⟨_, rfl⟩
  rw [← hv4]
  refine own_Goes.via (T' := T1) (g' := (mkF m 11 #[.val (.ref ao), .val (.int xp), .val (.int xo), .val (.int xc), .val (.int v4)] [(.ref ao)])) (fun t_ k_ => XS.aloadN X1.here hx rfl (hb hby d5_10) rfl rfl k_) ?_
  obtain ⟨T5, X5, e5, st5⟩ := getF X1 hx hZ hown (host := "") (Or.inl (hw _ (List.mem_of_getElem? (i := 11) rfl))) Via.refl e1 PF5 (g := (mkF m 11 #[.val (.ref ao), .val (.int xp), .val (.int xo), .val (.int xc), .val (.int v4)] [(.ref ao)])) rfl rfl (hb hby d5_11)
  refine own_Goes.via (T' := T5) (g' := (mkF m 14 #[.val (.ref ao), .val (.int xp), .val (.int xo), .val (.int xc), .val (.int v4)] [(.ref bc)])) (st5) ?_
  refine own_Goes.via (T' := T5) (g' := (mkF m 16 #[.val (.ref ao), .val (.int xp), .val (.int xo), .val (.int xc), .val (.int v4)] [(.int v4), (.ref bc)])) (fun t_ k_ => XS.iload X5.here hx rfl (hb hby d5_14) rfl k_) ?_
  refine own_Goes.via (T' := T5) (g' := (mkF m 17 #[.val (.ref ao), .val (.int xp), .val (.int xo), .val (.int xc), .val (.int v4)] [(.ref ao), (.int v4), (.ref bc)])) (fun t_ k_ => XS.aloadN X5.here hx rfl (hb hby d5_16) rfl rfl k_) ?_
  obtain ⟨T6, X6, e6, st6⟩ := getF X5 hx hZ hown (host := "") (Or.inl (hw _ (List.mem_of_getElem? (i := 11) rfl))) Via.refl e5 PF5 (g := (mkF m 17 #[.val (.ref ao), .val (.int xp), .val (.int xo), .val (.int xc), .val (.int v4)] [(.ref ao), (.int v4), (.ref bc)])) rfl rfl (hb hby d5_17)
  refine own_Goes.via (T' := T6) (g' := (mkF m 20 #[.val (.ref ao), .val (.int xp), .val (.int xo), .val (.int xc), .val (.int v4)] [(.ref bc), (.int v4), (.ref bc)])) (st6) ?_
  refine own_Goes.via (T' := T6) (g' := (mkF m 22 #[.val (.ref ao), .val (.int xp), .val (.int xo), .val (.int xc), .val (.int v4)] [(.int v4), (.ref bc), (.int v4), (.ref bc)])) (fun t_ k_ => XS.iload X6.here hx rfl (hb hby d5_20) rfl k_) ?_
  refine own_Goes.via (T' := T6) (g' := (mkF m 23 #[.val (.ref ao), .val (.int xp), .val (.int xo), .val (.int xc), .val (.int v4)] [(.int (1 : Int32)), (.int v4), (.ref bc), (.int v4), (.ref bc)])) (fun t_ k_ => XS.iconst X6.here hx rfl (hb hby d5_22) k_) ?_
  refine own_Goes.via (T' := T6) (g' := (mkF m 24 #[.val (.ref ao), .val (.int xp), .val (.int xo), .val (.int xc), .val (.int v4)] [(.int (v4 + (1 : Int32))), (.ref bc), (.int v4), (.ref bc)])) (fun t_ k_ => XS.iadd X6.here hx rfl (hb hby d5_23) rfl k_) ?_
  refine own_Goes.via (T' := T6) (g' := (mkF m 25 #[.val (.ref ao), .val (.int xp), .val (.int xo), .val (.int xc), .val (.int v4)] [(.ref ao), (.int (v4 + (1 : Int32))), (.ref bc), (.int v4), (.ref bc)])) (fun t_ k_ => XS.aloadN X6.here hx rfl (hb hby d5_24) rfl rfl k_) ?_
  have cd25_8 : (0 : Int32) < xm := by first | assumption | decide
  obtain ⟨cq7, kq7, q7a, q7b, q7c⟩ := isOf hZ e6 PF0
  obtain ⟨_, _, ⟨T7, L7, k7, n7⟩, -, X7, ⟨Lc7, hQ7, l7, y7, z7⟩, st7⟩ := X6.virtualBack hx (y := (⟨"com/example/wildsuit/wildsuit/game/Row", "size", "()I"⟩ : MethodName)) (z := (⟨"com/example/wildsuit/wildsuit/game/Row", "size", "()I"⟩ : MethodName)) hown (mvT hZ (hw _ (List.mem_of_getElem? (i := 35) rfl))) (mvT hZ (hw _ (List.mem_of_getElem? (i := 21) rfl))) (notFace_of_selects (args := #[]) (mvT hZ (hw _ (List.mem_of_getElem? (i := 23) rfl)))) (mvT hZ (hw _ (List.mem_of_getElem? (i := 23) rfl))) (mvT hZ (hw _ (List.mem_of_getElem? (i := 22) rfl))) (by decide) (backOf (W := 4) (rm3 l Z a0 hw [] ao bo xm B h0 n0 Z0 PF6 PF9 cd25_8) hZ (hw _ (List.mem_of_getElem? (i := 24) rfl)) (hw _ (List.mem_of_getElem? (i := 3) rfl)) (by decide) (by decide)) q7a q7c (g := (mkF m 25 #[.val (.ref ao), .val (.int xp), .val (.int xo), .val (.int xc), .val (.int v4)] [(.ref ao), (.int (v4 + (1 : Int32))), (.ref bc), (.int v4), (.ref bc)])) rfl (by rw [hml]; rfl) (Steps.refl _) (argsL := []) (rest := [(.int (v4 + (1 : Int32))), (.ref bc), (.int v4), (.ref bc)]) (lenOf pd_5_0 rfl) rfl (by show 2 * 0 + _ ≤ _; exact Nat.le_of_eq rfl) (hb hby d5_25) (fun _ _ => ⟨rfl, e6, (by decide : 0 + 0 ≤ _), (by decide : 0 + 0 ≤ _)⟩)
  dsimp only [Pt.U, Pt.locs, Pt.cells, Pt.slots] at X7 l7 y7 z7 st7 hQ7
  subst l7 y7 z7
  obtain ⟨rfl, Nq7, hh7⟩ := hQ7
  have N7 := Fr.app N0 Nq7
  refine own_Goes.via (T' := T7) (g' := (mkF m 28 #[.val (.ref ao), .val (.int xp), .val (.int xo), .val (.int xc), .val (.int v4)] [(.int (B (xm - (1 : Int32)).toNatClampNeg)), (.int (v4 + (1 : Int32))), (.ref bc), (.int v4), (.ref bc)])) (fun t_ k_ => st7.trans k_) ?_
  obtain ⟨v9, hv9⟩ : ∃ z : Int32, z = (B (xm - (1 : Int32)).toNatClampNeg) := ⟨_, rfl⟩
  rw [← hv9]
  refine own_Goes.via (T' := T7) (g' := (mkF m 30 #[.val (.ref ao), .val (.int xp), .val (.int xo), .val (.int xc), .val (.int v4)] [(.int v4), (.int v9), (.int (v4 + (1 : Int32))), (.ref bc), (.int v4), (.ref bc)])) (fun t_ k_ => XS.iload X7.here hx rfl (hb hby d5_28) rfl k_) ?_
  refine own_Goes.via (T' := T7) (g' := (mkF m 31 #[.val (.ref ao), .val (.int xp), .val (.int xo), .val (.int xc), .val (.int v4)] [(.int (v9 - v4)), (.int (v4 + (1 : Int32))), (.ref bc), (.int v4), (.ref bc)])) (fun t_ k_ => XS.isub X7.here hx rfl (hb hby d5_30) rfl k_) ?_
  have cp31_11 : own_cp v4 (v4 + (1 : Int32)) (v9 - v4) (104 : Int32) (104 : Int32) := own_pl5_0 hv4 hv9 hone hp hp1 hI in5_3 cd25_8
  obtain ⟨ks10, vs10, As10, ls10⟩ := PF10.arv
  obtain ⟨kd10, vd10, Ad10, ld10⟩ := PF10.arv
  obtain ⟨T10, h10, L10, X10, e10, N10, Kq10, A10, st10⟩ := cpA X7 hx hZ hown (hw _ (List.mem_of_getElem? (i := 36) rfl)) (hw _ (List.mem_of_getElem? (i := 39) rfl)) (hw _ (List.mem_of_getElem? (i := 37) rfl)) (hw _ (List.mem_of_getElem? (i := 38) rfl)) hh7 As10 Ad10 (Or.inl ⟨rfl, rfl⟩) cp31_11.1 cp31_11.2.1 cp31_11.2.2.1 cp31_11.2.2.2.1 cp31_11.2.2.2.2 rfl (by rw [ld10]; exact cp31_11.2.2.2.2) N7 ge_bc (g := (mkF m 31 #[.val (.ref ao), .val (.int xp), .val (.int xo), .val (.int xc), .val (.int v4)] [(.int (v9 - v4)), (.int (v4 + (1 : Int32))), (.ref bc), (.int v4), (.ref bc)])) rfl (by rw [hml]; rfl) rfl (hb hby d5_31) (by decide) (W := 0) (by show 2 * 0 + _ ≤ _; exact Nat.le_of_eq rfl) (by decide)
  have E12 : Exa Z h10 ao "com/example/wildsuit/wildsuit/game/Row" := PF0.keep Kq10
  have E13 : Exa Z h10 bc "[B" := PF1.keep Kq10
  have E14 : Exa Z h10 bo "[I" := PF2.keep Kq10
  have E15 : Exa Z h10 bh "[J" := PF3.keep Kq10
  have E16 : Exa Z h10 bt "[J" := PF4.keep Kq10
  have F17 : Fld Z h10 ao "com/example/wildsuit/wildsuit/game/Row" "cards" "[B" (.ref bc) := PF5.keep Kq10 (ninS (Exa.ne E12 E13 (by decide)) nin0)
  have F18 : Fld Z h10 ao "com/example/wildsuit/wildsuit/game/Row" "borders" "[I" (.ref bo) := PF6.keep Kq10 (ninS (Exa.ne E12 E13 (by decide)) nin0)
  have F19 : Fld Z h10 ao "com/example/wildsuit/wildsuit/game/Row" "held" "[J" (.ref bh) := PF7.keep Kq10 (ninS (Exa.ne E12 E13 (by decide)) nin0)
  have F20 : Fld Z h10 ao "com/example/wildsuit/wildsuit/game/Row" "heldTwice" "[J" (.ref bt) := PF8.keep Kq10 (ninS (Exa.ne E12 E13 (by decide)) nin0)
  have G21 : own_Gi Z h10 bo .int xm B := PF9.keep Kq10 (ninS (Exa.ne E14 E13 (by decide)) nin0)
  have U22 : own_Un Z h10 bh .long nn := PF11.keep Kq10 (ninS (Exa.ne E15 E13 (by decide)) nin0)
  have U23 : own_Un Z h10 bt .long nn := PF12.keep Kq10 (ninS (Exa.ne E16 E13 (by decide)) nin0)
  have U24 : own_Un Z h10 bc .byte (104 : Int32) := own_Un.of A10
  have sz10 : n0 ≤ h10.size := Nat.le_trans Z0 Kq10.1
  have K10 : Keep h0 h10 [bc, bo, bh, bt] := ((Keep.refl h0 [bc, bo, bh, bt])).trans Kq10 (allS (Or.inl (List.mem_of_getElem? (i := 0) rfl)) all0)
  refine own_Goes.via (T' := T10) (g' := (mkF m 34 #[.val (.ref ao), .val (.int xp), .val (.int xo), .val (.int xc), .val (.int v4)] [])) (st10) ?_
  refine own_Goes.via (T' := T10) (g' := (mkF m 35 #[.val (.ref ao), .val (.int xp), .val (.int xo), .val (.int xc), .val (.int v4)] [(.ref ao)])) (fun t_ k_ => XS.aloadN X10.here hx rfl (hb hby d5_34) rfl rfl k_) ?_
  obtain ⟨T25, X25, e25, st25⟩ := getF X10 hx hZ hown (host := "") (Or.inl (hw _ (List.mem_of_getElem? (i := 11) rfl))) Via.refl e10 F17 (g := (mkF m 35 #[.val (.ref ao), .val (.int xp), .val (.int xo), .val (.int xc), .val (.int v4)] [(.ref ao)])) rfl rfl (hb hby d5_35)
  refine own_Goes.via (T' := T25) (g' := (mkF m 38 #[.val (.ref ao), .val (.int xp), .val (.int xo), .val (.int xc), .val (.int v4)] [(.ref bc)])) (st25) ?_
  refine own_Goes.via (T' := T25) (g' := (mkF m 40 #[.val (.ref ao), .val (.int xp), .val (.int xo), .val (.int xc), .val (.int v4)] [(.int v4), (.ref bc)])) (fun t_ k_ => XS.iload X25.here hx rfl (hb hby d5_38) rfl k_) ?_
  refine own_Goes.via (T' := T25) (g' := (mkF m 41 #[.val (.ref ao), .val (.int xp), .val (.int xo), .val (.int xc), .val (.int v4)] [(.int xc), (.int v4), (.ref bc)])) (fun t_ k_ => XS.iloadN X25.here hx rfl (hb hby d5_40) rfl k_) ?_
  refine own_Goes.via (T' := T25) (g' := (mkF m 42 #[.val (.ref ao), .val (.int xp), .val (.int xo), .val (.int xc), .val (.int v4)] [(.int (xc.toInt8.toInt32)), (.int v4), (.ref bc)])) (fun t_ k_ => XS.i2b X25.here hx rfl (hb hby d5_41) rfl k_) ?_
  obtain ⟨cl26, Ar26, Sl26, Ng26, -⟩ := id U24
  have in42_27 : ¬ v4 < 0 ∧ v4 < (104 : Int32) := own_pl5_1 hv4 hv9 hone hp hp1 hI in5_3 cd25_8 cp31_11
  obtain ⟨T26, h26, X26, e26, W26, st26⟩ := stB X25 hx hZ e25 Ar26 (j := v4) (inb_of Sl26 in42_27) (g := (mkF m 42 #[.val (.ref ao), .val (.int xp), .val (.int xo), .val (.int xc), .val (.int v4)] [(.int (xc.toInt8.toInt32)), (.int v4), (.ref bc)])) rfl rfl (hb hby d5_42)
  have E28 : Exa Z h26 ao "com/example/wildsuit/wildsuit/game/Row" := E12.wr W26
  have E29 : Exa Z h26 bc "[B" := E13.wr W26
  have E30 : Exa Z h26 bo "[I" := E14.wr W26
  have E31 : Exa Z h26 bh "[J" := E15.wr W26
  have E32 : Exa Z h26 bt "[J" := E16.wr W26
  have F33 : Fld Z h26 ao "com/example/wildsuit/wildsuit/game/Row" "cards" "[B" (.ref bc) := F17.other W26 (Or.inl (Exa.ne E28 E29 (by decide)))
  have F34 : Fld Z h26 ao "com/example/wildsuit/wildsuit/game/Row" "borders" "[I" (.ref bo) := F18.other W26 (Or.inl (Exa.ne E28 E29 (by decide)))
  have F35 : Fld Z h26 ao "com/example/wildsuit/wildsuit/game/Row" "held" "[J" (.ref bh) := F19.other W26 (Or.inl (Exa.ne E28 E29 (by decide)))
  have F36 : Fld Z h26 ao "com/example/wildsuit/wildsuit/game/Row" "heldTwice" "[J" (.ref bt) := F20.other W26 (Or.inl (Exa.ne E28 E29 (by decide)))
  have G37 : own_Gi Z h26 bo .int xm B := G21.other W26 (Exa.ne E30 E29 (by decide))
  have U38 : own_Un Z h26 bh .long nn := U22.other W26 (Exa.ne E31 E29 (by decide))
  have U39 : own_Un Z h26 bt .long nn := U23.other W26 (Exa.ne E32 E29 (by decide))
  have U40 : own_Un Z h26 bc .byte (104 : Int32) := U24.set W26 (fits_nar_byte _)
  have N26 := Fr.snoc X26 N10 ge_bc
  have sz26 : n0 ≤ h26.size := Nat.le_trans sz10 (Keep.of_wr W26).1
  have K26 : Keep h0 h26 [bc, bo, bh, bt] := (K10).wr W26 (Or.inl (List.mem_of_getElem? (i := 0) rfl))
  refine own_Goes.via (T' := T26) (g' := (mkF m 43 #[.val (.ref ao), .val (.int xp), .val (.int xo), .val (.int xc), .val (.int v4)] [])) (st26) ?_
  refine own_Goes.via (T' := T26) (g' := (mkF m 44 #[.val (.ref ao), .val (.int xp), .val (.int xo), .val (.int xc), .val (.int v4)] [(.ref ao)])) (fun t_ k_ => XS.aloadN X26.here hx rfl (hb hby d5_43) rfl rfl k_) ?_
  refine own_Goes.via (T' := T26) (g' := (mkF m 45 #[.val (.ref ao), .val (.int xp), .val (.int xo), .val (.int xc), .val (.int v4)] [(.int xp), (.ref ao)])) (fun t_ k_ => XS.iloadN X26.here hx rfl (hb hby d5_44) rfl k_) ?_
  refine own_Goes.via (T' := T26) (g' := (mkF m 46 #[.val (.ref ao), .val (.int xp), .val (.int xo), .val (.int xc), .val (.int v4)] [(.ref ao), (.int xp), (.ref ao)])) (fun t_ k_ => XS.aloadN X26.here hx rfl (hb hby d5_45) rfl rfl k_) ?_
  obtain ⟨T41, X41, e41, st41⟩ := getF X26 hx hZ hown (host := "") (Or.inl (hw _ (List.mem_of_getElem? (i := 13) rfl))) Via.refl e26 F34 (g := (mkF m 46 #[.val (.ref ao), .val (.int xp), .val (.int xo), .val (.int xc), .val (.int v4)] [(.ref ao), (.int xp), (.ref ao)])) rfl rfl (hb hby d5_46)
  refine own_Goes.via (T' := T41) (g' := (mkF m 49 #[.val (.ref ao), .val (.int xp), .val (.int xo), .val (.int xc), .val (.int v4)] [(.ref bo), (.int xp), (.ref ao)])) (st41) ?_
  obtain ⟨cl42, Ar42, Sl42, Ng42, -⟩ := id G37
  refine own_Goes.via (T' := T41) (g' := (mkF m 50 #[.val (.ref ao), .val (.int xp), .val (.int xo), .val (.int xc), .val (.int v4)] [(.int xm), (.int xp), (.ref ao)])) (fun t_ k_ => X41.arraylength hx (by rw [e41]; exact Ar42.1) (State.isArrayOf_alike hZ.alike Ar42.2.1) (g := (mkF m 49 #[.val (.ref ao), .val (.int xp), .val (.int xo), .val (.int xc), .val (.int v4)] [(.ref bo), (.int xp), (.ref ao)])) rfl rfl (hb hby d5_49) _ (by rw [len_of Sl42 Ng42]; exact k_)) ?_
  refine own_Goes.via (T' := T41) (g' := (mkF m 51 #[.val (.ref ao), .val (.int xp), .val (.int xo), .val (.int xc), .val (.int v4)] [(.int (1 : Int32)), (.int xm), (.int xp), (.ref ao)])) (fun t_ k_ => XS.iconst X41.here hx rfl (hb hby d5_50) k_) ?_
  have cd51_44 : (0 : Int32) < xm := by first | assumption | decide
  obtain ⟨cq43, q43, q43'⟩ := E28.cell
  obtain ⟨_, _, ⟨T43, L43, k43, n43⟩, -, X43, ⟨Lc43, hQ43, l43, y43, z43⟩, st43⟩ := X41.privateBack hx (y := (⟨"com/example/wildsuit/wildsuit/game/Row", "moveBorders", "(III)V"⟩ : MethodName)) hown (mvT hZ (hw _ (List.mem_of_getElem? (i := 40) rfl))) (mvT hZ (hw _ (List.mem_of_getElem? (i := 41) rfl))) (mvT hZ (own_selP (y := (⟨"com/example/wildsuit/wildsuit/game/Row", "moveBorders", "(III)V"⟩ : MethodName)) (hw _ (List.mem_of_getElem? (i := 23) rfl)) rfl (hw _ (List.mem_of_getElem? (i := 42) rfl)) (hw _ (List.mem_of_getElem? (i := 41) rfl)) (by decide))) (Cond.privateMethod_at (mvP hZ (hw _ (List.mem_of_getElem? (i := 42) rfl)) (args := #[]))) (mvT hZ (hw _ (List.mem_of_getElem? (i := 43) rfl))) (by decide) (backOf (W := 0) (rm6 l Z a0 hw [] ao xp xm (1 : Int32) bo xm B h26 n0 sz26 E28 E30 F34 G37 ge_bo cd51_44) hZ (hw _ (List.mem_of_getElem? (i := 43) rfl)) (hw _ (List.mem_of_getElem? (i := 3) rfl)) (by decide) (by decide)) (g := (mkF m 51 #[.val (.ref ao), .val (.int xp), .val (.int xo), .val (.int xc), .val (.int v4)] [(.int (1 : Int32)), (.int xm), (.int xp), (.ref ao)])) rfl (by rw [hml]; rfl) (Steps.refl _) (a := ao) (by rw [e41]; exact q43) q43' (argsL := [(.int xp), (.int xm), (.int (1 : Int32))]) (rest := []) (lenOf pd_5_1 rfl) rfl (by show 2 * 0 + _ ≤ _; exact Nat.le_of_eq rfl) (hb hby d5_51) (fun _ _ => ⟨rfl, e41, (by decide : 0 + 0 ≤ _), (by decide : 0 + 0 ≤ _)⟩)
  dsimp only [Pt.U, Pt.locs, Pt.cells, Pt.slots] at X43 l43 y43 z43 st43 hQ43
  subst l43 y43 z43
  obtain ⟨rfl, Nq43, Kq43, pf43_0⟩ := hQ43
  have N43 := Fr.app N26 Nq43
  have E45 : Exa Z T43.heap ao "com/example/wildsuit/wildsuit/game/Row" := E28.keep Kq43
  have E46 : Exa Z T43.heap bc "[B" := E29.keep Kq43
  have E47 : Exa Z T43.heap bo "[I" := E30.keep Kq43
  have E48 : Exa Z T43.heap bh "[J" := E31.keep Kq43
  have E49 : Exa Z T43.heap bt "[J" := E32.keep Kq43
  have F50 : Fld Z T43.heap ao "com/example/wildsuit/wildsuit/game/Row" "cards" "[B" (.ref bc) := F33.keep Kq43 (ninS (Exa.ne E45 E47 (by decide)) nin0)
  have F51 : Fld Z T43.heap ao "com/example/wildsuit/wildsuit/game/Row" "borders" "[I" (.ref bo) := F34.keep Kq43 (ninS (Exa.ne E45 E47 (by decide)) nin0)
  have F52 : Fld Z T43.heap ao "com/example/wildsuit/wildsuit/game/Row" "held" "[J" (.ref bh) := F35.keep Kq43 (ninS (Exa.ne E45 E47 (by decide)) nin0)
  have F53 : Fld Z T43.heap ao "com/example/wildsuit/wildsuit/game/Row" "heldTwice" "[J" (.ref bt) := F36.keep Kq43 (ninS (Exa.ne E45 E47 (by decide)) nin0)
  have U54 : own_Un Z T43.heap bh .long nn := U38.keep Kq43 (ninS (Exa.ne E48 E47 (by decide)) nin0)
  have U55 : own_Un Z T43.heap bt .long nn := U39.keep Kq43 (ninS (Exa.ne E49 E47 (by decide)) nin0)
  have U56 : own_Un Z T43.heap bc .byte (104 : Int32) := U40.keep Kq43 (ninS (Exa.ne E46 E47 (by decide)) nin0)
  have sz43 : n0 ≤ T43.heap.size := Nat.le_trans sz26 Kq43.1
  have K43 : Keep h0 T43.heap [bc, bo, bh, bt] := (K26).trans Kq43 (allS (Or.inl (List.mem_of_getElem? (i := 1) rfl)) all0)
  refine own_Goes.via (T' := T43) (g' := (mkF m 54 #[.val (.ref ao), .val (.int xp), .val (.int xo), .val (.int xc), .val (.int v4)] [])) (fun t_ k_ => st43.trans k_) ?_
  refine own_Goes.via (T' := T43) (g' := (mkF m 55 #[.val (.ref ao), .val (.int xp), .val (.int xo), .val (.int xc), .val (.int v4)] [(.ref ao)])) (fun t_ k_ => XS.aloadN X43.here hx rfl (hb hby d5_54) rfl rfl k_) ?_
  refine own_Goes.via (T' := T43) (g' := (mkF m 56 #[.val (.ref ao), .val (.int xp), .val (.int xo), .val (.int xc), .val (.int v4)] [(.int xp), (.ref ao)])) (fun t_ k_ => XS.iloadN X43.here hx rfl (hb hby d5_55) rfl k_) ?_
  refine own_Goes.via (T' := T43) (g' := (mkF m 57 #[.val (.ref ao), .val (.int xp), .val (.int xo), .val (.int xc), .val (.int v4)] [(.int xc), (.int xp), (.ref ao)])) (fun t_ k_ => XS.iloadN X43.here hx rfl (hb hby d5_56) rfl k_) ?_
  have cd57_58 : ¬ xp < 0 ∧ xp < nn := by first | assumption | decide
  obtain ⟨cq57, q57, q57'⟩ := E45.cell
  obtain ⟨_, _, ⟨T57, L57, k57, n57⟩, -, X57, ⟨Lc57, hQ57, l57, y57, z57⟩, st57⟩ := X43.privateBack hx (y := (⟨"com/example/wildsuit/wildsuit/game/Row", "hold", "(II)V"⟩ : MethodName)) hown (mvT hZ (hw _ (List.mem_of_getElem? (i := 44) rfl))) (mvT hZ (hw _ (List.mem_of_getElem? (i := 45) rfl))) (mvT hZ (own_selP (y := (⟨"com/example/wildsuit/wildsuit/game/Row", "hold", "(II)V"⟩ : MethodName)) (hw _ (List.mem_of_getElem? (i := 23) rfl)) rfl (hw _ (List.mem_of_getElem? (i := 46) rfl)) (hw _ (List.mem_of_getElem? (i := 45) rfl)) (by decide))) (Cond.privateMethod_at (mvP hZ (hw _ (List.mem_of_getElem? (i := 46) rfl)) (args := #[]))) (mvT hZ (hw _ (List.mem_of_getElem? (i := 47) rfl))) (by decide) (backOf (W := 0) (rm7 l Z a0 hw [] ao xp xc bh bt nn T43.heap n0 sz43 E45 E48 E49 F52 F53 U54 U55 PN0 ge_bh ge_bt cd57_58) hZ (hw _ (List.mem_of_getElem? (i := 47) rfl)) (hw _ (List.mem_of_getElem? (i := 3) rfl)) (by decide) (by decide)) (g := (mkF m 57 #[.val (.ref ao), .val (.int xp), .val (.int xo), .val (.int xc), .val (.int v4)] [(.int xc), (.int xp), (.ref ao)])) rfl (by rw [hml]; rfl) (Steps.refl _) (a := ao) q57 q57' (argsL := [(.int xp), (.int xc)]) (rest := []) (lenOf pd_5_2 rfl) rfl (by show 2 * 0 + _ ≤ _; exact Nat.le_of_eq rfl) (hb hby d5_57) (fun _ _ => ⟨rfl, rfl, (by decide : 0 + 0 ≤ _), (by decide : 0 + 0 ≤ _)⟩)
  dsimp only [Pt.U, Pt.locs, Pt.cells, Pt.slots] at X57 l57 y57 z57 st57 hQ57
  subst l57 y57 z57
  obtain ⟨rfl, Nq57, Kq57, pf57_0, pf57_1⟩ := hQ57
  have N57 := Fr.app N43 Nq57
  have E59 : Exa Z T57.heap ao "com/example/wildsuit/wildsuit/game/Row" := E45.keep Kq57
  have E60 : Exa Z T57.heap bc "[B" := E46.keep Kq57
  have E61 : Exa Z T57.heap bo "[I" := E47.keep Kq57
  have E62 : Exa Z T57.heap bh "[J" := E48.keep Kq57
  have E63 : Exa Z T57.heap bt "[J" := E49.keep Kq57
  have F64 : Fld Z T57.heap ao "com/example/wildsuit/wildsuit/game/Row" "cards" "[B" (.ref bc) := F50.keep Kq57 (ninS (Exa.ne E59 E62 (by decide)) (ninS (Exa.ne E59 E63 (by decide)) nin0))
  have F65 : Fld Z T57.heap ao "com/example/wildsuit/wildsuit/game/Row" "borders" "[I" (.ref bo) := F51.keep Kq57 (ninS (Exa.ne E59 E62 (by decide)) (ninS (Exa.ne E59 E63 (by decide)) nin0))
  have F66 : Fld Z T57.heap ao "com/example/wildsuit/wildsuit/game/Row" "held" "[J" (.ref bh) := F52.keep Kq57 (ninS (Exa.ne E59 E62 (by decide)) (ninS (Exa.ne E59 E63 (by decide)) nin0))
  have F67 : Fld Z T57.heap ao "com/example/wildsuit/wildsuit/game/Row" "heldTwice" "[J" (.ref bt) := F53.keep Kq57 (ninS (Exa.ne E59 E62 (by decide)) (ninS (Exa.ne E59 E63 (by decide)) nin0))
  have U68 : own_Un Z T57.heap bc .byte (104 : Int32) := U56.keep Kq57 (ninS (Exa.ne E60 E62 (by decide)) (ninS (Exa.ne E60 E63 (by decide)) nin0))
  have G69 : own_Gi Z T57.heap bo .int xm (own_mv B xp xm (1 : Int32)) := pf43_0.keep Kq57 (ninS (Exa.ne E61 E62 (by decide)) (ninS (Exa.ne E61 E63 (by decide)) nin0))
  have sz57 : n0 ≤ T57.heap.size := Nat.le_trans sz43 Kq57.1
  have K57 : Keep h0 T57.heap [bc, bo, bh, bt] := (K43).trans Kq57 (allS (Or.inl (List.mem_of_getElem? (i := 2) rfl)) (allS (Or.inl (List.mem_of_getElem? (i := 3) rfl)) all0))
  refine own_Goes.via (T' := T57) (g' := (mkF m 60 #[.val (.ref ao), .val (.int xp), .val (.int xo), .val (.int xc), .val (.int v4)] [])) (fun t_ k_ => st57.trans k_) ?_
  obtain ⟨fs, hr, hrun, hended, hW, hsame⟩ := X57.leave (v := none) (fun _ => rfl)
  refine own_Goes.fin (X57.returnOut hx Bd.returns (hb hby d5_60) hr) hrun hended ?_
  subst hPd
  refine ⟨_, _, rfl, ?_, ⟨_, rfl⟩, hW, hsame.mono (by decide) (by decide)⟩
  show Q5 Z ao xp xo xc bc bo bh bt xm nn B h0 n0 _ T57.heap _
  exact ⟨rfl, N57, K57, U68, G69, pf57_0, pf57_1⟩
theorem d10_0 : decode prog_36_method_10_code 0 = .ok (.aload_n 0, 1) := by decide +kernel
theorem d10_1 : decode prog_36_method_10_code 1 = .ok (.getfield 13, 3) := by decide +kernel
theorem d10_4 : decode prog_36_method_10_code 4 = .ok (.iload_n 1, 1) := by decide +kernel
theorem d10_5 : decode prog_36_method_10_code 5 = .ok (.iaload, 1) := by decide +kernel
theorem d10_6 : decode prog_36_method_10_code 6 = .ok (.iload_n 2, 1) := by decide +kernel
theorem d10_7 : decode prog_36_method_10_code 7 = .ok (.iadd, 1) := by decide +kernel
theorem d10_8 : decode prog_36_method_10_code 8 = .ok (.istore 4, 2) := by decide +kernel
theorem d10_10 : decode prog_36_method_10_code 10 = .ok (.iload_n 3, 1) := by decide +kernel
theorem d10_11 : decode prog_36_method_10_code 11 = .ok (.iload_n 2, 1) := by decide +kernel
theorem d10_12 : decode prog_36_method_10_code 12 = .ok (.isub, 1) := by decide +kernel
theorem d10_13 : decode prog_36_method_10_code 13 = .ok (.istore 5, 2) := by decide +kernel
theorem d10_15 : decode prog_36_method_10_code 15 = .ok (.iload 4, 2) := by decide +kernel
theorem d10_17 : decode prog_36_method_10_code 17 = .ok (.istore 6, 2) := by decide +kernel
theorem d10_19 : decode prog_36_method_10_code 19 = .ok (.iload 6, 2) := by decide +kernel
theorem d10_21 : decode prog_36_method_10_code 21 = .ok (.iload 4, 2) := by decide +kernel
theorem d10_23 : decode prog_36_method_10_code 23 = .ok (.iload 5, 2) := by decide +kernel
theorem d10_25 : decode prog_36_method_10_code 25 = .ok (.iadd, 1) := by decide +kernel
theorem d10_26 : decode prog_36_method_10_code 26 = .ok (.if_icmp .ge 21, 3) := by decide +kernel
theorem d10_29 : decode prog_36_method_10_code 29 = .ok (.aload_n 0, 1) := by decide +kernel
theorem d10_30 : decode prog_36_method_10_code 30 = .ok (.iload_n 1, 1) := by decide +kernel
theorem d10_31 : decode prog_36_method_10_code 31 = .ok (.aload_n 0, 1) := by decide +kernel
theorem d10_32 : decode prog_36_method_10_code 32 = .ok (.getfield 7, 3) := by decide +kernel
theorem d10_35 : decode prog_36_method_10_code 35 = .ok (.iload 6, 2) := by decide +kernel
theorem d10_37 : decode prog_36_method_10_code 37 = .ok (.baload, 1) := by decide +kernel
theorem d10_38 : decode prog_36_method_10_code 38 = .ok (.invokevirtual 42, 3) := by decide +kernel
theorem d10_41 : decode prog_36_method_10_code 41 = .ok (.iinc 6 1, 3) := by decide +kernel
theorem d10_44 : decode prog_36_method_10_code 44 = .ok (.goto (-25), 3) := by decide +kernel
theorem d10_47 : decode prog_36_method_10_code 47 = .ok (.aload_n 0, 1) := by decide +kernel
theorem d10_48 : decode prog_36_method_10_code 48 = .ok (.getfield 7, 3) := by decide +kernel
theorem d10_51 : decode prog_36_method_10_code 51 = .ok (.iload 4, 2) := by decide +kernel
theorem d10_53 : decode prog_36_method_10_code 53 = .ok (.iload 5, 2) := by decide +kernel
theorem d10_55 : decode prog_36_method_10_code 55 = .ok (.iadd, 1) := by decide +kernel
theorem d10_56 : decode prog_36_method_10_code 56 = .ok (.aload_n 0, 1) := by decide +kernel
theorem d10_57 : decode prog_36_method_10_code 57 = .ok (.getfield 7, 3) := by decide +kernel
theorem d10_60 : decode prog_36_method_10_code 60 = .ok (.iload 4, 2) := by decide +kernel
theorem d10_62 : decode prog_36_method_10_code 62 = .ok (.aload_n 0, 1) := by decide +kernel
theorem d10_63 : decode prog_36_method_10_code 63 = .ok (.invokevirtual 24, 3) := by decide +kernel
theorem d10_66 : decode prog_36_method_10_code 66 = .ok (.iload 4, 2) := by decide +kernel
theorem d10_68 : decode prog_36_method_10_code 68 = .ok (.isub, 1) := by decide +kernel
theorem d10_69 : decode prog_36_method_10_code 69 = .ok (.iload 5, 2) := by decide +kernel
theorem d10_71 : decode prog_36_method_10_code 71 = .ok (.isub, 1) := by decide +kernel
theorem d10_72 : decode prog_36_method_10_code 72 = .ok (.invokestatic 28, 3) := by decide +kernel
theorem d10_75 : decode prog_36_method_10_code 75 = .ok (.aload_n 0, 1) := by decide +kernel
theorem d10_76 : decode prog_36_method_10_code 76 = .ok (.iload_n 1, 1) := by decide +kernel
theorem d10_77 : decode prog_36_method_10_code 77 = .ok (.aload_n 0, 1) := by decide +kernel
theorem d10_78 : decode prog_36_method_10_code 78 = .ok (.getfield 13, 3) := by decide +kernel
theorem d10_81 : decode prog_36_method_10_code 81 = .ok (.arraylength, 1) := by decide +kernel
theorem d10_82 : decode prog_36_method_10_code 82 = .ok (.iload 5, 2) := by decide +kernel
theorem d10_84 : decode prog_36_method_10_code 84 = .ok (.ineg, 1) := by decide +kernel
theorem d10_85 : decode prog_36_method_10_code 85 = .ok (.invokevirtual 34, 3) := by decide +kernel
theorem d10_88 : decode prog_36_method_10_code 88 = .ok (.return_, 1) := by decide +kernel
theorem pn_10 : plainName "com/example/wildsuit/wildsuit/game/Row" = true := by first | (simp [plainName, overriddenIn]; done) | decide +kernel
theorem pd_10_0 : parseMethodDescriptor "(II)V" = some ⟨[.int, .int], none⟩ := by decide +kernel
theorem pd_10_1 : parseMethodDescriptor "()I" = some ⟨[], some .int⟩ := by decide +kernel
theorem pd_10_2 : parseMethodDescriptor "(III)V" = some ⟨[.int, .int, .int], none⟩ := by decide +kernel
theorem ef_10 (m : MethodId) (ao : Addr) (xq : Int32) (xl : Int32) (xh : Int32) : entryFrame m #[(.ref ao), (.int xq), (.int xl), (.int xh)] 7 = mkF m 0 #[.val (.ref ao), .val (.int xq), .val (.int xl), .val (.int xh), .unset, .unset, .unset] [] := by first | (simp [entryFrame, mkF, argsToLocals, Value.category]; done) | rfl
def Q10 (Z : State) (ao : Addr) (xq : Int32) (xl : Int32) (xh : Int32) (bc : Addr) (bo : Addr) (bh : Addr) (bt : Addr) (xm : Int32) (nn : Int32) (B : Nat → Int32) (h0 : Heap) (n0 : Nat) (v : Option Value) (h : Heap) (L : List Loc) : Prop := v = none ∧ Fr n0 L ∧ Keep h0 h [bc, bo, bh, bt] ∧ own_Un Z h bc .byte (104 : Int32) ∧ own_Gi Z h bo .int xm (own_mv B xq xm (-(xh - xl))) ∧ own_Un Z h bh .long nn ∧ own_Un Z h bt .long nn
set_option maxRecDepth 65536 in
theorem own_pl10_0 {xq : Int32} {xl : Int32} {xh : Int32} {xm : Int32} {nn : Int32} {B : Nat → Int32} {v4 : Int32} {v5 : Int32} (hv4 : v4 = ((B xq.toNatClampNeg) + xl)) (hv5 : v5 = (xh - xl)) (hone : (0 : Int32) < xm) (hp : ¬ xq < 0 ∧ xq < nn) (hp1 : ¬ xq < 0 ∧ xq < xm) (hR : 0 ≤ ((B xq.toNatClampNeg) + xl).toInt ∧ 0 ≤ (xh - xl).toInt ∧ ((B xq.toNatClampNeg) + xl).toInt + (xh - xl).toInt ≤ (B (xm - (1 : Int32)).toNatClampNeg).toInt ∧ (B (xm - (1 : Int32)).toNatClampNeg).toInt ≤ 3) (in5_3 : ¬ xq < 0 ∧ xq < xm) : v4.toInt ≤ v4.toInt ∧ v4.toInt ≤ v4.toInt + v5.toInt := by
  rw [← hv4, ← hv5] at hR
  omega
set_option maxRecDepth 65536 in
theorem own_pl10_1 {xq : Int32} {xl : Int32} {xh : Int32} {xm : Int32} {nn : Int32} {B : Nat → Int32} {xi : Int32} {v4 : Int32} {v5 : Int32} (hv4 : v4 = ((B xq.toNatClampNeg) + xl)) (hv5 : v5 = (xh - xl)) (hone : (0 : Int32) < xm) (hp : ¬ xq < 0 ∧ xq < nn) (hp1 : ¬ xq < 0 ∧ xq < xm) (hR : 0 ≤ ((B xq.toNatClampNeg) + xl).toInt ∧ 0 ≤ (xh - xl).toInt ∧ ((B xq.toNatClampNeg) + xl).toInt + (xh - xl).toInt ≤ (B (xm - (1 : Int32)).toNatClampNeg).toInt ∧ (B (xm - (1 : Int32)).toNatClampNeg).toInt ≤ 3) (in5_3 : ¬ xq < 0 ∧ xq < xm) (hiL19 : v4.toInt ≤ xi.toInt ∧ xi.toInt ≤ v4.toInt + v5.toInt) : ¬ ((v4.toInt + v5.toInt - xi.toInt).toNat + 1 ≤ 0) := by
  omega
set_option maxRecDepth 65536 in
theorem own_pl10_2 {xq : Int32} {xl : Int32} {xh : Int32} {xm : Int32} {nn : Int32} {B : Nat → Int32} {xi : Int32} {f6 : Nat} {v4 : Int32} {v5 : Int32} (hv4 : v4 = ((B xq.toNatClampNeg) + xl)) (hv5 : v5 = (xh - xl)) (hc26_20 : xi < (v4 + v5)) (hone : (0 : Int32) < xm) (hp : ¬ xq < 0 ∧ xq < nn) (hp1 : ¬ xq < 0 ∧ xq < xm) (hR : 0 ≤ ((B xq.toNatClampNeg) + xl).toInt ∧ 0 ≤ (xh - xl).toInt ∧ ((B xq.toNatClampNeg) + xl).toInt + (xh - xl).toInt ≤ (B (xm - (1 : Int32)).toNatClampNeg).toInt ∧ (B (xm - (1 : Int32)).toNatClampNeg).toInt ≤ 3) (in5_3 : ¬ xq < 0 ∧ xq < xm) (hmL19 : (v4.toInt + v5.toInt - xi.toInt).toNat + 1 ≤ f6 + 1) (hiL19 : v4.toInt ≤ xi.toInt ∧ xi.toInt ≤ v4.toInt + v5.toInt) : ¬ xi < 0 ∧ xi < (104 : Int32) := by
  rw [← hv4, ← hv5] at hR
  exact own_in (by omega) (by rw [own_104]; have q1 := own_lt.mp hc26_20; rw [Jvm.Kit.i32_add (by omega) (by omega)] at q1; omega)
set_option maxRecDepth 65536 in
theorem own_pl10_3 {xq : Int32} {xl : Int32} {xh : Int32} {xm : Int32} {nn : Int32} {B : Nat → Int32} {xi : Int32} {f6 : Nat} {v4 : Int32} {v5 : Int32} {v37 : Int32} (hv4 : v4 = ((B xq.toNatClampNeg) + xl)) (hv5 : v5 = (xh - xl)) (hv37 : v37 = (xi + (1 : Int32))) (hc26_20 : xi < (v4 + v5)) (hone : (0 : Int32) < xm) (hp : ¬ xq < 0 ∧ xq < nn) (hp1 : ¬ xq < 0 ∧ xq < xm) (hR : 0 ≤ ((B xq.toNatClampNeg) + xl).toInt ∧ 0 ≤ (xh - xl).toInt ∧ ((B xq.toNatClampNeg) + xl).toInt + (xh - xl).toInt ≤ (B (xm - (1 : Int32)).toNatClampNeg).toInt ∧ (B (xm - (1 : Int32)).toNatClampNeg).toInt ≤ 3) (in5_3 : ¬ xq < 0 ∧ xq < xm) (hmL19 : (v4.toInt + v5.toInt - xi.toInt).toNat + 1 ≤ f6 + 1) (hiL19 : v4.toInt ≤ xi.toInt ∧ xi.toInt ≤ v4.toInt + v5.toInt) (in37_23 : ¬ xi < 0 ∧ xi < (104 : Int32)) (cd38_25 : ¬ xq < 0 ∧ xq < nn) : (v4.toInt + v5.toInt - v37.toInt).toNat + 1 ≤ f6 := by
  have e := own_inc hc26_20
  rw [← hv37] at e
  rw [← hv4, ← hv5] at hR
  have q1 := own_lt.mp hc26_20
  rw [Jvm.Kit.i32_add (by omega) (by omega)] at q1
  omega
set_option maxRecDepth 65536 in
theorem own_pl10_4 {xq : Int32} {xl : Int32} {xh : Int32} {xm : Int32} {nn : Int32} {B : Nat → Int32} {xi : Int32} {f6 : Nat} {v4 : Int32} {v5 : Int32} {v37 : Int32} (hv4 : v4 = ((B xq.toNatClampNeg) + xl)) (hv5 : v5 = (xh - xl)) (hv37 : v37 = (xi + (1 : Int32))) (hc26_20 : xi < (v4 + v5)) (hone : (0 : Int32) < xm) (hp : ¬ xq < 0 ∧ xq < nn) (hp1 : ¬ xq < 0 ∧ xq < xm) (hR : 0 ≤ ((B xq.toNatClampNeg) + xl).toInt ∧ 0 ≤ (xh - xl).toInt ∧ ((B xq.toNatClampNeg) + xl).toInt + (xh - xl).toInt ≤ (B (xm - (1 : Int32)).toNatClampNeg).toInt ∧ (B (xm - (1 : Int32)).toNatClampNeg).toInt ≤ 3) (in5_3 : ¬ xq < 0 ∧ xq < xm) (hmL19 : (v4.toInt + v5.toInt - xi.toInt).toNat + 1 ≤ f6 + 1) (hiL19 : v4.toInt ≤ xi.toInt ∧ xi.toInt ≤ v4.toInt + v5.toInt) (in37_23 : ¬ xi < 0 ∧ xi < (104 : Int32)) (cd38_25 : ¬ xq < 0 ∧ xq < nn) : v4.toInt ≤ v37.toInt ∧ v37.toInt ≤ v4.toInt + v5.toInt := by
  have e := own_inc hc26_20
  rw [← hv37] at e
  rw [← hv4, ← hv5] at hR
  have q1 := own_lt.mp hc26_20
  rw [Jvm.Kit.i32_add (by omega) (by omega)] at q1
  omega
set_option maxRecDepth 65536 in
theorem own_pl10_5 {xq : Int32} {xl : Int32} {xh : Int32} {xm : Int32} {nn : Int32} {B : Nat → Int32} {xi : Int32} {f6 : Nat} {v4 : Int32} {v5 : Int32} {v42 : Int32} (hv4 : v4 = ((B xq.toNatClampNeg) + xl)) (hv5 : v5 = (xh - xl)) (hv42 : v42 = (B (xm - (1 : Int32)).toNatClampNeg)) (hc26_20 : ¬ (xi < (v4 + v5))) (hone : (0 : Int32) < xm) (hp : ¬ xq < 0 ∧ xq < nn) (hp1 : ¬ xq < 0 ∧ xq < xm) (hR : 0 ≤ ((B xq.toNatClampNeg) + xl).toInt ∧ 0 ≤ (xh - xl).toInt ∧ ((B xq.toNatClampNeg) + xl).toInt + (xh - xl).toInt ≤ (B (xm - (1 : Int32)).toNatClampNeg).toInt ∧ (B (xm - (1 : Int32)).toNatClampNeg).toInt ≤ 3) (in5_3 : ¬ xq < 0 ∧ xq < xm) (hmL19 : (v4.toInt + v5.toInt - xi.toInt).toNat + 1 ≤ f6 + 1) (hiL19 : v4.toInt ≤ xi.toInt ∧ xi.toInt ≤ v4.toInt + v5.toInt) (cd63_41 : (0 : Int32) < xm) : own_cp (v4 + v5) v4 ((v42 - v4) - v5) (104 : Int32) (104 : Int32) := by
  rw [← hv4, ← hv5, ← hv42] at hR
  exact own_cpR hR.1 hR.2.1 hR.2.2.1 hR.2.2.2
set_option maxRecDepth 65536 in
set_option maxHeartbeats 40000000 in
theorem rm10 (l : Launch) (Z : State) (a0 : Array Value) (hw : ∀ d ∈ tables_1, d.before a0 Z = true) (ws : List Jvm.Cond) (ao : Addr) (xq : Int32) (xl : Int32) (xh : Int32) (bc : Addr) (bo : Addr) (bh : Addr) (bt : Addr) (xm : Int32) (nn : Int32) (B : Nat → Int32) (h0 : Heap) (n0 : Nat) (Z0 : n0 ≤ h0.size) (PF0 : Exa Z h0 ao "com/example/wildsuit/wildsuit/game/Row") (PF1 : Exa Z h0 bc "[B") (PF2 : Exa Z h0 bo "[I") (PF3 : Exa Z h0 bh "[J") (PF4 : Exa Z h0 bt "[J") (PF5 : Fld Z h0 ao "com/example/wildsuit/wildsuit/game/Row" "cards" "[B" (.ref bc)) (PF6 : Fld Z h0 ao "com/example/wildsuit/wildsuit/game/Row" "borders" "[I" (.ref bo)) (PF7 : Fld Z h0 ao "com/example/wildsuit/wildsuit/game/Row" "held" "[J" (.ref bh)) (PF8 : Fld Z h0 ao "com/example/wildsuit/wildsuit/game/Row" "heldTwice" "[J" (.ref bt)) (PF9 : own_Gi Z h0 bo .int xm B) (PF10 : own_Un Z h0 bc .byte (104 : Int32)) (PF11 : own_Un Z h0 bh .long nn) (PF12 : own_Un Z h0 bt .long nn) (PN0 : bh ≠ bt) (ge_bc : n0 ≤ bc) (ge_bo : n0 ≤ bo) (ge_bh : n0 ≤ bh) (ge_bt : n0 ≤ bt) (hone : (0 : Int32) < xm) (hp : ¬ xq < 0 ∧ xq < nn) (hp1 : ¬ xq < 0 ∧ xq < xm) (hR : 0 ≤ ((B xq.toNatClampNeg) + xl).toInt ∧ 0 ≤ (xh - xl).toInt ∧ ((B xq.toNatClampNeg) + xl).toInt + (xh - xl).toInt ≤ (B (xm - (1 : Int32)).toNatClampNeg).toInt ∧ (B (xm - (1 : Int32)).toNatClampNeg).toInt ≤ 3) :
    MetFree l (⟨"com/example/wildsuit/wildsuit/game/Row", "remove", "(III)V"⟩ : MethodName) (head1 (Jvm.Cond.code (⟨"com/example/wildsuit/wildsuit/game/Row", "remove", "(III)V"⟩ : MethodName) prog_36_method_10_code 7 none :: ws) ({ frames := 2, cells := 0, slots := 0, locals := 30 } : Room)) (fun a U => a = #[(.ref ao), (.int xq), (.int xl), (.int xh)] ∧ Z.Warmed39 U.vm ∧ U.heap = h0) (fun _ _ _ _ _ => True) (fun _ U o U' => ∃ v L, o = .returned v ∧ Q10 Z ao xq xl xh bc bo bh bt xm nn B h0 n0 v U'.heap L ∧ FrameEnd U o U' L ({ frames := 2, cells := 0, slots := 0, locals := 30 } : Room).cells ({ frames := 2, cells := 0, slots := 0, locals := 30 } : Room).slots) := by
  refine MetFree.of_bodySF (plainFor_of_name pn_10) hisR ?_
  intro p e s m args below meth c s₁ Bd hml0 hP hK
  obtain ⟨rfl, hZ, hh⟩ := hP
  have hx := Bd.exec
  have hby := Bd.bytes
  have hml : c.maxLocals = 7 := hml0
  have hown : s.vm.findClass "com/example/wildsuit/wildsuit/game/Row" = some m.cls := findClass_of_methodNamed Bd.named
  have hnm := (name_of_methodNamed Bd.named Bd.method).1
  have X0 : Stand p l e ({ frames := 2, cells := 0, slots := 0, locals := 30 } : Room) s m #[(.ref ao), (.int xq), (.int xl), (.int xh)] below meth c s₁ [] 0 0 := Stand.of_body Bd
  have e0 : s₁.heap = h0 := by rw [← hh, Bd.state]; rfl
  have N0 := Fr.nil n0
  suffices G : own_Goes p.tables e below (fun o U' => ∃ v L, o = .returned v ∧ Q10 Z ao xq xl xh bc bo bh bt xm nn B h0 n0 v U'.heap L ∧ FrameEnd s o U' L ({ frames := 2, cells := 0, slots := 0, locals := 30 } : Room).cells ({ frames := 2, cells := 0, slots := 0, locals := 30 } : Room).slots) s₁ (mkF m 0 #[.val (.ref ao), .val (.int xq), .val (.int xl), .val (.int xh), .unset, .unset, .unset] []) by
    obtain ⟨t2_, o2_, z1_, z2_, z3_, z4_⟩ := G
    exact ⟨t2_, o2_, castTop (ef_10 m ao xq xl xh) z1_, z2_, z3_, z4_⟩
  generalize hPd : (fun (o : Outcome) (U' : State) => ∃ v L, o = .returned v ∧ Q10 Z ao xq xl xh bc bo bh bt xm nn B h0 n0 v U'.heap L ∧ FrameEnd s o U' L ({ frames := 2, cells := 0, slots := 0, locals := 30 } : Room).cells ({ frames := 2, cells := 0, slots := 0, locals := 30 } : Room).slots) = P
  refine own_Goes.via (T' := s₁) (g' := (mkF m 1 #[.val (.ref ao), .val (.int xq), .val (.int xl), .val (.int xh), .unset, .unset, .unset] [(.ref ao)])) (fun t_ k_ => XS.aloadN X0.here hx rfl (hb hby d10_0) rfl rfl k_) ?_
  obtain ⟨T1, X1, e1, st1⟩ := getF X0 hx hZ hown (host := "") (Or.inl (hw _ (List.mem_of_getElem? (i := 13) rfl))) Via.refl e0 PF6 (g := (mkF m 1 #[.val (.ref ao), .val (.int xq), .val (.int xl), .val (.int xh), .unset, .unset, .unset] [(.ref ao)])) rfl rfl (hb hby d10_1)
  refine own_Goes.via (T' := T1) (g' := (mkF m 4 #[.val (.ref ao), .val (.int xq), .val (.int xl), .val (.int xh), .unset, .unset, .unset] [(.ref bo)])) (st1) ?_
  refine own_Goes.via (T' := T1) (g' := (mkF m 5 #[.val (.ref ao), .val (.int xq), .val (.int xl), .val (.int xh), .unset, .unset, .unset] [(.int xq), (.ref bo)])) (fun t_ k_ => XS.iloadN X1.here hx rfl (hb hby d10_4) rfl k_) ?_
  have in5_3 : ¬ xq < 0 ∧ xq < xm := hp1
  obtain ⟨cl2, Ar2, Sl2, at2⟩ := PF9.rd in5_3
  refine own_Goes.via (T' := T1) (g' := (mkF m 6 #[.val (.ref ao), .val (.int xq), .val (.int xl), .val (.int xh), .unset, .unset, .unset] [(.int (B xq.toNatClampNeg))])) (fun t_ k_ => X1.iaload hx (j := xq) (v := (.int (B xq.toNatClampNeg))) (by rw [e1]; exact Ar2.1) (State.isArrayOf_alike hZ.alike Ar2.2.1) Ar2.2.2 (inb_of Sl2 in5_3) at2 (g := (mkF m 5 #[.val (.ref ao), .val (.int xq), .val (.int xl), .val (.int xh), .unset, .unset, .unset] [(.int xq), (.ref bo)])) rfl rfl (hb hby d10_5) _ k_) ?_
  refine own_Goes.via (T' := T1) (g' := (mkF m 7 #[.val (.ref ao), .val (.int xq), .val (.int xl), .val (.int xh), .unset, .unset, .unset] [(.int xl), (.int (B xq.toNatClampNeg))])) (fun t_ k_ => XS.iloadN X1.here hx rfl (hb hby d10_6) rfl k_) ?_
  refine own_Goes.via (T' := T1) (g' := (mkF m 8 #[.val (.ref ao), .val (.int xq), .val (.int xl), .val (.int xh), .unset, .unset, .unset] [(.int ((B xq.toNatClampNeg) + xl))])) (fun t_ k_ => XS.iadd X1.here hx rfl (hb hby d10_7) rfl k_) ?_
  refine own_Goes.via (T' := T1) (g' := (mkF m 10 #[.val (.ref ao), .val (.int xq), .val (.int xl), .val (.int xh), .val (.int ((B xq.toNatClampNeg) + xl)), .unset, .unset] [])) (fun t_ k_ => XS.istore X1.here hx rfl (hb hby d10_8) rfl (l' := #[.val (.ref ao), .val (.int xq), .val (.int xl), .val (.int xh), .val (.int ((B xq.toNatClampNeg) + xl)), .unset, .unset]) rfl k_) ?_
  obtain ⟨v4, hv4⟩ : ∃ z : Int32, z = ((B xq.toNatClampNeg) + xl) := ⟨_, rfl⟩
  rw [← hv4]
  refine own_Goes.via (T' := T1) (g' := (mkF m 11 #[.val (.ref ao), .val (.int xq), .val (.int xl), .val (.int xh), .val (.int v4), .unset, .unset] [(.int xh)])) (fun t_ k_ => XS.iloadN X1.here hx rfl (hb hby d10_10) rfl k_) ?_
  refine own_Goes.via (T' := T1) (g' := (mkF m 12 #[.val (.ref ao), .val (.int xq), .val (.int xl), .val (.int xh), .val (.int v4), .unset, .unset] [(.int xl), (.int xh)])) (fun t_ k_ => XS.iloadN X1.here hx rfl (hb hby d10_11) rfl k_) ?_
  refine own_Goes.via (T' := T1) (g' := (mkF m 13 #[.val (.ref ao), .val (.int xq), .val (.int xl), .val (.int xh), .val (.int v4), .unset, .unset] [(.int (xh - xl))])) (fun t_ k_ => XS.isub X1.here hx rfl (hb hby d10_12) rfl k_) ?_
  refine own_Goes.via (T' := T1) (g' := (mkF m 15 #[.val (.ref ao), .val (.int xq), .val (.int xl), .val (.int xh), .val (.int v4), .val (.int (xh - xl)), .unset] [])) (fun t_ k_ => XS.istore X1.here hx rfl (hb hby d10_13) rfl (l' := #[.val (.ref ao), .val (.int xq), .val (.int xl), .val (.int xh), .val (.int v4), .val (.int (xh - xl)), .unset]) rfl k_) ?_
  obtain ⟨v5, hv5⟩ : ∃ z : Int32, z = (xh - xl) := ⟨_, rfl⟩
  rw [← hv5]
  refine own_Goes.via (T' := T1) (g' := (mkF m 17 #[.val (.ref ao), .val (.int xq), .val (.int xl), .val (.int xh), .val (.int v4), .val (.int v5), .unset] [(.int v4)])) (fun t_ k_ => XS.iload X1.here hx rfl (hb hby d10_15) rfl k_) ?_
  refine own_Goes.via (T' := T1) (g' := (mkF m 19 #[.val (.ref ao), .val (.int xq), .val (.int xl), .val (.int xh), .val (.int v4), .val (.int v5), .val (.int v4)] [])) (fun t_ k_ => XS.istore X1.here hx rfl (hb hby d10_17) rfl (l' := #[.val (.ref ao), .val (.int xq), .val (.int xl), .val (.int xh), .val (.int v4), .val (.int v5), .val (.int v4)]) rfl k_) ?_
  suffices LP19 : ∀ (f6 : Nat) (xi : Int32) (T6 : State) (L6 : List Loc) (X6 : Stand p l e ({ frames := 2, cells := 0, slots := 0, locals := 30 } : Room) s m #[(.ref ao), (.int xq), (.int xl), (.int xh)] below meth c T6 L6 0 0) (h6 : Heap) (e6 : T6.heap = h6) (N6 : Fr n0 L6) (sz6 : n0 ≤ h6.size) (K6 : Keep h0 h6 [bc, bo, bh, bt]) (hmL19 : (v4.toInt + v5.toInt - xi.toInt).toNat + 1 ≤ f6) (hiL19 : v4.toInt ≤ xi.toInt ∧ xi.toInt ≤ v4.toInt + v5.toInt) (E7 : Exa Z h6 ao "com/example/wildsuit/wildsuit/game/Row") (E8 : Exa Z h6 bc "[B") (E9 : Exa Z h6 bo "[I") (E10 : Exa Z h6 bh "[J") (E11 : Exa Z h6 bt "[J") (F12 : Fld Z h6 ao "com/example/wildsuit/wildsuit/game/Row" "cards" "[B" (.ref bc)) (F13 : Fld Z h6 ao "com/example/wildsuit/wildsuit/game/Row" "borders" "[I" (.ref bo)) (F14 : Fld Z h6 ao "com/example/wildsuit/wildsuit/game/Row" "held" "[J" (.ref bh)) (F15 : Fld Z h6 ao "com/example/wildsuit/wildsuit/game/Row" "heldTwice" "[J" (.ref bt)) (G16 : own_Gi Z h6 bo .int xm B) (U17 : own_Un Z h6 bc .byte (104 : Int32)) (U18 : own_Un Z h6 bh .long nn) (U19 : own_Un Z h6 bt .long nn), own_Goes p.tables e below P T6 (mkF m 19 #[.val (.ref ao), .val (.int xq), .val (.int xl), .val (.int xh), .val (.int v4), .val (.int v5), .val (.int xi)] []) by
    exact LP19 _ v4 T1 _ X1 h0 e1 N0 Z0 (Keep.refl h0 [bc, bo, bh, bt]) (Nat.le_refl _) (own_pl10_0 hv4 hv5 hone hp hp1 hR in5_3) PF0 PF1 PF2 PF3 PF4 PF5 PF6 PF7 PF8 PF9 PF10 PF11 PF12
  intro f6
  induction f6 with
  | zero =>
    intro xi T6 L6 X6 h6 e6 N6 sz6 K6 hmL19 hiL19 E7 E8 E9 E10 E11 F12 F13 F14 F15 G16 U17 U18 U19
    exact absurd hmL19 (own_pl10_1 hv4 hv5 hone hp hp1 hR in5_3 hiL19)
  | succ f6 IH19 =>
    intro xi T6 L6 X6 h6 e6 N6 sz6 K6 hmL19 hiL19 E7 E8 E9 E10 E11 F12 F13 F14 F15 G16 U17 U18 U19
    refine own_Goes.via (T' := T6) (g' := (mkF m 21 #[.val (.ref ao), .val (.int xq), .val (.int xl), .val (.int xh), .val (.int v4), .val (.int v5), .val (.int xi)] [(.int xi)])) (fun t_ k_ => XS.iload X6.here hx rfl (hb hby d10_19) rfl k_) ?_
    refine own_Goes.via (T' := T6) (g' := (mkF m 23 #[.val (.ref ao), .val (.int xq), .val (.int xl), .val (.int xh), .val (.int v4), .val (.int v5), .val (.int xi)] [(.int v4), (.int xi)])) (fun t_ k_ => XS.iload X6.here hx rfl (hb hby d10_21) rfl k_) ?_
    refine own_Goes.via (T' := T6) (g' := (mkF m 25 #[.val (.ref ao), .val (.int xq), .val (.int xl), .val (.int xh), .val (.int v4), .val (.int v5), .val (.int xi)] [(.int v5), (.int v4), (.int xi)])) (fun t_ k_ => XS.iload X6.here hx rfl (hb hby d10_23) rfl k_) ?_
    refine own_Goes.via (T' := T6) (g' := (mkF m 26 #[.val (.ref ao), .val (.int xq), .val (.int xl), .val (.int xh), .val (.int v4), .val (.int v5), .val (.int xi)] [(.int (v4 + v5)), (.int xi)])) (fun t_ k_ => XS.iadd X6.here hx rfl (hb hby d10_25) rfl k_) ?_
    by_cases hc26_20 : xi < (v4 + v5)
    · refine own_Goes.via (T' := T6) (g' := (mkF m 29 #[.val (.ref ao), .val (.int xq), .val (.int xl), .val (.int xh), .val (.int v4), .val (.int v5), .val (.int xi)] [])) (fun t_ k_ => XS.icmpNo X6.here hx rfl (hb hby d10_26) rfl (tlt hc26_20).2.1 k_) ?_
      refine own_Goes.via (T' := T6) (g' := (mkF m 30 #[.val (.ref ao), .val (.int xq), .val (.int xl), .val (.int xh), .val (.int v4), .val (.int v5), .val (.int xi)] [(.ref ao)])) (fun t_ k_ => XS.aloadN X6.here hx rfl (hb hby d10_29) rfl rfl k_) ?_
      refine own_Goes.via (T' := T6) (g' := (mkF m 31 #[.val (.ref ao), .val (.int xq), .val (.int xl), .val (.int xh), .val (.int v4), .val (.int v5), .val (.int xi)] [(.int xq), (.ref ao)])) (fun t_ k_ => XS.iloadN X6.here hx rfl (hb hby d10_30) rfl k_) ?_
      refine own_Goes.via (T' := T6) (g' := (mkF m 32 #[.val (.ref ao), .val (.int xq), .val (.int xl), .val (.int xh), .val (.int v4), .val (.int v5), .val (.int xi)] [(.ref ao), (.int xq), (.ref ao)])) (fun t_ k_ => XS.aloadN X6.here hx rfl (hb hby d10_31) rfl rfl k_) ?_
      obtain ⟨T21, X21, e21, st21⟩ := getF X6 hx hZ hown (host := "") (Or.inl (hw _ (List.mem_of_getElem? (i := 11) rfl))) Via.refl e6 F12 (g := (mkF m 32 #[.val (.ref ao), .val (.int xq), .val (.int xl), .val (.int xh), .val (.int v4), .val (.int v5), .val (.int xi)] [(.ref ao), (.int xq), (.ref ao)])) rfl rfl (hb hby d10_32)
      refine own_Goes.via (T' := T21) (g' := (mkF m 35 #[.val (.ref ao), .val (.int xq), .val (.int xl), .val (.int xh), .val (.int v4), .val (.int v5), .val (.int xi)] [(.ref bc), (.int xq), (.ref ao)])) (st21) ?_
      refine own_Goes.via (T' := T21) (g' := (mkF m 37 #[.val (.ref ao), .val (.int xq), .val (.int xl), .val (.int xh), .val (.int v4), .val (.int v5), .val (.int xi)] [(.int xi), (.ref bc), (.int xq), (.ref ao)])) (fun t_ k_ => XS.iload X21.here hx rfl (hb hby d10_35) rfl k_) ?_
      have in37_23 : ¬ xi < 0 ∧ xi < (104 : Int32) := own_pl10_2 hv4 hv5 hc26_20 hone hp hp1 hR in5_3 hmL19 hiL19
      obtain ⟨cl22, xi22, Ar22, Sl22, at22⟩ := U17.rdB in37_23
      refine own_Goes.via (T' := T21) (g' := (mkF m 38 #[.val (.ref ao), .val (.int xq), .val (.int xl), .val (.int xh), .val (.int v4), .val (.int v5), .val (.int xi)] [(.int xi22), (.int xq), (.ref ao)])) (fun t_ k_ => X21.baloadBytes hx (j := xi) (v := (.int xi22)) (by rw [e21]; exact Ar22.1) (State.isArrayOf_alike hZ.alike Ar22.2.1) Ar22.2.2 (inb_of Sl22 in37_23) at22 (g := (mkF m 37 #[.val (.ref ao), .val (.int xq), .val (.int xl), .val (.int xh), .val (.int v4), .val (.int v5), .val (.int xi)] [(.int xi), (.ref bc), (.int xq), (.ref ao)])) rfl rfl (hb hby d10_37) _ k_) ?_
      have cd38_25 : ¬ xq < 0 ∧ xq < nn := by first | assumption | decide
      obtain ⟨cq24, q24, q24'⟩ := E7.cell
      obtain ⟨_, _, ⟨T24, L24, k24, n24⟩, -, X24, ⟨Lc24, hQ24, l24, y24, z24⟩, st24⟩ := X21.privateBack hx (y := (⟨"com/example/wildsuit/wildsuit/game/Row", "release", "(II)V"⟩ : MethodName)) hown (mvT hZ (hw _ (List.mem_of_getElem? (i := 65) rfl))) (mvT hZ (hw _ (List.mem_of_getElem? (i := 66) rfl))) (mvT hZ (own_selP (y := (⟨"com/example/wildsuit/wildsuit/game/Row", "release", "(II)V"⟩ : MethodName)) (hw _ (List.mem_of_getElem? (i := 23) rfl)) rfl (hw _ (List.mem_of_getElem? (i := 67) rfl)) (hw _ (List.mem_of_getElem? (i := 66) rfl)) (by decide))) (Cond.privateMethod_at (mvP hZ (hw _ (List.mem_of_getElem? (i := 67) rfl)) (args := #[]))) (mvT hZ (hw _ (List.mem_of_getElem? (i := 68) rfl))) (by decide) (backOf (W := 0) (rm12 l Z a0 hw [] ao xq xi22 bh bt nn h6 n0 sz6 E7 E10 E11 F14 F15 U18 U19 PN0 ge_bh ge_bt cd38_25) hZ (hw _ (List.mem_of_getElem? (i := 68) rfl)) (hw _ (List.mem_of_getElem? (i := 3) rfl)) (by decide) (by decide)) (g := (mkF m 38 #[.val (.ref ao), .val (.int xq), .val (.int xl), .val (.int xh), .val (.int v4), .val (.int v5), .val (.int xi)] [(.int xi22), (.int xq), (.ref ao)])) rfl (by rw [hml]; rfl) (Steps.refl _) (a := ao) (by rw [e21]; exact q24) q24' (argsL := [(.int xq), (.int xi22)]) (rest := []) (lenOf pd_10_0 rfl) rfl (by show 2 * 0 + _ ≤ _; exact Nat.le_of_eq rfl) (hb hby d10_38) (fun _ _ => ⟨rfl, e21, (by decide : 0 + 0 ≤ _), (by decide : 0 + 0 ≤ _)⟩)
      dsimp only [Pt.U, Pt.locs, Pt.cells, Pt.slots] at X24 l24 y24 z24 st24 hQ24
      subst l24 y24 z24
      obtain ⟨rfl, Nq24, Kq24, pf24_0, pf24_1⟩ := hQ24
      have N24 := Fr.app N6 Nq24
      have E26 : Exa Z T24.heap ao "com/example/wildsuit/wildsuit/game/Row" := E7.keep Kq24
      have E27 : Exa Z T24.heap bc "[B" := E8.keep Kq24
      have E28 : Exa Z T24.heap bo "[I" := E9.keep Kq24
      have E29 : Exa Z T24.heap bh "[J" := E10.keep Kq24
      have E30 : Exa Z T24.heap bt "[J" := E11.keep Kq24
      have F31 : Fld Z T24.heap ao "com/example/wildsuit/wildsuit/game/Row" "cards" "[B" (.ref bc) := F12.keep Kq24 (ninS (Exa.ne E26 E29 (by decide)) (ninS (Exa.ne E26 E30 (by decide)) nin0))
      have F32 : Fld Z T24.heap ao "com/example/wildsuit/wildsuit/game/Row" "borders" "[I" (.ref bo) := F13.keep Kq24 (ninS (Exa.ne E26 E29 (by decide)) (ninS (Exa.ne E26 E30 (by decide)) nin0))
      have F33 : Fld Z T24.heap ao "com/example/wildsuit/wildsuit/game/Row" "held" "[J" (.ref bh) := F14.keep Kq24 (ninS (Exa.ne E26 E29 (by decide)) (ninS (Exa.ne E26 E30 (by decide)) nin0))
      have F34 : Fld Z T24.heap ao "com/example/wildsuit/wildsuit/game/Row" "heldTwice" "[J" (.ref bt) := F15.keep Kq24 (ninS (Exa.ne E26 E29 (by decide)) (ninS (Exa.ne E26 E30 (by decide)) nin0))
      have G35 : own_Gi Z T24.heap bo .int xm B := G16.keep Kq24 (ninS (Exa.ne E28 E29 (by decide)) (ninS (Exa.ne E28 E30 (by decide)) nin0))
      have U36 : own_Un Z T24.heap bc .byte (104 : Int32) := U17.keep Kq24 (ninS (Exa.ne E27 E29 (by decide)) (ninS (Exa.ne E27 E30 (by decide)) nin0))
      have sz24 : n0 ≤ T24.heap.size := Nat.le_trans sz6 Kq24.1
      have K24 : Keep h0 T24.heap [bc, bo, bh, bt] := (K6).trans Kq24 (allS (Or.inl (List.mem_of_getElem? (i := 2) rfl)) (allS (Or.inl (List.mem_of_getElem? (i := 3) rfl)) all0))
      refine own_Goes.via (T' := T24) (g' := (mkF m 41 #[.val (.ref ao), .val (.int xq), .val (.int xl), .val (.int xh), .val (.int v4), .val (.int v5), .val (.int xi)] [])) (fun t_ k_ => st24.trans k_) ?_
      refine own_Goes.via (T' := T24) (g' := (mkF m 44 #[.val (.ref ao), .val (.int xq), .val (.int xl), .val (.int xh), .val (.int v4), .val (.int v5), .val (.int (xi + (1 : Int32)))] [])) (fun t_ k_ => XS.iinc X24.here hx rfl (hb hby d10_41) rfl (l' := #[.val (.ref ao), .val (.int xq), .val (.int xl), .val (.int xh), .val (.int v4), .val (.int v5), .val (.int (xi + (1 : Int32)))]) rfl k_) ?_
      obtain ⟨v37, hv37⟩ : ∃ z : Int32, z = (xi + (1 : Int32)) := ⟨_, rfl⟩
      rw [← hv37]
      refine own_Goes.via (T' := T24) (g' := (mkF m 19 #[.val (.ref ao), .val (.int xq), .val (.int xl), .val (.int xh), .val (.int v4), .val (.int v5), .val (.int v37)] [])) (fun t_ k_ => XS.goto X24.here hx rfl (pc0 := 44) (pc' := 19) rfl (hb hby d10_44) (by decide) (by decide) k_) ?_
      exact IH19 v37 T24 _ X24 T24.heap rfl N24 sz24 K24 (own_pl10_3 hv4 hv5 hv37 hc26_20 hone hp hp1 hR in5_3 hmL19 hiL19 in37_23 cd38_25) (own_pl10_4 hv4 hv5 hv37 hc26_20 hone hp hp1 hR in5_3 hmL19 hiL19 in37_23 cd38_25) E26 E27 E28 E29 E30 F31 F32 F33 F34 G35 U36 pf24_0 pf24_1
    · refine own_Goes.via (T' := T6) (g' := (mkF m 47 #[.val (.ref ao), .val (.int xq), .val (.int xl), .val (.int xh), .val (.int v4), .val (.int v5), .val (.int xi)] [])) (fun t_ k_ => XS.icmpYes X6.here hx rfl (pc0 := 26) (pc' := 47) rfl (hb hby d10_26) rfl (flt hc26_20).2.1 (by decide) (by decide) k_) ?_
      refine own_Goes.via (T' := T6) (g' := (mkF m 48 #[.val (.ref ao), .val (.int xq), .val (.int xl), .val (.int xh), .val (.int v4), .val (.int v5), .val (.int xi)] [(.ref ao)])) (fun t_ k_ => XS.aloadN X6.here hx rfl (hb hby d10_47) rfl rfl k_) ?_
      obtain ⟨T38, X38, e38, st38⟩ := getF X6 hx hZ hown (host := "") (Or.inl (hw _ (List.mem_of_getElem? (i := 11) rfl))) Via.refl e6 F12 (g := (mkF m 48 #[.val (.ref ao), .val (.int xq), .val (.int xl), .val (.int xh), .val (.int v4), .val (.int v5), .val (.int xi)] [(.ref ao)])) rfl rfl (hb hby d10_48)
      refine own_Goes.via (T' := T38) (g' := (mkF m 51 #[.val (.ref ao), .val (.int xq), .val (.int xl), .val (.int xh), .val (.int v4), .val (.int v5), .val (.int xi)] [(.ref bc)])) (st38) ?_
      refine own_Goes.via (T' := T38) (g' := (mkF m 53 #[.val (.ref ao), .val (.int xq), .val (.int xl), .val (.int xh), .val (.int v4), .val (.int v5), .val (.int xi)] [(.int v4), (.ref bc)])) (fun t_ k_ => XS.iload X38.here hx rfl (hb hby d10_51) rfl k_) ?_
      refine own_Goes.via (T' := T38) (g' := (mkF m 55 #[.val (.ref ao), .val (.int xq), .val (.int xl), .val (.int xh), .val (.int v4), .val (.int v5), .val (.int xi)] [(.int v5), (.int v4), (.ref bc)])) (fun t_ k_ => XS.iload X38.here hx rfl (hb hby d10_53) rfl k_) ?_
      refine own_Goes.via (T' := T38) (g' := (mkF m 56 #[.val (.ref ao), .val (.int xq), .val (.int xl), .val (.int xh), .val (.int v4), .val (.int v5), .val (.int xi)] [(.int (v4 + v5)), (.ref bc)])) (fun t_ k_ => XS.iadd X38.here hx rfl (hb hby d10_55) rfl k_) ?_
      refine own_Goes.via (T' := T38) (g' := (mkF m 57 #[.val (.ref ao), .val (.int xq), .val (.int xl), .val (.int xh), .val (.int v4), .val (.int v5), .val (.int xi)] [(.ref ao), (.int (v4 + v5)), (.ref bc)])) (fun t_ k_ => XS.aloadN X38.here hx rfl (hb hby d10_56) rfl rfl k_) ?_
      obtain ⟨T39, X39, e39, st39⟩ := getF X38 hx hZ hown (host := "") (Or.inl (hw _ (List.mem_of_getElem? (i := 11) rfl))) Via.refl e38 F12 (g := (mkF m 57 #[.val (.ref ao), .val (.int xq), .val (.int xl), .val (.int xh), .val (.int v4), .val (.int v5), .val (.int xi)] [(.ref ao), (.int (v4 + v5)), (.ref bc)])) rfl rfl (hb hby d10_57)
      refine own_Goes.via (T' := T39) (g' := (mkF m 60 #[.val (.ref ao), .val (.int xq), .val (.int xl), .val (.int xh), .val (.int v4), .val (.int v5), .val (.int xi)] [(.ref bc), (.int (v4 + v5)), (.ref bc)])) (st39) ?_
      refine own_Goes.via (T' := T39) (g' := (mkF m 62 #[.val (.ref ao), .val (.int xq), .val (.int xl), .val (.int xh), .val (.int v4), .val (.int v5), .val (.int xi)] [(.int v4), (.ref bc), (.int (v4 + v5)), (.ref bc)])) (fun t_ k_ => XS.iload X39.here hx rfl (hb hby d10_60) rfl k_) ?_
      refine own_Goes.via (T' := T39) (g' := (mkF m 63 #[.val (.ref ao), .val (.int xq), .val (.int xl), .val (.int xh), .val (.int v4), .val (.int v5), .val (.int xi)] [(.ref ao), (.int v4), (.ref bc), (.int (v4 + v5)), (.ref bc)])) (fun t_ k_ => XS.aloadN X39.here hx rfl (hb hby d10_62) rfl rfl k_) ?_
      have cd63_41 : (0 : Int32) < xm := by first | assumption | decide
      obtain ⟨cq40, kq40, q40a, q40b, q40c⟩ := isOf hZ e39 E7
      obtain ⟨_, _, ⟨T40, L40, k40, n40⟩, -, X40, ⟨Lc40, hQ40, l40, y40, z40⟩, st40⟩ := X39.virtualBack hx (y := (⟨"com/example/wildsuit/wildsuit/game/Row", "size", "()I"⟩ : MethodName)) (z := (⟨"com/example/wildsuit/wildsuit/game/Row", "size", "()I"⟩ : MethodName)) hown (mvT hZ (hw _ (List.mem_of_getElem? (i := 35) rfl))) (mvT hZ (hw _ (List.mem_of_getElem? (i := 21) rfl))) (notFace_of_selects (args := #[]) (mvT hZ (hw _ (List.mem_of_getElem? (i := 23) rfl)))) (mvT hZ (hw _ (List.mem_of_getElem? (i := 23) rfl))) (mvT hZ (hw _ (List.mem_of_getElem? (i := 22) rfl))) (by decide) (backOf (W := 4) (rm3 l Z a0 hw [] ao bo xm B h6 n0 sz6 F13 G16 cd63_41) hZ (hw _ (List.mem_of_getElem? (i := 24) rfl)) (hw _ (List.mem_of_getElem? (i := 3) rfl)) (by decide) (by decide)) q40a q40c (g := (mkF m 63 #[.val (.ref ao), .val (.int xq), .val (.int xl), .val (.int xh), .val (.int v4), .val (.int v5), .val (.int xi)] [(.ref ao), (.int v4), (.ref bc), (.int (v4 + v5)), (.ref bc)])) rfl (by rw [hml]; rfl) (Steps.refl _) (argsL := []) (rest := [(.int v4), (.ref bc), (.int (v4 + v5)), (.ref bc)]) (lenOf pd_10_1 rfl) rfl (by show 2 * 0 + _ ≤ _; exact Nat.le_of_eq rfl) (hb hby d10_63) (fun _ _ => ⟨rfl, e39, (by decide : 0 + 0 ≤ _), (by decide : 0 + 0 ≤ _)⟩)
      dsimp only [Pt.U, Pt.locs, Pt.cells, Pt.slots] at X40 l40 y40 z40 st40 hQ40
      subst l40 y40 z40
      obtain ⟨rfl, Nq40, hh40⟩ := hQ40
      have N40 := Fr.app N6 Nq40
      refine own_Goes.via (T' := T40) (g' := (mkF m 66 #[.val (.ref ao), .val (.int xq), .val (.int xl), .val (.int xh), .val (.int v4), .val (.int v5), .val (.int xi)] [(.int (B (xm - (1 : Int32)).toNatClampNeg)), (.int v4), (.ref bc), (.int (v4 + v5)), (.ref bc)])) (fun t_ k_ => st40.trans k_) ?_
      obtain ⟨v42, hv42⟩ : ∃ z : Int32, z = (B (xm - (1 : Int32)).toNatClampNeg) := ⟨_, rfl⟩
      rw [← hv42]
      refine own_Goes.via (T' := T40) (g' := (mkF m 68 #[.val (.ref ao), .val (.int xq), .val (.int xl), .val (.int xh), .val (.int v4), .val (.int v5), .val (.int xi)] [(.int v4), (.int v42), (.int v4), (.ref bc), (.int (v4 + v5)), (.ref bc)])) (fun t_ k_ => XS.iload X40.here hx rfl (hb hby d10_66) rfl k_) ?_
      refine own_Goes.via (T' := T40) (g' := (mkF m 69 #[.val (.ref ao), .val (.int xq), .val (.int xl), .val (.int xh), .val (.int v4), .val (.int v5), .val (.int xi)] [(.int (v42 - v4)), (.int v4), (.ref bc), (.int (v4 + v5)), (.ref bc)])) (fun t_ k_ => XS.isub X40.here hx rfl (hb hby d10_68) rfl k_) ?_
      refine own_Goes.via (T' := T40) (g' := (mkF m 71 #[.val (.ref ao), .val (.int xq), .val (.int xl), .val (.int xh), .val (.int v4), .val (.int v5), .val (.int xi)] [(.int v5), (.int (v42 - v4)), (.int v4), (.ref bc), (.int (v4 + v5)), (.ref bc)])) (fun t_ k_ => XS.iload X40.here hx rfl (hb hby d10_69) rfl k_) ?_
      refine own_Goes.via (T' := T40) (g' := (mkF m 72 #[.val (.ref ao), .val (.int xq), .val (.int xl), .val (.int xh), .val (.int v4), .val (.int v5), .val (.int xi)] [(.int ((v42 - v4) - v5)), (.int v4), (.ref bc), (.int (v4 + v5)), (.ref bc)])) (fun t_ k_ => XS.isub X40.here hx rfl (hb hby d10_71) rfl k_) ?_
      have cp72_44 : own_cp (v4 + v5) v4 ((v42 - v4) - v5) (104 : Int32) (104 : Int32) := own_pl10_5 hv4 hv5 hv42 hc26_20 hone hp hp1 hR in5_3 hmL19 hiL19 cd63_41
      obtain ⟨ks43, vs43, As43, ls43⟩ := U17.arv
      obtain ⟨kd43, vd43, Ad43, ld43⟩ := U17.arv
      obtain ⟨T43, h43, L43, X43, e43, N43, Kq43, A43, st43⟩ := cpA X40 hx hZ hown (hw _ (List.mem_of_getElem? (i := 36) rfl)) (hw _ (List.mem_of_getElem? (i := 39) rfl)) (hw _ (List.mem_of_getElem? (i := 37) rfl)) (hw _ (List.mem_of_getElem? (i := 38) rfl)) hh40 As43 Ad43 (Or.inl ⟨rfl, rfl⟩) cp72_44.1 cp72_44.2.1 cp72_44.2.2.1 cp72_44.2.2.2.1 cp72_44.2.2.2.2 rfl (by rw [ld43]; exact cp72_44.2.2.2.2) N40 ge_bc (g := (mkF m 72 #[.val (.ref ao), .val (.int xq), .val (.int xl), .val (.int xh), .val (.int v4), .val (.int v5), .val (.int xi)] [(.int ((v42 - v4) - v5)), (.int v4), (.ref bc), (.int (v4 + v5)), (.ref bc)])) rfl (by rw [hml]; rfl) rfl (hb hby d10_72) (by decide) (W := 0) (by show 2 * 0 + _ ≤ _; exact Nat.le_of_eq rfl) (by decide)
      have E45 : Exa Z h43 ao "com/example/wildsuit/wildsuit/game/Row" := E7.keep Kq43
      have E46 : Exa Z h43 bc "[B" := E8.keep Kq43
      have E47 : Exa Z h43 bo "[I" := E9.keep Kq43
      have E48 : Exa Z h43 bh "[J" := E10.keep Kq43
      have E49 : Exa Z h43 bt "[J" := E11.keep Kq43
      have F50 : Fld Z h43 ao "com/example/wildsuit/wildsuit/game/Row" "cards" "[B" (.ref bc) := F12.keep Kq43 (ninS (Exa.ne E45 E46 (by decide)) nin0)
      have F51 : Fld Z h43 ao "com/example/wildsuit/wildsuit/game/Row" "borders" "[I" (.ref bo) := F13.keep Kq43 (ninS (Exa.ne E45 E46 (by decide)) nin0)
      have F52 : Fld Z h43 ao "com/example/wildsuit/wildsuit/game/Row" "held" "[J" (.ref bh) := F14.keep Kq43 (ninS (Exa.ne E45 E46 (by decide)) nin0)
      have F53 : Fld Z h43 ao "com/example/wildsuit/wildsuit/game/Row" "heldTwice" "[J" (.ref bt) := F15.keep Kq43 (ninS (Exa.ne E45 E46 (by decide)) nin0)
      have G54 : own_Gi Z h43 bo .int xm B := G16.keep Kq43 (ninS (Exa.ne E47 E46 (by decide)) nin0)
      have U55 : own_Un Z h43 bh .long nn := U18.keep Kq43 (ninS (Exa.ne E48 E46 (by decide)) nin0)
      have U56 : own_Un Z h43 bt .long nn := U19.keep Kq43 (ninS (Exa.ne E49 E46 (by decide)) nin0)
      have U57 : own_Un Z h43 bc .byte (104 : Int32) := own_Un.of A43
      have sz43 : n0 ≤ h43.size := Nat.le_trans sz6 Kq43.1
      have K43 : Keep h0 h43 [bc, bo, bh, bt] := (K6).trans Kq43 (allS (Or.inl (List.mem_of_getElem? (i := 0) rfl)) all0)
      refine own_Goes.via (T' := T43) (g' := (mkF m 75 #[.val (.ref ao), .val (.int xq), .val (.int xl), .val (.int xh), .val (.int v4), .val (.int v5), .val (.int xi)] [])) (st43) ?_
      refine own_Goes.via (T' := T43) (g' := (mkF m 76 #[.val (.ref ao), .val (.int xq), .val (.int xl), .val (.int xh), .val (.int v4), .val (.int v5), .val (.int xi)] [(.ref ao)])) (fun t_ k_ => XS.aloadN X43.here hx rfl (hb hby d10_75) rfl rfl k_) ?_
      refine own_Goes.via (T' := T43) (g' := (mkF m 77 #[.val (.ref ao), .val (.int xq), .val (.int xl), .val (.int xh), .val (.int v4), .val (.int v5), .val (.int xi)] [(.int xq), (.ref ao)])) (fun t_ k_ => XS.iloadN X43.here hx rfl (hb hby d10_76) rfl k_) ?_
      refine own_Goes.via (T' := T43) (g' := (mkF m 78 #[.val (.ref ao), .val (.int xq), .val (.int xl), .val (.int xh), .val (.int v4), .val (.int v5), .val (.int xi)] [(.ref ao), (.int xq), (.ref ao)])) (fun t_ k_ => XS.aloadN X43.here hx rfl (hb hby d10_77) rfl rfl k_) ?_
      obtain ⟨T58, X58, e58, st58⟩ := getF X43 hx hZ hown (host := "") (Or.inl (hw _ (List.mem_of_getElem? (i := 13) rfl))) Via.refl e43 F51 (g := (mkF m 78 #[.val (.ref ao), .val (.int xq), .val (.int xl), .val (.int xh), .val (.int v4), .val (.int v5), .val (.int xi)] [(.ref ao), (.int xq), (.ref ao)])) rfl rfl (hb hby d10_78)
      refine own_Goes.via (T' := T58) (g' := (mkF m 81 #[.val (.ref ao), .val (.int xq), .val (.int xl), .val (.int xh), .val (.int v4), .val (.int v5), .val (.int xi)] [(.ref bo), (.int xq), (.ref ao)])) (st58) ?_
      obtain ⟨cl59, Ar59, Sl59, Ng59, -⟩ := id G54
      refine own_Goes.via (T' := T58) (g' := (mkF m 82 #[.val (.ref ao), .val (.int xq), .val (.int xl), .val (.int xh), .val (.int v4), .val (.int v5), .val (.int xi)] [(.int xm), (.int xq), (.ref ao)])) (fun t_ k_ => X58.arraylength hx (by rw [e58]; exact Ar59.1) (State.isArrayOf_alike hZ.alike Ar59.2.1) (g := (mkF m 81 #[.val (.ref ao), .val (.int xq), .val (.int xl), .val (.int xh), .val (.int v4), .val (.int v5), .val (.int xi)] [(.ref bo), (.int xq), (.ref ao)])) rfl rfl (hb hby d10_81) _ (by rw [len_of Sl59 Ng59]; exact k_)) ?_
      refine own_Goes.via (T' := T58) (g' := (mkF m 84 #[.val (.ref ao), .val (.int xq), .val (.int xl), .val (.int xh), .val (.int v4), .val (.int v5), .val (.int xi)] [(.int v5), (.int xm), (.int xq), (.ref ao)])) (fun t_ k_ => XS.iload X58.here hx rfl (hb hby d10_82) rfl k_) ?_
      refine own_Goes.via (T' := T58) (g' := (mkF m 85 #[.val (.ref ao), .val (.int xq), .val (.int xl), .val (.int xh), .val (.int v4), .val (.int v5), .val (.int xi)] [(.int (-v5)), (.int xm), (.int xq), (.ref ao)])) (fun t_ k_ => XS.ineg X58.here hx rfl (hb hby d10_84) rfl k_) ?_
      have cd85_61 : (0 : Int32) < xm := by first | assumption | decide
      obtain ⟨cq60, q60, q60'⟩ := E45.cell
      obtain ⟨_, _, ⟨T60, L60, k60, n60⟩, -, X60, ⟨Lc60, hQ60, l60, y60, z60⟩, st60⟩ := X58.privateBack hx (y := (⟨"com/example/wildsuit/wildsuit/game/Row", "moveBorders", "(III)V"⟩ : MethodName)) hown (mvT hZ (hw _ (List.mem_of_getElem? (i := 40) rfl))) (mvT hZ (hw _ (List.mem_of_getElem? (i := 41) rfl))) (mvT hZ (own_selP (y := (⟨"com/example/wildsuit/wildsuit/game/Row", "moveBorders", "(III)V"⟩ : MethodName)) (hw _ (List.mem_of_getElem? (i := 23) rfl)) rfl (hw _ (List.mem_of_getElem? (i := 42) rfl)) (hw _ (List.mem_of_getElem? (i := 41) rfl)) (by decide))) (Cond.privateMethod_at (mvP hZ (hw _ (List.mem_of_getElem? (i := 42) rfl)) (args := #[]))) (mvT hZ (hw _ (List.mem_of_getElem? (i := 43) rfl))) (by decide) (backOf (W := 0) (rm6 l Z a0 hw [] ao xq xm (-v5) bo xm B h43 n0 sz43 E45 E47 F51 G54 ge_bo cd85_61) hZ (hw _ (List.mem_of_getElem? (i := 43) rfl)) (hw _ (List.mem_of_getElem? (i := 3) rfl)) (by decide) (by decide)) (g := (mkF m 85 #[.val (.ref ao), .val (.int xq), .val (.int xl), .val (.int xh), .val (.int v4), .val (.int v5), .val (.int xi)] [(.int (-v5)), (.int xm), (.int xq), (.ref ao)])) rfl (by rw [hml]; rfl) (Steps.refl _) (a := ao) (by rw [e58]; exact q60) q60' (argsL := [(.int xq), (.int xm), (.int (-v5))]) (rest := []) (lenOf pd_10_2 rfl) rfl (by show 2 * 0 + _ ≤ _; exact Nat.le_of_eq rfl) (hb hby d10_85) (fun _ _ => ⟨rfl, e58, (by decide : 0 + 0 ≤ _), (by decide : 0 + 0 ≤ _)⟩)
      dsimp only [Pt.U, Pt.locs, Pt.cells, Pt.slots] at X60 l60 y60 z60 st60 hQ60
      subst l60 y60 z60
      obtain ⟨rfl, Nq60, Kq60, pf60_0⟩ := hQ60
      have N60 := Fr.app N43 Nq60
      have E62 : Exa Z T60.heap ao "com/example/wildsuit/wildsuit/game/Row" := E45.keep Kq60
      have E63 : Exa Z T60.heap bc "[B" := E46.keep Kq60
      have E64 : Exa Z T60.heap bo "[I" := E47.keep Kq60
      have E65 : Exa Z T60.heap bh "[J" := E48.keep Kq60
      have E66 : Exa Z T60.heap bt "[J" := E49.keep Kq60
      have F67 : Fld Z T60.heap ao "com/example/wildsuit/wildsuit/game/Row" "cards" "[B" (.ref bc) := F50.keep Kq60 (ninS (Exa.ne E62 E64 (by decide)) nin0)
      have F68 : Fld Z T60.heap ao "com/example/wildsuit/wildsuit/game/Row" "borders" "[I" (.ref bo) := F51.keep Kq60 (ninS (Exa.ne E62 E64 (by decide)) nin0)
      have F69 : Fld Z T60.heap ao "com/example/wildsuit/wildsuit/game/Row" "held" "[J" (.ref bh) := F52.keep Kq60 (ninS (Exa.ne E62 E64 (by decide)) nin0)
      have F70 : Fld Z T60.heap ao "com/example/wildsuit/wildsuit/game/Row" "heldTwice" "[J" (.ref bt) := F53.keep Kq60 (ninS (Exa.ne E62 E64 (by decide)) nin0)
      have U71 : own_Un Z T60.heap bh .long nn := U55.keep Kq60 (ninS (Exa.ne E65 E64 (by decide)) nin0)
      have U72 : own_Un Z T60.heap bt .long nn := U56.keep Kq60 (ninS (Exa.ne E66 E64 (by decide)) nin0)
      have U73 : own_Un Z T60.heap bc .byte (104 : Int32) := U57.keep Kq60 (ninS (Exa.ne E63 E64 (by decide)) nin0)
      have sz60 : n0 ≤ T60.heap.size := Nat.le_trans sz43 Kq60.1
      have K60 : Keep h0 T60.heap [bc, bo, bh, bt] := (K43).trans Kq60 (allS (Or.inl (List.mem_of_getElem? (i := 1) rfl)) all0)
      refine own_Goes.via (T' := T60) (g' := (mkF m 88 #[.val (.ref ao), .val (.int xq), .val (.int xl), .val (.int xh), .val (.int v4), .val (.int v5), .val (.int xi)] [])) (fun t_ k_ => st60.trans k_) ?_
      obtain ⟨fs, hr, hrun, hended, hW, hsame⟩ := X60.leave (v := none) (fun _ => rfl)
      refine own_Goes.fin (X60.returnOut hx Bd.returns (hb hby d10_88) hr) hrun hended ?_
      subst hPd
      refine ⟨_, _, rfl, ?_, ⟨_, rfl⟩, hW, hsame.mono (by decide) (by decide)⟩
      show Q10 Z ao xq xl xh bc bo bh bt xm nn B h0 n0 _ T60.heap _
      exact ⟨rfl, N60, K60, U73, (by subst hv42; subst hv5; subst hv4; first | exact pf60_0 | (simp only [if_neg hc26_20]; exact pf60_0)), U71, U72⟩
theorem d11_0 : decode prog_36_method_8_code 0 = .ok (.aload_n 0, 1) := by decide +kernel
theorem d11_1 : decode prog_36_method_8_code 1 = .ok (.getfield 13, 3) := by decide +kernel
theorem d11_4 : decode prog_36_method_8_code 4 = .ok (.iload_n 1, 1) := by decide +kernel
theorem d11_5 : decode prog_36_method_8_code 5 = .ok (.iaload, 1) := by decide +kernel
theorem d11_6 : decode prog_36_method_8_code 6 = .ok (.iload_n 2, 1) := by decide +kernel
theorem d11_7 : decode prog_36_method_8_code 7 = .ok (.iadd, 1) := by decide +kernel
theorem d11_8 : decode prog_36_method_8_code 8 = .ok (.istore 4, 2) := by decide +kernel
theorem d11_10 : decode prog_36_method_8_code 10 = .ok (.aload_n 0, 1) := by decide +kernel
theorem d11_11 : decode prog_36_method_8_code 11 = .ok (.getfield 7, 3) := by decide +kernel
theorem d11_14 : decode prog_36_method_8_code 14 = .ok (.iload 4, 2) := by decide +kernel
theorem d11_16 : decode prog_36_method_8_code 16 = .ok (.baload, 1) := by decide +kernel
theorem d11_17 : decode prog_36_method_8_code 17 = .ok (.istore 5, 2) := by decide +kernel
theorem d11_19 : decode prog_36_method_8_code 19 = .ok (.aload_n 0, 1) := by decide +kernel
theorem d11_20 : decode prog_36_method_8_code 20 = .ok (.getfield 13, 3) := by decide +kernel
theorem d11_23 : decode prog_36_method_8_code 23 = .ok (.iload_n 3, 1) := by decide +kernel
theorem d11_24 : decode prog_36_method_8_code 24 = .ok (.iconst 1, 1) := by decide +kernel
theorem d11_25 : decode prog_36_method_8_code 25 = .ok (.iadd, 1) := by decide +kernel
theorem d11_26 : decode prog_36_method_8_code 26 = .ok (.iaload, 1) := by decide +kernel
theorem d11_27 : decode prog_36_method_8_code 27 = .ok (.istore 6, 2) := by decide +kernel
theorem d11_29 : decode prog_36_method_8_code 29 = .ok (.iload_n 3, 1) := by decide +kernel
theorem d11_30 : decode prog_36_method_8_code 30 = .ok (.iload_n 1, 1) := by decide +kernel
theorem d11_31 : decode prog_36_method_8_code 31 = .ok (.if_icmp .le 49, 3) := by decide +kernel
theorem d11_34 : decode prog_36_method_8_code 34 = .ok (.aload_n 0, 1) := by decide +kernel
theorem d11_35 : decode prog_36_method_8_code 35 = .ok (.getfield 7, 3) := by decide +kernel
theorem d11_38 : decode prog_36_method_8_code 38 = .ok (.iload 4, 2) := by decide +kernel
theorem d11_40 : decode prog_36_method_8_code 40 = .ok (.iconst 1, 1) := by decide +kernel
theorem d11_41 : decode prog_36_method_8_code 41 = .ok (.iadd, 1) := by decide +kernel
theorem d11_42 : decode prog_36_method_8_code 42 = .ok (.aload_n 0, 1) := by decide +kernel
theorem d11_43 : decode prog_36_method_8_code 43 = .ok (.getfield 7, 3) := by decide +kernel
theorem d11_46 : decode prog_36_method_8_code 46 = .ok (.iload 4, 2) := by decide +kernel
theorem d11_48 : decode prog_36_method_8_code 48 = .ok (.iload 6, 2) := by decide +kernel
theorem d11_50 : decode prog_36_method_8_code 50 = .ok (.iload 4, 2) := by decide +kernel
theorem d11_52 : decode prog_36_method_8_code 52 = .ok (.isub, 1) := by decide +kernel
theorem d11_53 : decode prog_36_method_8_code 53 = .ok (.iconst 1, 1) := by decide +kernel
theorem d11_54 : decode prog_36_method_8_code 54 = .ok (.isub, 1) := by decide +kernel
theorem d11_55 : decode prog_36_method_8_code 55 = .ok (.invokestatic 28, 3) := by decide +kernel
theorem d11_58 : decode prog_36_method_8_code 58 = .ok (.aload_n 0, 1) := by decide +kernel
theorem d11_59 : decode prog_36_method_8_code 59 = .ok (.getfield 7, 3) := by decide +kernel
theorem d11_62 : decode prog_36_method_8_code 62 = .ok (.iload 6, 2) := by decide +kernel
theorem d11_64 : decode prog_36_method_8_code 64 = .ok (.iconst 1, 1) := by decide +kernel
theorem d11_65 : decode prog_36_method_8_code 65 = .ok (.isub, 1) := by decide +kernel
theorem d11_66 : decode prog_36_method_8_code 66 = .ok (.iload 5, 2) := by decide +kernel
theorem d11_68 : decode prog_36_method_8_code 68 = .ok (.i2b, 1) := by decide +kernel
theorem d11_69 : decode prog_36_method_8_code 69 = .ok (.bastore, 1) := by decide +kernel
theorem d11_70 : decode prog_36_method_8_code 70 = .ok (.aload_n 0, 1) := by decide +kernel
theorem d11_71 : decode prog_36_method_8_code 71 = .ok (.iload_n 1, 1) := by decide +kernel
theorem d11_72 : decode prog_36_method_8_code 72 = .ok (.iload_n 3, 1) := by decide +kernel
theorem d11_73 : decode prog_36_method_8_code 73 = .ok (.iconst (-1), 1) := by decide +kernel
theorem d11_74 : decode prog_36_method_8_code 74 = .ok (.invokevirtual 34, 3) := by decide +kernel
theorem d11_77 : decode prog_36_method_8_code 77 = .ok (.goto 42, 3) := by decide +kernel
theorem d11_80 : decode prog_36_method_8_code 80 = .ok (.aload_n 0, 1) := by decide +kernel
theorem d11_81 : decode prog_36_method_8_code 81 = .ok (.getfield 7, 3) := by decide +kernel
theorem d11_84 : decode prog_36_method_8_code 84 = .ok (.iload 6, 2) := by decide +kernel
theorem d11_86 : decode prog_36_method_8_code 86 = .ok (.aload_n 0, 1) := by decide +kernel
theorem d11_87 : decode prog_36_method_8_code 87 = .ok (.getfield 7, 3) := by decide +kernel
theorem d11_90 : decode prog_36_method_8_code 90 = .ok (.iload 6, 2) := by decide +kernel
theorem d11_92 : decode prog_36_method_8_code 92 = .ok (.iconst 1, 1) := by decide +kernel
theorem d11_93 : decode prog_36_method_8_code 93 = .ok (.iadd, 1) := by decide +kernel
theorem d11_94 : decode prog_36_method_8_code 94 = .ok (.iload 4, 2) := by decide +kernel
theorem d11_96 : decode prog_36_method_8_code 96 = .ok (.iload 6, 2) := by decide +kernel
theorem d11_98 : decode prog_36_method_8_code 98 = .ok (.isub, 1) := by decide +kernel
theorem d11_99 : decode prog_36_method_8_code 99 = .ok (.invokestatic 28, 3) := by decide +kernel
theorem d11_102 : decode prog_36_method_8_code 102 = .ok (.aload_n 0, 1) := by decide +kernel
theorem d11_103 : decode prog_36_method_8_code 103 = .ok (.getfield 7, 3) := by decide +kernel
theorem d11_106 : decode prog_36_method_8_code 106 = .ok (.iload 6, 2) := by decide +kernel
theorem d11_108 : decode prog_36_method_8_code 108 = .ok (.iload 5, 2) := by decide +kernel
theorem d11_110 : decode prog_36_method_8_code 110 = .ok (.i2b, 1) := by decide +kernel
theorem d11_111 : decode prog_36_method_8_code 111 = .ok (.bastore, 1) := by decide +kernel
theorem d11_112 : decode prog_36_method_8_code 112 = .ok (.aload_n 0, 1) := by decide +kernel
theorem d11_113 : decode prog_36_method_8_code 113 = .ok (.iload_n 3, 1) := by decide +kernel
theorem d11_114 : decode prog_36_method_8_code 114 = .ok (.iload_n 1, 1) := by decide +kernel
theorem d11_115 : decode prog_36_method_8_code 115 = .ok (.iconst 1, 1) := by decide +kernel
theorem d11_116 : decode prog_36_method_8_code 116 = .ok (.invokevirtual 34, 3) := by decide +kernel
theorem d11_119 : decode prog_36_method_8_code 119 = .ok (.aload_n 0, 1) := by decide +kernel
theorem d11_120 : decode prog_36_method_8_code 120 = .ok (.iload_n 1, 1) := by decide +kernel
theorem d11_121 : decode prog_36_method_8_code 121 = .ok (.iload 5, 2) := by decide +kernel
theorem d11_123 : decode prog_36_method_8_code 123 = .ok (.invokevirtual 42, 3) := by decide +kernel
theorem d11_126 : decode prog_36_method_8_code 126 = .ok (.aload_n 0, 1) := by decide +kernel
theorem d11_127 : decode prog_36_method_8_code 127 = .ok (.iload_n 3, 1) := by decide +kernel
theorem d11_128 : decode prog_36_method_8_code 128 = .ok (.iload 5, 2) := by decide +kernel
theorem d11_130 : decode prog_36_method_8_code 130 = .ok (.invokevirtual 38, 3) := by decide +kernel
theorem d11_133 : decode prog_36_method_8_code 133 = .ok (.return_, 1) := by decide +kernel
theorem pn_11 : plainName "com/example/wildsuit/wildsuit/game/Row" = true := by first | (simp [plainName, overriddenIn]; done) | decide +kernel
theorem pd_11_0 : parseMethodDescriptor "(III)V" = some ⟨[.int, .int, .int], none⟩ := by decide +kernel
theorem pd_11_1 : parseMethodDescriptor "(II)V" = some ⟨[.int, .int], none⟩ := by decide +kernel
theorem ef_11 (m : MethodId) (ao : Addr) (xf : Int32) (xo : Int32) (xt : Int32) : entryFrame m #[(.ref ao), (.int xf), (.int xo), (.int xt)] 7 = mkF m 0 #[.val (.ref ao), .val (.int xf), .val (.int xo), .val (.int xt), .unset, .unset, .unset] [] := by first | (simp [entryFrame, mkF, argsToLocals, Value.category]; done) | rfl
def Q11 (Z : State) (ao : Addr) (xf : Int32) (xo : Int32) (xt : Int32) (bc : Addr) (bo : Addr) (bh : Addr) (bt : Addr) (xm : Int32) (nn : Int32) (B : Nat → Int32) (h0 : Heap) (n0 : Nat) (v : Option Value) (h : Heap) (L : List Loc) : Prop := v = none ∧ Fr n0 L ∧ Keep h0 h [bc, bo, bh, bt] ∧ own_Un Z h bc .byte (104 : Int32) ∧ own_Gi Z h bo .int xm (own_tr B xf xt) ∧ own_Un Z h bh .long nn ∧ own_Un Z h bt .long nn
set_option maxRecDepth 65536 in
theorem own_pl11_0 {xf : Int32} {xo : Int32} {xt : Int32} {xm : Int32} {nn : Int32} {B : Nat → Int32} {v4 : Int32} (hv4 : v4 = ((B xf.toNatClampNeg) + xo)) (hone : (0 : Int32) < xm) (hf : ¬ xf < 0 ∧ xf < nn) (hf1 : ¬ xf < 0 ∧ xf < xm) (ht : ¬ xt < 0 ∧ xt < nn) (ht1 : ¬ (xt + (1 : Int32)) < 0 ∧ (xt + (1 : Int32)) < xm) (hT : 0 ≤ ((B xf.toNatClampNeg) + xo).toInt ∧ ((B xf.toNatClampNeg) + xo).toInt ≤ 3 ∧ 0 ≤ (B (xt + (1 : Int32)).toNatClampNeg).toInt ∧ (B (xt + (1 : Int32)).toNatClampNeg).toInt ≤ 3 ∧ (xf < xt → ((B xf.toNatClampNeg) + xo).toInt + 1 ≤ (B (xt + (1 : Int32)).toNatClampNeg).toInt) ∧ (¬ xf < xt → (B (xt + (1 : Int32)).toNatClampNeg).toInt ≤ ((B xf.toNatClampNeg) + xo).toInt)) (in5_3 : ¬ xf < 0 ∧ xf < xm) : ¬ v4 < 0 ∧ v4 < (104 : Int32) := by
  rw [← hv4] at hT
  exact own_in hT.1 (by rw [own_104]; omega)
set_option maxRecDepth 65536 in
theorem own_pl11_1 {xf : Int32} {xo : Int32} {xt : Int32} {xm : Int32} {nn : Int32} {B : Nat → Int32} {v4 : Int32} {v11 : Int32} (hv4 : v4 = ((B xf.toNatClampNeg) + xo)) (hv11 : v11 = (B (xt + (1 : Int32)).toNatClampNeg)) (hc31_12 : xf < xt) (hone : (0 : Int32) < xm) (hf : ¬ xf < 0 ∧ xf < nn) (hf1 : ¬ xf < 0 ∧ xf < xm) (ht : ¬ xt < 0 ∧ xt < nn) (ht1 : ¬ (xt + (1 : Int32)) < 0 ∧ (xt + (1 : Int32)) < xm) (hT : 0 ≤ ((B xf.toNatClampNeg) + xo).toInt ∧ ((B xf.toNatClampNeg) + xo).toInt ≤ 3 ∧ 0 ≤ (B (xt + (1 : Int32)).toNatClampNeg).toInt ∧ (B (xt + (1 : Int32)).toNatClampNeg).toInt ≤ 3 ∧ (xf < xt → ((B xf.toNatClampNeg) + xo).toInt + 1 ≤ (B (xt + (1 : Int32)).toNatClampNeg).toInt) ∧ (¬ xf < xt → (B (xt + (1 : Int32)).toNatClampNeg).toInt ≤ ((B xf.toNatClampNeg) + xo).toInt)) (in5_3 : ¬ xf < 0 ∧ xf < xm) (in16_7 : ¬ v4 < 0 ∧ v4 < (104 : Int32)) (in26_10 : ¬ (xt + (1 : Int32)) < 0 ∧ (xt + (1 : Int32)) < xm) : own_cp (v4 + (1 : Int32)) v4 ((v11 - v4) - (1 : Int32)) (104 : Int32) (104 : Int32) := by
  have e1 : (1 : Int32).toInt = 1 := rfl
  rw [← hv4, ← hv11] at hT
  exact own_cpA hT.1 (hT.2.2.2.2.1 hc31_12) hT.2.2.2.1
set_option maxRecDepth 65536 in
theorem own_pl11_2 {xf : Int32} {xo : Int32} {xt : Int32} {xm : Int32} {nn : Int32} {B : Nat → Int32} {v4 : Int32} {v11 : Int32} (hv4 : v4 = ((B xf.toNatClampNeg) + xo)) (hv11 : v11 = (B (xt + (1 : Int32)).toNatClampNeg)) (hc31_12 : xf < xt) (hone : (0 : Int32) < xm) (hf : ¬ xf < 0 ∧ xf < nn) (hf1 : ¬ xf < 0 ∧ xf < xm) (ht : ¬ xt < 0 ∧ xt < nn) (ht1 : ¬ (xt + (1 : Int32)) < 0 ∧ (xt + (1 : Int32)) < xm) (hT : 0 ≤ ((B xf.toNatClampNeg) + xo).toInt ∧ ((B xf.toNatClampNeg) + xo).toInt ≤ 3 ∧ 0 ≤ (B (xt + (1 : Int32)).toNatClampNeg).toInt ∧ (B (xt + (1 : Int32)).toNatClampNeg).toInt ≤ 3 ∧ (xf < xt → ((B xf.toNatClampNeg) + xo).toInt + 1 ≤ (B (xt + (1 : Int32)).toNatClampNeg).toInt) ∧ (¬ xf < xt → (B (xt + (1 : Int32)).toNatClampNeg).toInt ≤ ((B xf.toNatClampNeg) + xo).toInt)) (in5_3 : ¬ xf < 0 ∧ xf < xm) (in16_7 : ¬ v4 < 0 ∧ v4 < (104 : Int32)) (in26_10 : ¬ (xt + (1 : Int32)) < 0 ∧ (xt + (1 : Int32)) < xm) (cp55_16 : own_cp (v4 + (1 : Int32)) v4 ((v11 - v4) - (1 : Int32)) (104 : Int32) (104 : Int32)) : ¬ (v11 - (1 : Int32)) < 0 ∧ (v11 - (1 : Int32)) < (104 : Int32) := by
  have e1 : (1 : Int32).toInt = 1 := rfl
  rw [← hv4, ← hv11] at hT
  have q := hT.2.2.2.2.1 hc31_12
  have e : (v11 - (1 : Int32)).toInt = v11.toInt - 1 := by rw [Jvm.Kit.i32_sub (by omega) (by omega), e1]
  exact own_in (by omega) (by rw [own_104]; omega)
set_option maxRecDepth 65536 in
theorem own_pl11_3 {xf : Int32} {xo : Int32} {xt : Int32} {xm : Int32} {nn : Int32} {B : Nat → Int32} {v4 : Int32} {v11 : Int32} (hv4 : v4 = ((B xf.toNatClampNeg) + xo)) (hv11 : v11 = (B (xt + (1 : Int32)).toNatClampNeg)) (hc31_12 : ¬ (xf < xt)) (hone : (0 : Int32) < xm) (hf : ¬ xf < 0 ∧ xf < nn) (hf1 : ¬ xf < 0 ∧ xf < xm) (ht : ¬ xt < 0 ∧ xt < nn) (ht1 : ¬ (xt + (1 : Int32)) < 0 ∧ (xt + (1 : Int32)) < xm) (hT : 0 ≤ ((B xf.toNatClampNeg) + xo).toInt ∧ ((B xf.toNatClampNeg) + xo).toInt ≤ 3 ∧ 0 ≤ (B (xt + (1 : Int32)).toNatClampNeg).toInt ∧ (B (xt + (1 : Int32)).toNatClampNeg).toInt ≤ 3 ∧ (xf < xt → ((B xf.toNatClampNeg) + xo).toInt + 1 ≤ (B (xt + (1 : Int32)).toNatClampNeg).toInt) ∧ (¬ xf < xt → (B (xt + (1 : Int32)).toNatClampNeg).toInt ≤ ((B xf.toNatClampNeg) + xo).toInt)) (in5_3 : ¬ xf < 0 ∧ xf < xm) (in16_7 : ¬ v4 < 0 ∧ v4 < (104 : Int32)) (in26_10 : ¬ (xt + (1 : Int32)) < 0 ∧ (xt + (1 : Int32)) < xm) : own_cp v11 (v11 + (1 : Int32)) (v4 - v11) (104 : Int32) (104 : Int32) := by
  have e1 : (1 : Int32).toInt = 1 := rfl
  rw [← hv4, ← hv11] at hT
  have q := hT.2.2.2.2.2 hc31_12
  exact own_cpI ⟨hT.2.2.1, q, hT.2.1⟩
set_option maxRecDepth 65536 in
theorem own_pl11_4 {xf : Int32} {xo : Int32} {xt : Int32} {xm : Int32} {nn : Int32} {B : Nat → Int32} {v4 : Int32} {v11 : Int32} (hv4 : v4 = ((B xf.toNatClampNeg) + xo)) (hv11 : v11 = (B (xt + (1 : Int32)).toNatClampNeg)) (hc31_12 : ¬ (xf < xt)) (hone : (0 : Int32) < xm) (hf : ¬ xf < 0 ∧ xf < nn) (hf1 : ¬ xf < 0 ∧ xf < xm) (ht : ¬ xt < 0 ∧ xt < nn) (ht1 : ¬ (xt + (1 : Int32)) < 0 ∧ (xt + (1 : Int32)) < xm) (hT : 0 ≤ ((B xf.toNatClampNeg) + xo).toInt ∧ ((B xf.toNatClampNeg) + xo).toInt ≤ 3 ∧ 0 ≤ (B (xt + (1 : Int32)).toNatClampNeg).toInt ∧ (B (xt + (1 : Int32)).toNatClampNeg).toInt ≤ 3 ∧ (xf < xt → ((B xf.toNatClampNeg) + xo).toInt + 1 ≤ (B (xt + (1 : Int32)).toNatClampNeg).toInt) ∧ (¬ xf < xt → (B (xt + (1 : Int32)).toNatClampNeg).toInt ≤ ((B xf.toNatClampNeg) + xo).toInt)) (in5_3 : ¬ xf < 0 ∧ xf < xm) (in16_7 : ¬ v4 < 0 ∧ v4 < (104 : Int32)) (in26_10 : ¬ (xt + (1 : Int32)) < 0 ∧ (xt + (1 : Int32)) < xm) (cp99_89 : own_cp v11 (v11 + (1 : Int32)) (v4 - v11) (104 : Int32) (104 : Int32)) : ¬ v11 < 0 ∧ v11 < (104 : Int32) := by
  have e1 : (1 : Int32).toInt = 1 := rfl
  rw [← hv4, ← hv11] at hT
  exact own_in hT.2.2.1 (by rw [own_104]; omega)
set_option maxRecDepth 65536 in
set_option maxHeartbeats 40000000 in
theorem rm11 (l : Launch) (Z : State) (a0 : Array Value) (hw : ∀ d ∈ tables_1, d.before a0 Z = true) (ws : List Jvm.Cond) (ao : Addr) (xf : Int32) (xo : Int32) (xt : Int32) (bc : Addr) (bo : Addr) (bh : Addr) (bt : Addr) (xm : Int32) (nn : Int32) (B : Nat → Int32) (h0 : Heap) (n0 : Nat) (Z0 : n0 ≤ h0.size) (PF0 : Exa Z h0 ao "com/example/wildsuit/wildsuit/game/Row") (PF1 : Exa Z h0 bc "[B") (PF2 : Exa Z h0 bo "[I") (PF3 : Exa Z h0 bh "[J") (PF4 : Exa Z h0 bt "[J") (PF5 : Fld Z h0 ao "com/example/wildsuit/wildsuit/game/Row" "cards" "[B" (.ref bc)) (PF6 : Fld Z h0 ao "com/example/wildsuit/wildsuit/game/Row" "borders" "[I" (.ref bo)) (PF7 : Fld Z h0 ao "com/example/wildsuit/wildsuit/game/Row" "held" "[J" (.ref bh)) (PF8 : Fld Z h0 ao "com/example/wildsuit/wildsuit/game/Row" "heldTwice" "[J" (.ref bt)) (PF9 : own_Gi Z h0 bo .int xm B) (PF10 : own_Un Z h0 bc .byte (104 : Int32)) (PF11 : own_Un Z h0 bh .long nn) (PF12 : own_Un Z h0 bt .long nn) (PN0 : bh ≠ bt) (ge_bc : n0 ≤ bc) (ge_bo : n0 ≤ bo) (ge_bh : n0 ≤ bh) (ge_bt : n0 ≤ bt) (hone : (0 : Int32) < xm) (hf : ¬ xf < 0 ∧ xf < nn) (hf1 : ¬ xf < 0 ∧ xf < xm) (ht : ¬ xt < 0 ∧ xt < nn) (ht1 : ¬ (xt + (1 : Int32)) < 0 ∧ (xt + (1 : Int32)) < xm) (hT : 0 ≤ ((B xf.toNatClampNeg) + xo).toInt ∧ ((B xf.toNatClampNeg) + xo).toInt ≤ 3 ∧ 0 ≤ (B (xt + (1 : Int32)).toNatClampNeg).toInt ∧ (B (xt + (1 : Int32)).toNatClampNeg).toInt ≤ 3 ∧ (xf < xt → ((B xf.toNatClampNeg) + xo).toInt + 1 ≤ (B (xt + (1 : Int32)).toNatClampNeg).toInt) ∧ (¬ xf < xt → (B (xt + (1 : Int32)).toNatClampNeg).toInt ≤ ((B xf.toNatClampNeg) + xo).toInt)) :
    MetFree l (⟨"com/example/wildsuit/wildsuit/game/Row", "transfer", "(III)V"⟩ : MethodName) (head1 (Jvm.Cond.code (⟨"com/example/wildsuit/wildsuit/game/Row", "transfer", "(III)V"⟩ : MethodName) prog_36_method_8_code 7 none :: ws) ({ frames := 2, cells := 0, slots := 0, locals := 30 } : Room)) (fun a U => a = #[(.ref ao), (.int xf), (.int xo), (.int xt)] ∧ Z.Warmed39 U.vm ∧ U.heap = h0) (fun _ _ _ _ _ => True) (fun _ U o U' => ∃ v L, o = .returned v ∧ Q11 Z ao xf xo xt bc bo bh bt xm nn B h0 n0 v U'.heap L ∧ FrameEnd U o U' L ({ frames := 2, cells := 0, slots := 0, locals := 30 } : Room).cells ({ frames := 2, cells := 0, slots := 0, locals := 30 } : Room).slots) := by
  refine MetFree.of_bodySF (plainFor_of_name pn_11) hisR ?_
  intro p e s m args below meth c s₁ Bd hml0 hP hK
  obtain ⟨rfl, hZ, hh⟩ := hP
  have hx := Bd.exec
  have hby := Bd.bytes
  have hml : c.maxLocals = 7 := hml0
  have hown : s.vm.findClass "com/example/wildsuit/wildsuit/game/Row" = some m.cls := findClass_of_methodNamed Bd.named
  have hnm := (name_of_methodNamed Bd.named Bd.method).1
  have X0 : Stand p l e ({ frames := 2, cells := 0, slots := 0, locals := 30 } : Room) s m #[(.ref ao), (.int xf), (.int xo), (.int xt)] below meth c s₁ [] 0 0 := Stand.of_body Bd
  have e0 : s₁.heap = h0 := by rw [← hh, Bd.state]; rfl
  have N0 := Fr.nil n0
  suffices G : own_Goes p.tables e below (fun o U' => ∃ v L, o = .returned v ∧ Q11 Z ao xf xo xt bc bo bh bt xm nn B h0 n0 v U'.heap L ∧ FrameEnd s o U' L ({ frames := 2, cells := 0, slots := 0, locals := 30 } : Room).cells ({ frames := 2, cells := 0, slots := 0, locals := 30 } : Room).slots) s₁ (mkF m 0 #[.val (.ref ao), .val (.int xf), .val (.int xo), .val (.int xt), .unset, .unset, .unset] []) by
    obtain ⟨t2_, o2_, z1_, z2_, z3_, z4_⟩ := G
    exact ⟨t2_, o2_, castTop (ef_11 m ao xf xo xt) z1_, z2_, z3_, z4_⟩
  generalize hPd : (fun (o : Outcome) (U' : State) => ∃ v L, o = .returned v ∧ Q11 Z ao xf xo xt bc bo bh bt xm nn B h0 n0 v U'.heap L ∧ FrameEnd s o U' L ({ frames := 2, cells := 0, slots := 0, locals := 30 } : Room).cells ({ frames := 2, cells := 0, slots := 0, locals := 30 } : Room).slots) = P
  refine own_Goes.via (T' := s₁) (g' := (mkF m 1 #[.val (.ref ao), .val (.int xf), .val (.int xo), .val (.int xt), .unset, .unset, .unset] [(.ref ao)])) (fun t_ k_ => XS.aloadN X0.here hx rfl (hb hby d11_0) rfl rfl k_) ?_
  obtain ⟨T1, X1, e1, st1⟩ := getF X0 hx hZ hown (host := "") (Or.inl (hw _ (List.mem_of_getElem? (i := 13) rfl))) Via.refl e0 PF6 (g := (mkF m 1 #[.val (.ref ao), .val (.int xf), .val (.int xo), .val (.int xt), .unset, .unset, .unset] [(.ref ao)])) rfl rfl (hb hby d11_1)
  refine own_Goes.via (T' := T1) (g' := (mkF m 4 #[.val (.ref ao), .val (.int xf), .val (.int xo), .val (.int xt), .unset, .unset, .unset] [(.ref bo)])) (st1) ?_
  refine own_Goes.via (T' := T1) (g' := (mkF m 5 #[.val (.ref ao), .val (.int xf), .val (.int xo), .val (.int xt), .unset, .unset, .unset] [(.int xf), (.ref bo)])) (fun t_ k_ => XS.iloadN X1.here hx rfl (hb hby d11_4) rfl k_) ?_
  have in5_3 : ¬ xf < 0 ∧ xf < xm := hf1
  obtain ⟨cl2, Ar2, Sl2, at2⟩ := PF9.rd in5_3
  refine own_Goes.via (T' := T1) (g' := (mkF m 6 #[.val (.ref ao), .val (.int xf), .val (.int xo), .val (.int xt), .unset, .unset, .unset] [(.int (B xf.toNatClampNeg))])) (fun t_ k_ => X1.iaload hx (j := xf) (v := (.int (B xf.toNatClampNeg))) (by rw [e1]; exact Ar2.1) (State.isArrayOf_alike hZ.alike Ar2.2.1) Ar2.2.2 (inb_of Sl2 in5_3) at2 (g := (mkF m 5 #[.val (.ref ao), .val (.int xf), .val (.int xo), .val (.int xt), .unset, .unset, .unset] [(.int xf), (.ref bo)])) rfl rfl (hb hby d11_5) _ k_) ?_
  refine own_Goes.via (T' := T1) (g' := (mkF m 7 #[.val (.ref ao), .val (.int xf), .val (.int xo), .val (.int xt), .unset, .unset, .unset] [(.int xo), (.int (B xf.toNatClampNeg))])) (fun t_ k_ => XS.iloadN X1.here hx rfl (hb hby d11_6) rfl k_) ?_
  refine own_Goes.via (T' := T1) (g' := (mkF m 8 #[.val (.ref ao), .val (.int xf), .val (.int xo), .val (.int xt), .unset, .unset, .unset] [(.int ((B xf.toNatClampNeg) + xo))])) (fun t_ k_ => XS.iadd X1.here hx rfl (hb hby d11_7) rfl k_) ?_
  refine own_Goes.via (T' := T1) (g' := (mkF m 10 #[.val (.ref ao), .val (.int xf), .val (.int xo), .val (.int xt), .val (.int ((B xf.toNatClampNeg) + xo)), .unset, .unset] [])) (fun t_ k_ => XS.istore X1.here hx rfl (hb hby d11_8) rfl (l' := #[.val (.ref ao), .val (.int xf), .val (.int xo), .val (.int xt), .val (.int ((B xf.toNatClampNeg) + xo)), .unset, .unset]) rfl k_) ?_
  obtain ⟨v4, hv4⟩ : ∃ z : Int32, z = ((B xf.toNatClampNeg) + xo) := ⟨_, rfl⟩
  rw [← hv4]
  refine own_Goes.via (T' := T1) (g' := (mkF m 11 #[.val (.ref ao), .val (.int xf), .val (.int xo), .val (.int xt), .val (.int v4), .unset, .unset] [(.ref ao)])) (fun t_ k_ => XS.aloadN X1.here hx rfl (hb hby d11_10) rfl rfl k_) ?_
  obtain ⟨T5, X5, e5, st5⟩ := getF X1 hx hZ hown (host := "") (Or.inl (hw _ (List.mem_of_getElem? (i := 11) rfl))) Via.refl e1 PF5 (g := (mkF m 11 #[.val (.ref ao), .val (.int xf), .val (.int xo), .val (.int xt), .val (.int v4), .unset, .unset] [(.ref ao)])) rfl rfl (hb hby d11_11)
  refine own_Goes.via (T' := T5) (g' := (mkF m 14 #[.val (.ref ao), .val (.int xf), .val (.int xo), .val (.int xt), .val (.int v4), .unset, .unset] [(.ref bc)])) (st5) ?_
  refine own_Goes.via (T' := T5) (g' := (mkF m 16 #[.val (.ref ao), .val (.int xf), .val (.int xo), .val (.int xt), .val (.int v4), .unset, .unset] [(.int v4), (.ref bc)])) (fun t_ k_ => XS.iload X5.here hx rfl (hb hby d11_14) rfl k_) ?_
  have in16_7 : ¬ v4 < 0 ∧ v4 < (104 : Int32) := own_pl11_0 hv4 hone hf hf1 ht ht1 hT in5_3
  obtain ⟨cl6, xi6, Ar6, Sl6, at6⟩ := PF10.rdB in16_7
  refine own_Goes.via (T' := T5) (g' := (mkF m 17 #[.val (.ref ao), .val (.int xf), .val (.int xo), .val (.int xt), .val (.int v4), .unset, .unset] [(.int xi6)])) (fun t_ k_ => X5.baloadBytes hx (j := v4) (v := (.int xi6)) (by rw [e5]; exact Ar6.1) (State.isArrayOf_alike hZ.alike Ar6.2.1) Ar6.2.2 (inb_of Sl6 in16_7) at6 (g := (mkF m 16 #[.val (.ref ao), .val (.int xf), .val (.int xo), .val (.int xt), .val (.int v4), .unset, .unset] [(.int v4), (.ref bc)])) rfl rfl (hb hby d11_16) _ k_) ?_
  refine own_Goes.via (T' := T5) (g' := (mkF m 19 #[.val (.ref ao), .val (.int xf), .val (.int xo), .val (.int xt), .val (.int v4), .val (.int xi6), .unset] [])) (fun t_ k_ => XS.istore X5.here hx rfl (hb hby d11_17) rfl (l' := #[.val (.ref ao), .val (.int xf), .val (.int xo), .val (.int xt), .val (.int v4), .val (.int xi6), .unset]) rfl k_) ?_
  refine own_Goes.via (T' := T5) (g' := (mkF m 20 #[.val (.ref ao), .val (.int xf), .val (.int xo), .val (.int xt), .val (.int v4), .val (.int xi6), .unset] [(.ref ao)])) (fun t_ k_ => XS.aloadN X5.here hx rfl (hb hby d11_19) rfl rfl k_) ?_
  obtain ⟨T8, X8, e8, st8⟩ := getF X5 hx hZ hown (host := "") (Or.inl (hw _ (List.mem_of_getElem? (i := 13) rfl))) Via.refl e5 PF6 (g := (mkF m 20 #[.val (.ref ao), .val (.int xf), .val (.int xo), .val (.int xt), .val (.int v4), .val (.int xi6), .unset] [(.ref ao)])) rfl rfl (hb hby d11_20)
  refine own_Goes.via (T' := T8) (g' := (mkF m 23 #[.val (.ref ao), .val (.int xf), .val (.int xo), .val (.int xt), .val (.int v4), .val (.int xi6), .unset] [(.ref bo)])) (st8) ?_
  refine own_Goes.via (T' := T8) (g' := (mkF m 24 #[.val (.ref ao), .val (.int xf), .val (.int xo), .val (.int xt), .val (.int v4), .val (.int xi6), .unset] [(.int xt), (.ref bo)])) (fun t_ k_ => XS.iloadN X8.here hx rfl (hb hby d11_23) rfl k_) ?_
  refine own_Goes.via (T' := T8) (g' := (mkF m 25 #[.val (.ref ao), .val (.int xf), .val (.int xo), .val (.int xt), .val (.int v4), .val (.int xi6), .unset] [(.int (1 : Int32)), (.int xt), (.ref bo)])) (fun t_ k_ => XS.iconst X8.here hx rfl (hb hby d11_24) k_) ?_
  refine own_Goes.via (T' := T8) (g' := (mkF m 26 #[.val (.ref ao), .val (.int xf), .val (.int xo), .val (.int xt), .val (.int v4), .val (.int xi6), .unset] [(.int (xt + (1 : Int32))), (.ref bo)])) (fun t_ k_ => XS.iadd X8.here hx rfl (hb hby d11_25) rfl k_) ?_
  have in26_10 : ¬ (xt + (1 : Int32)) < 0 ∧ (xt + (1 : Int32)) < xm := ht1
  obtain ⟨cl9, Ar9, Sl9, at9⟩ := PF9.rd in26_10
  refine own_Goes.via (T' := T8) (g' := (mkF m 27 #[.val (.ref ao), .val (.int xf), .val (.int xo), .val (.int xt), .val (.int v4), .val (.int xi6), .unset] [(.int (B (xt + (1 : Int32)).toNatClampNeg))])) (fun t_ k_ => X8.iaload hx (j := (xt + (1 : Int32))) (v := (.int (B (xt + (1 : Int32)).toNatClampNeg))) (by rw [e8]; exact Ar9.1) (State.isArrayOf_alike hZ.alike Ar9.2.1) Ar9.2.2 (inb_of Sl9 in26_10) at9 (g := (mkF m 26 #[.val (.ref ao), .val (.int xf), .val (.int xo), .val (.int xt), .val (.int v4), .val (.int xi6), .unset] [(.int (xt + (1 : Int32))), (.ref bo)])) rfl rfl (hb hby d11_26) _ k_) ?_
  refine own_Goes.via (T' := T8) (g' := (mkF m 29 #[.val (.ref ao), .val (.int xf), .val (.int xo), .val (.int xt), .val (.int v4), .val (.int xi6), .val (.int (B (xt + (1 : Int32)).toNatClampNeg))] [])) (fun t_ k_ => XS.istore X8.here hx rfl (hb hby d11_27) rfl (l' := #[.val (.ref ao), .val (.int xf), .val (.int xo), .val (.int xt), .val (.int v4), .val (.int xi6), .val (.int (B (xt + (1 : Int32)).toNatClampNeg))]) rfl k_) ?_
  obtain ⟨v11, hv11⟩ : ∃ z : Int32, z = (B (xt + (1 : Int32)).toNatClampNeg) := ⟨_, rfl⟩
  rw [← hv11]
  refine own_Goes.via (T' := T8) (g' := (mkF m 30 #[.val (.ref ao), .val (.int xf), .val (.int xo), .val (.int xt), .val (.int v4), .val (.int xi6), .val (.int v11)] [(.int xt)])) (fun t_ k_ => XS.iloadN X8.here hx rfl (hb hby d11_29) rfl k_) ?_
  refine own_Goes.via (T' := T8) (g' := (mkF m 31 #[.val (.ref ao), .val (.int xf), .val (.int xo), .val (.int xt), .val (.int v4), .val (.int xi6), .val (.int v11)] [(.int xf), (.int xt)])) (fun t_ k_ => XS.iloadN X8.here hx rfl (hb hby d11_30) rfl k_) ?_
  by_cases hc31_12 : xf < xt
  · refine own_Goes.via (T' := T8) (g' := (mkF m 34 #[.val (.ref ao), .val (.int xf), .val (.int xo), .val (.int xt), .val (.int v4), .val (.int xi6), .val (.int v11)] [])) (fun t_ k_ => XS.icmpNo X8.here hx rfl (hb hby d11_31) rfl (tlt hc31_12).2.2.2 k_) ?_
    refine own_Goes.via (T' := T8) (g' := (mkF m 35 #[.val (.ref ao), .val (.int xf), .val (.int xo), .val (.int xt), .val (.int v4), .val (.int xi6), .val (.int v11)] [(.ref ao)])) (fun t_ k_ => XS.aloadN X8.here hx rfl (hb hby d11_34) rfl rfl k_) ?_
    obtain ⟨T13, X13, e13, st13⟩ := getF X8 hx hZ hown (host := "") (Or.inl (hw _ (List.mem_of_getElem? (i := 11) rfl))) Via.refl e8 PF5 (g := (mkF m 35 #[.val (.ref ao), .val (.int xf), .val (.int xo), .val (.int xt), .val (.int v4), .val (.int xi6), .val (.int v11)] [(.ref ao)])) rfl rfl (hb hby d11_35)
    refine own_Goes.via (T' := T13) (g' := (mkF m 38 #[.val (.ref ao), .val (.int xf), .val (.int xo), .val (.int xt), .val (.int v4), .val (.int xi6), .val (.int v11)] [(.ref bc)])) (st13) ?_
    refine own_Goes.via (T' := T13) (g' := (mkF m 40 #[.val (.ref ao), .val (.int xf), .val (.int xo), .val (.int xt), .val (.int v4), .val (.int xi6), .val (.int v11)] [(.int v4), (.ref bc)])) (fun t_ k_ => XS.iload X13.here hx rfl (hb hby d11_38) rfl k_) ?_
    refine own_Goes.via (T' := T13) (g' := (mkF m 41 #[.val (.ref ao), .val (.int xf), .val (.int xo), .val (.int xt), .val (.int v4), .val (.int xi6), .val (.int v11)] [(.int (1 : Int32)), (.int v4), (.ref bc)])) (fun t_ k_ => XS.iconst X13.here hx rfl (hb hby d11_40) k_) ?_
    refine own_Goes.via (T' := T13) (g' := (mkF m 42 #[.val (.ref ao), .val (.int xf), .val (.int xo), .val (.int xt), .val (.int v4), .val (.int xi6), .val (.int v11)] [(.int (v4 + (1 : Int32))), (.ref bc)])) (fun t_ k_ => XS.iadd X13.here hx rfl (hb hby d11_41) rfl k_) ?_
    refine own_Goes.via (T' := T13) (g' := (mkF m 43 #[.val (.ref ao), .val (.int xf), .val (.int xo), .val (.int xt), .val (.int v4), .val (.int xi6), .val (.int v11)] [(.ref ao), (.int (v4 + (1 : Int32))), (.ref bc)])) (fun t_ k_ => XS.aloadN X13.here hx rfl (hb hby d11_42) rfl rfl k_) ?_
    obtain ⟨T14, X14, e14, st14⟩ := getF X13 hx hZ hown (host := "") (Or.inl (hw _ (List.mem_of_getElem? (i := 11) rfl))) Via.refl e13 PF5 (g := (mkF m 43 #[.val (.ref ao), .val (.int xf), .val (.int xo), .val (.int xt), .val (.int v4), .val (.int xi6), .val (.int v11)] [(.ref ao), (.int (v4 + (1 : Int32))), (.ref bc)])) rfl rfl (hb hby d11_43)
    refine own_Goes.via (T' := T14) (g' := (mkF m 46 #[.val (.ref ao), .val (.int xf), .val (.int xo), .val (.int xt), .val (.int v4), .val (.int xi6), .val (.int v11)] [(.ref bc), (.int (v4 + (1 : Int32))), (.ref bc)])) (st14) ?_
    refine own_Goes.via (T' := T14) (g' := (mkF m 48 #[.val (.ref ao), .val (.int xf), .val (.int xo), .val (.int xt), .val (.int v4), .val (.int xi6), .val (.int v11)] [(.int v4), (.ref bc), (.int (v4 + (1 : Int32))), (.ref bc)])) (fun t_ k_ => XS.iload X14.here hx rfl (hb hby d11_46) rfl k_) ?_
    refine own_Goes.via (T' := T14) (g' := (mkF m 50 #[.val (.ref ao), .val (.int xf), .val (.int xo), .val (.int xt), .val (.int v4), .val (.int xi6), .val (.int v11)] [(.int v11), (.int v4), (.ref bc), (.int (v4 + (1 : Int32))), (.ref bc)])) (fun t_ k_ => XS.iload X14.here hx rfl (hb hby d11_48) rfl k_) ?_
    refine own_Goes.via (T' := T14) (g' := (mkF m 52 #[.val (.ref ao), .val (.int xf), .val (.int xo), .val (.int xt), .val (.int v4), .val (.int xi6), .val (.int v11)] [(.int v4), (.int v11), (.int v4), (.ref bc), (.int (v4 + (1 : Int32))), (.ref bc)])) (fun t_ k_ => XS.iload X14.here hx rfl (hb hby d11_50) rfl k_) ?_
    refine own_Goes.via (T' := T14) (g' := (mkF m 53 #[.val (.ref ao), .val (.int xf), .val (.int xo), .val (.int xt), .val (.int v4), .val (.int xi6), .val (.int v11)] [(.int (v11 - v4)), (.int v4), (.ref bc), (.int (v4 + (1 : Int32))), (.ref bc)])) (fun t_ k_ => XS.isub X14.here hx rfl (hb hby d11_52) rfl k_) ?_
    refine own_Goes.via (T' := T14) (g' := (mkF m 54 #[.val (.ref ao), .val (.int xf), .val (.int xo), .val (.int xt), .val (.int v4), .val (.int xi6), .val (.int v11)] [(.int (1 : Int32)), (.int (v11 - v4)), (.int v4), (.ref bc), (.int (v4 + (1 : Int32))), (.ref bc)])) (fun t_ k_ => XS.iconst X14.here hx rfl (hb hby d11_53) k_) ?_
    refine own_Goes.via (T' := T14) (g' := (mkF m 55 #[.val (.ref ao), .val (.int xf), .val (.int xo), .val (.int xt), .val (.int v4), .val (.int xi6), .val (.int v11)] [(.int ((v11 - v4) - (1 : Int32))), (.int v4), (.ref bc), (.int (v4 + (1 : Int32))), (.ref bc)])) (fun t_ k_ => XS.isub X14.here hx rfl (hb hby d11_54) rfl k_) ?_
    have cp55_16 : own_cp (v4 + (1 : Int32)) v4 ((v11 - v4) - (1 : Int32)) (104 : Int32) (104 : Int32) := own_pl11_1 hv4 hv11 hc31_12 hone hf hf1 ht ht1 hT in5_3 in16_7 in26_10
    obtain ⟨ks15, vs15, As15, ls15⟩ := PF10.arv
    obtain ⟨kd15, vd15, Ad15, ld15⟩ := PF10.arv
    obtain ⟨T15, h15, L15, X15, e15, N15, Kq15, A15, st15⟩ := cpA X14 hx hZ hown (hw _ (List.mem_of_getElem? (i := 36) rfl)) (hw _ (List.mem_of_getElem? (i := 39) rfl)) (hw _ (List.mem_of_getElem? (i := 37) rfl)) (hw _ (List.mem_of_getElem? (i := 38) rfl)) e14 As15 Ad15 (Or.inl ⟨rfl, rfl⟩) cp55_16.1 cp55_16.2.1 cp55_16.2.2.1 cp55_16.2.2.2.1 cp55_16.2.2.2.2 rfl (by rw [ld15]; exact cp55_16.2.2.2.2) N0 ge_bc (g := (mkF m 55 #[.val (.ref ao), .val (.int xf), .val (.int xo), .val (.int xt), .val (.int v4), .val (.int xi6), .val (.int v11)] [(.int ((v11 - v4) - (1 : Int32))), (.int v4), (.ref bc), (.int (v4 + (1 : Int32))), (.ref bc)])) rfl (by rw [hml]; rfl) rfl (hb hby d11_55) (by decide) (W := 0) (by show 2 * 0 + _ ≤ _; exact Nat.le_of_eq rfl) (by decide)
    have E17 : Exa Z h15 ao "com/example/wildsuit/wildsuit/game/Row" := PF0.keep Kq15
    have E18 : Exa Z h15 bc "[B" := PF1.keep Kq15
    have E19 : Exa Z h15 bo "[I" := PF2.keep Kq15
    have E20 : Exa Z h15 bh "[J" := PF3.keep Kq15
    have E21 : Exa Z h15 bt "[J" := PF4.keep Kq15
    have F22 : Fld Z h15 ao "com/example/wildsuit/wildsuit/game/Row" "cards" "[B" (.ref bc) := PF5.keep Kq15 (ninS (Exa.ne E17 E18 (by decide)) nin0)
    have F23 : Fld Z h15 ao "com/example/wildsuit/wildsuit/game/Row" "borders" "[I" (.ref bo) := PF6.keep Kq15 (ninS (Exa.ne E17 E18 (by decide)) nin0)
    have F24 : Fld Z h15 ao "com/example/wildsuit/wildsuit/game/Row" "held" "[J" (.ref bh) := PF7.keep Kq15 (ninS (Exa.ne E17 E18 (by decide)) nin0)
    have F25 : Fld Z h15 ao "com/example/wildsuit/wildsuit/game/Row" "heldTwice" "[J" (.ref bt) := PF8.keep Kq15 (ninS (Exa.ne E17 E18 (by decide)) nin0)
    have G26 : own_Gi Z h15 bo .int xm B := PF9.keep Kq15 (ninS (Exa.ne E19 E18 (by decide)) nin0)
    have U27 : own_Un Z h15 bh .long nn := PF11.keep Kq15 (ninS (Exa.ne E20 E18 (by decide)) nin0)
    have U28 : own_Un Z h15 bt .long nn := PF12.keep Kq15 (ninS (Exa.ne E21 E18 (by decide)) nin0)
    have U29 : own_Un Z h15 bc .byte (104 : Int32) := own_Un.of A15
    have sz15 : n0 ≤ h15.size := Nat.le_trans Z0 Kq15.1
    have K15 : Keep h0 h15 [bc, bo, bh, bt] := ((Keep.refl h0 [bc, bo, bh, bt])).trans Kq15 (allS (Or.inl (List.mem_of_getElem? (i := 0) rfl)) all0)
    refine own_Goes.via (T' := T15) (g' := (mkF m 58 #[.val (.ref ao), .val (.int xf), .val (.int xo), .val (.int xt), .val (.int v4), .val (.int xi6), .val (.int v11)] [])) (st15) ?_
    refine own_Goes.via (T' := T15) (g' := (mkF m 59 #[.val (.ref ao), .val (.int xf), .val (.int xo), .val (.int xt), .val (.int v4), .val (.int xi6), .val (.int v11)] [(.ref ao)])) (fun t_ k_ => XS.aloadN X15.here hx rfl (hb hby d11_58) rfl rfl k_) ?_
    obtain ⟨T30, X30, e30, st30⟩ := getF X15 hx hZ hown (host := "") (Or.inl (hw _ (List.mem_of_getElem? (i := 11) rfl))) Via.refl e15 F22 (g := (mkF m 59 #[.val (.ref ao), .val (.int xf), .val (.int xo), .val (.int xt), .val (.int v4), .val (.int xi6), .val (.int v11)] [(.ref ao)])) rfl rfl (hb hby d11_59)
    refine own_Goes.via (T' := T30) (g' := (mkF m 62 #[.val (.ref ao), .val (.int xf), .val (.int xo), .val (.int xt), .val (.int v4), .val (.int xi6), .val (.int v11)] [(.ref bc)])) (st30) ?_
    refine own_Goes.via (T' := T30) (g' := (mkF m 64 #[.val (.ref ao), .val (.int xf), .val (.int xo), .val (.int xt), .val (.int v4), .val (.int xi6), .val (.int v11)] [(.int v11), (.ref bc)])) (fun t_ k_ => XS.iload X30.here hx rfl (hb hby d11_62) rfl k_) ?_
    refine own_Goes.via (T' := T30) (g' := (mkF m 65 #[.val (.ref ao), .val (.int xf), .val (.int xo), .val (.int xt), .val (.int v4), .val (.int xi6), .val (.int v11)] [(.int (1 : Int32)), (.int v11), (.ref bc)])) (fun t_ k_ => XS.iconst X30.here hx rfl (hb hby d11_64) k_) ?_
    refine own_Goes.via (T' := T30) (g' := (mkF m 66 #[.val (.ref ao), .val (.int xf), .val (.int xo), .val (.int xt), .val (.int v4), .val (.int xi6), .val (.int v11)] [(.int (v11 - (1 : Int32))), (.ref bc)])) (fun t_ k_ => XS.isub X30.here hx rfl (hb hby d11_65) rfl k_) ?_
    refine own_Goes.via (T' := T30) (g' := (mkF m 68 #[.val (.ref ao), .val (.int xf), .val (.int xo), .val (.int xt), .val (.int v4), .val (.int xi6), .val (.int v11)] [(.int xi6), (.int (v11 - (1 : Int32))), (.ref bc)])) (fun t_ k_ => XS.iload X30.here hx rfl (hb hby d11_66) rfl k_) ?_
    refine own_Goes.via (T' := T30) (g' := (mkF m 69 #[.val (.ref ao), .val (.int xf), .val (.int xo), .val (.int xt), .val (.int v4), .val (.int xi6), .val (.int v11)] [(.int (xi6.toInt8.toInt32)), (.int (v11 - (1 : Int32))), (.ref bc)])) (fun t_ k_ => XS.i2b X30.here hx rfl (hb hby d11_68) rfl k_) ?_
    obtain ⟨cl31, Ar31, Sl31, Ng31, -⟩ := id U29
    have in69_32 : ¬ (v11 - (1 : Int32)) < 0 ∧ (v11 - (1 : Int32)) < (104 : Int32) := own_pl11_2 hv4 hv11 hc31_12 hone hf hf1 ht ht1 hT in5_3 in16_7 in26_10 cp55_16
    obtain ⟨T31, h31, X31, e31, W31, st31⟩ := stB X30 hx hZ e30 Ar31 (j := (v11 - (1 : Int32))) (inb_of Sl31 in69_32) (g := (mkF m 69 #[.val (.ref ao), .val (.int xf), .val (.int xo), .val (.int xt), .val (.int v4), .val (.int xi6), .val (.int v11)] [(.int (xi6.toInt8.toInt32)), (.int (v11 - (1 : Int32))), (.ref bc)])) rfl rfl (hb hby d11_69)
    have E33 : Exa Z h31 ao "com/example/wildsuit/wildsuit/game/Row" := E17.wr W31
    have E34 : Exa Z h31 bc "[B" := E18.wr W31
    have E35 : Exa Z h31 bo "[I" := E19.wr W31
    have E36 : Exa Z h31 bh "[J" := E20.wr W31
    have E37 : Exa Z h31 bt "[J" := E21.wr W31
    have F38 : Fld Z h31 ao "com/example/wildsuit/wildsuit/game/Row" "cards" "[B" (.ref bc) := F22.other W31 (Or.inl (Exa.ne E33 E34 (by decide)))
    have F39 : Fld Z h31 ao "com/example/wildsuit/wildsuit/game/Row" "borders" "[I" (.ref bo) := F23.other W31 (Or.inl (Exa.ne E33 E34 (by decide)))
    have F40 : Fld Z h31 ao "com/example/wildsuit/wildsuit/game/Row" "held" "[J" (.ref bh) := F24.other W31 (Or.inl (Exa.ne E33 E34 (by decide)))
    have F41 : Fld Z h31 ao "com/example/wildsuit/wildsuit/game/Row" "heldTwice" "[J" (.ref bt) := F25.other W31 (Or.inl (Exa.ne E33 E34 (by decide)))
    have G42 : own_Gi Z h31 bo .int xm B := G26.other W31 (Exa.ne E35 E34 (by decide))
    have U43 : own_Un Z h31 bh .long nn := U27.other W31 (Exa.ne E36 E34 (by decide))
    have U44 : own_Un Z h31 bt .long nn := U28.other W31 (Exa.ne E37 E34 (by decide))
    have U45 : own_Un Z h31 bc .byte (104 : Int32) := U29.set W31 (fits_nar_byte _)
    have N31 := Fr.snoc X31 N15 ge_bc
    have sz31 : n0 ≤ h31.size := Nat.le_trans sz15 (Keep.of_wr W31).1
    have K31 : Keep h0 h31 [bc, bo, bh, bt] := (K15).wr W31 (Or.inl (List.mem_of_getElem? (i := 0) rfl))
    refine own_Goes.via (T' := T31) (g' := (mkF m 70 #[.val (.ref ao), .val (.int xf), .val (.int xo), .val (.int xt), .val (.int v4), .val (.int xi6), .val (.int v11)] [])) (st31) ?_
    refine own_Goes.via (T' := T31) (g' := (mkF m 71 #[.val (.ref ao), .val (.int xf), .val (.int xo), .val (.int xt), .val (.int v4), .val (.int xi6), .val (.int v11)] [(.ref ao)])) (fun t_ k_ => XS.aloadN X31.here hx rfl (hb hby d11_70) rfl rfl k_) ?_
    refine own_Goes.via (T' := T31) (g' := (mkF m 72 #[.val (.ref ao), .val (.int xf), .val (.int xo), .val (.int xt), .val (.int v4), .val (.int xi6), .val (.int v11)] [(.int xf), (.ref ao)])) (fun t_ k_ => XS.iloadN X31.here hx rfl (hb hby d11_71) rfl k_) ?_
    refine own_Goes.via (T' := T31) (g' := (mkF m 73 #[.val (.ref ao), .val (.int xf), .val (.int xo), .val (.int xt), .val (.int v4), .val (.int xi6), .val (.int v11)] [(.int xt), (.int xf), (.ref ao)])) (fun t_ k_ => XS.iloadN X31.here hx rfl (hb hby d11_72) rfl k_) ?_
    refine own_Goes.via (T' := T31) (g' := (mkF m 74 #[.val (.ref ao), .val (.int xf), .val (.int xo), .val (.int xt), .val (.int v4), .val (.int xi6), .val (.int v11)] [(.int (-1 : Int32)), (.int xt), (.int xf), (.ref ao)])) (fun t_ k_ => XS.iconst X31.here hx rfl (hb hby d11_73) k_) ?_
    have cd74_47 : (0 : Int32) < xm := by first | assumption | decide
    obtain ⟨cq46, q46, q46'⟩ := E33.cell
    obtain ⟨_, _, ⟨T46, L46, k46, n46⟩, -, X46, ⟨Lc46, hQ46, l46, y46, z46⟩, st46⟩ := X31.privateBack hx (y := (⟨"com/example/wildsuit/wildsuit/game/Row", "moveBorders", "(III)V"⟩ : MethodName)) hown (mvT hZ (hw _ (List.mem_of_getElem? (i := 40) rfl))) (mvT hZ (hw _ (List.mem_of_getElem? (i := 41) rfl))) (mvT hZ (own_selP (y := (⟨"com/example/wildsuit/wildsuit/game/Row", "moveBorders", "(III)V"⟩ : MethodName)) (hw _ (List.mem_of_getElem? (i := 23) rfl)) rfl (hw _ (List.mem_of_getElem? (i := 42) rfl)) (hw _ (List.mem_of_getElem? (i := 41) rfl)) (by decide))) (Cond.privateMethod_at (mvP hZ (hw _ (List.mem_of_getElem? (i := 42) rfl)) (args := #[]))) (mvT hZ (hw _ (List.mem_of_getElem? (i := 43) rfl))) (by decide) (backOf (W := 0) (rm6 l Z a0 hw [] ao xf xt (-1 : Int32) bo xm B h31 n0 sz31 E33 E35 F39 G42 ge_bo cd74_47) hZ (hw _ (List.mem_of_getElem? (i := 43) rfl)) (hw _ (List.mem_of_getElem? (i := 3) rfl)) (by decide) (by decide)) (g := (mkF m 74 #[.val (.ref ao), .val (.int xf), .val (.int xo), .val (.int xt), .val (.int v4), .val (.int xi6), .val (.int v11)] [(.int (-1 : Int32)), (.int xt), (.int xf), (.ref ao)])) rfl (by rw [hml]; rfl) (Steps.refl _) (a := ao) (by rw [e31]; exact q46) q46' (argsL := [(.int xf), (.int xt), (.int (-1 : Int32))]) (rest := []) (lenOf pd_11_0 rfl) rfl (by show 2 * 0 + _ ≤ _; exact Nat.le_of_eq rfl) (hb hby d11_74) (fun _ _ => ⟨rfl, e31, (by decide : 0 + 0 ≤ _), (by decide : 0 + 0 ≤ _)⟩)
    dsimp only [Pt.U, Pt.locs, Pt.cells, Pt.slots] at X46 l46 y46 z46 st46 hQ46
    subst l46 y46 z46
    obtain ⟨rfl, Nq46, Kq46, pf46_0⟩ := hQ46
    have N46 := Fr.app N31 Nq46
    have E48 : Exa Z T46.heap ao "com/example/wildsuit/wildsuit/game/Row" := E33.keep Kq46
    have E49 : Exa Z T46.heap bc "[B" := E34.keep Kq46
    have E50 : Exa Z T46.heap bo "[I" := E35.keep Kq46
    have E51 : Exa Z T46.heap bh "[J" := E36.keep Kq46
    have E52 : Exa Z T46.heap bt "[J" := E37.keep Kq46
    have F53 : Fld Z T46.heap ao "com/example/wildsuit/wildsuit/game/Row" "cards" "[B" (.ref bc) := F38.keep Kq46 (ninS (Exa.ne E48 E50 (by decide)) nin0)
    have F54 : Fld Z T46.heap ao "com/example/wildsuit/wildsuit/game/Row" "borders" "[I" (.ref bo) := F39.keep Kq46 (ninS (Exa.ne E48 E50 (by decide)) nin0)
    have F55 : Fld Z T46.heap ao "com/example/wildsuit/wildsuit/game/Row" "held" "[J" (.ref bh) := F40.keep Kq46 (ninS (Exa.ne E48 E50 (by decide)) nin0)
    have F56 : Fld Z T46.heap ao "com/example/wildsuit/wildsuit/game/Row" "heldTwice" "[J" (.ref bt) := F41.keep Kq46 (ninS (Exa.ne E48 E50 (by decide)) nin0)
    have U57 : own_Un Z T46.heap bh .long nn := U43.keep Kq46 (ninS (Exa.ne E51 E50 (by decide)) nin0)
    have U58 : own_Un Z T46.heap bt .long nn := U44.keep Kq46 (ninS (Exa.ne E52 E50 (by decide)) nin0)
    have U59 : own_Un Z T46.heap bc .byte (104 : Int32) := U45.keep Kq46 (ninS (Exa.ne E49 E50 (by decide)) nin0)
    have sz46 : n0 ≤ T46.heap.size := Nat.le_trans sz31 Kq46.1
    have K46 : Keep h0 T46.heap [bc, bo, bh, bt] := (K31).trans Kq46 (allS (Or.inl (List.mem_of_getElem? (i := 1) rfl)) all0)
    refine own_Goes.via (T' := T46) (g' := (mkF m 77 #[.val (.ref ao), .val (.int xf), .val (.int xo), .val (.int xt), .val (.int v4), .val (.int xi6), .val (.int v11)] [])) (fun t_ k_ => st46.trans k_) ?_
    refine own_Goes.via (T' := T46) (g' := (mkF m 119 #[.val (.ref ao), .val (.int xf), .val (.int xo), .val (.int xt), .val (.int v4), .val (.int xi6), .val (.int v11)] [])) (fun t_ k_ => XS.goto X46.here hx rfl (pc0 := 77) (pc' := 119) rfl (hb hby d11_77) (by decide) (by decide) k_) ?_
    refine own_Goes.via (T' := T46) (g' := (mkF m 120 #[.val (.ref ao), .val (.int xf), .val (.int xo), .val (.int xt), .val (.int v4), .val (.int xi6), .val (.int v11)] [(.ref ao)])) (fun t_ k_ => XS.aloadN X46.here hx rfl (hb hby d11_119) rfl rfl k_) ?_
    refine own_Goes.via (T' := T46) (g' := (mkF m 121 #[.val (.ref ao), .val (.int xf), .val (.int xo), .val (.int xt), .val (.int v4), .val (.int xi6), .val (.int v11)] [(.int xf), (.ref ao)])) (fun t_ k_ => XS.iloadN X46.here hx rfl (hb hby d11_120) rfl k_) ?_
    refine own_Goes.via (T' := T46) (g' := (mkF m 123 #[.val (.ref ao), .val (.int xf), .val (.int xo), .val (.int xt), .val (.int v4), .val (.int xi6), .val (.int v11)] [(.int xi6), (.int xf), (.ref ao)])) (fun t_ k_ => XS.iload X46.here hx rfl (hb hby d11_121) rfl k_) ?_
    have cd123_61 : ¬ xf < 0 ∧ xf < nn := by first | assumption | decide
    obtain ⟨cq60, q60, q60'⟩ := E48.cell
    obtain ⟨_, _, ⟨T60, L60, k60, n60⟩, -, X60, ⟨Lc60, hQ60, l60, y60, z60⟩, st60⟩ := X46.privateBack hx (y := (⟨"com/example/wildsuit/wildsuit/game/Row", "release", "(II)V"⟩ : MethodName)) hown (mvT hZ (hw _ (List.mem_of_getElem? (i := 65) rfl))) (mvT hZ (hw _ (List.mem_of_getElem? (i := 66) rfl))) (mvT hZ (own_selP (y := (⟨"com/example/wildsuit/wildsuit/game/Row", "release", "(II)V"⟩ : MethodName)) (hw _ (List.mem_of_getElem? (i := 23) rfl)) rfl (hw _ (List.mem_of_getElem? (i := 67) rfl)) (hw _ (List.mem_of_getElem? (i := 66) rfl)) (by decide))) (Cond.privateMethod_at (mvP hZ (hw _ (List.mem_of_getElem? (i := 67) rfl)) (args := #[]))) (mvT hZ (hw _ (List.mem_of_getElem? (i := 68) rfl))) (by decide) (backOf (W := 0) (rm12 l Z a0 hw [] ao xf xi6 bh bt nn T46.heap n0 sz46 E48 E51 E52 F55 F56 U57 U58 PN0 ge_bh ge_bt cd123_61) hZ (hw _ (List.mem_of_getElem? (i := 68) rfl)) (hw _ (List.mem_of_getElem? (i := 3) rfl)) (by decide) (by decide)) (g := (mkF m 123 #[.val (.ref ao), .val (.int xf), .val (.int xo), .val (.int xt), .val (.int v4), .val (.int xi6), .val (.int v11)] [(.int xi6), (.int xf), (.ref ao)])) rfl (by rw [hml]; rfl) (Steps.refl _) (a := ao) q60 q60' (argsL := [(.int xf), (.int xi6)]) (rest := []) (lenOf pd_11_1 rfl) rfl (by show 2 * 0 + _ ≤ _; exact Nat.le_of_eq rfl) (hb hby d11_123) (fun _ _ => ⟨rfl, rfl, (by decide : 0 + 0 ≤ _), (by decide : 0 + 0 ≤ _)⟩)
    dsimp only [Pt.U, Pt.locs, Pt.cells, Pt.slots] at X60 l60 y60 z60 st60 hQ60
    subst l60 y60 z60
    obtain ⟨rfl, Nq60, Kq60, pf60_0, pf60_1⟩ := hQ60
    have N60 := Fr.app N46 Nq60
    have E62 : Exa Z T60.heap ao "com/example/wildsuit/wildsuit/game/Row" := E48.keep Kq60
    have E63 : Exa Z T60.heap bc "[B" := E49.keep Kq60
    have E64 : Exa Z T60.heap bo "[I" := E50.keep Kq60
    have E65 : Exa Z T60.heap bh "[J" := E51.keep Kq60
    have E66 : Exa Z T60.heap bt "[J" := E52.keep Kq60
    have F67 : Fld Z T60.heap ao "com/example/wildsuit/wildsuit/game/Row" "cards" "[B" (.ref bc) := F53.keep Kq60 (ninS (Exa.ne E62 E65 (by decide)) (ninS (Exa.ne E62 E66 (by decide)) nin0))
    have F68 : Fld Z T60.heap ao "com/example/wildsuit/wildsuit/game/Row" "borders" "[I" (.ref bo) := F54.keep Kq60 (ninS (Exa.ne E62 E65 (by decide)) (ninS (Exa.ne E62 E66 (by decide)) nin0))
    have F69 : Fld Z T60.heap ao "com/example/wildsuit/wildsuit/game/Row" "held" "[J" (.ref bh) := F55.keep Kq60 (ninS (Exa.ne E62 E65 (by decide)) (ninS (Exa.ne E62 E66 (by decide)) nin0))
    have F70 : Fld Z T60.heap ao "com/example/wildsuit/wildsuit/game/Row" "heldTwice" "[J" (.ref bt) := F56.keep Kq60 (ninS (Exa.ne E62 E65 (by decide)) (ninS (Exa.ne E62 E66 (by decide)) nin0))
    have U71 : own_Un Z T60.heap bc .byte (104 : Int32) := U59.keep Kq60 (ninS (Exa.ne E63 E65 (by decide)) (ninS (Exa.ne E63 E66 (by decide)) nin0))
    have G72 : own_Gi Z T60.heap bo .int xm (own_mv B xf xt (-1 : Int32)) := pf46_0.keep Kq60 (ninS (Exa.ne E64 E65 (by decide)) (ninS (Exa.ne E64 E66 (by decide)) nin0))
    have sz60 : n0 ≤ T60.heap.size := Nat.le_trans sz46 Kq60.1
    have K60 : Keep h0 T60.heap [bc, bo, bh, bt] := (K46).trans Kq60 (allS (Or.inl (List.mem_of_getElem? (i := 2) rfl)) (allS (Or.inl (List.mem_of_getElem? (i := 3) rfl)) all0))
    refine own_Goes.via (T' := T60) (g' := (mkF m 126 #[.val (.ref ao), .val (.int xf), .val (.int xo), .val (.int xt), .val (.int v4), .val (.int xi6), .val (.int v11)] [])) (fun t_ k_ => st60.trans k_) ?_
    refine own_Goes.via (T' := T60) (g' := (mkF m 127 #[.val (.ref ao), .val (.int xf), .val (.int xo), .val (.int xt), .val (.int v4), .val (.int xi6), .val (.int v11)] [(.ref ao)])) (fun t_ k_ => XS.aloadN X60.here hx rfl (hb hby d11_126) rfl rfl k_) ?_
    refine own_Goes.via (T' := T60) (g' := (mkF m 128 #[.val (.ref ao), .val (.int xf), .val (.int xo), .val (.int xt), .val (.int v4), .val (.int xi6), .val (.int v11)] [(.int xt), (.ref ao)])) (fun t_ k_ => XS.iloadN X60.here hx rfl (hb hby d11_127) rfl k_) ?_
    refine own_Goes.via (T' := T60) (g' := (mkF m 130 #[.val (.ref ao), .val (.int xf), .val (.int xo), .val (.int xt), .val (.int v4), .val (.int xi6), .val (.int v11)] [(.int xi6), (.int xt), (.ref ao)])) (fun t_ k_ => XS.iload X60.here hx rfl (hb hby d11_128) rfl k_) ?_
    have cd130_74 : ¬ xt < 0 ∧ xt < nn := by first | assumption | decide
    obtain ⟨cq73, q73, q73'⟩ := E62.cell
    obtain ⟨_, _, ⟨T73, L73, k73, n73⟩, -, X73, ⟨Lc73, hQ73, l73, y73, z73⟩, st73⟩ := X60.privateBack hx (y := (⟨"com/example/wildsuit/wildsuit/game/Row", "hold", "(II)V"⟩ : MethodName)) hown (mvT hZ (hw _ (List.mem_of_getElem? (i := 44) rfl))) (mvT hZ (hw _ (List.mem_of_getElem? (i := 45) rfl))) (mvT hZ (own_selP (y := (⟨"com/example/wildsuit/wildsuit/game/Row", "hold", "(II)V"⟩ : MethodName)) (hw _ (List.mem_of_getElem? (i := 23) rfl)) rfl (hw _ (List.mem_of_getElem? (i := 46) rfl)) (hw _ (List.mem_of_getElem? (i := 45) rfl)) (by decide))) (Cond.privateMethod_at (mvP hZ (hw _ (List.mem_of_getElem? (i := 46) rfl)) (args := #[]))) (mvT hZ (hw _ (List.mem_of_getElem? (i := 47) rfl))) (by decide) (backOf (W := 0) (rm7 l Z a0 hw [] ao xt xi6 bh bt nn T60.heap n0 sz60 E62 E65 E66 F69 F70 pf60_0 pf60_1 PN0 ge_bh ge_bt cd130_74) hZ (hw _ (List.mem_of_getElem? (i := 47) rfl)) (hw _ (List.mem_of_getElem? (i := 3) rfl)) (by decide) (by decide)) (g := (mkF m 130 #[.val (.ref ao), .val (.int xf), .val (.int xo), .val (.int xt), .val (.int v4), .val (.int xi6), .val (.int v11)] [(.int xi6), (.int xt), (.ref ao)])) rfl (by rw [hml]; rfl) (Steps.refl _) (a := ao) q73 q73' (argsL := [(.int xt), (.int xi6)]) (rest := []) (lenOf pd_11_1 rfl) rfl (by show 2 * 0 + _ ≤ _; exact Nat.le_of_eq rfl) (hb hby d11_130) (fun _ _ => ⟨rfl, rfl, (by decide : 0 + 0 ≤ _), (by decide : 0 + 0 ≤ _)⟩)
    dsimp only [Pt.U, Pt.locs, Pt.cells, Pt.slots] at X73 l73 y73 z73 st73 hQ73
    subst l73 y73 z73
    obtain ⟨rfl, Nq73, Kq73, pf73_0, pf73_1⟩ := hQ73
    have N73 := Fr.app N60 Nq73
    have E75 : Exa Z T73.heap ao "com/example/wildsuit/wildsuit/game/Row" := E62.keep Kq73
    have E76 : Exa Z T73.heap bc "[B" := E63.keep Kq73
    have E77 : Exa Z T73.heap bo "[I" := E64.keep Kq73
    have E78 : Exa Z T73.heap bh "[J" := E65.keep Kq73
    have E79 : Exa Z T73.heap bt "[J" := E66.keep Kq73
    have F80 : Fld Z T73.heap ao "com/example/wildsuit/wildsuit/game/Row" "cards" "[B" (.ref bc) := F67.keep Kq73 (ninS (Exa.ne E75 E78 (by decide)) (ninS (Exa.ne E75 E79 (by decide)) nin0))
    have F81 : Fld Z T73.heap ao "com/example/wildsuit/wildsuit/game/Row" "borders" "[I" (.ref bo) := F68.keep Kq73 (ninS (Exa.ne E75 E78 (by decide)) (ninS (Exa.ne E75 E79 (by decide)) nin0))
    have F82 : Fld Z T73.heap ao "com/example/wildsuit/wildsuit/game/Row" "held" "[J" (.ref bh) := F69.keep Kq73 (ninS (Exa.ne E75 E78 (by decide)) (ninS (Exa.ne E75 E79 (by decide)) nin0))
    have F83 : Fld Z T73.heap ao "com/example/wildsuit/wildsuit/game/Row" "heldTwice" "[J" (.ref bt) := F70.keep Kq73 (ninS (Exa.ne E75 E78 (by decide)) (ninS (Exa.ne E75 E79 (by decide)) nin0))
    have U84 : own_Un Z T73.heap bc .byte (104 : Int32) := U71.keep Kq73 (ninS (Exa.ne E76 E78 (by decide)) (ninS (Exa.ne E76 E79 (by decide)) nin0))
    have G85 : own_Gi Z T73.heap bo .int xm (own_mv B xf xt (-1 : Int32)) := G72.keep Kq73 (ninS (Exa.ne E77 E78 (by decide)) (ninS (Exa.ne E77 E79 (by decide)) nin0))
    have sz73 : n0 ≤ T73.heap.size := Nat.le_trans sz60 Kq73.1
    have K73 : Keep h0 T73.heap [bc, bo, bh, bt] := (K60).trans Kq73 (allS (Or.inl (List.mem_of_getElem? (i := 2) rfl)) (allS (Or.inl (List.mem_of_getElem? (i := 3) rfl)) all0))
    refine own_Goes.via (T' := T73) (g' := (mkF m 133 #[.val (.ref ao), .val (.int xf), .val (.int xo), .val (.int xt), .val (.int v4), .val (.int xi6), .val (.int v11)] [])) (fun t_ k_ => st73.trans k_) ?_
    obtain ⟨fs, hr, hrun, hended, hW, hsame⟩ := X73.leave (v := none) (fun _ => rfl)
    refine own_Goes.fin (X73.returnOut hx Bd.returns (hb hby d11_133) hr) hrun hended ?_
    subst hPd
    refine ⟨_, _, rfl, ?_, ⟨_, rfl⟩, hW, hsame.mono (by decide) (by decide)⟩
    show Q11 Z ao xf xo xt bc bo bh bt xm nn B h0 n0 _ T73.heap _
    exact ⟨rfl, N73, K73, U84, (by subst hv11; subst hv4; first | exact G85 | (simp only [own_tr, if_pos hc31_12]; exact G85)), pf73_0, pf73_1⟩
  · refine own_Goes.via (T' := T8) (g' := (mkF m 80 #[.val (.ref ao), .val (.int xf), .val (.int xo), .val (.int xt), .val (.int v4), .val (.int xi6), .val (.int v11)] [])) (fun t_ k_ => XS.icmpYes X8.here hx rfl (pc0 := 31) (pc' := 80) rfl (hb hby d11_31) rfl (flt hc31_12).2.2.2 (by decide) (by decide) k_) ?_
    refine own_Goes.via (T' := T8) (g' := (mkF m 81 #[.val (.ref ao), .val (.int xf), .val (.int xo), .val (.int xt), .val (.int v4), .val (.int xi6), .val (.int v11)] [(.ref ao)])) (fun t_ k_ => XS.aloadN X8.here hx rfl (hb hby d11_80) rfl rfl k_) ?_
    obtain ⟨T86, X86, e86, st86⟩ := getF X8 hx hZ hown (host := "") (Or.inl (hw _ (List.mem_of_getElem? (i := 11) rfl))) Via.refl e8 PF5 (g := (mkF m 81 #[.val (.ref ao), .val (.int xf), .val (.int xo), .val (.int xt), .val (.int v4), .val (.int xi6), .val (.int v11)] [(.ref ao)])) rfl rfl (hb hby d11_81)
    refine own_Goes.via (T' := T86) (g' := (mkF m 84 #[.val (.ref ao), .val (.int xf), .val (.int xo), .val (.int xt), .val (.int v4), .val (.int xi6), .val (.int v11)] [(.ref bc)])) (st86) ?_
    refine own_Goes.via (T' := T86) (g' := (mkF m 86 #[.val (.ref ao), .val (.int xf), .val (.int xo), .val (.int xt), .val (.int v4), .val (.int xi6), .val (.int v11)] [(.int v11), (.ref bc)])) (fun t_ k_ => XS.iload X86.here hx rfl (hb hby d11_84) rfl k_) ?_
    refine own_Goes.via (T' := T86) (g' := (mkF m 87 #[.val (.ref ao), .val (.int xf), .val (.int xo), .val (.int xt), .val (.int v4), .val (.int xi6), .val (.int v11)] [(.ref ao), (.int v11), (.ref bc)])) (fun t_ k_ => XS.aloadN X86.here hx rfl (hb hby d11_86) rfl rfl k_) ?_
    obtain ⟨T87, X87, e87, st87⟩ := getF X86 hx hZ hown (host := "") (Or.inl (hw _ (List.mem_of_getElem? (i := 11) rfl))) Via.refl e86 PF5 (g := (mkF m 87 #[.val (.ref ao), .val (.int xf), .val (.int xo), .val (.int xt), .val (.int v4), .val (.int xi6), .val (.int v11)] [(.ref ao), (.int v11), (.ref bc)])) rfl rfl (hb hby d11_87)
    refine own_Goes.via (T' := T87) (g' := (mkF m 90 #[.val (.ref ao), .val (.int xf), .val (.int xo), .val (.int xt), .val (.int v4), .val (.int xi6), .val (.int v11)] [(.ref bc), (.int v11), (.ref bc)])) (st87) ?_
    refine own_Goes.via (T' := T87) (g' := (mkF m 92 #[.val (.ref ao), .val (.int xf), .val (.int xo), .val (.int xt), .val (.int v4), .val (.int xi6), .val (.int v11)] [(.int v11), (.ref bc), (.int v11), (.ref bc)])) (fun t_ k_ => XS.iload X87.here hx rfl (hb hby d11_90) rfl k_) ?_
    refine own_Goes.via (T' := T87) (g' := (mkF m 93 #[.val (.ref ao), .val (.int xf), .val (.int xo), .val (.int xt), .val (.int v4), .val (.int xi6), .val (.int v11)] [(.int (1 : Int32)), (.int v11), (.ref bc), (.int v11), (.ref bc)])) (fun t_ k_ => XS.iconst X87.here hx rfl (hb hby d11_92) k_) ?_
    refine own_Goes.via (T' := T87) (g' := (mkF m 94 #[.val (.ref ao), .val (.int xf), .val (.int xo), .val (.int xt), .val (.int v4), .val (.int xi6), .val (.int v11)] [(.int (v11 + (1 : Int32))), (.ref bc), (.int v11), (.ref bc)])) (fun t_ k_ => XS.iadd X87.here hx rfl (hb hby d11_93) rfl k_) ?_
    refine own_Goes.via (T' := T87) (g' := (mkF m 96 #[.val (.ref ao), .val (.int xf), .val (.int xo), .val (.int xt), .val (.int v4), .val (.int xi6), .val (.int v11)] [(.int v4), (.int (v11 + (1 : Int32))), (.ref bc), (.int v11), (.ref bc)])) (fun t_ k_ => XS.iload X87.here hx rfl (hb hby d11_94) rfl k_) ?_
    refine own_Goes.via (T' := T87) (g' := (mkF m 98 #[.val (.ref ao), .val (.int xf), .val (.int xo), .val (.int xt), .val (.int v4), .val (.int xi6), .val (.int v11)] [(.int v11), (.int v4), (.int (v11 + (1 : Int32))), (.ref bc), (.int v11), (.ref bc)])) (fun t_ k_ => XS.iload X87.here hx rfl (hb hby d11_96) rfl k_) ?_
    refine own_Goes.via (T' := T87) (g' := (mkF m 99 #[.val (.ref ao), .val (.int xf), .val (.int xo), .val (.int xt), .val (.int v4), .val (.int xi6), .val (.int v11)] [(.int (v4 - v11)), (.int (v11 + (1 : Int32))), (.ref bc), (.int v11), (.ref bc)])) (fun t_ k_ => XS.isub X87.here hx rfl (hb hby d11_98) rfl k_) ?_
    have cp99_89 : own_cp v11 (v11 + (1 : Int32)) (v4 - v11) (104 : Int32) (104 : Int32) := own_pl11_3 hv4 hv11 hc31_12 hone hf hf1 ht ht1 hT in5_3 in16_7 in26_10
    obtain ⟨ks88, vs88, As88, ls88⟩ := PF10.arv
    obtain ⟨kd88, vd88, Ad88, ld88⟩ := PF10.arv
    obtain ⟨T88, h88, L88, X88, e88, N88, Kq88, A88, st88⟩ := cpA X87 hx hZ hown (hw _ (List.mem_of_getElem? (i := 36) rfl)) (hw _ (List.mem_of_getElem? (i := 39) rfl)) (hw _ (List.mem_of_getElem? (i := 37) rfl)) (hw _ (List.mem_of_getElem? (i := 38) rfl)) e87 As88 Ad88 (Or.inl ⟨rfl, rfl⟩) cp99_89.1 cp99_89.2.1 cp99_89.2.2.1 cp99_89.2.2.2.1 cp99_89.2.2.2.2 rfl (by rw [ld88]; exact cp99_89.2.2.2.2) N0 ge_bc (g := (mkF m 99 #[.val (.ref ao), .val (.int xf), .val (.int xo), .val (.int xt), .val (.int v4), .val (.int xi6), .val (.int v11)] [(.int (v4 - v11)), (.int (v11 + (1 : Int32))), (.ref bc), (.int v11), (.ref bc)])) rfl (by rw [hml]; rfl) rfl (hb hby d11_99) (by decide) (W := 0) (by show 2 * 0 + _ ≤ _; exact Nat.le_of_eq rfl) (by decide)
    have E90 : Exa Z h88 ao "com/example/wildsuit/wildsuit/game/Row" := PF0.keep Kq88
    have E91 : Exa Z h88 bc "[B" := PF1.keep Kq88
    have E92 : Exa Z h88 bo "[I" := PF2.keep Kq88
    have E93 : Exa Z h88 bh "[J" := PF3.keep Kq88
    have E94 : Exa Z h88 bt "[J" := PF4.keep Kq88
    have F95 : Fld Z h88 ao "com/example/wildsuit/wildsuit/game/Row" "cards" "[B" (.ref bc) := PF5.keep Kq88 (ninS (Exa.ne E90 E91 (by decide)) nin0)
    have F96 : Fld Z h88 ao "com/example/wildsuit/wildsuit/game/Row" "borders" "[I" (.ref bo) := PF6.keep Kq88 (ninS (Exa.ne E90 E91 (by decide)) nin0)
    have F97 : Fld Z h88 ao "com/example/wildsuit/wildsuit/game/Row" "held" "[J" (.ref bh) := PF7.keep Kq88 (ninS (Exa.ne E90 E91 (by decide)) nin0)
    have F98 : Fld Z h88 ao "com/example/wildsuit/wildsuit/game/Row" "heldTwice" "[J" (.ref bt) := PF8.keep Kq88 (ninS (Exa.ne E90 E91 (by decide)) nin0)
    have G99 : own_Gi Z h88 bo .int xm B := PF9.keep Kq88 (ninS (Exa.ne E92 E91 (by decide)) nin0)
    have U100 : own_Un Z h88 bh .long nn := PF11.keep Kq88 (ninS (Exa.ne E93 E91 (by decide)) nin0)
    have U101 : own_Un Z h88 bt .long nn := PF12.keep Kq88 (ninS (Exa.ne E94 E91 (by decide)) nin0)
    have U102 : own_Un Z h88 bc .byte (104 : Int32) := own_Un.of A88
    have sz88 : n0 ≤ h88.size := Nat.le_trans Z0 Kq88.1
    have K88 : Keep h0 h88 [bc, bo, bh, bt] := ((Keep.refl h0 [bc, bo, bh, bt])).trans Kq88 (allS (Or.inl (List.mem_of_getElem? (i := 0) rfl)) all0)
    refine own_Goes.via (T' := T88) (g' := (mkF m 102 #[.val (.ref ao), .val (.int xf), .val (.int xo), .val (.int xt), .val (.int v4), .val (.int xi6), .val (.int v11)] [])) (st88) ?_
    refine own_Goes.via (T' := T88) (g' := (mkF m 103 #[.val (.ref ao), .val (.int xf), .val (.int xo), .val (.int xt), .val (.int v4), .val (.int xi6), .val (.int v11)] [(.ref ao)])) (fun t_ k_ => XS.aloadN X88.here hx rfl (hb hby d11_102) rfl rfl k_) ?_
    obtain ⟨T103, X103, e103, st103⟩ := getF X88 hx hZ hown (host := "") (Or.inl (hw _ (List.mem_of_getElem? (i := 11) rfl))) Via.refl e88 F95 (g := (mkF m 103 #[.val (.ref ao), .val (.int xf), .val (.int xo), .val (.int xt), .val (.int v4), .val (.int xi6), .val (.int v11)] [(.ref ao)])) rfl rfl (hb hby d11_103)
    refine own_Goes.via (T' := T103) (g' := (mkF m 106 #[.val (.ref ao), .val (.int xf), .val (.int xo), .val (.int xt), .val (.int v4), .val (.int xi6), .val (.int v11)] [(.ref bc)])) (st103) ?_
    refine own_Goes.via (T' := T103) (g' := (mkF m 108 #[.val (.ref ao), .val (.int xf), .val (.int xo), .val (.int xt), .val (.int v4), .val (.int xi6), .val (.int v11)] [(.int v11), (.ref bc)])) (fun t_ k_ => XS.iload X103.here hx rfl (hb hby d11_106) rfl k_) ?_
    refine own_Goes.via (T' := T103) (g' := (mkF m 110 #[.val (.ref ao), .val (.int xf), .val (.int xo), .val (.int xt), .val (.int v4), .val (.int xi6), .val (.int v11)] [(.int xi6), (.int v11), (.ref bc)])) (fun t_ k_ => XS.iload X103.here hx rfl (hb hby d11_108) rfl k_) ?_
    refine own_Goes.via (T' := T103) (g' := (mkF m 111 #[.val (.ref ao), .val (.int xf), .val (.int xo), .val (.int xt), .val (.int v4), .val (.int xi6), .val (.int v11)] [(.int (xi6.toInt8.toInt32)), (.int v11), (.ref bc)])) (fun t_ k_ => XS.i2b X103.here hx rfl (hb hby d11_110) rfl k_) ?_
    obtain ⟨cl104, Ar104, Sl104, Ng104, -⟩ := id U102
    have in111_105 : ¬ v11 < 0 ∧ v11 < (104 : Int32) := own_pl11_4 hv4 hv11 hc31_12 hone hf hf1 ht ht1 hT in5_3 in16_7 in26_10 cp99_89
    obtain ⟨T104, h104, X104, e104, W104, st104⟩ := stB X103 hx hZ e103 Ar104 (j := v11) (inb_of Sl104 in111_105) (g := (mkF m 111 #[.val (.ref ao), .val (.int xf), .val (.int xo), .val (.int xt), .val (.int v4), .val (.int xi6), .val (.int v11)] [(.int (xi6.toInt8.toInt32)), (.int v11), (.ref bc)])) rfl rfl (hb hby d11_111)
    have E106 : Exa Z h104 ao "com/example/wildsuit/wildsuit/game/Row" := E90.wr W104
    have E107 : Exa Z h104 bc "[B" := E91.wr W104
    have E108 : Exa Z h104 bo "[I" := E92.wr W104
    have E109 : Exa Z h104 bh "[J" := E93.wr W104
    have E110 : Exa Z h104 bt "[J" := E94.wr W104
    have F111 : Fld Z h104 ao "com/example/wildsuit/wildsuit/game/Row" "cards" "[B" (.ref bc) := F95.other W104 (Or.inl (Exa.ne E106 E107 (by decide)))
    have F112 : Fld Z h104 ao "com/example/wildsuit/wildsuit/game/Row" "borders" "[I" (.ref bo) := F96.other W104 (Or.inl (Exa.ne E106 E107 (by decide)))
    have F113 : Fld Z h104 ao "com/example/wildsuit/wildsuit/game/Row" "held" "[J" (.ref bh) := F97.other W104 (Or.inl (Exa.ne E106 E107 (by decide)))
    have F114 : Fld Z h104 ao "com/example/wildsuit/wildsuit/game/Row" "heldTwice" "[J" (.ref bt) := F98.other W104 (Or.inl (Exa.ne E106 E107 (by decide)))
    have G115 : own_Gi Z h104 bo .int xm B := G99.other W104 (Exa.ne E108 E107 (by decide))
    have U116 : own_Un Z h104 bh .long nn := U100.other W104 (Exa.ne E109 E107 (by decide))
    have U117 : own_Un Z h104 bt .long nn := U101.other W104 (Exa.ne E110 E107 (by decide))
    have U118 : own_Un Z h104 bc .byte (104 : Int32) := U102.set W104 (fits_nar_byte _)
    have N104 := Fr.snoc X104 N88 ge_bc
    have sz104 : n0 ≤ h104.size := Nat.le_trans sz88 (Keep.of_wr W104).1
    have K104 : Keep h0 h104 [bc, bo, bh, bt] := (K88).wr W104 (Or.inl (List.mem_of_getElem? (i := 0) rfl))
    refine own_Goes.via (T' := T104) (g' := (mkF m 112 #[.val (.ref ao), .val (.int xf), .val (.int xo), .val (.int xt), .val (.int v4), .val (.int xi6), .val (.int v11)] [])) (st104) ?_
    refine own_Goes.via (T' := T104) (g' := (mkF m 113 #[.val (.ref ao), .val (.int xf), .val (.int xo), .val (.int xt), .val (.int v4), .val (.int xi6), .val (.int v11)] [(.ref ao)])) (fun t_ k_ => XS.aloadN X104.here hx rfl (hb hby d11_112) rfl rfl k_) ?_
    refine own_Goes.via (T' := T104) (g' := (mkF m 114 #[.val (.ref ao), .val (.int xf), .val (.int xo), .val (.int xt), .val (.int v4), .val (.int xi6), .val (.int v11)] [(.int xt), (.ref ao)])) (fun t_ k_ => XS.iloadN X104.here hx rfl (hb hby d11_113) rfl k_) ?_
    refine own_Goes.via (T' := T104) (g' := (mkF m 115 #[.val (.ref ao), .val (.int xf), .val (.int xo), .val (.int xt), .val (.int v4), .val (.int xi6), .val (.int v11)] [(.int xf), (.int xt), (.ref ao)])) (fun t_ k_ => XS.iloadN X104.here hx rfl (hb hby d11_114) rfl k_) ?_
    refine own_Goes.via (T' := T104) (g' := (mkF m 116 #[.val (.ref ao), .val (.int xf), .val (.int xo), .val (.int xt), .val (.int v4), .val (.int xi6), .val (.int v11)] [(.int (1 : Int32)), (.int xf), (.int xt), (.ref ao)])) (fun t_ k_ => XS.iconst X104.here hx rfl (hb hby d11_115) k_) ?_
    have cd116_120 : (0 : Int32) < xm := by first | assumption | decide
    obtain ⟨cq119, q119, q119'⟩ := E106.cell
    obtain ⟨_, _, ⟨T119, L119, k119, n119⟩, -, X119, ⟨Lc119, hQ119, l119, y119, z119⟩, st119⟩ := X104.privateBack hx (y := (⟨"com/example/wildsuit/wildsuit/game/Row", "moveBorders", "(III)V"⟩ : MethodName)) hown (mvT hZ (hw _ (List.mem_of_getElem? (i := 40) rfl))) (mvT hZ (hw _ (List.mem_of_getElem? (i := 41) rfl))) (mvT hZ (own_selP (y := (⟨"com/example/wildsuit/wildsuit/game/Row", "moveBorders", "(III)V"⟩ : MethodName)) (hw _ (List.mem_of_getElem? (i := 23) rfl)) rfl (hw _ (List.mem_of_getElem? (i := 42) rfl)) (hw _ (List.mem_of_getElem? (i := 41) rfl)) (by decide))) (Cond.privateMethod_at (mvP hZ (hw _ (List.mem_of_getElem? (i := 42) rfl)) (args := #[]))) (mvT hZ (hw _ (List.mem_of_getElem? (i := 43) rfl))) (by decide) (backOf (W := 0) (rm6 l Z a0 hw [] ao xt xf (1 : Int32) bo xm B h104 n0 sz104 E106 E108 F112 G115 ge_bo cd116_120) hZ (hw _ (List.mem_of_getElem? (i := 43) rfl)) (hw _ (List.mem_of_getElem? (i := 3) rfl)) (by decide) (by decide)) (g := (mkF m 116 #[.val (.ref ao), .val (.int xf), .val (.int xo), .val (.int xt), .val (.int v4), .val (.int xi6), .val (.int v11)] [(.int (1 : Int32)), (.int xf), (.int xt), (.ref ao)])) rfl (by rw [hml]; rfl) (Steps.refl _) (a := ao) (by rw [e104]; exact q119) q119' (argsL := [(.int xt), (.int xf), (.int (1 : Int32))]) (rest := []) (lenOf pd_11_0 rfl) rfl (by show 2 * 0 + _ ≤ _; exact Nat.le_of_eq rfl) (hb hby d11_116) (fun _ _ => ⟨rfl, e104, (by decide : 0 + 0 ≤ _), (by decide : 0 + 0 ≤ _)⟩)
    dsimp only [Pt.U, Pt.locs, Pt.cells, Pt.slots] at X119 l119 y119 z119 st119 hQ119
    subst l119 y119 z119
    obtain ⟨rfl, Nq119, Kq119, pf119_0⟩ := hQ119
    have N119 := Fr.app N104 Nq119
    have E121 : Exa Z T119.heap ao "com/example/wildsuit/wildsuit/game/Row" := E106.keep Kq119
    have E122 : Exa Z T119.heap bc "[B" := E107.keep Kq119
    have E123 : Exa Z T119.heap bo "[I" := E108.keep Kq119
    have E124 : Exa Z T119.heap bh "[J" := E109.keep Kq119
    have E125 : Exa Z T119.heap bt "[J" := E110.keep Kq119
    have F126 : Fld Z T119.heap ao "com/example/wildsuit/wildsuit/game/Row" "cards" "[B" (.ref bc) := F111.keep Kq119 (ninS (Exa.ne E121 E123 (by decide)) nin0)
    have F127 : Fld Z T119.heap ao "com/example/wildsuit/wildsuit/game/Row" "borders" "[I" (.ref bo) := F112.keep Kq119 (ninS (Exa.ne E121 E123 (by decide)) nin0)
    have F128 : Fld Z T119.heap ao "com/example/wildsuit/wildsuit/game/Row" "held" "[J" (.ref bh) := F113.keep Kq119 (ninS (Exa.ne E121 E123 (by decide)) nin0)
    have F129 : Fld Z T119.heap ao "com/example/wildsuit/wildsuit/game/Row" "heldTwice" "[J" (.ref bt) := F114.keep Kq119 (ninS (Exa.ne E121 E123 (by decide)) nin0)
    have U130 : own_Un Z T119.heap bh .long nn := U116.keep Kq119 (ninS (Exa.ne E124 E123 (by decide)) nin0)
    have U131 : own_Un Z T119.heap bt .long nn := U117.keep Kq119 (ninS (Exa.ne E125 E123 (by decide)) nin0)
    have U132 : own_Un Z T119.heap bc .byte (104 : Int32) := U118.keep Kq119 (ninS (Exa.ne E122 E123 (by decide)) nin0)
    have sz119 : n0 ≤ T119.heap.size := Nat.le_trans sz104 Kq119.1
    have K119 : Keep h0 T119.heap [bc, bo, bh, bt] := (K104).trans Kq119 (allS (Or.inl (List.mem_of_getElem? (i := 1) rfl)) all0)
    refine own_Goes.via (T' := T119) (g' := (mkF m 119 #[.val (.ref ao), .val (.int xf), .val (.int xo), .val (.int xt), .val (.int v4), .val (.int xi6), .val (.int v11)] [])) (fun t_ k_ => st119.trans k_) ?_
    refine own_Goes.via (T' := T119) (g' := (mkF m 120 #[.val (.ref ao), .val (.int xf), .val (.int xo), .val (.int xt), .val (.int v4), .val (.int xi6), .val (.int v11)] [(.ref ao)])) (fun t_ k_ => XS.aloadN X119.here hx rfl (hb hby d11_119) rfl rfl k_) ?_
    refine own_Goes.via (T' := T119) (g' := (mkF m 121 #[.val (.ref ao), .val (.int xf), .val (.int xo), .val (.int xt), .val (.int v4), .val (.int xi6), .val (.int v11)] [(.int xf), (.ref ao)])) (fun t_ k_ => XS.iloadN X119.here hx rfl (hb hby d11_120) rfl k_) ?_
    refine own_Goes.via (T' := T119) (g' := (mkF m 123 #[.val (.ref ao), .val (.int xf), .val (.int xo), .val (.int xt), .val (.int v4), .val (.int xi6), .val (.int v11)] [(.int xi6), (.int xf), (.ref ao)])) (fun t_ k_ => XS.iload X119.here hx rfl (hb hby d11_121) rfl k_) ?_
    have cd123_134 : ¬ xf < 0 ∧ xf < nn := by first | assumption | decide
    obtain ⟨cq133, q133, q133'⟩ := E121.cell
    obtain ⟨_, _, ⟨T133, L133, k133, n133⟩, -, X133, ⟨Lc133, hQ133, l133, y133, z133⟩, st133⟩ := X119.privateBack hx (y := (⟨"com/example/wildsuit/wildsuit/game/Row", "release", "(II)V"⟩ : MethodName)) hown (mvT hZ (hw _ (List.mem_of_getElem? (i := 65) rfl))) (mvT hZ (hw _ (List.mem_of_getElem? (i := 66) rfl))) (mvT hZ (own_selP (y := (⟨"com/example/wildsuit/wildsuit/game/Row", "release", "(II)V"⟩ : MethodName)) (hw _ (List.mem_of_getElem? (i := 23) rfl)) rfl (hw _ (List.mem_of_getElem? (i := 67) rfl)) (hw _ (List.mem_of_getElem? (i := 66) rfl)) (by decide))) (Cond.privateMethod_at (mvP hZ (hw _ (List.mem_of_getElem? (i := 67) rfl)) (args := #[]))) (mvT hZ (hw _ (List.mem_of_getElem? (i := 68) rfl))) (by decide) (backOf (W := 0) (rm12 l Z a0 hw [] ao xf xi6 bh bt nn T119.heap n0 sz119 E121 E124 E125 F128 F129 U130 U131 PN0 ge_bh ge_bt cd123_134) hZ (hw _ (List.mem_of_getElem? (i := 68) rfl)) (hw _ (List.mem_of_getElem? (i := 3) rfl)) (by decide) (by decide)) (g := (mkF m 123 #[.val (.ref ao), .val (.int xf), .val (.int xo), .val (.int xt), .val (.int v4), .val (.int xi6), .val (.int v11)] [(.int xi6), (.int xf), (.ref ao)])) rfl (by rw [hml]; rfl) (Steps.refl _) (a := ao) q133 q133' (argsL := [(.int xf), (.int xi6)]) (rest := []) (lenOf pd_11_1 rfl) rfl (by show 2 * 0 + _ ≤ _; exact Nat.le_of_eq rfl) (hb hby d11_123) (fun _ _ => ⟨rfl, rfl, (by decide : 0 + 0 ≤ _), (by decide : 0 + 0 ≤ _)⟩)
    dsimp only [Pt.U, Pt.locs, Pt.cells, Pt.slots] at X133 l133 y133 z133 st133 hQ133
    subst l133 y133 z133
    obtain ⟨rfl, Nq133, Kq133, pf133_0, pf133_1⟩ := hQ133
    have N133 := Fr.app N119 Nq133
    have E135 : Exa Z T133.heap ao "com/example/wildsuit/wildsuit/game/Row" := E121.keep Kq133
    have E136 : Exa Z T133.heap bc "[B" := E122.keep Kq133
    have E137 : Exa Z T133.heap bo "[I" := E123.keep Kq133
    have E138 : Exa Z T133.heap bh "[J" := E124.keep Kq133
    have E139 : Exa Z T133.heap bt "[J" := E125.keep Kq133
    have F140 : Fld Z T133.heap ao "com/example/wildsuit/wildsuit/game/Row" "cards" "[B" (.ref bc) := F126.keep Kq133 (ninS (Exa.ne E135 E138 (by decide)) (ninS (Exa.ne E135 E139 (by decide)) nin0))
    have F141 : Fld Z T133.heap ao "com/example/wildsuit/wildsuit/game/Row" "borders" "[I" (.ref bo) := F127.keep Kq133 (ninS (Exa.ne E135 E138 (by decide)) (ninS (Exa.ne E135 E139 (by decide)) nin0))
    have F142 : Fld Z T133.heap ao "com/example/wildsuit/wildsuit/game/Row" "held" "[J" (.ref bh) := F128.keep Kq133 (ninS (Exa.ne E135 E138 (by decide)) (ninS (Exa.ne E135 E139 (by decide)) nin0))
    have F143 : Fld Z T133.heap ao "com/example/wildsuit/wildsuit/game/Row" "heldTwice" "[J" (.ref bt) := F129.keep Kq133 (ninS (Exa.ne E135 E138 (by decide)) (ninS (Exa.ne E135 E139 (by decide)) nin0))
    have U144 : own_Un Z T133.heap bc .byte (104 : Int32) := U132.keep Kq133 (ninS (Exa.ne E136 E138 (by decide)) (ninS (Exa.ne E136 E139 (by decide)) nin0))
    have G145 : own_Gi Z T133.heap bo .int xm (own_mv B xt xf (1 : Int32)) := pf119_0.keep Kq133 (ninS (Exa.ne E137 E138 (by decide)) (ninS (Exa.ne E137 E139 (by decide)) nin0))
    have sz133 : n0 ≤ T133.heap.size := Nat.le_trans sz119 Kq133.1
    have K133 : Keep h0 T133.heap [bc, bo, bh, bt] := (K119).trans Kq133 (allS (Or.inl (List.mem_of_getElem? (i := 2) rfl)) (allS (Or.inl (List.mem_of_getElem? (i := 3) rfl)) all0))
    refine own_Goes.via (T' := T133) (g' := (mkF m 126 #[.val (.ref ao), .val (.int xf), .val (.int xo), .val (.int xt), .val (.int v4), .val (.int xi6), .val (.int v11)] [])) (fun t_ k_ => st133.trans k_) ?_
    refine own_Goes.via (T' := T133) (g' := (mkF m 127 #[.val (.ref ao), .val (.int xf), .val (.int xo), .val (.int xt), .val (.int v4), .val (.int xi6), .val (.int v11)] [(.ref ao)])) (fun t_ k_ => XS.aloadN X133.here hx rfl (hb hby d11_126) rfl rfl k_) ?_
    refine own_Goes.via (T' := T133) (g' := (mkF m 128 #[.val (.ref ao), .val (.int xf), .val (.int xo), .val (.int xt), .val (.int v4), .val (.int xi6), .val (.int v11)] [(.int xt), (.ref ao)])) (fun t_ k_ => XS.iloadN X133.here hx rfl (hb hby d11_127) rfl k_) ?_
    refine own_Goes.via (T' := T133) (g' := (mkF m 130 #[.val (.ref ao), .val (.int xf), .val (.int xo), .val (.int xt), .val (.int v4), .val (.int xi6), .val (.int v11)] [(.int xi6), (.int xt), (.ref ao)])) (fun t_ k_ => XS.iload X133.here hx rfl (hb hby d11_128) rfl k_) ?_
    have cd130_147 : ¬ xt < 0 ∧ xt < nn := by first | assumption | decide
    obtain ⟨cq146, q146, q146'⟩ := E135.cell
    obtain ⟨_, _, ⟨T146, L146, k146, n146⟩, -, X146, ⟨Lc146, hQ146, l146, y146, z146⟩, st146⟩ := X133.privateBack hx (y := (⟨"com/example/wildsuit/wildsuit/game/Row", "hold", "(II)V"⟩ : MethodName)) hown (mvT hZ (hw _ (List.mem_of_getElem? (i := 44) rfl))) (mvT hZ (hw _ (List.mem_of_getElem? (i := 45) rfl))) (mvT hZ (own_selP (y := (⟨"com/example/wildsuit/wildsuit/game/Row", "hold", "(II)V"⟩ : MethodName)) (hw _ (List.mem_of_getElem? (i := 23) rfl)) rfl (hw _ (List.mem_of_getElem? (i := 46) rfl)) (hw _ (List.mem_of_getElem? (i := 45) rfl)) (by decide))) (Cond.privateMethod_at (mvP hZ (hw _ (List.mem_of_getElem? (i := 46) rfl)) (args := #[]))) (mvT hZ (hw _ (List.mem_of_getElem? (i := 47) rfl))) (by decide) (backOf (W := 0) (rm7 l Z a0 hw [] ao xt xi6 bh bt nn T133.heap n0 sz133 E135 E138 E139 F142 F143 pf133_0 pf133_1 PN0 ge_bh ge_bt cd130_147) hZ (hw _ (List.mem_of_getElem? (i := 47) rfl)) (hw _ (List.mem_of_getElem? (i := 3) rfl)) (by decide) (by decide)) (g := (mkF m 130 #[.val (.ref ao), .val (.int xf), .val (.int xo), .val (.int xt), .val (.int v4), .val (.int xi6), .val (.int v11)] [(.int xi6), (.int xt), (.ref ao)])) rfl (by rw [hml]; rfl) (Steps.refl _) (a := ao) q146 q146' (argsL := [(.int xt), (.int xi6)]) (rest := []) (lenOf pd_11_1 rfl) rfl (by show 2 * 0 + _ ≤ _; exact Nat.le_of_eq rfl) (hb hby d11_130) (fun _ _ => ⟨rfl, rfl, (by decide : 0 + 0 ≤ _), (by decide : 0 + 0 ≤ _)⟩)
    dsimp only [Pt.U, Pt.locs, Pt.cells, Pt.slots] at X146 l146 y146 z146 st146 hQ146
    subst l146 y146 z146
    obtain ⟨rfl, Nq146, Kq146, pf146_0, pf146_1⟩ := hQ146
    have N146 := Fr.app N133 Nq146
    have E148 : Exa Z T146.heap ao "com/example/wildsuit/wildsuit/game/Row" := E135.keep Kq146
    have E149 : Exa Z T146.heap bc "[B" := E136.keep Kq146
    have E150 : Exa Z T146.heap bo "[I" := E137.keep Kq146
    have E151 : Exa Z T146.heap bh "[J" := E138.keep Kq146
    have E152 : Exa Z T146.heap bt "[J" := E139.keep Kq146
    have F153 : Fld Z T146.heap ao "com/example/wildsuit/wildsuit/game/Row" "cards" "[B" (.ref bc) := F140.keep Kq146 (ninS (Exa.ne E148 E151 (by decide)) (ninS (Exa.ne E148 E152 (by decide)) nin0))
    have F154 : Fld Z T146.heap ao "com/example/wildsuit/wildsuit/game/Row" "borders" "[I" (.ref bo) := F141.keep Kq146 (ninS (Exa.ne E148 E151 (by decide)) (ninS (Exa.ne E148 E152 (by decide)) nin0))
    have F155 : Fld Z T146.heap ao "com/example/wildsuit/wildsuit/game/Row" "held" "[J" (.ref bh) := F142.keep Kq146 (ninS (Exa.ne E148 E151 (by decide)) (ninS (Exa.ne E148 E152 (by decide)) nin0))
    have F156 : Fld Z T146.heap ao "com/example/wildsuit/wildsuit/game/Row" "heldTwice" "[J" (.ref bt) := F143.keep Kq146 (ninS (Exa.ne E148 E151 (by decide)) (ninS (Exa.ne E148 E152 (by decide)) nin0))
    have U157 : own_Un Z T146.heap bc .byte (104 : Int32) := U144.keep Kq146 (ninS (Exa.ne E149 E151 (by decide)) (ninS (Exa.ne E149 E152 (by decide)) nin0))
    have G158 : own_Gi Z T146.heap bo .int xm (own_mv B xt xf (1 : Int32)) := G145.keep Kq146 (ninS (Exa.ne E150 E151 (by decide)) (ninS (Exa.ne E150 E152 (by decide)) nin0))
    have sz146 : n0 ≤ T146.heap.size := Nat.le_trans sz133 Kq146.1
    have K146 : Keep h0 T146.heap [bc, bo, bh, bt] := (K133).trans Kq146 (allS (Or.inl (List.mem_of_getElem? (i := 2) rfl)) (allS (Or.inl (List.mem_of_getElem? (i := 3) rfl)) all0))
    refine own_Goes.via (T' := T146) (g' := (mkF m 133 #[.val (.ref ao), .val (.int xf), .val (.int xo), .val (.int xt), .val (.int v4), .val (.int xi6), .val (.int v11)] [])) (fun t_ k_ => st146.trans k_) ?_
    obtain ⟨fs, hr, hrun, hended, hW, hsame⟩ := X146.leave (v := none) (fun _ => rfl)
    refine own_Goes.fin (X146.returnOut hx Bd.returns (hb hby d11_133) hr) hrun hended ?_
    subst hPd
    refine ⟨_, _, rfl, ?_, ⟨_, rfl⟩, hW, hsame.mono (by decide) (by decide)⟩
    show Q11 Z ao xf xo xt bc bo bh bt xm nn B h0 n0 _ T146.heap _
    exact ⟨rfl, N146, K146, U157, (by subst hv11; subst hv4; first | exact G158 | (simp only [own_tr, if_neg hc31_12]; exact G158)), pf146_0, pf146_1⟩
theorem d1_0 : decode prog_36_method_1_code 0 = .ok (.aload_n 0, 1) := by decide +kernel
theorem d1_1 : decode prog_36_method_1_code 1 = .ok (.invokespecial 1, 3) := by decide +kernel
theorem d1_4 : decode prog_36_method_1_code 4 = .ok (.aload_n 0, 1) := by decide +kernel
theorem d1_5 : decode prog_36_method_1_code 5 = .ok (.iconst 2, 1) := by decide +kernel
theorem d1_6 : decode prog_36_method_1_code 6 = .ok (.iload_n 2, 1) := by decide +kernel
theorem d1_7 : decode prog_36_method_1_code 7 = .ok (.imul, 1) := by decide +kernel
theorem d1_8 : decode prog_36_method_1_code 8 = .ok (.newarray .byte, 2) := by decide +kernel
theorem d1_10 : decode prog_36_method_1_code 10 = .ok (.putfield 7, 3) := by decide +kernel
theorem d1_13 : decode prog_36_method_1_code 13 = .ok (.aload_n 0, 1) := by decide +kernel
theorem d1_14 : decode prog_36_method_1_code 14 = .ok (.iload_n 1, 1) := by decide +kernel
theorem d1_15 : decode prog_36_method_1_code 15 = .ok (.iconst 1, 1) := by decide +kernel
theorem d1_16 : decode prog_36_method_1_code 16 = .ok (.iadd, 1) := by decide +kernel
theorem d1_17 : decode prog_36_method_1_code 17 = .ok (.newarray .int, 2) := by decide +kernel
theorem d1_19 : decode prog_36_method_1_code 19 = .ok (.putfield 13, 3) := by decide +kernel
theorem d1_22 : decode prog_36_method_1_code 22 = .ok (.aload_n 0, 1) := by decide +kernel
theorem d1_23 : decode prog_36_method_1_code 23 = .ok (.iload_n 1, 1) := by decide +kernel
theorem d1_24 : decode prog_36_method_1_code 24 = .ok (.newarray .long, 2) := by decide +kernel
theorem d1_26 : decode prog_36_method_1_code 26 = .ok (.putfield 17, 3) := by decide +kernel
theorem d1_29 : decode prog_36_method_1_code 29 = .ok (.aload_n 0, 1) := by decide +kernel
theorem d1_30 : decode prog_36_method_1_code 30 = .ok (.iload_n 1, 1) := by decide +kernel
theorem d1_31 : decode prog_36_method_1_code 31 = .ok (.newarray .long, 2) := by decide +kernel
theorem d1_33 : decode prog_36_method_1_code 33 = .ok (.putfield 21, 3) := by decide +kernel
theorem d1_36 : decode prog_36_method_1_code 36 = .ok (.return_, 1) := by decide +kernel
theorem pn_1 : plainName "com/example/wildsuit/wildsuit/game/Row" = true := by first | (simp [plainName, overriddenIn]; done) | decide +kernel
theorem ef_1 (m : MethodId) (ao : Addr) (xn : Int32) (xk : Int32) : entryFrame m #[(.ref ao), (.int xn), (.int xk)] 3 = mkF m 0 #[.val (.ref ao), .val (.int xn), .val (.int xk)] [] := by first | (simp [entryFrame, mkF, argsToLocals, Value.category]; done) | rfl
def Q1 (Z : State) (ao : Addr) (xn : Int32) (xk : Int32) (h0 : Heap) (n0 : Nat) (v : Option Value) (h : Heap) (L : List Loc) : Prop := ∃ (bc : Addr) (bo : Addr) (bh : Addr) (bt : Addr), v = none ∧ Fr n0 L ∧ Keep h0 h [ao] ∧ (h0.size ≤ bc ∧ n0 ≤ bc) ∧ (h0.size ≤ bo ∧ n0 ≤ bo) ∧ (h0.size ≤ bh ∧ n0 ≤ bh) ∧ (h0.size ≤ bt ∧ n0 ≤ bt) ∧ bc ≠ bo ∧ bc ≠ bh ∧ bc ≠ bt ∧ bo ≠ bh ∧ bo ≠ bt ∧ bh ≠ bt ∧ Fld Z h ao "com/example/wildsuit/wildsuit/game/Row" "cards" "[B" (.ref bc) ∧ Fld Z h ao "com/example/wildsuit/wildsuit/game/Row" "borders" "[I" (.ref bo) ∧ Fld Z h ao "com/example/wildsuit/wildsuit/game/Row" "held" "[J" (.ref bh) ∧ Fld Z h ao "com/example/wildsuit/wildsuit/game/Row" "heldTwice" "[J" (.ref bt) ∧ Exa Z h bc "[B" ∧ Exa Z h bo "[I" ∧ Exa Z h bh "[J" ∧ Exa Z h bt "[J" ∧ own_Gi Z h bo .int (xn + (1 : Int32)) own_zero ∧ own_Un Z h bc .byte (104 : Int32) ∧ own_Un Z h bh .long xn ∧ own_Un Z h bt .long xn
set_option maxRecDepth 65536 in
theorem own_pl1_0 {xn : Int32} {xk : Int32} (hk : xk = (52 : Int32)) (hn : 1 ≤ xn.toInt ∧ xn.toInt ≤ 4) : ¬ ((2 : Int32) * xk) < 0 := by
  rw [hk]; decide
set_option maxRecDepth 65536 in
theorem own_pl1_1 {xn : Int32} {xk : Int32} (hk : xk = (52 : Int32)) (hn : 1 ≤ xn.toInt ∧ xn.toInt ≤ 4) (neg8_3 : ¬ ((2 : Int32) * xk) < 0) : ((2 : Int32) * xk).toNatClampNeg ≤ 104 := by
  rw [hk]; decide
set_option maxRecDepth 65536 in
theorem own_pl1_2 {xn : Int32} {xk : Int32} (hk : xk = (52 : Int32)) (hn : 1 ≤ xn.toInt ∧ xn.toInt ≤ 4) (neg8_3 : ¬ ((2 : Int32) * xk) < 0) (hcap8_4 : ((2 : Int32) * xk).toNatClampNeg ≤ 104) : ¬ (xn + (1 : Int32)) < 0 := by
  have a := own_n1 (n := xn) (by omega) (by omega)
  exact own_neg (by omega)
set_option maxRecDepth 65536 in
theorem own_pl1_3 {xn : Int32} {xk : Int32} (hk : xk = (52 : Int32)) (hn : 1 ≤ xn.toInt ∧ xn.toInt ≤ 4) (neg8_3 : ¬ ((2 : Int32) * xk) < 0) (hcap8_4 : ((2 : Int32) * xk).toNatClampNeg ≤ 104) (neg17_21 : ¬ (xn + (1 : Int32)) < 0) : (xn + (1 : Int32)).toNatClampNeg ≤ 5 := by
  have a := own_n1 (n := xn) (by omega) (by omega)
  exact own_cap (by omega)
set_option maxRecDepth 65536 in
theorem own_pl1_4 {xn : Int32} {xk : Int32} (hk : xk = (52 : Int32)) (hn : 1 ≤ xn.toInt ∧ xn.toInt ≤ 4) (neg8_3 : ¬ ((2 : Int32) * xk) < 0) (hcap8_4 : ((2 : Int32) * xk).toNatClampNeg ≤ 104) (neg17_21 : ¬ (xn + (1 : Int32)) < 0) (hcap17_22 : (xn + (1 : Int32)).toNatClampNeg ≤ 5) : ¬ xn < 0 := by
  exact own_neg (by omega)
set_option maxRecDepth 65536 in
theorem own_pl1_5 {xn : Int32} {xk : Int32} (hk : xk = (52 : Int32)) (hn : 1 ≤ xn.toInt ∧ xn.toInt ≤ 4) (neg8_3 : ¬ ((2 : Int32) * xk) < 0) (hcap8_4 : ((2 : Int32) * xk).toNatClampNeg ≤ 104) (neg17_21 : ¬ (xn + (1 : Int32)) < 0) (hcap17_22 : (xn + (1 : Int32)).toNatClampNeg ≤ 5) (neg24_43 : ¬ xn < 0) : xn.toNatClampNeg ≤ 4 := by
  exact own_cap (by omega)
set_option maxRecDepth 65536 in
theorem own_pl1_6 {xn : Int32} {xk : Int32} (hk : xk = (52 : Int32)) (hn : 1 ≤ xn.toInt ∧ xn.toInt ≤ 4) (neg8_3 : ¬ ((2 : Int32) * xk) < 0) (hcap8_4 : ((2 : Int32) * xk).toNatClampNeg ≤ 104) (neg17_21 : ¬ (xn + (1 : Int32)) < 0) (hcap17_22 : (xn + (1 : Int32)).toNatClampNeg ≤ 5) (neg24_43 : ¬ xn < 0) (hcap24_44 : xn.toNatClampNeg ≤ 4) : ¬ xn < 0 := by
  exact own_neg (by omega)
set_option maxRecDepth 65536 in
theorem own_pl1_7 {xn : Int32} {xk : Int32} (hk : xk = (52 : Int32)) (hn : 1 ≤ xn.toInt ∧ xn.toInt ≤ 4) (neg8_3 : ¬ ((2 : Int32) * xk) < 0) (hcap8_4 : ((2 : Int32) * xk).toNatClampNeg ≤ 104) (neg17_21 : ¬ (xn + (1 : Int32)) < 0) (hcap17_22 : (xn + (1 : Int32)).toNatClampNeg ≤ 5) (neg24_43 : ¬ xn < 0) (hcap24_44 : xn.toNatClampNeg ≤ 4) (neg31_69 : ¬ xn < 0) : xn.toNatClampNeg ≤ 4 := by
  exact own_cap (by omega)
set_option maxRecDepth 65536 in
set_option maxHeartbeats 40000000 in
theorem rm1 (l : Launch) (Z : State) (a0 : Array Value) (hw : ∀ d ∈ tables_1, d.before a0 Z = true) (ws : List Jvm.Cond) (ao : Addr) (xn : Int32) (xk : Int32) (h0 : Heap) (n0 : Nat) (Z0 : n0 ≤ h0.size) (PF0 : Exa Z h0 ao "com/example/wildsuit/wildsuit/game/Row") (PF1 : Fld Z h0 ao "com/example/wildsuit/wildsuit/game/Row" "cards" "[B" .null) (PF2 : Fld Z h0 ao "com/example/wildsuit/wildsuit/game/Row" "borders" "[I" .null) (PF3 : Fld Z h0 ao "com/example/wildsuit/wildsuit/game/Row" "held" "[J" .null) (PF4 : Fld Z h0 ao "com/example/wildsuit/wildsuit/game/Row" "heldTwice" "[J" .null) (ge_ao : n0 ≤ ao) (hk : xk = (52 : Int32)) (hn : 1 ≤ xn.toInt ∧ xn.toInt ≤ 4) :
    MetFree l (⟨"com/example/wildsuit/wildsuit/game/Row", "<init>", "(II)V"⟩ : MethodName) (head1 (Jvm.Cond.code (⟨"com/example/wildsuit/wildsuit/game/Row", "<init>", "(II)V"⟩ : MethodName) prog_36_method_1_code 3 none :: ws) ({ frames := 1, cells := 4, slots := 117, locals := 12 } : Room)) (fun a U => a = #[(.ref ao), (.int xn), (.int xk)] ∧ Z.Warmed39 U.vm ∧ U.heap = h0) (fun _ _ _ _ _ => True) (fun _ U o U' => ∃ v L, o = .returned v ∧ Q1 Z ao xn xk h0 n0 v U'.heap L ∧ FrameEnd U o U' L ({ frames := 1, cells := 4, slots := 117, locals := 12 } : Room).cells ({ frames := 1, cells := 4, slots := 117, locals := 12 } : Room).slots) := by
  refine MetFree.of_bodySF (plainFor_of_name pn_1) hisR ?_
  intro p e s m args below meth c s₁ Bd hml0 hP hK
  obtain ⟨rfl, hZ, hh⟩ := hP
  have hx := Bd.exec
  have hby := Bd.bytes
  have hml : c.maxLocals = 3 := hml0
  have hown : s.vm.findClass "com/example/wildsuit/wildsuit/game/Row" = some m.cls := findClass_of_methodNamed Bd.named
  have hnm := (name_of_methodNamed Bd.named Bd.method).1
  have X0 : Stand p l e ({ frames := 1, cells := 4, slots := 117, locals := 12 } : Room) s m #[(.ref ao), (.int xn), (.int xk)] below meth c s₁ [] 0 0 := Stand.of_body Bd
  have e0 : s₁.heap = h0 := by rw [← hh, Bd.state]; rfl
  have N0 := Fr.nil n0
  suffices G : own_Goes p.tables e below (fun o U' => ∃ v L, o = .returned v ∧ Q1 Z ao xn xk h0 n0 v U'.heap L ∧ FrameEnd s o U' L ({ frames := 1, cells := 4, slots := 117, locals := 12 } : Room).cells ({ frames := 1, cells := 4, slots := 117, locals := 12 } : Room).slots) s₁ (mkF m 0 #[.val (.ref ao), .val (.int xn), .val (.int xk)] []) by
    obtain ⟨t2_, o2_, z1_, z2_, z3_, z4_⟩ := G
    exact ⟨t2_, o2_, castTop (ef_1 m ao xn xk) z1_, z2_, z3_, z4_⟩
  generalize hPd : (fun (o : Outcome) (U' : State) => ∃ v L, o = .returned v ∧ Q1 Z ao xn xk h0 n0 v U'.heap L ∧ FrameEnd s o U' L ({ frames := 1, cells := 4, slots := 117, locals := 12 } : Room).cells ({ frames := 1, cells := 4, slots := 117, locals := 12 } : Room).slots) = P
  refine own_Goes.via (T' := s₁) (g' := (mkF m 1 #[.val (.ref ao), .val (.int xn), .val (.int xk)] [(.ref ao)])) (fun t_ k_ => XS.aloadN X0.here hx rfl (hb hby d1_0) rfl rfl k_) ?_
  obtain ⟨T1, X1, e1, st1⟩ := initO X0 hx hZ hown (hw _ (List.mem_of_getElem? (i := 7) rfl)) (hw _ (List.mem_of_getElem? (i := 8) rfl)) (hw _ (List.mem_of_getElem? (i := 9) rfl)) e0 (g := (mkF m 1 #[.val (.ref ao), .val (.int xn), .val (.int xk)] [(.ref ao)])) rfl (by rw [hml]; rfl) rfl (hb hby d1_1) (by decide) (W := 0) (by show 2 * 0 + _ ≤ _; exact Nat.le_of_eq rfl) (by decide)
  refine own_Goes.via (T' := T1) (g' := (mkF m 4 #[.val (.ref ao), .val (.int xn), .val (.int xk)] [])) (st1) ?_
  refine own_Goes.via (T' := T1) (g' := (mkF m 5 #[.val (.ref ao), .val (.int xn), .val (.int xk)] [(.ref ao)])) (fun t_ k_ => XS.aloadN X1.here hx rfl (hb hby d1_4) rfl rfl k_) ?_
  refine own_Goes.via (T' := T1) (g' := (mkF m 6 #[.val (.ref ao), .val (.int xn), .val (.int xk)] [(.int (2 : Int32)), (.ref ao)])) (fun t_ k_ => XS.iconst X1.here hx rfl (hb hby d1_5) k_) ?_
  refine own_Goes.via (T' := T1) (g' := (mkF m 7 #[.val (.ref ao), .val (.int xn), .val (.int xk)] [(.int xk), (.int (2 : Int32)), (.ref ao)])) (fun t_ k_ => XS.iloadN X1.here hx rfl (hb hby d1_6) rfl k_) ?_
  refine own_Goes.via (T' := T1) (g' := (mkF m 8 #[.val (.ref ao), .val (.int xn), .val (.int xk)] [(.int ((2 : Int32) * xk)), (.ref ao)])) (fun t_ k_ => XS.imul X1.here hx rfl (hb hby d1_7) rfl k_) ?_
  have neg8_3 : ¬ ((2 : Int32) * xk) < 0 := own_pl1_0 hk hn
  have hcap8_4 : ((2 : Int32) * xk).toNatClampNeg ≤ 104 := own_pl1_1 hk hn neg8_3
  obtain ⟨T2, h2, k2, X2, e2, E2, A2, Ea2, st2⟩ := newPE X1 hx hZ (hw _ (List.mem_of_getElem? (i := 10) rfl)) e1 (g := (mkF m 8 #[.val (.ref ao), .val (.int xn), .val (.int xk)] [(.int ((2 : Int32) * xk)), (.ref ao)])) rfl (hb hby d1_8) rfl neg8_3 (cap := 104) hcap8_4 (by decide) (by decide) (by decide) (ad := "[B") (by decide)
  obtain ⟨b2, g2⟩ : ∃ z, z = h0.size := ⟨_, rfl⟩
  rw [← g2] at A2 Ea2 st2
  have ne_ao_b2 : ao ≠ b2 := Nat.ne_of_lt (Nat.lt_of_lt_of_le PF0.lt (Nat.le_of_eq g2.symm))
  have E5 : Exa Z h2 ao "com/example/wildsuit/wildsuit/game/Row" := PF0.ext E2
  have F6 : Fld Z h2 ao "com/example/wildsuit/wildsuit/game/Row" "cards" "[B" .null := PF1.ext E2
  have F7 : Fld Z h2 ao "com/example/wildsuit/wildsuit/game/Row" "borders" "[I" .null := PF2.ext E2
  have F8 : Fld Z h2 ao "com/example/wildsuit/wildsuit/game/Row" "held" "[J" .null := PF3.ext E2
  have F9 : Fld Z h2 ao "com/example/wildsuit/wildsuit/game/Row" "heldTwice" "[J" .null := PF4.ext E2
  have ge_b2 : n0 ≤ b2 := Nat.le_trans Z0 (Nat.le_of_eq g2.symm)
  have sz_b2 : h0.size ≤ b2 := Nat.le_trans ((Keep.refl h0 [ao])).1 (Nat.le_of_eq g2.symm)
  have sz2 : n0 ≤ h2.size := Nat.le_trans Z0 E2.1
  have K2 : Keep h0 h2 [ao] := ((Keep.refl h0 [ao])).ext E2
  have E10 : Exa Z h2 b2 "[B" := Ea2
  have U11 : own_Un Z h2 b2 .byte ((2 : Int32) * xk) := own_Un.of (Arv.new A2 neg8_3)
  refine own_Goes.via (T' := T2) (g' := (mkF m 10 #[.val (.ref ao), .val (.int xn), .val (.int xk)] [(.ref b2), (.ref ao)])) (st2) ?_
  obtain ⟨T12, h12, X12, e12, W12, st12⟩ := putF X2 hx hZ hown (host := "") (Or.inl (hw _ (List.mem_of_getElem? (i := 11) rfl))) Via.refl e2 F6 E5 (Or.inr ⟨(hw _ (List.mem_of_getElem? (i := 12) rfl)), rfl, hnm⟩) (hw _ (List.mem_of_getElem? (i := 2) rfl)) (ty := (.array .byte)) (by decide) rfl rfl (g := (mkF m 10 #[.val (.ref ao), .val (.int xn), .val (.int xk)] [(.ref b2), (.ref ao)])) rfl rfl (hb hby d1_10)
  have E13 : Exa Z h12 ao "com/example/wildsuit/wildsuit/game/Row" := E5.wr W12
  have E14 : Exa Z h12 b2 "[B" := E10.wr W12
  have F15 : Fld Z h12 ao "com/example/wildsuit/wildsuit/game/Row" "borders" "[I" .null := F7.other W12 (Or.inr (slot_ne (Or.inr (hw _ (List.mem_of_getElem? (i := 14) rfl))) (Or.inr (hw _ (List.mem_of_getElem? (i := 12) rfl))) (by decide) (t := (.array .int)) (t' := (.array .byte)) (by decide) (by decide)))
  have F16 : Fld Z h12 ao "com/example/wildsuit/wildsuit/game/Row" "held" "[J" .null := F8.other W12 (Or.inr (slot_ne (Or.inr (hw _ (List.mem_of_getElem? (i := 17) rfl))) (Or.inr (hw _ (List.mem_of_getElem? (i := 12) rfl))) (by decide) (t := (.array .long)) (t' := (.array .byte)) (by decide) (by decide)))
  have F17 : Fld Z h12 ao "com/example/wildsuit/wildsuit/game/Row" "heldTwice" "[J" .null := F9.other W12 (Or.inr (slot_ne (Or.inr (hw _ (List.mem_of_getElem? (i := 19) rfl))) (Or.inr (hw _ (List.mem_of_getElem? (i := 12) rfl))) (by decide) (t := (.array .long)) (t' := (.array .byte)) (by decide) (by decide)))
  have U18 : own_Un Z h12 b2 .byte ((2 : Int32) * xk) := U11.other W12 (Ne.symm ne_ao_b2)
  have F19 : Fld Z h12 ao "com/example/wildsuit/wildsuit/game/Row" "cards" "[B" (.ref b2) := F6.same W12
  have N12 := Fr.snoc X12 N0 ge_ao
  have sz12 : n0 ≤ h12.size := Nat.le_trans sz2 (Keep.of_wr W12).1
  have K12 : Keep h0 h12 [ao] := (K2).wr W12 (Or.inl (List.mem_of_getElem? (i := 0) rfl))
  refine own_Goes.via (T' := T12) (g' := (mkF m 13 #[.val (.ref ao), .val (.int xn), .val (.int xk)] [])) (st12) ?_
  refine own_Goes.via (T' := T12) (g' := (mkF m 14 #[.val (.ref ao), .val (.int xn), .val (.int xk)] [(.ref ao)])) (fun t_ k_ => XS.aloadN X12.here hx rfl (hb hby d1_13) rfl rfl k_) ?_
  refine own_Goes.via (T' := T12) (g' := (mkF m 15 #[.val (.ref ao), .val (.int xn), .val (.int xk)] [(.int xn), (.ref ao)])) (fun t_ k_ => XS.iloadN X12.here hx rfl (hb hby d1_14) rfl k_) ?_
  refine own_Goes.via (T' := T12) (g' := (mkF m 16 #[.val (.ref ao), .val (.int xn), .val (.int xk)] [(.int (1 : Int32)), (.int xn), (.ref ao)])) (fun t_ k_ => XS.iconst X12.here hx rfl (hb hby d1_15) k_) ?_
  refine own_Goes.via (T' := T12) (g' := (mkF m 17 #[.val (.ref ao), .val (.int xn), .val (.int xk)] [(.int (xn + (1 : Int32))), (.ref ao)])) (fun t_ k_ => XS.iadd X12.here hx rfl (hb hby d1_16) rfl k_) ?_
  have neg17_21 : ¬ (xn + (1 : Int32)) < 0 := own_pl1_2 hk hn neg8_3 hcap8_4
  have hcap17_22 : (xn + (1 : Int32)).toNatClampNeg ≤ 5 := own_pl1_3 hk hn neg8_3 hcap8_4 neg17_21
  obtain ⟨T20, h20, k20, X20, e20, E20, A20, Ea20, st20⟩ := newPE X12 hx hZ (hw _ (List.mem_of_getElem? (i := 0) rfl)) e12 (g := (mkF m 17 #[.val (.ref ao), .val (.int xn), .val (.int xk)] [(.int (xn + (1 : Int32))), (.ref ao)])) rfl (hb hby d1_17) rfl neg17_21 (cap := 5) hcap17_22 (by decide) (by decide) (by decide) (ad := "[I") (by decide)
  obtain ⟨b20, g20⟩ : ∃ z, z = h12.size := ⟨_, rfl⟩
  rw [← g20] at A20 Ea20 st20
  have ne_ao_b20 : ao ≠ b20 := Nat.ne_of_lt (Nat.lt_of_lt_of_le E13.lt (Nat.le_of_eq g20.symm))
  have ne_b2_b20 : b2 ≠ b20 := Nat.ne_of_lt (Nat.lt_of_lt_of_le E14.lt (Nat.le_of_eq g20.symm))
  have E23 : Exa Z h20 ao "com/example/wildsuit/wildsuit/game/Row" := E13.ext E20
  have E24 : Exa Z h20 b2 "[B" := E14.ext E20
  have F25 : Fld Z h20 ao "com/example/wildsuit/wildsuit/game/Row" "borders" "[I" .null := F15.ext E20
  have F26 : Fld Z h20 ao "com/example/wildsuit/wildsuit/game/Row" "held" "[J" .null := F16.ext E20
  have F27 : Fld Z h20 ao "com/example/wildsuit/wildsuit/game/Row" "heldTwice" "[J" .null := F17.ext E20
  have U28 : own_Un Z h20 b2 .byte ((2 : Int32) * xk) := U18.ext E20
  have F29 : Fld Z h20 ao "com/example/wildsuit/wildsuit/game/Row" "cards" "[B" (.ref b2) := F19.ext E20
  have ge_b20 : n0 ≤ b20 := Nat.le_trans sz12 (Nat.le_of_eq g20.symm)
  have sz_b20 : h0.size ≤ b20 := Nat.le_trans (K12).1 (Nat.le_of_eq g20.symm)
  have sz20 : n0 ≤ h20.size := Nat.le_trans sz12 E20.1
  have K20 : Keep h0 h20 [ao] := (K12).ext E20
  have E30 : Exa Z h20 b20 "[I" := Ea20
  have G31 : own_Gi Z h20 b20 .int (xn + (1 : Int32)) own_zero := own_Gi.new A20 neg17_21
  refine own_Goes.via (T' := T20) (g' := (mkF m 19 #[.val (.ref ao), .val (.int xn), .val (.int xk)] [(.ref b20), (.ref ao)])) (st20) ?_
  obtain ⟨T32, h32, X32, e32, W32, st32⟩ := putF X20 hx hZ hown (host := "") (Or.inl (hw _ (List.mem_of_getElem? (i := 13) rfl))) Via.refl e20 F25 E23 (Or.inr ⟨(hw _ (List.mem_of_getElem? (i := 14) rfl)), rfl, hnm⟩) (hw _ (List.mem_of_getElem? (i := 2) rfl)) (ty := (.array .int)) (by decide) rfl rfl (g := (mkF m 19 #[.val (.ref ao), .val (.int xn), .val (.int xk)] [(.ref b20), (.ref ao)])) rfl rfl (hb hby d1_19)
  have E33 : Exa Z h32 ao "com/example/wildsuit/wildsuit/game/Row" := E23.wr W32
  have E34 : Exa Z h32 b2 "[B" := E24.wr W32
  have E35 : Exa Z h32 b20 "[I" := E30.wr W32
  have F36 : Fld Z h32 ao "com/example/wildsuit/wildsuit/game/Row" "held" "[J" .null := F26.other W32 (Or.inr (slot_ne (Or.inr (hw _ (List.mem_of_getElem? (i := 17) rfl))) (Or.inr (hw _ (List.mem_of_getElem? (i := 14) rfl))) (by decide) (t := (.array .long)) (t' := (.array .int)) (by decide) (by decide)))
  have F37 : Fld Z h32 ao "com/example/wildsuit/wildsuit/game/Row" "heldTwice" "[J" .null := F27.other W32 (Or.inr (slot_ne (Or.inr (hw _ (List.mem_of_getElem? (i := 19) rfl))) (Or.inr (hw _ (List.mem_of_getElem? (i := 14) rfl))) (by decide) (t := (.array .long)) (t' := (.array .int)) (by decide) (by decide)))
  have U38 : own_Un Z h32 b2 .byte ((2 : Int32) * xk) := U28.other W32 (Ne.symm ne_ao_b2)
  have F39 : Fld Z h32 ao "com/example/wildsuit/wildsuit/game/Row" "cards" "[B" (.ref b2) := F29.other W32 (Or.inr (slot_ne (Or.inr (hw _ (List.mem_of_getElem? (i := 12) rfl))) (Or.inr (hw _ (List.mem_of_getElem? (i := 14) rfl))) (by decide) (t := (.array .byte)) (t' := (.array .int)) (by decide) (by decide)))
  have G40 : own_Gi Z h32 b20 .int (xn + (1 : Int32)) own_zero := G31.other W32 (Ne.symm ne_ao_b20)
  have F41 : Fld Z h32 ao "com/example/wildsuit/wildsuit/game/Row" "borders" "[I" (.ref b20) := F25.same W32
  have N32 := Fr.snoc X32 N12 ge_ao
  have sz32 : n0 ≤ h32.size := Nat.le_trans sz20 (Keep.of_wr W32).1
  have K32 : Keep h0 h32 [ao] := (K20).wr W32 (Or.inl (List.mem_of_getElem? (i := 0) rfl))
  refine own_Goes.via (T' := T32) (g' := (mkF m 22 #[.val (.ref ao), .val (.int xn), .val (.int xk)] [])) (st32) ?_
  refine own_Goes.via (T' := T32) (g' := (mkF m 23 #[.val (.ref ao), .val (.int xn), .val (.int xk)] [(.ref ao)])) (fun t_ k_ => XS.aloadN X32.here hx rfl (hb hby d1_22) rfl rfl k_) ?_
  refine own_Goes.via (T' := T32) (g' := (mkF m 24 #[.val (.ref ao), .val (.int xn), .val (.int xk)] [(.int xn), (.ref ao)])) (fun t_ k_ => XS.iloadN X32.here hx rfl (hb hby d1_23) rfl k_) ?_
  have neg24_43 : ¬ xn < 0 := own_pl1_4 hk hn neg8_3 hcap8_4 neg17_21 hcap17_22
  have hcap24_44 : xn.toNatClampNeg ≤ 4 := own_pl1_5 hk hn neg8_3 hcap8_4 neg17_21 hcap17_22 neg24_43
  obtain ⟨T42, h42, k42, X42, e42, E42, A42, Ea42, st42⟩ := newPE X32 hx hZ (hw _ (List.mem_of_getElem? (i := 15) rfl)) e32 (g := (mkF m 24 #[.val (.ref ao), .val (.int xn), .val (.int xk)] [(.int xn), (.ref ao)])) rfl (hb hby d1_24) rfl neg24_43 (cap := 4) hcap24_44 (by decide) (by decide) (by decide) (ad := "[J") (by decide)
  obtain ⟨b42, g42⟩ : ∃ z, z = h32.size := ⟨_, rfl⟩
  rw [← g42] at A42 Ea42 st42
  have ne_ao_b42 : ao ≠ b42 := Nat.ne_of_lt (Nat.lt_of_lt_of_le E33.lt (Nat.le_of_eq g42.symm))
  have ne_b2_b42 : b2 ≠ b42 := Nat.ne_of_lt (Nat.lt_of_lt_of_le E34.lt (Nat.le_of_eq g42.symm))
  have ne_b20_b42 : b20 ≠ b42 := Nat.ne_of_lt (Nat.lt_of_lt_of_le E35.lt (Nat.le_of_eq g42.symm))
  have E45 : Exa Z h42 ao "com/example/wildsuit/wildsuit/game/Row" := E33.ext E42
  have E46 : Exa Z h42 b2 "[B" := E34.ext E42
  have E47 : Exa Z h42 b20 "[I" := E35.ext E42
  have F48 : Fld Z h42 ao "com/example/wildsuit/wildsuit/game/Row" "held" "[J" .null := F36.ext E42
  have F49 : Fld Z h42 ao "com/example/wildsuit/wildsuit/game/Row" "heldTwice" "[J" .null := F37.ext E42
  have U50 : own_Un Z h42 b2 .byte ((2 : Int32) * xk) := U38.ext E42
  have F51 : Fld Z h42 ao "com/example/wildsuit/wildsuit/game/Row" "cards" "[B" (.ref b2) := F39.ext E42
  have G52 : own_Gi Z h42 b20 .int (xn + (1 : Int32)) own_zero := G40.ext E42
  have F53 : Fld Z h42 ao "com/example/wildsuit/wildsuit/game/Row" "borders" "[I" (.ref b20) := F41.ext E42
  have ge_b42 : n0 ≤ b42 := Nat.le_trans sz32 (Nat.le_of_eq g42.symm)
  have sz_b42 : h0.size ≤ b42 := Nat.le_trans (K32).1 (Nat.le_of_eq g42.symm)
  have sz42 : n0 ≤ h42.size := Nat.le_trans sz32 E42.1
  have K42 : Keep h0 h42 [ao] := (K32).ext E42
  have E54 : Exa Z h42 b42 "[J" := Ea42
  have U55 : own_Un Z h42 b42 .long xn := own_Un.of (Arv.new A42 neg24_43)
  refine own_Goes.via (T' := T42) (g' := (mkF m 26 #[.val (.ref ao), .val (.int xn), .val (.int xk)] [(.ref b42), (.ref ao)])) (st42) ?_
  obtain ⟨T56, h56, X56, e56, W56, st56⟩ := putF X42 hx hZ hown (host := "") (Or.inl (hw _ (List.mem_of_getElem? (i := 16) rfl))) Via.refl e42 F48 E45 (Or.inr ⟨(hw _ (List.mem_of_getElem? (i := 17) rfl)), rfl, hnm⟩) (hw _ (List.mem_of_getElem? (i := 2) rfl)) (ty := (.array .long)) (by decide) rfl rfl (g := (mkF m 26 #[.val (.ref ao), .val (.int xn), .val (.int xk)] [(.ref b42), (.ref ao)])) rfl rfl (hb hby d1_26)
  have E57 : Exa Z h56 ao "com/example/wildsuit/wildsuit/game/Row" := E45.wr W56
  have E58 : Exa Z h56 b2 "[B" := E46.wr W56
  have E59 : Exa Z h56 b20 "[I" := E47.wr W56
  have E60 : Exa Z h56 b42 "[J" := E54.wr W56
  have F61 : Fld Z h56 ao "com/example/wildsuit/wildsuit/game/Row" "heldTwice" "[J" .null := F49.other W56 (Or.inr (slot_ne (Or.inr (hw _ (List.mem_of_getElem? (i := 19) rfl))) (Or.inr (hw _ (List.mem_of_getElem? (i := 17) rfl))) (by decide) (t := (.array .long)) (t' := (.array .long)) (by decide) (by decide)))
  have U62 : own_Un Z h56 b2 .byte ((2 : Int32) * xk) := U50.other W56 (Ne.symm ne_ao_b2)
  have F63 : Fld Z h56 ao "com/example/wildsuit/wildsuit/game/Row" "cards" "[B" (.ref b2) := F51.other W56 (Or.inr (slot_ne (Or.inr (hw _ (List.mem_of_getElem? (i := 12) rfl))) (Or.inr (hw _ (List.mem_of_getElem? (i := 17) rfl))) (by decide) (t := (.array .byte)) (t' := (.array .long)) (by decide) (by decide)))
  have G64 : own_Gi Z h56 b20 .int (xn + (1 : Int32)) own_zero := G52.other W56 (Ne.symm ne_ao_b20)
  have F65 : Fld Z h56 ao "com/example/wildsuit/wildsuit/game/Row" "borders" "[I" (.ref b20) := F53.other W56 (Or.inr (slot_ne (Or.inr (hw _ (List.mem_of_getElem? (i := 14) rfl))) (Or.inr (hw _ (List.mem_of_getElem? (i := 17) rfl))) (by decide) (t := (.array .int)) (t' := (.array .long)) (by decide) (by decide)))
  have U66 : own_Un Z h56 b42 .long xn := U55.other W56 (Ne.symm ne_ao_b42)
  have F67 : Fld Z h56 ao "com/example/wildsuit/wildsuit/game/Row" "held" "[J" (.ref b42) := F48.same W56
  have N56 := Fr.snoc X56 N32 ge_ao
  have sz56 : n0 ≤ h56.size := Nat.le_trans sz42 (Keep.of_wr W56).1
  have K56 : Keep h0 h56 [ao] := (K42).wr W56 (Or.inl (List.mem_of_getElem? (i := 0) rfl))
  refine own_Goes.via (T' := T56) (g' := (mkF m 29 #[.val (.ref ao), .val (.int xn), .val (.int xk)] [])) (st56) ?_
  refine own_Goes.via (T' := T56) (g' := (mkF m 30 #[.val (.ref ao), .val (.int xn), .val (.int xk)] [(.ref ao)])) (fun t_ k_ => XS.aloadN X56.here hx rfl (hb hby d1_29) rfl rfl k_) ?_
  refine own_Goes.via (T' := T56) (g' := (mkF m 31 #[.val (.ref ao), .val (.int xn), .val (.int xk)] [(.int xn), (.ref ao)])) (fun t_ k_ => XS.iloadN X56.here hx rfl (hb hby d1_30) rfl k_) ?_
  have neg31_69 : ¬ xn < 0 := own_pl1_6 hk hn neg8_3 hcap8_4 neg17_21 hcap17_22 neg24_43 hcap24_44
  have hcap31_70 : xn.toNatClampNeg ≤ 4 := own_pl1_7 hk hn neg8_3 hcap8_4 neg17_21 hcap17_22 neg24_43 hcap24_44 neg31_69
  obtain ⟨T68, h68, k68, X68, e68, E68, A68, Ea68, st68⟩ := newPE X56 hx hZ (hw _ (List.mem_of_getElem? (i := 15) rfl)) e56 (g := (mkF m 31 #[.val (.ref ao), .val (.int xn), .val (.int xk)] [(.int xn), (.ref ao)])) rfl (hb hby d1_31) rfl neg31_69 (cap := 4) hcap31_70 (by decide) (by decide) (by decide) (ad := "[J") (by decide)
  obtain ⟨b68, g68⟩ : ∃ z, z = h56.size := ⟨_, rfl⟩
  rw [← g68] at A68 Ea68 st68
  have ne_ao_b68 : ao ≠ b68 := Nat.ne_of_lt (Nat.lt_of_lt_of_le E57.lt (Nat.le_of_eq g68.symm))
  have ne_b2_b68 : b2 ≠ b68 := Nat.ne_of_lt (Nat.lt_of_lt_of_le E58.lt (Nat.le_of_eq g68.symm))
  have ne_b20_b68 : b20 ≠ b68 := Nat.ne_of_lt (Nat.lt_of_lt_of_le E59.lt (Nat.le_of_eq g68.symm))
  have ne_b42_b68 : b42 ≠ b68 := Nat.ne_of_lt (Nat.lt_of_lt_of_le E60.lt (Nat.le_of_eq g68.symm))
  have E71 : Exa Z h68 ao "com/example/wildsuit/wildsuit/game/Row" := E57.ext E68
  have E72 : Exa Z h68 b2 "[B" := E58.ext E68
  have E73 : Exa Z h68 b20 "[I" := E59.ext E68
  have E74 : Exa Z h68 b42 "[J" := E60.ext E68
  have F75 : Fld Z h68 ao "com/example/wildsuit/wildsuit/game/Row" "heldTwice" "[J" .null := F61.ext E68
  have U76 : own_Un Z h68 b2 .byte ((2 : Int32) * xk) := U62.ext E68
  have F77 : Fld Z h68 ao "com/example/wildsuit/wildsuit/game/Row" "cards" "[B" (.ref b2) := F63.ext E68
  have G78 : own_Gi Z h68 b20 .int (xn + (1 : Int32)) own_zero := G64.ext E68
  have F79 : Fld Z h68 ao "com/example/wildsuit/wildsuit/game/Row" "borders" "[I" (.ref b20) := F65.ext E68
  have U80 : own_Un Z h68 b42 .long xn := U66.ext E68
  have F81 : Fld Z h68 ao "com/example/wildsuit/wildsuit/game/Row" "held" "[J" (.ref b42) := F67.ext E68
  have ge_b68 : n0 ≤ b68 := Nat.le_trans sz56 (Nat.le_of_eq g68.symm)
  have sz_b68 : h0.size ≤ b68 := Nat.le_trans (K56).1 (Nat.le_of_eq g68.symm)
  have sz68 : n0 ≤ h68.size := Nat.le_trans sz56 E68.1
  have K68 : Keep h0 h68 [ao] := (K56).ext E68
  have E82 : Exa Z h68 b68 "[J" := Ea68
  have U83 : own_Un Z h68 b68 .long xn := own_Un.of (Arv.new A68 neg31_69)
  refine own_Goes.via (T' := T68) (g' := (mkF m 33 #[.val (.ref ao), .val (.int xn), .val (.int xk)] [(.ref b68), (.ref ao)])) (st68) ?_
  obtain ⟨T84, h84, X84, e84, W84, st84⟩ := putF X68 hx hZ hown (host := "") (Or.inl (hw _ (List.mem_of_getElem? (i := 18) rfl))) Via.refl e68 F75 E71 (Or.inr ⟨(hw _ (List.mem_of_getElem? (i := 19) rfl)), rfl, hnm⟩) (hw _ (List.mem_of_getElem? (i := 2) rfl)) (ty := (.array .long)) (by decide) rfl rfl (g := (mkF m 33 #[.val (.ref ao), .val (.int xn), .val (.int xk)] [(.ref b68), (.ref ao)])) rfl rfl (hb hby d1_33)
  have E85 : Exa Z h84 ao "com/example/wildsuit/wildsuit/game/Row" := E71.wr W84
  have E86 : Exa Z h84 b2 "[B" := E72.wr W84
  have E87 : Exa Z h84 b20 "[I" := E73.wr W84
  have E88 : Exa Z h84 b42 "[J" := E74.wr W84
  have E89 : Exa Z h84 b68 "[J" := E82.wr W84
  have U90 : own_Un Z h84 b2 .byte ((2 : Int32) * xk) := U76.other W84 (Ne.symm ne_ao_b2)
  have F91 : Fld Z h84 ao "com/example/wildsuit/wildsuit/game/Row" "cards" "[B" (.ref b2) := F77.other W84 (Or.inr (slot_ne (Or.inr (hw _ (List.mem_of_getElem? (i := 12) rfl))) (Or.inr (hw _ (List.mem_of_getElem? (i := 19) rfl))) (by decide) (t := (.array .byte)) (t' := (.array .long)) (by decide) (by decide)))
  have G92 : own_Gi Z h84 b20 .int (xn + (1 : Int32)) own_zero := G78.other W84 (Ne.symm ne_ao_b20)
  have F93 : Fld Z h84 ao "com/example/wildsuit/wildsuit/game/Row" "borders" "[I" (.ref b20) := F79.other W84 (Or.inr (slot_ne (Or.inr (hw _ (List.mem_of_getElem? (i := 14) rfl))) (Or.inr (hw _ (List.mem_of_getElem? (i := 19) rfl))) (by decide) (t := (.array .int)) (t' := (.array .long)) (by decide) (by decide)))
  have U94 : own_Un Z h84 b42 .long xn := U80.other W84 (Ne.symm ne_ao_b42)
  have F95 : Fld Z h84 ao "com/example/wildsuit/wildsuit/game/Row" "held" "[J" (.ref b42) := F81.other W84 (Or.inr (slot_ne (Or.inr (hw _ (List.mem_of_getElem? (i := 17) rfl))) (Or.inr (hw _ (List.mem_of_getElem? (i := 19) rfl))) (by decide) (t := (.array .long)) (t' := (.array .long)) (by decide) (by decide)))
  have U96 : own_Un Z h84 b68 .long xn := U83.other W84 (Ne.symm ne_ao_b68)
  have F97 : Fld Z h84 ao "com/example/wildsuit/wildsuit/game/Row" "heldTwice" "[J" (.ref b68) := F75.same W84
  have N84 := Fr.snoc X84 N56 ge_ao
  have sz84 : n0 ≤ h84.size := Nat.le_trans sz68 (Keep.of_wr W84).1
  have K84 : Keep h0 h84 [ao] := (K68).wr W84 (Or.inl (List.mem_of_getElem? (i := 0) rfl))
  refine own_Goes.via (T' := T84) (g' := (mkF m 36 #[.val (.ref ao), .val (.int xn), .val (.int xk)] [])) (st84) ?_
  obtain ⟨fs, hr, hrun, hended, hW, hsame⟩ := X84.leave (v := none) (fun _ => rfl)
  refine own_Goes.fin (X84.returnOut hx Bd.returns (hb hby d1_36) hr) hrun hended ?_
  subst hPd
  refine ⟨_, _, rfl, ?_, ⟨_, rfl⟩, hW, hsame.mono (by decide) (by decide)⟩
  show Q1 Z ao xn xk h0 n0 _ T84.heap _
  rw [e84]
  exact ⟨b2, b20, b42, b68, rfl, N84, K84, ⟨sz_b2, ge_b2⟩, ⟨sz_b20, ge_b20⟩, ⟨sz_b42, ge_b42⟩, ⟨sz_b68, ge_b68⟩, ne_b2_b20, ne_b2_b42, ne_b2_b68, ne_b20_b42, ne_b20_b68, ne_b42_b68, F91, F93, F95, F97, E86, E87, E88, E89, G92, (by have q := U90; rw [show ((2 : Int32) * xk) = (104 : Int32) from by rw [hk]; rfl] at q; exact q), U94, U96⟩
theorem d4_0 : decode method_3_code 0 = .ok (.iload_n 3, 1) := by decide +kernel
theorem d4_1 : decode method_3_code 1 = .ok (.ldc 22, 2) := by decide +kernel
theorem d4_3 : decode method_3_code 3 = .ok (.iand, 1) := by decide +kernel
theorem d4_4 : decode method_3_code 4 = .ok (.iload_n 2, 1) := by decide +kernel
theorem d4_5 : decode method_3_code 5 = .ok (.irem, 1) := by decide +kernel
theorem d4_6 : decode method_3_code 6 = .ok (.istore 4, 2) := by decide +kernel
theorem d4_8 : decode method_3_code 8 = .ok (.iload_n 3, 1) := by decide +kernel
theorem d4_9 : decode method_3_code 9 = .ok (.bipush 8, 2) := by decide +kernel
theorem d4_11 : decode method_3_code 11 = .ok (.iushr, 1) := by decide +kernel
theorem d4_12 : decode method_3_code 12 = .ok (.bipush 63, 2) := by decide +kernel
theorem d4_14 : decode method_3_code 14 = .ok (.iand, 1) := by decide +kernel
theorem d4_15 : decode method_3_code 15 = .ok (.bipush 52, 2) := by decide +kernel
theorem d4_17 : decode method_3_code 17 = .ok (.irem, 1) := by decide +kernel
theorem d4_18 : decode method_3_code 18 = .ok (.istore 5, 2) := by decide +kernel
theorem d4_20 : decode method_3_code 20 = .ok (.iload_n 3, 1) := by decide +kernel
theorem d4_21 : decode method_3_code 21 = .ok (.bipush 16, 2) := by decide +kernel
theorem d4_23 : decode method_3_code 23 = .ok (.iushr, 1) := by decide +kernel
theorem d4_24 : decode method_3_code 24 = .ok (.bipush 7, 2) := by decide +kernel
theorem d4_26 : decode method_3_code 26 = .ok (.iand, 1) := by decide +kernel
theorem d4_27 : decode method_3_code 27 = .ok (.aload_n 1, 1) := by decide +kernel
theorem d4_28 : decode method_3_code 28 = .ok (.iload 4, 2) := by decide +kernel
theorem d4_30 : decode method_3_code 30 = .ok (.iaload, 1) := by decide +kernel
theorem d4_31 : decode method_3_code 31 = .ok (.iconst 1, 1) := by decide +kernel
theorem d4_32 : decode method_3_code 32 = .ok (.iadd, 1) := by decide +kernel
theorem d4_33 : decode method_3_code 33 = .ok (.irem, 1) := by decide +kernel
theorem d4_34 : decode method_3_code 34 = .ok (.istore 6, 2) := by decide +kernel
theorem d4_36 : decode method_3_code 36 = .ok (.aload_n 0, 1) := by decide +kernel
theorem d4_37 : decode method_3_code 37 = .ok (.iload 4, 2) := by decide +kernel
theorem d4_39 : decode method_3_code 39 = .ok (.iload 6, 2) := by decide +kernel
theorem d4_41 : decode method_3_code 41 = .ok (.iload 5, 2) := by decide +kernel
theorem d4_43 : decode method_3_code 43 = .ok (.invokevirtual 30, 3) := by decide +kernel
theorem d4_46 : decode method_3_code 46 = .ok (.aload_n 1, 1) := by decide +kernel
theorem d4_47 : decode method_3_code 47 = .ok (.iload 4, 2) := by decide +kernel
theorem d4_49 : decode method_3_code 49 = .ok (.aload_n 1, 1) := by decide +kernel
theorem d4_50 : decode method_3_code 50 = .ok (.iload 4, 2) := by decide +kernel
theorem d4_52 : decode method_3_code 52 = .ok (.iaload, 1) := by decide +kernel
theorem d4_53 : decode method_3_code 53 = .ok (.iconst 1, 1) := by decide +kernel
theorem d4_54 : decode method_3_code 54 = .ok (.iadd, 1) := by decide +kernel
theorem d4_55 : decode method_3_code 55 = .ok (.iastore, 1) := by decide +kernel
theorem d4_56 : decode method_3_code 56 = .ok (.iload 4, 2) := by decide +kernel
theorem d4_58 : decode method_3_code 58 = .ok (.ireturn, 1) := by decide +kernel
theorem pn_4 : plainName "com/example/wildsuit/wildsuit/game/RowSizePinLaw" = true := by first | (simp [plainName, overriddenIn]; done) | decide +kernel
theorem pd_4_0 : parseMethodDescriptor "(III)V" = some ⟨[.int, .int, .int], none⟩ := by decide +kernel
theorem ef_4 (m : MethodId) (ar : Addr) (ac : Addr) (xn : Int32) (xx : Int32) : entryFrame m #[(.ref ar), (.ref ac), (.int xn), (.int xx)] 7 = mkF m 0 #[.val (.ref ar), .val (.ref ac), .val (.int xn), .val (.int xx), .unset, .unset, .unset] [] := by first | (simp [entryFrame, mkF, argsToLocals, Value.category]; done) | rfl
def Q4 (Z : State) (ar : Addr) (ac : Addr) (xn : Int32) (xx : Int32) (bc : Addr) (bo : Addr) (bh : Addr) (bt : Addr) (xm : Int32) (B : Nat → Int32) (C : Nat → Int32) (tot : Int) (h0 : Heap) (n0 : Nat) (v : Option Value) (h : Heap) (L : List Loc) : Prop := v = some (.int (own_pl xx xn)) ∧ Fr n0 L ∧ Keep h0 h [bc, bo, bh, bt, ac] ∧ own_Un Z h bc .byte (104 : Int32) ∧ own_Gi Z h bo .int xm (own_mv B (own_pl xx xn) xm (1 : Int32)) ∧ own_Un Z h bh .long xn ∧ own_Un Z h bt .long xn ∧ own_Gi Z h ac .int (4 : Int32) (own_up C (own_pl xx xn).toNatClampNeg ((C (own_pl xx xn).toNatClampNeg) + (1 : Int32)))
set_option maxRecDepth 65536 in
theorem own_pl4_0 {xn : Int32} {xm : Int32} {B : Nat → Int32} {C : Nat → Int32} {tot : Int} (hn1 : xm = (xn + (1 : Int32))) (htt : tot ≤ 2) (hI : own_Inv xn B C tot) : xn ≠ (0 : Int32) := by
  exact own_ne0 hI.1.1
set_option maxRecDepth 65536 in
theorem own_pl4_1 {xn : Int32} {xx : Int32} {xm : Int32} {B : Nat → Int32} {C : Nat → Int32} {tot : Int} {v2 : Int32} {v4 : Int32} (hv2 : v2 = ((xx &&& (2147483647 : Int32)) % xn)) (hv4 : v4 = ((((xx.toUInt32 >>> ((8 : Int32) &&& 31).toUInt32).toInt32) &&& (63 : Int32)) % (52 : Int32))) (hn1 : xm = (xn + (1 : Int32))) (htt : tot ≤ 2) (hI : own_Inv xn B C tot) (nz5_1 : xn ≠ (0 : Int32)) (nz17_3 : (52 : Int32) ≠ (0 : Int32)) : ¬ v2 < 0 ∧ v2 < (4 : Int32) := by
  have hp := own_pl_in (n := xn) xx hI.1.1
  rw [show own_pl xx xn = v2 from hv2.symm] at hp
  have hc := hI.at hp
  have hh := hI.1
  have ht0 := hI.2.1
  have e1 : (1 : Int32).toInt = 1 := rfl
  exact own_in hp.1 (by show _ < (4 : Int); omega)
set_option maxRecDepth 65536 in
theorem own_pl4_2 {xn : Int32} {xx : Int32} {xm : Int32} {B : Nat → Int32} {C : Nat → Int32} {tot : Int} {v2 : Int32} {v4 : Int32} (hv2 : v2 = ((xx &&& (2147483647 : Int32)) % xn)) (hv4 : v4 = ((((xx.toUInt32 >>> ((8 : Int32) &&& 31).toUInt32).toInt32) &&& (63 : Int32)) % (52 : Int32))) (hn1 : xm = (xn + (1 : Int32))) (htt : tot ≤ 2) (hI : own_Inv xn B C tot) (nz5_1 : xn ≠ (0 : Int32)) (nz17_3 : (52 : Int32) ≠ (0 : Int32)) (in30_6 : ¬ v2 < 0 ∧ v2 < (4 : Int32)) : ((C v2.toNatClampNeg) + (1 : Int32)) ≠ (0 : Int32) := by
  have hp := own_pl_in (n := xn) xx hI.1.1
  rw [show own_pl xx xn = v2 from hv2.symm] at hp
  have hc := hI.at hp
  have hh := hI.1
  have ht0 := hI.2.1
  have e1 : (1 : Int32).toInt = 1 := rfl
  exact own_ne0 (by rw [Jvm.Kit.i32_add (by omega) (by omega), e1]; omega)
set_option maxRecDepth 65536 in
theorem own_pl4_3 {xn : Int32} {xx : Int32} {xm : Int32} {B : Nat → Int32} {C : Nat → Int32} {tot : Int} {v2 : Int32} {v4 : Int32} {v8 : Int32} (hv2 : v2 = ((xx &&& (2147483647 : Int32)) % xn)) (hv4 : v4 = ((((xx.toUInt32 >>> ((8 : Int32) &&& 31).toUInt32).toInt32) &&& (63 : Int32)) % (52 : Int32))) (hv8 : v8 = ((((xx.toUInt32 >>> ((16 : Int32) &&& 31).toUInt32).toInt32) &&& (7 : Int32)) % ((C v2.toNatClampNeg) + (1 : Int32)))) (hn1 : xm = (xn + (1 : Int32))) (htt : tot ≤ 2) (hI : own_Inv xn B C tot) (nz5_1 : xn ≠ (0 : Int32)) (nz17_3 : (52 : Int32) ≠ (0 : Int32)) (in30_6 : ¬ v2 < 0 ∧ v2 < (4 : Int32)) (nz33_7 : ((C v2.toNatClampNeg) + (1 : Int32)) ≠ (0 : Int32)) : (0 : Int32) < xm := by
  have hp := own_pl_in (n := xn) xx hI.1.1
  rw [show own_pl xx xn = v2 from hv2.symm] at hp
  have hc := hI.at hp
  have hh := hI.1
  have ht0 := hI.2.1
  have e1 : (1 : Int32).toInt = 1 := rfl
  have a : xm.toInt = xn.toInt + 1 := by rw [hn1]; exact own_n1 hh.2 hh.1
  rw [own_lt, own_z]; omega
set_option maxRecDepth 65536 in
theorem own_pl4_4 {xn : Int32} {xx : Int32} {xm : Int32} {B : Nat → Int32} {C : Nat → Int32} {tot : Int} {v2 : Int32} {v4 : Int32} {v8 : Int32} (hv2 : v2 = ((xx &&& (2147483647 : Int32)) % xn)) (hv4 : v4 = ((((xx.toUInt32 >>> ((8 : Int32) &&& 31).toUInt32).toInt32) &&& (63 : Int32)) % (52 : Int32))) (hv8 : v8 = ((((xx.toUInt32 >>> ((16 : Int32) &&& 31).toUInt32).toInt32) &&& (7 : Int32)) % ((C v2.toNatClampNeg) + (1 : Int32)))) (hn1 : xm = (xn + (1 : Int32))) (htt : tot ≤ 2) (hI : own_Inv xn B C tot) (nz5_1 : xn ≠ (0 : Int32)) (nz17_3 : (52 : Int32) ≠ (0 : Int32)) (in30_6 : ¬ v2 < 0 ∧ v2 < (4 : Int32)) (nz33_7 : ((C v2.toNatClampNeg) + (1 : Int32)) ≠ (0 : Int32)) (cd43_10 : (0 : Int32) < xm) : ¬ v2 < 0 ∧ v2 < xn := by
  have hp := own_pl_in (n := xn) xx hI.1.1
  rw [show own_pl xx xn = v2 from hv2.symm] at hp
  have hc := hI.at hp
  have hh := hI.1
  have ht0 := hI.2.1
  have e1 : (1 : Int32).toInt = 1 := rfl
  exact own_in hp.1 hp.2
set_option maxRecDepth 65536 in
theorem own_pl4_5 {xn : Int32} {xx : Int32} {xm : Int32} {B : Nat → Int32} {C : Nat → Int32} {tot : Int} {v2 : Int32} {v4 : Int32} {v8 : Int32} (hv2 : v2 = ((xx &&& (2147483647 : Int32)) % xn)) (hv4 : v4 = ((((xx.toUInt32 >>> ((8 : Int32) &&& 31).toUInt32).toInt32) &&& (63 : Int32)) % (52 : Int32))) (hv8 : v8 = ((((xx.toUInt32 >>> ((16 : Int32) &&& 31).toUInt32).toInt32) &&& (7 : Int32)) % ((C v2.toNatClampNeg) + (1 : Int32)))) (hn1 : xm = (xn + (1 : Int32))) (htt : tot ≤ 2) (hI : own_Inv xn B C tot) (nz5_1 : xn ≠ (0 : Int32)) (nz17_3 : (52 : Int32) ≠ (0 : Int32)) (in30_6 : ¬ v2 < 0 ∧ v2 < (4 : Int32)) (nz33_7 : ((C v2.toNatClampNeg) + (1 : Int32)) ≠ (0 : Int32)) (cd43_10 : (0 : Int32) < xm) (cd43_11 : ¬ v2 < 0 ∧ v2 < xn) : ¬ v2 < 0 ∧ v2 < xm := by
  have hp := own_pl_in (n := xn) xx hI.1.1
  rw [show own_pl xx xn = v2 from hv2.symm] at hp
  have hc := hI.at hp
  have hh := hI.1
  have ht0 := hI.2.1
  have e1 : (1 : Int32).toInt = 1 := rfl
  have a : xm.toInt = xn.toInt + 1 := by rw [hn1]; exact own_n1 hh.2 hh.1
  exact own_in hp.1 (by omega)
set_option maxRecDepth 65536 in
theorem own_pl4_6 {xn : Int32} {xx : Int32} {xm : Int32} {B : Nat → Int32} {C : Nat → Int32} {tot : Int} {v2 : Int32} {v4 : Int32} {v8 : Int32} (hv2 : v2 = ((xx &&& (2147483647 : Int32)) % xn)) (hv4 : v4 = ((((xx.toUInt32 >>> ((8 : Int32) &&& 31).toUInt32).toInt32) &&& (63 : Int32)) % (52 : Int32))) (hv8 : v8 = ((((xx.toUInt32 >>> ((16 : Int32) &&& 31).toUInt32).toInt32) &&& (7 : Int32)) % ((C v2.toNatClampNeg) + (1 : Int32)))) (hn1 : xm = (xn + (1 : Int32))) (htt : tot ≤ 2) (hI : own_Inv xn B C tot) (nz5_1 : xn ≠ (0 : Int32)) (nz17_3 : (52 : Int32) ≠ (0 : Int32)) (in30_6 : ¬ v2 < 0 ∧ v2 < (4 : Int32)) (nz33_7 : ((C v2.toNatClampNeg) + (1 : Int32)) ≠ (0 : Int32)) (cd43_10 : (0 : Int32) < xm) (cd43_11 : ¬ v2 < 0 ∧ v2 < xn) (cd43_12 : ¬ v2 < 0 ∧ v2 < xm) : 0 ≤ ((B v2.toNatClampNeg) + v8).toInt ∧ ((B v2.toNatClampNeg) + v8).toInt ≤ (B (xm - (1 : Int32)).toNatClampNeg).toInt ∧ (B (xm - (1 : Int32)).toNatClampNeg).toInt ≤ 3 := by
  have hp := own_pl_in (n := xn) xx hI.1.1
  rw [show own_pl xx xn = v2 from hv2.symm] at hp
  have hc := hI.at hp
  have hh := hI.1
  have ht0 := hI.2.1
  have e1 : (1 : Int32).toInt = 1 := rfl
  have a : xm.toInt = xn.toInt + 1 := by rw [hn1]; exact own_n1 hh.2 hh.1
  have b : (xm - (1 : Int32)).toInt = xn.toInt := by rw [Jvm.Kit.i32_sub (by omega) (by omega), a, e1]; omega
  have c : (xm - (1 : Int32)).toNatClampNeg = xn.toNatClampNeg := by show (xm - (1 : Int32)).toInt.toNat = xn.toInt.toNat; rw [b]
  have d : ((C v2.toNatClampNeg) + (1 : Int32)).toInt = (C v2.toNatClampNeg).toInt + 1 := by rw [Jvm.Kit.i32_add (by omega) (by omega), e1]
  have o := own_rem (x := (((xx.toUInt32 >>> ((16 : Int32) &&& 31).toUInt32).toInt32) &&& (7 : Int32))) (y := (C v2.toNatClampNeg) + (1 : Int32)) (own_and7 _) (by omega)
  rw [← hv8] at o
  rw [c, hI.2.2.2.2, Jvm.Kit.i32_add (by omega) (by omega)]
  omega
set_option maxRecDepth 65536 in
theorem own_pl4_7 {xn : Int32} {xx : Int32} {xm : Int32} {B : Nat → Int32} {C : Nat → Int32} {tot : Int} {v2 : Int32} {v4 : Int32} {v8 : Int32} (hv2 : v2 = ((xx &&& (2147483647 : Int32)) % xn)) (hv4 : v4 = ((((xx.toUInt32 >>> ((8 : Int32) &&& 31).toUInt32).toInt32) &&& (63 : Int32)) % (52 : Int32))) (hv8 : v8 = ((((xx.toUInt32 >>> ((16 : Int32) &&& 31).toUInt32).toInt32) &&& (7 : Int32)) % ((C v2.toNatClampNeg) + (1 : Int32)))) (hn1 : xm = (xn + (1 : Int32))) (htt : tot ≤ 2) (hI : own_Inv xn B C tot) (nz5_1 : xn ≠ (0 : Int32)) (nz17_3 : (52 : Int32) ≠ (0 : Int32)) (in30_6 : ¬ v2 < 0 ∧ v2 < (4 : Int32)) (nz33_7 : ((C v2.toNatClampNeg) + (1 : Int32)) ≠ (0 : Int32)) (cd43_10 : (0 : Int32) < xm) (cd43_11 : ¬ v2 < 0 ∧ v2 < xn) (cd43_12 : ¬ v2 < 0 ∧ v2 < xm) (cd43_13 : 0 ≤ ((B v2.toNatClampNeg) + v8).toInt ∧ ((B v2.toNatClampNeg) + v8).toInt ≤ (B (xm - (1 : Int32)).toNatClampNeg).toInt ∧ (B (xm - (1 : Int32)).toNatClampNeg).toInt ≤ 3) : ¬ v2 < 0 ∧ v2 < (4 : Int32) := by
  have hp := own_pl_in (n := xn) xx hI.1.1
  rw [show own_pl xx xn = v2 from hv2.symm] at hp
  have hc := hI.at hp
  have hh := hI.1
  have ht0 := hI.2.1
  have e1 : (1 : Int32).toInt = 1 := rfl
  exact own_in hp.1 (by show _ < (4 : Int); omega)
set_option maxRecDepth 65536 in
theorem own_pl4_8 {xn : Int32} {xx : Int32} {xm : Int32} {B : Nat → Int32} {C : Nat → Int32} {tot : Int} {v2 : Int32} {v4 : Int32} {v8 : Int32} (hv2 : v2 = ((xx &&& (2147483647 : Int32)) % xn)) (hv4 : v4 = ((((xx.toUInt32 >>> ((8 : Int32) &&& 31).toUInt32).toInt32) &&& (63 : Int32)) % (52 : Int32))) (hv8 : v8 = ((((xx.toUInt32 >>> ((16 : Int32) &&& 31).toUInt32).toInt32) &&& (7 : Int32)) % ((C v2.toNatClampNeg) + (1 : Int32)))) (hn1 : xm = (xn + (1 : Int32))) (htt : tot ≤ 2) (hI : own_Inv xn B C tot) (nz5_1 : xn ≠ (0 : Int32)) (nz17_3 : (52 : Int32) ≠ (0 : Int32)) (in30_6 : ¬ v2 < 0 ∧ v2 < (4 : Int32)) (nz33_7 : ((C v2.toNatClampNeg) + (1 : Int32)) ≠ (0 : Int32)) (cd43_10 : (0 : Int32) < xm) (cd43_11 : ¬ v2 < 0 ∧ v2 < xn) (cd43_12 : ¬ v2 < 0 ∧ v2 < xm) (cd43_13 : 0 ≤ ((B v2.toNatClampNeg) + v8).toInt ∧ ((B v2.toNatClampNeg) + v8).toInt ≤ (B (xm - (1 : Int32)).toNatClampNeg).toInt ∧ (B (xm - (1 : Int32)).toNatClampNeg).toInt ≤ 3) (in52_26 : ¬ v2 < 0 ∧ v2 < (4 : Int32)) : ¬ v2 < 0 ∧ v2 < (4 : Int32) := by
  have hp := own_pl_in (n := xn) xx hI.1.1
  rw [show own_pl xx xn = v2 from hv2.symm] at hp
  have hc := hI.at hp
  have hh := hI.1
  have ht0 := hI.2.1
  have e1 : (1 : Int32).toInt = 1 := rfl
  exact own_in hp.1 (by show _ < (4 : Int); omega)
set_option maxRecDepth 65536 in
set_option maxHeartbeats 40000000 in
theorem rm4 (l : Launch) (Z : State) (a0 : Array Value) (hw : ∀ d ∈ tables_1, d.before a0 Z = true) (ws : List Jvm.Cond) (ar : Addr) (ac : Addr) (xn : Int32) (xx : Int32) (bc : Addr) (bo : Addr) (bh : Addr) (bt : Addr) (xm : Int32) (B : Nat → Int32) (C : Nat → Int32) (tot : Int) (h0 : Heap) (n0 : Nat) (Z0 : n0 ≤ h0.size) (PF0 : Exa Z h0 ar "com/example/wildsuit/wildsuit/game/Row") (PF1 : Exa Z h0 bc "[B") (PF2 : Exa Z h0 bo "[I") (PF3 : Exa Z h0 bh "[J") (PF4 : Exa Z h0 bt "[J") (PF5 : Fld Z h0 ar "com/example/wildsuit/wildsuit/game/Row" "cards" "[B" (.ref bc)) (PF6 : Fld Z h0 ar "com/example/wildsuit/wildsuit/game/Row" "borders" "[I" (.ref bo)) (PF7 : Fld Z h0 ar "com/example/wildsuit/wildsuit/game/Row" "held" "[J" (.ref bh)) (PF8 : Fld Z h0 ar "com/example/wildsuit/wildsuit/game/Row" "heldTwice" "[J" (.ref bt)) (PF9 : own_Gi Z h0 bo .int xm B) (PF10 : own_Un Z h0 bc .byte (104 : Int32)) (PF11 : own_Un Z h0 bh .long xn) (PF12 : own_Un Z h0 bt .long xn) (PF13 : Exa Z h0 ac "[I") (PF14 : own_Gi Z h0 ac .int (4 : Int32) C) (PN0 : bh ≠ bt) (PN1 : ac ≠ bo) (ge_bc : n0 ≤ bc) (ge_bo : n0 ≤ bo) (ge_bh : n0 ≤ bh) (ge_bt : n0 ≤ bt) (ge_ac : n0 ≤ ac) (hn1 : xm = (xn + (1 : Int32))) (htt : tot ≤ 2) (hI : own_Inv xn B C tot) :
    MetFree l (⟨"com/example/wildsuit/wildsuit/game/RowSizePinLaw", "put", "(Lcom/example/wildsuit/wildsuit/game/Row;[III)I"⟩ : MethodName) (head1 (Jvm.Cond.code (⟨"com/example/wildsuit/wildsuit/game/RowSizePinLaw", "put", "(Lcom/example/wildsuit/wildsuit/game/Row;[III)I"⟩ : MethodName) method_3_code 7 (some .int) :: ws) ({ frames := 3, cells := 0, slots := 0, locals := 46 } : Room)) (fun a U => a = #[(.ref ar), (.ref ac), (.int xn), (.int xx)] ∧ Z.Warmed39 U.vm ∧ U.heap = h0) (fun _ _ _ _ _ => True) (fun _ U o U' => ∃ v L, o = .returned v ∧ Q4 Z ar ac xn xx bc bo bh bt xm B C tot h0 n0 v U'.heap L ∧ FrameEnd U o U' L ({ frames := 3, cells := 0, slots := 0, locals := 46 } : Room).cells ({ frames := 3, cells := 0, slots := 0, locals := 46 } : Room).slots) := by
  refine MetFree.of_bodySF (plainFor_of_name pn_4) hisR ?_
  intro p e s m args below meth c s₁ Bd hml0 hP hK
  obtain ⟨rfl, hZ, hh⟩ := hP
  have hx := Bd.exec
  have hby := Bd.bytes
  have hml : c.maxLocals = 7 := hml0
  have hown : s.vm.findClass "com/example/wildsuit/wildsuit/game/RowSizePinLaw" = some m.cls := findClass_of_methodNamed Bd.named
  have hnm := (name_of_methodNamed Bd.named Bd.method).1
  have X0 : Stand p l e ({ frames := 3, cells := 0, slots := 0, locals := 46 } : Room) s m #[(.ref ar), (.ref ac), (.int xn), (.int xx)] below meth c s₁ [] 0 0 := Stand.of_body Bd
  have e0 : s₁.heap = h0 := by rw [← hh, Bd.state]; rfl
  have N0 := Fr.nil n0
  suffices G : own_Goes p.tables e below (fun o U' => ∃ v L, o = .returned v ∧ Q4 Z ar ac xn xx bc bo bh bt xm B C tot h0 n0 v U'.heap L ∧ FrameEnd s o U' L ({ frames := 3, cells := 0, slots := 0, locals := 46 } : Room).cells ({ frames := 3, cells := 0, slots := 0, locals := 46 } : Room).slots) s₁ (mkF m 0 #[.val (.ref ar), .val (.ref ac), .val (.int xn), .val (.int xx), .unset, .unset, .unset] []) by
    obtain ⟨t2_, o2_, z1_, z2_, z3_, z4_⟩ := G
    exact ⟨t2_, o2_, castTop (ef_4 m ar ac xn xx) z1_, z2_, z3_, z4_⟩
  generalize hPd : (fun (o : Outcome) (U' : State) => ∃ v L, o = .returned v ∧ Q4 Z ar ac xn xx bc bo bh bt xm B C tot h0 n0 v U'.heap L ∧ FrameEnd s o U' L ({ frames := 3, cells := 0, slots := 0, locals := 46 } : Room).cells ({ frames := 3, cells := 0, slots := 0, locals := 46 } : Room).slots) = P
  refine own_Goes.via (T' := s₁) (g' := (mkF m 1 #[.val (.ref ar), .val (.ref ac), .val (.int xn), .val (.int xx), .unset, .unset, .unset] [(.int xx)])) (fun t_ k_ => XS.iloadN X0.here hx rfl (hb hby d4_0) rfl k_) ?_
  refine own_Goes.via (T' := s₁) (g' := (mkF m 3 #[.val (.ref ar), .val (.ref ac), .val (.int xn), .val (.int xx), .unset, .unset, .unset] [(.int (2147483647 : Int32)), (.int xx)])) (X0.ldcInt hx hown (mvT hZ (hw _ (List.mem_of_getElem? (i := 29) rfl))) (g := (mkF m 1 #[.val (.ref ar), .val (.ref ac), .val (.int xn), .val (.int xx), .unset, .unset, .unset] [(.int xx)])) rfl (hb hby d4_1)) ?_
  refine own_Goes.via (T' := s₁) (g' := (mkF m 4 #[.val (.ref ar), .val (.ref ac), .val (.int xn), .val (.int xx), .unset, .unset, .unset] [(.int (xx &&& (2147483647 : Int32)))])) (fun t_ k_ => XS.iand X0.here hx rfl (hb hby d4_3) rfl k_) ?_
  refine own_Goes.via (T' := s₁) (g' := (mkF m 5 #[.val (.ref ar), .val (.ref ac), .val (.int xn), .val (.int xx), .unset, .unset, .unset] [(.int xn), (.int (xx &&& (2147483647 : Int32)))])) (fun t_ k_ => XS.iloadN X0.here hx rfl (hb hby d4_4) rfl k_) ?_
  have nz5_1 : xn ≠ (0 : Int32) := own_pl4_0 hn1 htt hI
  refine own_Goes.via (T' := s₁) (g' := (mkF m 6 #[.val (.ref ar), .val (.ref ac), .val (.int xn), .val (.int xx), .unset, .unset, .unset] [(.int ((xx &&& (2147483647 : Int32)) % xn))])) (fun t_ k_ => iremM X0 hx rfl (hb hby d4_5) rfl nz5_1 k_) ?_
  refine own_Goes.via (T' := s₁) (g' := (mkF m 8 #[.val (.ref ar), .val (.ref ac), .val (.int xn), .val (.int xx), .val (.int ((xx &&& (2147483647 : Int32)) % xn)), .unset, .unset] [])) (fun t_ k_ => XS.istore X0.here hx rfl (hb hby d4_6) rfl (l' := #[.val (.ref ar), .val (.ref ac), .val (.int xn), .val (.int xx), .val (.int ((xx &&& (2147483647 : Int32)) % xn)), .unset, .unset]) rfl k_) ?_
  obtain ⟨v2, hv2⟩ : ∃ z : Int32, z = ((xx &&& (2147483647 : Int32)) % xn) := ⟨_, rfl⟩
  rw [← hv2]
  refine own_Goes.via (T' := s₁) (g' := (mkF m 9 #[.val (.ref ar), .val (.ref ac), .val (.int xn), .val (.int xx), .val (.int v2), .unset, .unset] [(.int xx)])) (fun t_ k_ => XS.iloadN X0.here hx rfl (hb hby d4_8) rfl k_) ?_
  refine own_Goes.via (T' := s₁) (g' := (mkF m 11 #[.val (.ref ar), .val (.ref ac), .val (.int xn), .val (.int xx), .val (.int v2), .unset, .unset] [(.int (8 : Int32)), (.int xx)])) (fun t_ k_ => XS.bipush X0.here hx rfl (hb hby d4_9) k_) ?_
  refine own_Goes.via (T' := s₁) (g' := (mkF m 12 #[.val (.ref ar), .val (.ref ac), .val (.int xn), .val (.int xx), .val (.int v2), .unset, .unset] [(.int ((xx.toUInt32 >>> ((8 : Int32) &&& 31).toUInt32).toInt32))])) (fun t_ k_ => XS.iushr X0.here hx rfl (hb hby d4_11) rfl k_) ?_
  refine own_Goes.via (T' := s₁) (g' := (mkF m 14 #[.val (.ref ar), .val (.ref ac), .val (.int xn), .val (.int xx), .val (.int v2), .unset, .unset] [(.int (63 : Int32)), (.int ((xx.toUInt32 >>> ((8 : Int32) &&& 31).toUInt32).toInt32))])) (fun t_ k_ => XS.bipush X0.here hx rfl (hb hby d4_12) k_) ?_
  refine own_Goes.via (T' := s₁) (g' := (mkF m 15 #[.val (.ref ar), .val (.ref ac), .val (.int xn), .val (.int xx), .val (.int v2), .unset, .unset] [(.int (((xx.toUInt32 >>> ((8 : Int32) &&& 31).toUInt32).toInt32) &&& (63 : Int32)))])) (fun t_ k_ => XS.iand X0.here hx rfl (hb hby d4_14) rfl k_) ?_
  refine own_Goes.via (T' := s₁) (g' := (mkF m 17 #[.val (.ref ar), .val (.ref ac), .val (.int xn), .val (.int xx), .val (.int v2), .unset, .unset] [(.int (52 : Int32)), (.int (((xx.toUInt32 >>> ((8 : Int32) &&& 31).toUInt32).toInt32) &&& (63 : Int32)))])) (fun t_ k_ => XS.bipush X0.here hx rfl (hb hby d4_15) k_) ?_
  have nz17_3 : (52 : Int32) ≠ (0 : Int32) := by first | assumption | decide
  refine own_Goes.via (T' := s₁) (g' := (mkF m 18 #[.val (.ref ar), .val (.ref ac), .val (.int xn), .val (.int xx), .val (.int v2), .unset, .unset] [(.int ((((xx.toUInt32 >>> ((8 : Int32) &&& 31).toUInt32).toInt32) &&& (63 : Int32)) % (52 : Int32)))])) (fun t_ k_ => iremM X0 hx rfl (hb hby d4_17) rfl nz17_3 k_) ?_
  refine own_Goes.via (T' := s₁) (g' := (mkF m 20 #[.val (.ref ar), .val (.ref ac), .val (.int xn), .val (.int xx), .val (.int v2), .val (.int ((((xx.toUInt32 >>> ((8 : Int32) &&& 31).toUInt32).toInt32) &&& (63 : Int32)) % (52 : Int32))), .unset] [])) (fun t_ k_ => XS.istore X0.here hx rfl (hb hby d4_18) rfl (l' := #[.val (.ref ar), .val (.ref ac), .val (.int xn), .val (.int xx), .val (.int v2), .val (.int ((((xx.toUInt32 >>> ((8 : Int32) &&& 31).toUInt32).toInt32) &&& (63 : Int32)) % (52 : Int32))), .unset]) rfl k_) ?_
  obtain ⟨v4, hv4⟩ : ∃ z : Int32, z = ((((xx.toUInt32 >>> ((8 : Int32) &&& 31).toUInt32).toInt32) &&& (63 : Int32)) % (52 : Int32)) := ⟨_, rfl⟩
  rw [← hv4]
  refine own_Goes.via (T' := s₁) (g' := (mkF m 21 #[.val (.ref ar), .val (.ref ac), .val (.int xn), .val (.int xx), .val (.int v2), .val (.int v4), .unset] [(.int xx)])) (fun t_ k_ => XS.iloadN X0.here hx rfl (hb hby d4_20) rfl k_) ?_
  refine own_Goes.via (T' := s₁) (g' := (mkF m 23 #[.val (.ref ar), .val (.ref ac), .val (.int xn), .val (.int xx), .val (.int v2), .val (.int v4), .unset] [(.int (16 : Int32)), (.int xx)])) (fun t_ k_ => XS.bipush X0.here hx rfl (hb hby d4_21) k_) ?_
  refine own_Goes.via (T' := s₁) (g' := (mkF m 24 #[.val (.ref ar), .val (.ref ac), .val (.int xn), .val (.int xx), .val (.int v2), .val (.int v4), .unset] [(.int ((xx.toUInt32 >>> ((16 : Int32) &&& 31).toUInt32).toInt32))])) (fun t_ k_ => XS.iushr X0.here hx rfl (hb hby d4_23) rfl k_) ?_
  refine own_Goes.via (T' := s₁) (g' := (mkF m 26 #[.val (.ref ar), .val (.ref ac), .val (.int xn), .val (.int xx), .val (.int v2), .val (.int v4), .unset] [(.int (7 : Int32)), (.int ((xx.toUInt32 >>> ((16 : Int32) &&& 31).toUInt32).toInt32))])) (fun t_ k_ => XS.bipush X0.here hx rfl (hb hby d4_24) k_) ?_
  refine own_Goes.via (T' := s₁) (g' := (mkF m 27 #[.val (.ref ar), .val (.ref ac), .val (.int xn), .val (.int xx), .val (.int v2), .val (.int v4), .unset] [(.int (((xx.toUInt32 >>> ((16 : Int32) &&& 31).toUInt32).toInt32) &&& (7 : Int32)))])) (fun t_ k_ => XS.iand X0.here hx rfl (hb hby d4_26) rfl k_) ?_
  refine own_Goes.via (T' := s₁) (g' := (mkF m 28 #[.val (.ref ar), .val (.ref ac), .val (.int xn), .val (.int xx), .val (.int v2), .val (.int v4), .unset] [(.ref ac), (.int (((xx.toUInt32 >>> ((16 : Int32) &&& 31).toUInt32).toInt32) &&& (7 : Int32)))])) (fun t_ k_ => XS.aloadN X0.here hx rfl (hb hby d4_27) rfl rfl k_) ?_
  refine own_Goes.via (T' := s₁) (g' := (mkF m 30 #[.val (.ref ar), .val (.ref ac), .val (.int xn), .val (.int xx), .val (.int v2), .val (.int v4), .unset] [(.int v2), (.ref ac), (.int (((xx.toUInt32 >>> ((16 : Int32) &&& 31).toUInt32).toInt32) &&& (7 : Int32)))])) (fun t_ k_ => XS.iload X0.here hx rfl (hb hby d4_28) rfl k_) ?_
  have in30_6 : ¬ v2 < 0 ∧ v2 < (4 : Int32) := own_pl4_1 hv2 hv4 hn1 htt hI nz5_1 nz17_3
  obtain ⟨cl5, Ar5, Sl5, at5⟩ := PF14.rd in30_6
  refine own_Goes.via (T' := s₁) (g' := (mkF m 31 #[.val (.ref ar), .val (.ref ac), .val (.int xn), .val (.int xx), .val (.int v2), .val (.int v4), .unset] [(.int (C v2.toNatClampNeg)), (.int (((xx.toUInt32 >>> ((16 : Int32) &&& 31).toUInt32).toInt32) &&& (7 : Int32)))])) (fun t_ k_ => X0.iaload hx (j := v2) (v := (.int (C v2.toNatClampNeg))) (by rw [e0]; exact Ar5.1) (State.isArrayOf_alike hZ.alike Ar5.2.1) Ar5.2.2 (inb_of Sl5 in30_6) at5 (g := (mkF m 30 #[.val (.ref ar), .val (.ref ac), .val (.int xn), .val (.int xx), .val (.int v2), .val (.int v4), .unset] [(.int v2), (.ref ac), (.int (((xx.toUInt32 >>> ((16 : Int32) &&& 31).toUInt32).toInt32) &&& (7 : Int32)))])) rfl rfl (hb hby d4_30) _ k_) ?_
  refine own_Goes.via (T' := s₁) (g' := (mkF m 32 #[.val (.ref ar), .val (.ref ac), .val (.int xn), .val (.int xx), .val (.int v2), .val (.int v4), .unset] [(.int (1 : Int32)), (.int (C v2.toNatClampNeg)), (.int (((xx.toUInt32 >>> ((16 : Int32) &&& 31).toUInt32).toInt32) &&& (7 : Int32)))])) (fun t_ k_ => XS.iconst X0.here hx rfl (hb hby d4_31) k_) ?_
  refine own_Goes.via (T' := s₁) (g' := (mkF m 33 #[.val (.ref ar), .val (.ref ac), .val (.int xn), .val (.int xx), .val (.int v2), .val (.int v4), .unset] [(.int ((C v2.toNatClampNeg) + (1 : Int32))), (.int (((xx.toUInt32 >>> ((16 : Int32) &&& 31).toUInt32).toInt32) &&& (7 : Int32)))])) (fun t_ k_ => XS.iadd X0.here hx rfl (hb hby d4_32) rfl k_) ?_
  have nz33_7 : ((C v2.toNatClampNeg) + (1 : Int32)) ≠ (0 : Int32) := own_pl4_2 hv2 hv4 hn1 htt hI nz5_1 nz17_3 in30_6
  refine own_Goes.via (T' := s₁) (g' := (mkF m 34 #[.val (.ref ar), .val (.ref ac), .val (.int xn), .val (.int xx), .val (.int v2), .val (.int v4), .unset] [(.int ((((xx.toUInt32 >>> ((16 : Int32) &&& 31).toUInt32).toInt32) &&& (7 : Int32)) % ((C v2.toNatClampNeg) + (1 : Int32))))])) (fun t_ k_ => iremM X0 hx rfl (hb hby d4_33) rfl nz33_7 k_) ?_
  refine own_Goes.via (T' := s₁) (g' := (mkF m 36 #[.val (.ref ar), .val (.ref ac), .val (.int xn), .val (.int xx), .val (.int v2), .val (.int v4), .val (.int ((((xx.toUInt32 >>> ((16 : Int32) &&& 31).toUInt32).toInt32) &&& (7 : Int32)) % ((C v2.toNatClampNeg) + (1 : Int32))))] [])) (fun t_ k_ => XS.istore X0.here hx rfl (hb hby d4_34) rfl (l' := #[.val (.ref ar), .val (.ref ac), .val (.int xn), .val (.int xx), .val (.int v2), .val (.int v4), .val (.int ((((xx.toUInt32 >>> ((16 : Int32) &&& 31).toUInt32).toInt32) &&& (7 : Int32)) % ((C v2.toNatClampNeg) + (1 : Int32))))]) rfl k_) ?_
  obtain ⟨v8, hv8⟩ : ∃ z : Int32, z = ((((xx.toUInt32 >>> ((16 : Int32) &&& 31).toUInt32).toInt32) &&& (7 : Int32)) % ((C v2.toNatClampNeg) + (1 : Int32))) := ⟨_, rfl⟩
  rw [← hv8]
  refine own_Goes.via (T' := s₁) (g' := (mkF m 37 #[.val (.ref ar), .val (.ref ac), .val (.int xn), .val (.int xx), .val (.int v2), .val (.int v4), .val (.int v8)] [(.ref ar)])) (fun t_ k_ => XS.aloadN X0.here hx rfl (hb hby d4_36) rfl rfl k_) ?_
  refine own_Goes.via (T' := s₁) (g' := (mkF m 39 #[.val (.ref ar), .val (.ref ac), .val (.int xn), .val (.int xx), .val (.int v2), .val (.int v4), .val (.int v8)] [(.int v2), (.ref ar)])) (fun t_ k_ => XS.iload X0.here hx rfl (hb hby d4_37) rfl k_) ?_
  refine own_Goes.via (T' := s₁) (g' := (mkF m 41 #[.val (.ref ar), .val (.ref ac), .val (.int xn), .val (.int xx), .val (.int v2), .val (.int v4), .val (.int v8)] [(.int v8), (.int v2), (.ref ar)])) (fun t_ k_ => XS.iload X0.here hx rfl (hb hby d4_39) rfl k_) ?_
  refine own_Goes.via (T' := s₁) (g' := (mkF m 43 #[.val (.ref ar), .val (.ref ac), .val (.int xn), .val (.int xx), .val (.int v2), .val (.int v4), .val (.int v8)] [(.int v4), (.int v8), (.int v2), (.ref ar)])) (fun t_ k_ => XS.iload X0.here hx rfl (hb hby d4_41) rfl k_) ?_
  have cd43_10 : (0 : Int32) < xm := own_pl4_3 hv2 hv4 hv8 hn1 htt hI nz5_1 nz17_3 in30_6 nz33_7
  have cd43_11 : ¬ v2 < 0 ∧ v2 < xn := own_pl4_4 hv2 hv4 hv8 hn1 htt hI nz5_1 nz17_3 in30_6 nz33_7 cd43_10
  have cd43_12 : ¬ v2 < 0 ∧ v2 < xm := own_pl4_5 hv2 hv4 hv8 hn1 htt hI nz5_1 nz17_3 in30_6 nz33_7 cd43_10 cd43_11
  have cd43_13 : 0 ≤ ((B v2.toNatClampNeg) + v8).toInt ∧ ((B v2.toNatClampNeg) + v8).toInt ≤ (B (xm - (1 : Int32)).toNatClampNeg).toInt ∧ (B (xm - (1 : Int32)).toNatClampNeg).toInt ≤ 3 := own_pl4_6 hv2 hv4 hv8 hn1 htt hI nz5_1 nz17_3 in30_6 nz33_7 cd43_10 cd43_11 cd43_12
  obtain ⟨cq9, kq9, q9a, q9b, q9c⟩ := isOf hZ e0 PF0
  obtain ⟨_, _, ⟨T9, L9, k9, n9⟩, -, X9, ⟨Lc9, hQ9, l9, y9, z9⟩, st9⟩ := X0.virtualBack hx (y := (⟨"com/example/wildsuit/wildsuit/game/Row", "insert", "(III)V"⟩ : MethodName)) (z := (⟨"com/example/wildsuit/wildsuit/game/Row", "insert", "(III)V"⟩ : MethodName)) hown (mvT hZ (hw _ (List.mem_of_getElem? (i := 30) rfl))) (mvT hZ (hw _ (List.mem_of_getElem? (i := 31) rfl))) (notFace_of_selects (args := #[]) (mvT hZ (hw _ (List.mem_of_getElem? (i := 33) rfl)))) (mvT hZ (hw _ (List.mem_of_getElem? (i := 33) rfl))) (mvT hZ (hw _ (List.mem_of_getElem? (i := 32) rfl))) (by decide) (backOf (W := 0) (rm5 l Z a0 hw [] ar v2 v8 v4 bc bo bh bt xm xn B h0 n0 Z0 PF0 PF1 PF2 PF3 PF4 PF5 PF6 PF7 PF8 PF9 PF10 PF11 PF12 PN0 ge_bc ge_bo ge_bh ge_bt cd43_10 cd43_11 cd43_12 cd43_13) hZ (hw _ (List.mem_of_getElem? (i := 34) rfl)) (hw _ (List.mem_of_getElem? (i := 3) rfl)) (by decide) (by decide)) q9a q9c (g := (mkF m 43 #[.val (.ref ar), .val (.ref ac), .val (.int xn), .val (.int xx), .val (.int v2), .val (.int v4), .val (.int v8)] [(.int v4), (.int v8), (.int v2), (.ref ar)])) rfl (by rw [hml]; rfl) (Steps.refl _) (argsL := [(.int v2), (.int v8), (.int v4)]) (rest := []) (lenOf pd_4_0 rfl) rfl (by show 2 * 0 + _ ≤ _; exact Nat.le_of_eq rfl) (hb hby d4_43) (fun _ _ => ⟨rfl, e0, (by decide : 0 + 0 ≤ _), (by decide : 0 + 0 ≤ _)⟩)
  dsimp only [Pt.U, Pt.locs, Pt.cells, Pt.slots] at X9 l9 y9 z9 st9 hQ9
  subst l9 y9 z9
  obtain ⟨rfl, Nq9, Kq9, pf9_0, pf9_1, pf9_2, pf9_3⟩ := hQ9
  have N9 := Fr.app N0 Nq9
  have E14 : Exa Z T9.heap ar "com/example/wildsuit/wildsuit/game/Row" := PF0.keep Kq9
  have E15 : Exa Z T9.heap bc "[B" := PF1.keep Kq9
  have E16 : Exa Z T9.heap bo "[I" := PF2.keep Kq9
  have E17 : Exa Z T9.heap bh "[J" := PF3.keep Kq9
  have E18 : Exa Z T9.heap bt "[J" := PF4.keep Kq9
  have E19 : Exa Z T9.heap ac "[I" := PF13.keep Kq9
  have F20 : Fld Z T9.heap ar "com/example/wildsuit/wildsuit/game/Row" "cards" "[B" (.ref bc) := PF5.keep Kq9 (ninS (Exa.ne E14 E15 (by decide)) (ninS (Exa.ne E14 E16 (by decide)) (ninS (Exa.ne E14 E17 (by decide)) (ninS (Exa.ne E14 E18 (by decide)) nin0))))
  have F21 : Fld Z T9.heap ar "com/example/wildsuit/wildsuit/game/Row" "borders" "[I" (.ref bo) := PF6.keep Kq9 (ninS (Exa.ne E14 E15 (by decide)) (ninS (Exa.ne E14 E16 (by decide)) (ninS (Exa.ne E14 E17 (by decide)) (ninS (Exa.ne E14 E18 (by decide)) nin0))))
  have F22 : Fld Z T9.heap ar "com/example/wildsuit/wildsuit/game/Row" "held" "[J" (.ref bh) := PF7.keep Kq9 (ninS (Exa.ne E14 E15 (by decide)) (ninS (Exa.ne E14 E16 (by decide)) (ninS (Exa.ne E14 E17 (by decide)) (ninS (Exa.ne E14 E18 (by decide)) nin0))))
  have F23 : Fld Z T9.heap ar "com/example/wildsuit/wildsuit/game/Row" "heldTwice" "[J" (.ref bt) := PF8.keep Kq9 (ninS (Exa.ne E14 E15 (by decide)) (ninS (Exa.ne E14 E16 (by decide)) (ninS (Exa.ne E14 E17 (by decide)) (ninS (Exa.ne E14 E18 (by decide)) nin0))))
  have G24 : own_Gi Z T9.heap ac .int (4 : Int32) C := PF14.keep Kq9 (ninS (Exa.ne E19 E15 (by decide)) (ninS PN1 (ninS (Exa.ne E19 E17 (by decide)) (ninS (Exa.ne E19 E18 (by decide)) nin0))))
  have sz9 : n0 ≤ T9.heap.size := Nat.le_trans Z0 Kq9.1
  have K9 : Keep h0 T9.heap [bc, bo, bh, bt, ac] := ((Keep.refl h0 [bc, bo, bh, bt, ac])).trans Kq9 (allS (Or.inl (List.mem_of_getElem? (i := 0) rfl)) (allS (Or.inl (List.mem_of_getElem? (i := 1) rfl)) (allS (Or.inl (List.mem_of_getElem? (i := 2) rfl)) (allS (Or.inl (List.mem_of_getElem? (i := 3) rfl)) all0))))
  refine own_Goes.via (T' := T9) (g' := (mkF m 46 #[.val (.ref ar), .val (.ref ac), .val (.int xn), .val (.int xx), .val (.int v2), .val (.int v4), .val (.int v8)] [])) (fun t_ k_ => st9.trans k_) ?_
  refine own_Goes.via (T' := T9) (g' := (mkF m 47 #[.val (.ref ar), .val (.ref ac), .val (.int xn), .val (.int xx), .val (.int v2), .val (.int v4), .val (.int v8)] [(.ref ac)])) (fun t_ k_ => XS.aloadN X9.here hx rfl (hb hby d4_46) rfl rfl k_) ?_
  refine own_Goes.via (T' := T9) (g' := (mkF m 49 #[.val (.ref ar), .val (.ref ac), .val (.int xn), .val (.int xx), .val (.int v2), .val (.int v4), .val (.int v8)] [(.int v2), (.ref ac)])) (fun t_ k_ => XS.iload X9.here hx rfl (hb hby d4_47) rfl k_) ?_
  refine own_Goes.via (T' := T9) (g' := (mkF m 50 #[.val (.ref ar), .val (.ref ac), .val (.int xn), .val (.int xx), .val (.int v2), .val (.int v4), .val (.int v8)] [(.ref ac), (.int v2), (.ref ac)])) (fun t_ k_ => XS.aloadN X9.here hx rfl (hb hby d4_49) rfl rfl k_) ?_
  refine own_Goes.via (T' := T9) (g' := (mkF m 52 #[.val (.ref ar), .val (.ref ac), .val (.int xn), .val (.int xx), .val (.int v2), .val (.int v4), .val (.int v8)] [(.int v2), (.ref ac), (.int v2), (.ref ac)])) (fun t_ k_ => XS.iload X9.here hx rfl (hb hby d4_50) rfl k_) ?_
  have in52_26 : ¬ v2 < 0 ∧ v2 < (4 : Int32) := own_pl4_7 hv2 hv4 hv8 hn1 htt hI nz5_1 nz17_3 in30_6 nz33_7 cd43_10 cd43_11 cd43_12 cd43_13
  obtain ⟨cl25, Ar25, Sl25, at25⟩ := G24.rd in52_26
  refine own_Goes.via (T' := T9) (g' := (mkF m 53 #[.val (.ref ar), .val (.ref ac), .val (.int xn), .val (.int xx), .val (.int v2), .val (.int v4), .val (.int v8)] [(.int (C v2.toNatClampNeg)), (.int v2), (.ref ac)])) (fun t_ k_ => X9.iaload hx (j := v2) (v := (.int (C v2.toNatClampNeg))) Ar25.1 (State.isArrayOf_alike hZ.alike Ar25.2.1) Ar25.2.2 (inb_of Sl25 in52_26) at25 (g := (mkF m 52 #[.val (.ref ar), .val (.ref ac), .val (.int xn), .val (.int xx), .val (.int v2), .val (.int v4), .val (.int v8)] [(.int v2), (.ref ac), (.int v2), (.ref ac)])) rfl rfl (hb hby d4_52) _ k_) ?_
  refine own_Goes.via (T' := T9) (g' := (mkF m 54 #[.val (.ref ar), .val (.ref ac), .val (.int xn), .val (.int xx), .val (.int v2), .val (.int v4), .val (.int v8)] [(.int (1 : Int32)), (.int (C v2.toNatClampNeg)), (.int v2), (.ref ac)])) (fun t_ k_ => XS.iconst X9.here hx rfl (hb hby d4_53) k_) ?_
  refine own_Goes.via (T' := T9) (g' := (mkF m 55 #[.val (.ref ar), .val (.ref ac), .val (.int xn), .val (.int xx), .val (.int v2), .val (.int v4), .val (.int v8)] [(.int ((C v2.toNatClampNeg) + (1 : Int32))), (.int v2), (.ref ac)])) (fun t_ k_ => XS.iadd X9.here hx rfl (hb hby d4_54) rfl k_) ?_
  obtain ⟨cl27, Ar27, Sl27, Ng27, -⟩ := id G24
  have in55_28 : ¬ v2 < 0 ∧ v2 < (4 : Int32) := own_pl4_8 hv2 hv4 hv8 hn1 htt hI nz5_1 nz17_3 in30_6 nz33_7 cd43_10 cd43_11 cd43_12 cd43_13 in52_26
  obtain ⟨T27, h27, X27, e27, W27, st27⟩ := stI X9 hx hZ rfl Ar27 (j := v2) (inb_of Sl27 in55_28) (g := (mkF m 55 #[.val (.ref ar), .val (.ref ac), .val (.int xn), .val (.int xx), .val (.int v2), .val (.int v4), .val (.int v8)] [(.int ((C v2.toNatClampNeg) + (1 : Int32))), (.int v2), (.ref ac)])) rfl rfl (hb hby d4_55)
  have E29 : Exa Z h27 ar "com/example/wildsuit/wildsuit/game/Row" := E14.wr W27
  have E30 : Exa Z h27 bc "[B" := E15.wr W27
  have E31 : Exa Z h27 bo "[I" := E16.wr W27
  have E32 : Exa Z h27 bh "[J" := E17.wr W27
  have E33 : Exa Z h27 bt "[J" := E18.wr W27
  have E34 : Exa Z h27 ac "[I" := E19.wr W27
  have F35 : Fld Z h27 ar "com/example/wildsuit/wildsuit/game/Row" "cards" "[B" (.ref bc) := F20.other W27 (Or.inl (Exa.ne E29 E34 (by decide)))
  have F36 : Fld Z h27 ar "com/example/wildsuit/wildsuit/game/Row" "borders" "[I" (.ref bo) := F21.other W27 (Or.inl (Exa.ne E29 E34 (by decide)))
  have F37 : Fld Z h27 ar "com/example/wildsuit/wildsuit/game/Row" "held" "[J" (.ref bh) := F22.other W27 (Or.inl (Exa.ne E29 E34 (by decide)))
  have F38 : Fld Z h27 ar "com/example/wildsuit/wildsuit/game/Row" "heldTwice" "[J" (.ref bt) := F23.other W27 (Or.inl (Exa.ne E29 E34 (by decide)))
  have U39 : own_Un Z h27 bc .byte (104 : Int32) := pf9_0.other W27 (Exa.ne E30 E34 (by decide))
  have G40 : own_Gi Z h27 bo .int xm (own_mv B v2 xm (1 : Int32)) := pf9_1.other W27 (Ne.symm PN1)
  have U41 : own_Un Z h27 bh .long xn := pf9_2.other W27 (Exa.ne E32 E34 (by decide))
  have U42 : own_Un Z h27 bt .long xn := pf9_3.other W27 (Exa.ne E33 E34 (by decide))
  have G43 : own_Gi Z h27 ac .int (4 : Int32) (own_up C v2.toNatClampNeg ((C v2.toNatClampNeg) + (1 : Int32))) := G24.set W27 rfl
  have N27 := Fr.snoc X27 N9 ge_ac
  have sz27 : n0 ≤ h27.size := Nat.le_trans sz9 (Keep.of_wr W27).1
  have K27 : Keep h0 h27 [bc, bo, bh, bt, ac] := (K9).wr W27 (Or.inl (List.mem_of_getElem? (i := 4) rfl))
  refine own_Goes.via (T' := T27) (g' := (mkF m 56 #[.val (.ref ar), .val (.ref ac), .val (.int xn), .val (.int xx), .val (.int v2), .val (.int v4), .val (.int v8)] [])) (st27) ?_
  refine own_Goes.via (T' := T27) (g' := (mkF m 58 #[.val (.ref ar), .val (.ref ac), .val (.int xn), .val (.int xx), .val (.int v2), .val (.int v4), .val (.int v8)] [(.int v2)])) (fun t_ k_ => XS.iload X27.here hx rfl (hb hby d4_56) rfl k_) ?_
  obtain ⟨fs, hr, hrun, hended, hW, hsame⟩ := X27.leave (v := some (.int v2)) (fun h => by rw [Bd.returns] at h; cases h)
  refine own_Goes.fin (retOut X27 hx Bd.returns rfl (Or.inl ⟨rfl, Or.inl rfl, _, rfl⟩) (hb hby d4_58) hr) hrun hended ?_
  subst hPd
  refine ⟨_, _, rfl, ?_, ⟨_, rfl⟩, hW, hsame.mono (by decide) (by decide)⟩
  show Q4 Z ar ac xn xx bc bo bh bt xm B C tot h0 n0 _ T27.heap _
  rw [e27]
  exact ⟨(by subst hv8; subst hv4; subst hv2; first | rfl | (simp only [])), N27, K27, U39, (by subst hv8; subst hv4; subst hv2; first | exact G40 | (simp only []; exact G40)), U41, U42, (by subst hv8; subst hv4; subst hv2; first | exact G43 | (simp only []; exact G43))⟩
theorem pn_0 : plainName "com/example/wildsuit/wildsuit/game/RowSizePinLaw" = true := by first | (simp [plainName, overriddenIn]; done) | decide +kernel
theorem pd_0_0 : parseMethodDescriptor "(II)V" = some ⟨[.int, .int], none⟩ := by decide +kernel
theorem pd_0_1 : parseMethodDescriptor "()I" = some ⟨[], some .int⟩ := by decide +kernel
theorem pd_0_2 : parseMethodDescriptor "(Lcom/example/wildsuit/wildsuit/game/Row;[III)I" = some ⟨[(.object "com/example/wildsuit/wildsuit/game/Row"), (.array .int), .int, .int], some .int⟩ := by decide +kernel
theorem pd_0_3 : parseMethodDescriptor "(III)V" = some ⟨[.int, .int, .int], none⟩ := by decide +kernel
theorem ef_0 (m : MethodId) (xa : Int32) (xb : Int32) (xc : Int32) (xd : Int32) (xe : Int32) (xf : Int32) : entryFrame m #[(.int xa), (.int xb), (.int xc), (.int xd), (.int xe), (.int xf)] maxLocals = mkF m 0 #[.val (.int xa), .val (.int xb), .val (.int xc), .val (.int xd), .val (.int xe), .val (.int xf), .unset, .unset, .unset, .unset, .unset, .unset, .unset, .unset, .unset, .unset, .unset, .unset] [] := by first | (simp [entryFrame, mkF, argsToLocals, Value.category, maxLocals]; done) | rfl
def Q0 (Z : State) (xa : Int32) (xb : Int32) (xc : Int32) (xd : Int32) (xe : Int32) (xf : Int32) (h0 : Heap) (n0 : Nat) (v : Option Value) (h : Heap) (L : List Loc) : Prop := v = some (.int 1) ∧ Fr n0 L
set_option maxRecDepth 65536 in
theorem own_pl0_0 {xa : Int32} {v1 : Int32} (hv1 : v1 = ((1 : Int32) + (xa &&& (3 : Int32)))) (cd20_14 : (52 : Int32) = (52 : Int32)) : 1 ≤ v1.toInt ∧ v1.toInt ≤ 4 := by
  exact own_n hv1
set_option maxRecDepth 65536 in
theorem own_pl0_1 {xa : Int32} {v1 : Int32} (hv1 : v1 = ((1 : Int32) + (xa &&& (3 : Int32)))) (cd20_14 : (52 : Int32) = (52 : Int32)) (cd20_15 : 1 ≤ v1.toInt ∧ v1.toInt ≤ 4) : (0 : Int32) < (v1 + (1 : Int32)) := by
  have hn := own_n hv1
  have hn1 := own_n1 hn.2 hn.1
  rw [own_lt, own_z]; omega
set_option maxRecDepth 65536 in
theorem own_pl0_2 {xa : Int32} {v1 : Int32} {v21 : Int32} (hv1 : v1 = ((1 : Int32) + (xa &&& (3 : Int32)))) (hv21 : v21 = (own_zero ((v1 + (1 : Int32)) - (1 : Int32)).toNatClampNeg)) (cd20_14 : (52 : Int32) = (52 : Int32)) (cd20_15 : 1 ≤ v1.toInt ∧ v1.toInt ≤ 4) (cd27_20 : (0 : Int32) < (v1 + (1 : Int32))) (cd39_23 : (v1 + (1 : Int32)) = (v1 + (1 : Int32))) (cd39_24 : (0 : Int) ≤ 2) : own_Inv v1 own_zero own_zero (0 : Int) := by
  exact own_inv0 (own_n hv1)
set_option maxRecDepth 65536 in
theorem own_pl0_3 {xa : Int32} {xb : Int32} {v1 : Int32} {v21 : Int32} {v36 : Int32} (hv1 : v1 = ((1 : Int32) + (xa &&& (3 : Int32)))) (hv21 : v21 = (own_zero ((v1 + (1 : Int32)) - (1 : Int32)).toNatClampNeg)) (hv36 : v36 = (own_pl xb v1)) (cd20_14 : (52 : Int32) = (52 : Int32)) (cd20_15 : 1 ≤ v1.toInt ∧ v1.toInt ≤ 4) (cd27_20 : (0 : Int32) < (v1 + (1 : Int32))) (cd39_23 : (v1 + (1 : Int32)) = (v1 + (1 : Int32))) (cd39_24 : (0 : Int) ≤ 2) (cd39_25 : own_Inv v1 own_zero own_zero (0 : Int)) (cd51_38 : (v1 + (1 : Int32)) = (v1 + (1 : Int32))) (cd51_39 : ((0 : Int) + 1) ≤ 2) : own_Inv v1 (own_mv own_zero (own_pl xb v1) (v1 + (1 : Int32)) (1 : Int32)) (own_up own_zero (own_pl xb v1).toNatClampNeg ((own_zero (own_pl xb v1).toNatClampNeg) + (1 : Int32))) ((0 : Int) + 1) := by
  exact own_Inv.ins cd39_25 (by decide) (own_pl_in xb cd39_25.1.1)
set_option maxRecDepth 65536 in
theorem own_pl0_4 {xa : Int32} {xb : Int32} {xc : Int32} {v1 : Int32} {v21 : Int32} {v36 : Int32} {v51 : Int32} (hv1 : v1 = ((1 : Int32) + (xa &&& (3 : Int32)))) (hv21 : v21 = (own_zero ((v1 + (1 : Int32)) - (1 : Int32)).toNatClampNeg)) (hv36 : v36 = (own_pl xb v1)) (hv51 : v51 = (own_pl xc v1)) (cd20_14 : (52 : Int32) = (52 : Int32)) (cd20_15 : 1 ≤ v1.toInt ∧ v1.toInt ≤ 4) (cd27_20 : (0 : Int32) < (v1 + (1 : Int32))) (cd39_23 : (v1 + (1 : Int32)) = (v1 + (1 : Int32))) (cd39_24 : (0 : Int) ≤ 2) (cd39_25 : own_Inv v1 own_zero own_zero (0 : Int)) (cd51_38 : (v1 + (1 : Int32)) = (v1 + (1 : Int32))) (cd51_39 : ((0 : Int) + 1) ≤ 2) (cd51_40 : own_Inv v1 (own_mv own_zero (own_pl xb v1) (v1 + (1 : Int32)) (1 : Int32)) (own_up own_zero (own_pl xb v1).toNatClampNeg ((own_zero (own_pl xb v1).toNatClampNeg) + (1 : Int32))) ((0 : Int) + 1)) (cd62_53 : (v1 + (1 : Int32)) = (v1 + (1 : Int32))) (cd62_54 : (((0 : Int) + 1) + 1) ≤ 2) : own_Inv v1 (own_mv (own_mv own_zero (own_pl xb v1) (v1 + (1 : Int32)) (1 : Int32)) (own_pl xc v1) (v1 + (1 : Int32)) (1 : Int32)) (own_up (own_up own_zero (own_pl xb v1).toNatClampNeg ((own_zero (own_pl xb v1).toNatClampNeg) + (1 : Int32))) (own_pl xc v1).toNatClampNeg (((own_up own_zero (own_pl xb v1).toNatClampNeg ((own_zero (own_pl xb v1).toNatClampNeg) + (1 : Int32))) (own_pl xc v1).toNatClampNeg) + (1 : Int32))) (((0 : Int) + 1) + 1) := by
  exact own_Inv.ins cd51_40 (by decide) (own_pl_in xc cd51_40.1.1)
set_option maxRecDepth 65536 in
theorem own_pl0_5 {xa : Int32} {xb : Int32} {xc : Int32} {xd : Int32} {v1 : Int32} {v21 : Int32} {v36 : Int32} {v51 : Int32} {v66 : Int32} (hv1 : v1 = ((1 : Int32) + (xa &&& (3 : Int32)))) (hv21 : v21 = (own_zero ((v1 + (1 : Int32)) - (1 : Int32)).toNatClampNeg)) (hv36 : v36 = (own_pl xb v1)) (hv51 : v51 = (own_pl xc v1)) (hv66 : v66 = (own_pl xd v1)) (cd20_14 : (52 : Int32) = (52 : Int32)) (cd20_15 : 1 ≤ v1.toInt ∧ v1.toInt ≤ 4) (cd27_20 : (0 : Int32) < (v1 + (1 : Int32))) (cd39_23 : (v1 + (1 : Int32)) = (v1 + (1 : Int32))) (cd39_24 : (0 : Int) ≤ 2) (cd39_25 : own_Inv v1 own_zero own_zero (0 : Int)) (cd51_38 : (v1 + (1 : Int32)) = (v1 + (1 : Int32))) (cd51_39 : ((0 : Int) + 1) ≤ 2) (cd51_40 : own_Inv v1 (own_mv own_zero (own_pl xb v1) (v1 + (1 : Int32)) (1 : Int32)) (own_up own_zero (own_pl xb v1).toNatClampNeg ((own_zero (own_pl xb v1).toNatClampNeg) + (1 : Int32))) ((0 : Int) + 1)) (cd62_53 : (v1 + (1 : Int32)) = (v1 + (1 : Int32))) (cd62_54 : (((0 : Int) + 1) + 1) ≤ 2) (cd62_55 : own_Inv v1 (own_mv (own_mv own_zero (own_pl xb v1) (v1 + (1 : Int32)) (1 : Int32)) (own_pl xc v1) (v1 + (1 : Int32)) (1 : Int32)) (own_up (own_up own_zero (own_pl xb v1).toNatClampNeg ((own_zero (own_pl xb v1).toNatClampNeg) + (1 : Int32))) (own_pl xc v1).toNatClampNeg (((own_up own_zero (own_pl xb v1).toNatClampNeg ((own_zero (own_pl xb v1).toNatClampNeg) + (1 : Int32))) (own_pl xc v1).toNatClampNeg) + (1 : Int32))) (((0 : Int) + 1) + 1)) : own_Inv v1 (own_mv (own_mv (own_mv own_zero (own_pl xb v1) (v1 + (1 : Int32)) (1 : Int32)) (own_pl xc v1) (v1 + (1 : Int32)) (1 : Int32)) (own_pl xd v1) (v1 + (1 : Int32)) (1 : Int32)) (own_up (own_up (own_up own_zero (own_pl xb v1).toNatClampNeg ((own_zero (own_pl xb v1).toNatClampNeg) + (1 : Int32))) (own_pl xc v1).toNatClampNeg (((own_up own_zero (own_pl xb v1).toNatClampNeg ((own_zero (own_pl xb v1).toNatClampNeg) + (1 : Int32))) (own_pl xc v1).toNatClampNeg) + (1 : Int32))) (own_pl xd v1).toNatClampNeg (((own_up (own_up own_zero (own_pl xb v1).toNatClampNeg ((own_zero (own_pl xb v1).toNatClampNeg) + (1 : Int32))) (own_pl xc v1).toNatClampNeg (((own_up own_zero (own_pl xb v1).toNatClampNeg ((own_zero (own_pl xb v1).toNatClampNeg) + (1 : Int32))) (own_pl xc v1).toNatClampNeg) + (1 : Int32))) (own_pl xd v1).toNatClampNeg) + (1 : Int32))) (3 : Int) := by
  exact own_Inv.ins (p := own_pl xd v1) cd62_55 (by decide) (own_pl_in xd cd62_55.1.1)
set_option maxRecDepth 65536 in
theorem own_pl0_6 {xa : Int32} {xb : Int32} {xc : Int32} {xd : Int32} {v1 : Int32} {v21 : Int32} {v36 : Int32} {v51 : Int32} {v66 : Int32} (hv1 : v1 = ((1 : Int32) + (xa &&& (3 : Int32)))) (hv21 : v21 = (own_zero ((v1 + (1 : Int32)) - (1 : Int32)).toNatClampNeg)) (hv36 : v36 = (own_pl xb v1)) (hv51 : v51 = (own_pl xc v1)) (hv66 : v66 = (own_pl xd v1)) (cd20_14 : (52 : Int32) = (52 : Int32)) (cd20_15 : 1 ≤ v1.toInt ∧ v1.toInt ≤ 4) (cd27_20 : (0 : Int32) < (v1 + (1 : Int32))) (cd39_23 : (v1 + (1 : Int32)) = (v1 + (1 : Int32))) (cd39_24 : (0 : Int) ≤ 2) (cd39_25 : own_Inv v1 own_zero own_zero (0 : Int)) (cd51_38 : (v1 + (1 : Int32)) = (v1 + (1 : Int32))) (cd51_39 : ((0 : Int) + 1) ≤ 2) (cd51_40 : own_Inv v1 (own_mv own_zero (own_pl xb v1) (v1 + (1 : Int32)) (1 : Int32)) (own_up own_zero (own_pl xb v1).toNatClampNeg ((own_zero (own_pl xb v1).toNatClampNeg) + (1 : Int32))) ((0 : Int) + 1)) (cd62_53 : (v1 + (1 : Int32)) = (v1 + (1 : Int32))) (cd62_54 : (((0 : Int) + 1) + 1) ≤ 2) (cd62_55 : own_Inv v1 (own_mv (own_mv own_zero (own_pl xb v1) (v1 + (1 : Int32)) (1 : Int32)) (own_pl xc v1) (v1 + (1 : Int32)) (1 : Int32)) (own_up (own_up own_zero (own_pl xb v1).toNatClampNeg ((own_zero (own_pl xb v1).toNatClampNeg) + (1 : Int32))) (own_pl xc v1).toNatClampNeg (((own_up own_zero (own_pl xb v1).toNatClampNeg ((own_zero (own_pl xb v1).toNatClampNeg) + (1 : Int32))) (own_pl xc v1).toNatClampNeg) + (1 : Int32))) (((0 : Int) + 1) + 1)) (I3_ : own_Inv v1 (own_mv (own_mv (own_mv own_zero (own_pl xb v1) (v1 + (1 : Int32)) (1 : Int32)) (own_pl xc v1) (v1 + (1 : Int32)) (1 : Int32)) (own_pl xd v1) (v1 + (1 : Int32)) (1 : Int32)) (own_up (own_up (own_up own_zero (own_pl xb v1).toNatClampNeg ((own_zero (own_pl xb v1).toNatClampNeg) + (1 : Int32))) (own_pl xc v1).toNatClampNeg (((own_up own_zero (own_pl xb v1).toNatClampNeg ((own_zero (own_pl xb v1).toNatClampNeg) + (1 : Int32))) (own_pl xc v1).toNatClampNeg) + (1 : Int32))) (own_pl xd v1).toNatClampNeg (((own_up (own_up own_zero (own_pl xb v1).toNatClampNeg ((own_zero (own_pl xb v1).toNatClampNeg) + (1 : Int32))) (own_pl xc v1).toNatClampNeg (((own_up own_zero (own_pl xb v1).toNatClampNeg ((own_zero (own_pl xb v1).toNatClampNeg) + (1 : Int32))) (own_pl xc v1).toNatClampNeg) + (1 : Int32))) (own_pl xd v1).toNatClampNeg) + (1 : Int32))) (3 : Int)) : 1 ≤ ((own_up (own_up (own_up own_zero (own_pl xb v1).toNatClampNeg ((own_zero (own_pl xb v1).toNatClampNeg) + (1 : Int32))) (own_pl xc v1).toNatClampNeg (((own_up own_zero (own_pl xb v1).toNatClampNeg ((own_zero (own_pl xb v1).toNatClampNeg) + (1 : Int32))) (own_pl xc v1).toNatClampNeg) + (1 : Int32))) (own_pl xd v1).toNatClampNeg (((own_up (own_up own_zero (own_pl xb v1).toNatClampNeg ((own_zero (own_pl xb v1).toNatClampNeg) + (1 : Int32))) (own_pl xc v1).toNatClampNeg (((own_up own_zero (own_pl xb v1).toNatClampNeg ((own_zero (own_pl xb v1).toNatClampNeg) + (1 : Int32))) (own_pl xc v1).toNatClampNeg) + (1 : Int32))) (own_pl xd v1).toNatClampNeg) + (1 : Int32))) v36.toNatClampNeg).toInt := by
  rw [hv36]
  exact own_up_ge (own_up_ge (by unfold own_up; rw [if_pos rfl]; show 1 ≤ ((0 : Int32) + (1 : Int32)).toInt; decide) (cd51_40.up1 (own_pl_in xc cd51_40.1.1))) (cd62_55.up1 (own_pl_in xd cd62_55.1.1))
set_option maxRecDepth 65536 in
theorem own_pl0_7 {xa : Int32} {xb : Int32} {xc : Int32} {xd : Int32} {B3 : Nat → Int32} {C3 : Nat → Int32} {v1 : Int32} {v21 : Int32} {v36 : Int32} {v51 : Int32} {v66 : Int32} (hv1 : v1 = ((1 : Int32) + (xa &&& (3 : Int32)))) (hv21 : v21 = (own_zero ((v1 + (1 : Int32)) - (1 : Int32)).toNatClampNeg)) (hv36 : v36 = (own_pl xb v1)) (hv51 : v51 = (own_pl xc v1)) (hv66 : v66 = (own_pl xd v1)) (cd20_14 : (52 : Int32) = (52 : Int32)) (cd20_15 : 1 ≤ v1.toInt ∧ v1.toInt ≤ 4) (cd27_20 : (0 : Int32) < (v1 + (1 : Int32))) (cd39_23 : (v1 + (1 : Int32)) = (v1 + (1 : Int32))) (cd39_24 : (0 : Int) ≤ 2) (cd51_38 : (v1 + (1 : Int32)) = (v1 + (1 : Int32))) (cd51_39 : ((0 : Int) + 1) ≤ 2) (cd62_53 : (v1 + (1 : Int32)) = (v1 + (1 : Int32))) (cd62_54 : (((0 : Int) + 1) + 1) ≤ 2) (I3 : own_Inv v1 B3 C3 (3 : Int)) (hF : 1 ≤ (C3 v36.toNatClampNeg).toInt) : (0 : Int32) < (v1 + (1 : Int32)) := by
  have hn := own_n hv1
  have hn1 := own_n1 hn.2 hn.1
  rw [own_lt, own_z]; omega
set_option maxRecDepth 65536 in
theorem own_pl0_8 {xa : Int32} {xb : Int32} {xc : Int32} {xd : Int32} {B3 : Nat → Int32} {C3 : Nat → Int32} {v1 : Int32} {v21 : Int32} {v36 : Int32} {v51 : Int32} {v66 : Int32} {v71 : Int32} (hv1 : v1 = ((1 : Int32) + (xa &&& (3 : Int32)))) (hv21 : v21 = (own_zero ((v1 + (1 : Int32)) - (1 : Int32)).toNatClampNeg)) (hv36 : v36 = (own_pl xb v1)) (hv51 : v51 = (own_pl xc v1)) (hv66 : v66 = (own_pl xd v1)) (hv71 : v71 = (B3 ((v1 + (1 : Int32)) - (1 : Int32)).toNatClampNeg)) (hc76_72 : v1 < (2 : Int32)) (cd20_14 : (52 : Int32) = (52 : Int32)) (cd20_15 : 1 ≤ v1.toInt ∧ v1.toInt ≤ 4) (cd27_20 : (0 : Int32) < (v1 + (1 : Int32))) (cd39_23 : (v1 + (1 : Int32)) = (v1 + (1 : Int32))) (cd39_24 : (0 : Int) ≤ 2) (cd51_38 : (v1 + (1 : Int32)) = (v1 + (1 : Int32))) (cd51_39 : ((0 : Int) + 1) ≤ 2) (cd62_53 : (v1 + (1 : Int32)) = (v1 + (1 : Int32))) (cd62_54 : (((0 : Int) + 1) + 1) ≤ 2) (I3 : own_Inv v1 B3 C3 (3 : Int)) (hF : 1 ≤ (C3 v36.toNatClampNeg).toInt) (cd68_70 : (0 : Int32) < (v1 + (1 : Int32))) (IX : own_Inv v1 B3 C3 (3 : Int)) : (0 : Int32) < (v1 + (1 : Int32)) := by
  have hn := own_n hv1
  have hn1 := own_n1 hn.2 hn.1
  rw [own_lt, own_z]; omega
set_option maxRecDepth 65536 in
theorem own_pl0_9 {xa : Int32} {xb : Int32} {xc : Int32} {xd : Int32} {B3 : Nat → Int32} {C3 : Nat → Int32} {v1 : Int32} {v21 : Int32} {v36 : Int32} {v51 : Int32} {v66 : Int32} {v71 : Int32} {v75 : Int32} (hv1 : v1 = ((1 : Int32) + (xa &&& (3 : Int32)))) (hv21 : v21 = (own_zero ((v1 + (1 : Int32)) - (1 : Int32)).toNatClampNeg)) (hv36 : v36 = (own_pl xb v1)) (hv51 : v51 = (own_pl xc v1)) (hv66 : v66 = (own_pl xd v1)) (hv71 : v71 = (B3 ((v1 + (1 : Int32)) - (1 : Int32)).toNatClampNeg)) (hv75 : v75 = (B3 ((v1 + (1 : Int32)) - (1 : Int32)).toNatClampNeg)) (hc76_72 : v1 < (2 : Int32)) (cd20_14 : (52 : Int32) = (52 : Int32)) (cd20_15 : 1 ≤ v1.toInt ∧ v1.toInt ≤ 4) (cd27_20 : (0 : Int32) < (v1 + (1 : Int32))) (cd39_23 : (v1 + (1 : Int32)) = (v1 + (1 : Int32))) (cd39_24 : (0 : Int) ≤ 2) (cd51_38 : (v1 + (1 : Int32)) = (v1 + (1 : Int32))) (cd51_39 : ((0 : Int) + 1) ≤ 2) (cd62_53 : (v1 + (1 : Int32)) = (v1 + (1 : Int32))) (cd62_54 : (((0 : Int) + 1) + 1) ≤ 2) (I3 : own_Inv v1 B3 C3 (3 : Int)) (hF : 1 ≤ (C3 v36.toNatClampNeg).toInt) (cd68_70 : (0 : Int32) < (v1 + (1 : Int32))) (IX : own_Inv v1 B3 C3 (3 : Int)) (cd177_74 : (0 : Int32) < (v1 + (1 : Int32))) : v1 ≠ (0 : Int32) := by
  exact own_ne0 IX.1.1
set_option maxRecDepth 65536 in
theorem own_pl0_10 {xa : Int32} {xb : Int32} {xc : Int32} {xd : Int32} {xf : Int32} {B3 : Nat → Int32} {C3 : Nat → Int32} {v1 : Int32} {v21 : Int32} {v36 : Int32} {v51 : Int32} {v66 : Int32} {v71 : Int32} {v75 : Int32} {v77 : Int32} (hv1 : v1 = ((1 : Int32) + (xa &&& (3 : Int32)))) (hv21 : v21 = (own_zero ((v1 + (1 : Int32)) - (1 : Int32)).toNatClampNeg)) (hv36 : v36 = (own_pl xb v1)) (hv51 : v51 = (own_pl xc v1)) (hv66 : v66 = (own_pl xd v1)) (hv71 : v71 = (B3 ((v1 + (1 : Int32)) - (1 : Int32)).toNatClampNeg)) (hv75 : v75 = (B3 ((v1 + (1 : Int32)) - (1 : Int32)).toNatClampNeg)) (hv77 : v77 = ((xf &&& (2147483647 : Int32)) % v1)) (hc76_72 : v1 < (2 : Int32)) (cd20_14 : (52 : Int32) = (52 : Int32)) (cd20_15 : 1 ≤ v1.toInt ∧ v1.toInt ≤ 4) (cd27_20 : (0 : Int32) < (v1 + (1 : Int32))) (cd39_23 : (v1 + (1 : Int32)) = (v1 + (1 : Int32))) (cd39_24 : (0 : Int) ≤ 2) (cd51_38 : (v1 + (1 : Int32)) = (v1 + (1 : Int32))) (cd51_39 : ((0 : Int) + 1) ≤ 2) (cd62_53 : (v1 + (1 : Int32)) = (v1 + (1 : Int32))) (cd62_54 : (((0 : Int) + 1) + 1) ≤ 2) (I3 : own_Inv v1 B3 C3 (3 : Int)) (hF : 1 ≤ (C3 v36.toNatClampNeg).toInt) (cd68_70 : (0 : Int32) < (v1 + (1 : Int32))) (IX : own_Inv v1 B3 C3 (3 : Int)) (cd177_74 : (0 : Int32) < (v1 + (1 : Int32))) (nz189_76 : v1 ≠ (0 : Int32)) : ¬ v77 < 0 ∧ v77 < (4 : Int32) := by
  have hq := own_pl_in (n := v1) xf IX.1.1
  rw [show own_pl xf v1 = v77 from hv77.symm] at hq
  have g := IX.1
  exact own_in hq.1 (by show _ < (4 : Int); omega)
set_option maxRecDepth 65536 in
theorem own_pl0_11 {xa : Int32} {xb : Int32} {xc : Int32} {xd : Int32} {xf : Int32} {B3 : Nat → Int32} {C3 : Nat → Int32} {v1 : Int32} {v21 : Int32} {v36 : Int32} {v51 : Int32} {v66 : Int32} {v71 : Int32} {v75 : Int32} {v77 : Int32} {v80 : Int32} (hv1 : v1 = ((1 : Int32) + (xa &&& (3 : Int32)))) (hv21 : v21 = (own_zero ((v1 + (1 : Int32)) - (1 : Int32)).toNatClampNeg)) (hv36 : v36 = (own_pl xb v1)) (hv51 : v51 = (own_pl xc v1)) (hv66 : v66 = (own_pl xd v1)) (hv71 : v71 = (B3 ((v1 + (1 : Int32)) - (1 : Int32)).toNatClampNeg)) (hv75 : v75 = (B3 ((v1 + (1 : Int32)) - (1 : Int32)).toNatClampNeg)) (hv77 : v77 = ((xf &&& (2147483647 : Int32)) % v1)) (hv80 : v80 = (C3 v77.toNatClampNeg)) (hc76_72 : v1 < (2 : Int32)) (cd20_14 : (52 : Int32) = (52 : Int32)) (cd20_15 : 1 ≤ v1.toInt ∧ v1.toInt ≤ 4) (cd27_20 : (0 : Int32) < (v1 + (1 : Int32))) (cd39_23 : (v1 + (1 : Int32)) = (v1 + (1 : Int32))) (cd39_24 : (0 : Int) ≤ 2) (cd51_38 : (v1 + (1 : Int32)) = (v1 + (1 : Int32))) (cd51_39 : ((0 : Int) + 1) ≤ 2) (cd62_53 : (v1 + (1 : Int32)) = (v1 + (1 : Int32))) (cd62_54 : (((0 : Int) + 1) + 1) ≤ 2) (I3 : own_Inv v1 B3 C3 (3 : Int)) (hF : 1 ≤ (C3 v36.toNatClampNeg).toInt) (cd68_70 : (0 : Int32) < (v1 + (1 : Int32))) (IX : own_Inv v1 B3 C3 (3 : Int)) (cd177_74 : (0 : Int32) < (v1 + (1 : Int32))) (nz189_76 : v1 ≠ (0 : Int32)) (in196_79 : ¬ v77 < 0 ∧ v77 < (4 : Int32)) : (v80 + (1 : Int32)) ≠ (0 : Int32) := by
  have hq := own_pl_in (n := v1) xf IX.1.1
  rw [show own_pl xf v1 = v77 from hv77.symm] at hq
  have g := IX.1
  have q := IX.up1 hq
  rw [← hv80] at q
  exact own_ne0 q
set_option maxRecDepth 65536 in
theorem own_pl0_12 {xa : Int32} {xb : Int32} {xc : Int32} {xd : Int32} {xf : Int32} {B3 : Nat → Int32} {C3 : Nat → Int32} {v1 : Int32} {v21 : Int32} {v36 : Int32} {v51 : Int32} {v66 : Int32} {v71 : Int32} {v75 : Int32} {v77 : Int32} {v80 : Int32} {v82 : Int32} (hv1 : v1 = ((1 : Int32) + (xa &&& (3 : Int32)))) (hv21 : v21 = (own_zero ((v1 + (1 : Int32)) - (1 : Int32)).toNatClampNeg)) (hv36 : v36 = (own_pl xb v1)) (hv51 : v51 = (own_pl xc v1)) (hv66 : v66 = (own_pl xd v1)) (hv71 : v71 = (B3 ((v1 + (1 : Int32)) - (1 : Int32)).toNatClampNeg)) (hv75 : v75 = (B3 ((v1 + (1 : Int32)) - (1 : Int32)).toNatClampNeg)) (hv77 : v77 = ((xf &&& (2147483647 : Int32)) % v1)) (hv80 : v80 = (C3 v77.toNatClampNeg)) (hv82 : v82 = ((((xf.toUInt32 >>> ((8 : Int32) &&& 31).toUInt32).toInt32) &&& (7 : Int32)) % (v80 + (1 : Int32)))) (hc76_72 : v1 < (2 : Int32)) (cd20_14 : (52 : Int32) = (52 : Int32)) (cd20_15 : 1 ≤ v1.toInt ∧ v1.toInt ≤ 4) (cd27_20 : (0 : Int32) < (v1 + (1 : Int32))) (cd39_23 : (v1 + (1 : Int32)) = (v1 + (1 : Int32))) (cd39_24 : (0 : Int) ≤ 2) (cd51_38 : (v1 + (1 : Int32)) = (v1 + (1 : Int32))) (cd51_39 : ((0 : Int) + 1) ≤ 2) (cd62_53 : (v1 + (1 : Int32)) = (v1 + (1 : Int32))) (cd62_54 : (((0 : Int) + 1) + 1) ≤ 2) (I3 : own_Inv v1 B3 C3 (3 : Int)) (hF : 1 ≤ (C3 v36.toNatClampNeg).toInt) (cd68_70 : (0 : Int32) < (v1 + (1 : Int32))) (IX : own_Inv v1 B3 C3 (3 : Int)) (cd177_74 : (0 : Int32) < (v1 + (1 : Int32))) (nz189_76 : v1 ≠ (0 : Int32)) (in196_79 : ¬ v77 < 0 ∧ v77 < (4 : Int32)) (nz211_81 : (v80 + (1 : Int32)) ≠ (0 : Int32)) : ((v80 - v82) + (1 : Int32)) ≠ (0 : Int32) := by
  have hq := own_pl_in (n := v1) xf IX.1.1
  rw [show own_pl xf v1 = v77 from hv77.symm] at hq
  have g := IX.1
  have hl15 := hv82
  rw [hv80] at hl15
  have q := (own_lohi IX hq (own_and7 _) (own_and7 (0 : Int32)) hl15 rfl).2.2.2
  rw [← hv80] at q
  exact own_ne0 q
set_option maxRecDepth 65536 in
theorem own_pl0_13 {xa : Int32} {xb : Int32} {xc : Int32} {xd : Int32} {xf : Int32} {B3 : Nat → Int32} {C3 : Nat → Int32} {v1 : Int32} {v21 : Int32} {v36 : Int32} {v51 : Int32} {v66 : Int32} {v71 : Int32} {v75 : Int32} {v77 : Int32} {v80 : Int32} {v82 : Int32} {v84 : Int32} (hv1 : v1 = ((1 : Int32) + (xa &&& (3 : Int32)))) (hv21 : v21 = (own_zero ((v1 + (1 : Int32)) - (1 : Int32)).toNatClampNeg)) (hv36 : v36 = (own_pl xb v1)) (hv51 : v51 = (own_pl xc v1)) (hv66 : v66 = (own_pl xd v1)) (hv71 : v71 = (B3 ((v1 + (1 : Int32)) - (1 : Int32)).toNatClampNeg)) (hv75 : v75 = (B3 ((v1 + (1 : Int32)) - (1 : Int32)).toNatClampNeg)) (hv77 : v77 = ((xf &&& (2147483647 : Int32)) % v1)) (hv80 : v80 = (C3 v77.toNatClampNeg)) (hv82 : v82 = ((((xf.toUInt32 >>> ((8 : Int32) &&& 31).toUInt32).toInt32) &&& (7 : Int32)) % (v80 + (1 : Int32)))) (hv84 : v84 = (v82 + ((((xf.toUInt32 >>> ((12 : Int32) &&& 31).toUInt32).toInt32) &&& (7 : Int32)) % ((v80 - v82) + (1 : Int32))))) (hc76_72 : v1 < (2 : Int32)) (cd20_14 : (52 : Int32) = (52 : Int32)) (cd20_15 : 1 ≤ v1.toInt ∧ v1.toInt ≤ 4) (cd27_20 : (0 : Int32) < (v1 + (1 : Int32))) (cd39_23 : (v1 + (1 : Int32)) = (v1 + (1 : Int32))) (cd39_24 : (0 : Int) ≤ 2) (cd51_38 : (v1 + (1 : Int32)) = (v1 + (1 : Int32))) (cd51_39 : ((0 : Int) + 1) ≤ 2) (cd62_53 : (v1 + (1 : Int32)) = (v1 + (1 : Int32))) (cd62_54 : (((0 : Int) + 1) + 1) ≤ 2) (I3 : own_Inv v1 B3 C3 (3 : Int)) (hF : 1 ≤ (C3 v36.toNatClampNeg).toInt) (cd68_70 : (0 : Int32) < (v1 + (1 : Int32))) (IX : own_Inv v1 B3 C3 (3 : Int)) (cd177_74 : (0 : Int32) < (v1 + (1 : Int32))) (nz189_76 : v1 ≠ (0 : Int32)) (in196_79 : ¬ v77 < 0 ∧ v77 < (4 : Int32)) (nz211_81 : (v80 + (1 : Int32)) ≠ (0 : Int32)) (nz231_83 : ((v80 - v82) + (1 : Int32)) ≠ (0 : Int32)) : (0 : Int32) < (v1 + (1 : Int32)) := by
  have hn := own_n hv1
  have hn1 := own_n1 hn.2 hn.1
  rw [own_lt, own_z]; omega
set_option maxRecDepth 65536 in
theorem own_pl0_14 {xa : Int32} {xb : Int32} {xc : Int32} {xd : Int32} {xf : Int32} {B3 : Nat → Int32} {C3 : Nat → Int32} {v1 : Int32} {v21 : Int32} {v36 : Int32} {v51 : Int32} {v66 : Int32} {v71 : Int32} {v75 : Int32} {v77 : Int32} {v80 : Int32} {v82 : Int32} {v84 : Int32} (hv1 : v1 = ((1 : Int32) + (xa &&& (3 : Int32)))) (hv21 : v21 = (own_zero ((v1 + (1 : Int32)) - (1 : Int32)).toNatClampNeg)) (hv36 : v36 = (own_pl xb v1)) (hv51 : v51 = (own_pl xc v1)) (hv66 : v66 = (own_pl xd v1)) (hv71 : v71 = (B3 ((v1 + (1 : Int32)) - (1 : Int32)).toNatClampNeg)) (hv75 : v75 = (B3 ((v1 + (1 : Int32)) - (1 : Int32)).toNatClampNeg)) (hv77 : v77 = ((xf &&& (2147483647 : Int32)) % v1)) (hv80 : v80 = (C3 v77.toNatClampNeg)) (hv82 : v82 = ((((xf.toUInt32 >>> ((8 : Int32) &&& 31).toUInt32).toInt32) &&& (7 : Int32)) % (v80 + (1 : Int32)))) (hv84 : v84 = (v82 + ((((xf.toUInt32 >>> ((12 : Int32) &&& 31).toUInt32).toInt32) &&& (7 : Int32)) % ((v80 - v82) + (1 : Int32))))) (hc76_72 : v1 < (2 : Int32)) (cd20_14 : (52 : Int32) = (52 : Int32)) (cd20_15 : 1 ≤ v1.toInt ∧ v1.toInt ≤ 4) (cd27_20 : (0 : Int32) < (v1 + (1 : Int32))) (cd39_23 : (v1 + (1 : Int32)) = (v1 + (1 : Int32))) (cd39_24 : (0 : Int) ≤ 2) (cd51_38 : (v1 + (1 : Int32)) = (v1 + (1 : Int32))) (cd51_39 : ((0 : Int) + 1) ≤ 2) (cd62_53 : (v1 + (1 : Int32)) = (v1 + (1 : Int32))) (cd62_54 : (((0 : Int) + 1) + 1) ≤ 2) (I3 : own_Inv v1 B3 C3 (3 : Int)) (hF : 1 ≤ (C3 v36.toNatClampNeg).toInt) (cd68_70 : (0 : Int32) < (v1 + (1 : Int32))) (IX : own_Inv v1 B3 C3 (3 : Int)) (cd177_74 : (0 : Int32) < (v1 + (1 : Int32))) (nz189_76 : v1 ≠ (0 : Int32)) (in196_79 : ¬ v77 < 0 ∧ v77 < (4 : Int32)) (nz211_81 : (v80 + (1 : Int32)) ≠ (0 : Int32)) (nz231_83 : ((v80 - v82) + (1 : Int32)) ≠ (0 : Int32)) (cd243_86 : (0 : Int32) < (v1 + (1 : Int32))) : ¬ v77 < 0 ∧ v77 < v1 := by
  have hq := own_pl_in (n := v1) xf IX.1.1
  rw [show own_pl xf v1 = v77 from hv77.symm] at hq
  have g := IX.1
  exact own_in hq.1 hq.2
set_option maxRecDepth 65536 in
theorem own_pl0_15 {xa : Int32} {xb : Int32} {xc : Int32} {xd : Int32} {xf : Int32} {B3 : Nat → Int32} {C3 : Nat → Int32} {v1 : Int32} {v21 : Int32} {v36 : Int32} {v51 : Int32} {v66 : Int32} {v71 : Int32} {v75 : Int32} {v77 : Int32} {v80 : Int32} {v82 : Int32} {v84 : Int32} (hv1 : v1 = ((1 : Int32) + (xa &&& (3 : Int32)))) (hv21 : v21 = (own_zero ((v1 + (1 : Int32)) - (1 : Int32)).toNatClampNeg)) (hv36 : v36 = (own_pl xb v1)) (hv51 : v51 = (own_pl xc v1)) (hv66 : v66 = (own_pl xd v1)) (hv71 : v71 = (B3 ((v1 + (1 : Int32)) - (1 : Int32)).toNatClampNeg)) (hv75 : v75 = (B3 ((v1 + (1 : Int32)) - (1 : Int32)).toNatClampNeg)) (hv77 : v77 = ((xf &&& (2147483647 : Int32)) % v1)) (hv80 : v80 = (C3 v77.toNatClampNeg)) (hv82 : v82 = ((((xf.toUInt32 >>> ((8 : Int32) &&& 31).toUInt32).toInt32) &&& (7 : Int32)) % (v80 + (1 : Int32)))) (hv84 : v84 = (v82 + ((((xf.toUInt32 >>> ((12 : Int32) &&& 31).toUInt32).toInt32) &&& (7 : Int32)) % ((v80 - v82) + (1 : Int32))))) (hc76_72 : v1 < (2 : Int32)) (cd20_14 : (52 : Int32) = (52 : Int32)) (cd20_15 : 1 ≤ v1.toInt ∧ v1.toInt ≤ 4) (cd27_20 : (0 : Int32) < (v1 + (1 : Int32))) (cd39_23 : (v1 + (1 : Int32)) = (v1 + (1 : Int32))) (cd39_24 : (0 : Int) ≤ 2) (cd51_38 : (v1 + (1 : Int32)) = (v1 + (1 : Int32))) (cd51_39 : ((0 : Int) + 1) ≤ 2) (cd62_53 : (v1 + (1 : Int32)) = (v1 + (1 : Int32))) (cd62_54 : (((0 : Int) + 1) + 1) ≤ 2) (I3 : own_Inv v1 B3 C3 (3 : Int)) (hF : 1 ≤ (C3 v36.toNatClampNeg).toInt) (cd68_70 : (0 : Int32) < (v1 + (1 : Int32))) (IX : own_Inv v1 B3 C3 (3 : Int)) (cd177_74 : (0 : Int32) < (v1 + (1 : Int32))) (nz189_76 : v1 ≠ (0 : Int32)) (in196_79 : ¬ v77 < 0 ∧ v77 < (4 : Int32)) (nz211_81 : (v80 + (1 : Int32)) ≠ (0 : Int32)) (nz231_83 : ((v80 - v82) + (1 : Int32)) ≠ (0 : Int32)) (cd243_86 : (0 : Int32) < (v1 + (1 : Int32))) (cd243_87 : ¬ v77 < 0 ∧ v77 < v1) : ¬ v77 < 0 ∧ v77 < (v1 + (1 : Int32)) := by
  have hq := own_pl_in (n := v1) xf IX.1.1
  rw [show own_pl xf v1 = v77 from hv77.symm] at hq
  have g := IX.1
  have hn := own_n hv1
  have hn1 := own_n1 hn.2 hn.1
  exact own_in hq.1 (by omega)
set_option maxRecDepth 65536 in
theorem own_pl0_16 {xa : Int32} {xb : Int32} {xc : Int32} {xd : Int32} {xf : Int32} {B3 : Nat → Int32} {C3 : Nat → Int32} {v1 : Int32} {v21 : Int32} {v36 : Int32} {v51 : Int32} {v66 : Int32} {v71 : Int32} {v75 : Int32} {v77 : Int32} {v80 : Int32} {v82 : Int32} {v84 : Int32} (hv1 : v1 = ((1 : Int32) + (xa &&& (3 : Int32)))) (hv21 : v21 = (own_zero ((v1 + (1 : Int32)) - (1 : Int32)).toNatClampNeg)) (hv36 : v36 = (own_pl xb v1)) (hv51 : v51 = (own_pl xc v1)) (hv66 : v66 = (own_pl xd v1)) (hv71 : v71 = (B3 ((v1 + (1 : Int32)) - (1 : Int32)).toNatClampNeg)) (hv75 : v75 = (B3 ((v1 + (1 : Int32)) - (1 : Int32)).toNatClampNeg)) (hv77 : v77 = ((xf &&& (2147483647 : Int32)) % v1)) (hv80 : v80 = (C3 v77.toNatClampNeg)) (hv82 : v82 = ((((xf.toUInt32 >>> ((8 : Int32) &&& 31).toUInt32).toInt32) &&& (7 : Int32)) % (v80 + (1 : Int32)))) (hv84 : v84 = (v82 + ((((xf.toUInt32 >>> ((12 : Int32) &&& 31).toUInt32).toInt32) &&& (7 : Int32)) % ((v80 - v82) + (1 : Int32))))) (hc76_72 : v1 < (2 : Int32)) (cd20_14 : (52 : Int32) = (52 : Int32)) (cd20_15 : 1 ≤ v1.toInt ∧ v1.toInt ≤ 4) (cd27_20 : (0 : Int32) < (v1 + (1 : Int32))) (cd39_23 : (v1 + (1 : Int32)) = (v1 + (1 : Int32))) (cd39_24 : (0 : Int) ≤ 2) (cd51_38 : (v1 + (1 : Int32)) = (v1 + (1 : Int32))) (cd51_39 : ((0 : Int) + 1) ≤ 2) (cd62_53 : (v1 + (1 : Int32)) = (v1 + (1 : Int32))) (cd62_54 : (((0 : Int) + 1) + 1) ≤ 2) (I3 : own_Inv v1 B3 C3 (3 : Int)) (hF : 1 ≤ (C3 v36.toNatClampNeg).toInt) (cd68_70 : (0 : Int32) < (v1 + (1 : Int32))) (IX : own_Inv v1 B3 C3 (3 : Int)) (cd177_74 : (0 : Int32) < (v1 + (1 : Int32))) (nz189_76 : v1 ≠ (0 : Int32)) (in196_79 : ¬ v77 < 0 ∧ v77 < (4 : Int32)) (nz211_81 : (v80 + (1 : Int32)) ≠ (0 : Int32)) (nz231_83 : ((v80 - v82) + (1 : Int32)) ≠ (0 : Int32)) (cd243_86 : (0 : Int32) < (v1 + (1 : Int32))) (cd243_87 : ¬ v77 < 0 ∧ v77 < v1) (cd243_88 : ¬ v77 < 0 ∧ v77 < (v1 + (1 : Int32))) : 0 ≤ ((B3 v77.toNatClampNeg) + v82).toInt ∧ 0 ≤ (v84 - v82).toInt ∧ ((B3 v77.toNatClampNeg) + v82).toInt + (v84 - v82).toInt ≤ (B3 ((v1 + (1 : Int32)) - (1 : Int32)).toNatClampNeg).toInt ∧ (B3 ((v1 + (1 : Int32)) - (1 : Int32)).toNatClampNeg).toInt ≤ 3 := by
  have hq := own_pl_in (n := v1) xf IX.1.1
  rw [show own_pl xf v1 = v77 from hv77.symm] at hq
  have g := IX.1
  have hl15 := hv82
  rw [hv80] at hl15
  have hl16 := hv84
  rw [hv80] at hl16
  have hl := own_lohi IX hq (own_and7 _) (own_and7 _) hl15 hl16
  exact own_okR IX hq ⟨hl.1, hl.2.1, hl.2.2.1⟩
set_option maxRecDepth 65536 in
theorem own_pl0_17 {xa : Int32} {xb : Int32} {xc : Int32} {xd : Int32} {xf : Int32} {B3 : Nat → Int32} {C3 : Nat → Int32} {v1 : Int32} {v21 : Int32} {v36 : Int32} {v51 : Int32} {v66 : Int32} {v71 : Int32} {v75 : Int32} {v77 : Int32} {v80 : Int32} {v82 : Int32} {v84 : Int32} (hv1 : v1 = ((1 : Int32) + (xa &&& (3 : Int32)))) (hv21 : v21 = (own_zero ((v1 + (1 : Int32)) - (1 : Int32)).toNatClampNeg)) (hv36 : v36 = (own_pl xb v1)) (hv51 : v51 = (own_pl xc v1)) (hv66 : v66 = (own_pl xd v1)) (hv71 : v71 = (B3 ((v1 + (1 : Int32)) - (1 : Int32)).toNatClampNeg)) (hv75 : v75 = (B3 ((v1 + (1 : Int32)) - (1 : Int32)).toNatClampNeg)) (hv77 : v77 = ((xf &&& (2147483647 : Int32)) % v1)) (hv80 : v80 = (C3 v77.toNatClampNeg)) (hv82 : v82 = ((((xf.toUInt32 >>> ((8 : Int32) &&& 31).toUInt32).toInt32) &&& (7 : Int32)) % (v80 + (1 : Int32)))) (hv84 : v84 = (v82 + ((((xf.toUInt32 >>> ((12 : Int32) &&& 31).toUInt32).toInt32) &&& (7 : Int32)) % ((v80 - v82) + (1 : Int32))))) (hc76_72 : v1 < (2 : Int32)) (cd20_14 : (52 : Int32) = (52 : Int32)) (cd20_15 : 1 ≤ v1.toInt ∧ v1.toInt ≤ 4) (cd27_20 : (0 : Int32) < (v1 + (1 : Int32))) (cd39_23 : (v1 + (1 : Int32)) = (v1 + (1 : Int32))) (cd39_24 : (0 : Int) ≤ 2) (cd51_38 : (v1 + (1 : Int32)) = (v1 + (1 : Int32))) (cd51_39 : ((0 : Int) + 1) ≤ 2) (cd62_53 : (v1 + (1 : Int32)) = (v1 + (1 : Int32))) (cd62_54 : (((0 : Int) + 1) + 1) ≤ 2) (I3 : own_Inv v1 B3 C3 (3 : Int)) (hF : 1 ≤ (C3 v36.toNatClampNeg).toInt) (cd68_70 : (0 : Int32) < (v1 + (1 : Int32))) (IX : own_Inv v1 B3 C3 (3 : Int)) (cd177_74 : (0 : Int32) < (v1 + (1 : Int32))) (nz189_76 : v1 ≠ (0 : Int32)) (in196_79 : ¬ v77 < 0 ∧ v77 < (4 : Int32)) (nz211_81 : (v80 + (1 : Int32)) ≠ (0 : Int32)) (nz231_83 : ((v80 - v82) + (1 : Int32)) ≠ (0 : Int32)) (cd243_86 : (0 : Int32) < (v1 + (1 : Int32))) (cd243_87 : ¬ v77 < 0 ∧ v77 < v1) (cd243_88 : ¬ v77 < 0 ∧ v77 < (v1 + (1 : Int32))) (cd243_89 : 0 ≤ ((B3 v77.toNatClampNeg) + v82).toInt ∧ 0 ≤ (v84 - v82).toInt ∧ ((B3 v77.toNatClampNeg) + v82).toInt + (v84 - v82).toInt ≤ (B3 ((v1 + (1 : Int32)) - (1 : Int32)).toNatClampNeg).toInt ∧ (B3 ((v1 + (1 : Int32)) - (1 : Int32)).toNatClampNeg).toInt ≤ 3) : (0 : Int32) < (v1 + (1 : Int32)) := by
  have hn := own_n hv1
  have hn1 := own_n1 hn.2 hn.1
  rw [own_lt, own_z]; omega
set_option maxRecDepth 65536 in
theorem own_pl0_18 {xa : Int32} {xb : Int32} {xc : Int32} {xd : Int32} {xf : Int32} {B3 : Nat → Int32} {C3 : Nat → Int32} {v1 : Int32} {v21 : Int32} {v36 : Int32} {v51 : Int32} {v66 : Int32} {v71 : Int32} {v75 : Int32} {v77 : Int32} {v80 : Int32} {v82 : Int32} {v84 : Int32} {v103 : Int32} {v287_105 : Int32} (hv1 : v1 = ((1 : Int32) + (xa &&& (3 : Int32)))) (hv21 : v21 = (own_zero ((v1 + (1 : Int32)) - (1 : Int32)).toNatClampNeg)) (hv36 : v36 = (own_pl xb v1)) (hv51 : v51 = (own_pl xc v1)) (hv66 : v66 = (own_pl xd v1)) (hv71 : v71 = (B3 ((v1 + (1 : Int32)) - (1 : Int32)).toNatClampNeg)) (hv75 : v75 = (B3 ((v1 + (1 : Int32)) - (1 : Int32)).toNatClampNeg)) (hv77 : v77 = ((xf &&& (2147483647 : Int32)) % v1)) (hv80 : v80 = (C3 v77.toNatClampNeg)) (hv82 : v82 = ((((xf.toUInt32 >>> ((8 : Int32) &&& 31).toUInt32).toInt32) &&& (7 : Int32)) % (v80 + (1 : Int32)))) (hv84 : v84 = (v82 + ((((xf.toUInt32 >>> ((12 : Int32) &&& 31).toUInt32).toInt32) &&& (7 : Int32)) % ((v80 - v82) + (1 : Int32))))) (hv103 : v103 = ((own_mv B3 v77 (v1 + (1 : Int32)) (-(v84 - v82))) ((v1 + (1 : Int32)) - (1 : Int32)).toNatClampNeg)) (hv287_105 : v287_105 = (if v21 = (0 : Int32) then (if v71 = (3 : Int32) then (if v75 = (3 : Int32) then (if v103 = ((3 : Int32) - (v84 - v82)) then (1 : Int32) else (0 : Int32)) else (0 : Int32)) else (0 : Int32)) else (0 : Int32))) (hc76_72 : v1 < (2 : Int32)) (cd20_14 : (52 : Int32) = (52 : Int32)) (cd20_15 : 1 ≤ v1.toInt ∧ v1.toInt ≤ 4) (cd27_20 : (0 : Int32) < (v1 + (1 : Int32))) (cd39_23 : (v1 + (1 : Int32)) = (v1 + (1 : Int32))) (cd39_24 : (0 : Int) ≤ 2) (cd51_38 : (v1 + (1 : Int32)) = (v1 + (1 : Int32))) (cd51_39 : ((0 : Int) + 1) ≤ 2) (cd62_53 : (v1 + (1 : Int32)) = (v1 + (1 : Int32))) (cd62_54 : (((0 : Int) + 1) + 1) ≤ 2) (I3 : own_Inv v1 B3 C3 (3 : Int)) (hF : 1 ≤ (C3 v36.toNatClampNeg).toInt) (cd68_70 : (0 : Int32) < (v1 + (1 : Int32))) (IX : own_Inv v1 B3 C3 (3 : Int)) (cd177_74 : (0 : Int32) < (v1 + (1 : Int32))) (nz189_76 : v1 ≠ (0 : Int32)) (in196_79 : ¬ v77 < 0 ∧ v77 < (4 : Int32)) (nz211_81 : (v80 + (1 : Int32)) ≠ (0 : Int32)) (nz231_83 : ((v80 - v82) + (1 : Int32)) ≠ (0 : Int32)) (cd243_86 : (0 : Int32) < (v1 + (1 : Int32))) (cd243_87 : ¬ v77 < 0 ∧ v77 < v1) (cd243_88 : ¬ v77 < 0 ∧ v77 < (v1 + (1 : Int32))) (cd243_89 : 0 ≤ ((B3 v77.toNatClampNeg) + v82).toInt ∧ 0 ≤ (v84 - v82).toInt ∧ ((B3 v77.toNatClampNeg) + v82).toInt + (v84 - v82).toInt ≤ (B3 ((v1 + (1 : Int32)) - (1 : Int32)).toNatClampNeg).toInt ∧ (B3 ((v1 + (1 : Int32)) - (1 : Int32)).toNatClampNeg).toInt ≤ 3) (cd248_102 : (0 : Int32) < (v1 + (1 : Int32))) : v287_105 = 1 := by
  have hq := own_pl_in (n := v1) xf IX.1.1
  rw [show own_pl xf v1 = v77 from hv77.symm] at hq
  have g := IX.1
  have hl15 := hv82
  rw [hv80] at hl15
  have hl16 := hv84
  rw [hv80] at hl16
  have hl := own_lohi IX hq (own_and7 _) (own_and7 _) hl15 hl16
  have h0 : v21 = (0 : Int32) := hv21
  have h1 : v71 = (3 : Int32) := hv71.trans (own_fin I3)
  have h2 : v75 = (3 : Int32) := hv75.trans (own_fin IX)
  have h3 : v103 = ((3 : Int32) - (v84 - v82)) := hv103.trans (own_fin3 IX hq ⟨hl.1, hl.2.1, hl.2.2.1⟩)
  rw [hv287_105, if_pos h0, if_pos h1, if_pos h2, if_pos h3]
set_option maxRecDepth 65536 in
theorem own_pl0_19 {xa : Int32} {xb : Int32} {xc : Int32} {xd : Int32} {B3 : Nat → Int32} {C3 : Nat → Int32} {v1 : Int32} {v21 : Int32} {v36 : Int32} {v51 : Int32} {v66 : Int32} {v71 : Int32} (hv1 : v1 = ((1 : Int32) + (xa &&& (3 : Int32)))) (hv21 : v21 = (own_zero ((v1 + (1 : Int32)) - (1 : Int32)).toNatClampNeg)) (hv36 : v36 = (own_pl xb v1)) (hv51 : v51 = (own_pl xc v1)) (hv66 : v66 = (own_pl xd v1)) (hv71 : v71 = (B3 ((v1 + (1 : Int32)) - (1 : Int32)).toNatClampNeg)) (hc76_72 : ¬ (v1 < (2 : Int32))) (cd20_14 : (52 : Int32) = (52 : Int32)) (cd20_15 : 1 ≤ v1.toInt ∧ v1.toInt ≤ 4) (cd27_20 : (0 : Int32) < (v1 + (1 : Int32))) (cd39_23 : (v1 + (1 : Int32)) = (v1 + (1 : Int32))) (cd39_24 : (0 : Int) ≤ 2) (cd51_38 : (v1 + (1 : Int32)) = (v1 + (1 : Int32))) (cd51_39 : ((0 : Int) + 1) ≤ 2) (cd62_53 : (v1 + (1 : Int32)) = (v1 + (1 : Int32))) (cd62_54 : (((0 : Int) + 1) + 1) ≤ 2) (I3 : own_Inv v1 B3 C3 (3 : Int)) (hF : 1 ≤ (C3 v36.toNatClampNeg).toInt) (cd68_70 : (0 : Int32) < (v1 + (1 : Int32))) : v1 ≠ (0 : Int32) := by
  exact own_ne0 I3.1.1
set_option maxRecDepth 65536 in
theorem own_pl0_20 {xa : Int32} {xb : Int32} {xc : Int32} {xd : Int32} {xe : Int32} {B3 : Nat → Int32} {C3 : Nat → Int32} {v1 : Int32} {v21 : Int32} {v36 : Int32} {v51 : Int32} {v66 : Int32} {v71 : Int32} {v112 : Int32} (hv1 : v1 = ((1 : Int32) + (xa &&& (3 : Int32)))) (hv21 : v21 = (own_zero ((v1 + (1 : Int32)) - (1 : Int32)).toNatClampNeg)) (hv36 : v36 = (own_pl xb v1)) (hv51 : v51 = (own_pl xc v1)) (hv66 : v66 = (own_pl xd v1)) (hv71 : v71 = (B3 ((v1 + (1 : Int32)) - (1 : Int32)).toNatClampNeg)) (hv112 : v112 = ((xe &&& (2147483647 : Int32)) % v1)) (hc76_72 : ¬ (v1 < (2 : Int32))) (cd20_14 : (52 : Int32) = (52 : Int32)) (cd20_15 : 1 ≤ v1.toInt ∧ v1.toInt ≤ 4) (cd27_20 : (0 : Int32) < (v1 + (1 : Int32))) (cd39_23 : (v1 + (1 : Int32)) = (v1 + (1 : Int32))) (cd39_24 : (0 : Int) ≤ 2) (cd51_38 : (v1 + (1 : Int32)) = (v1 + (1 : Int32))) (cd51_39 : ((0 : Int) + 1) ≤ 2) (cd62_53 : (v1 + (1 : Int32)) = (v1 + (1 : Int32))) (cd62_54 : (((0 : Int) + 1) + 1) ≤ 2) (I3 : own_Inv v1 B3 C3 (3 : Int)) (hF : 1 ≤ (C3 v36.toNatClampNeg).toInt) (cd68_70 : (0 : Int32) < (v1 + (1 : Int32))) (nz86_111 : v1 ≠ (0 : Int32)) : ¬ v112 < 0 ∧ v112 < (4 : Int32) := by
  have a := own_pl_in (n := v1) xe I3.1.1
  rw [show own_pl xe v1 = v112 from hv112.symm] at a
  have g := I3.1
  exact own_in a.1 (by show _ < (4 : Int); omega)
set_option maxRecDepth 65536 in
theorem own_pl0_21 {xa : Int32} {xb : Int32} {xc : Int32} {xd : Int32} {xe : Int32} {B3 : Nat → Int32} {C3 : Nat → Int32} {v1 : Int32} {v21 : Int32} {v36 : Int32} {v51 : Int32} {v66 : Int32} {v71 : Int32} {v112 : Int32} {v101_116 : Int32} (hv1 : v1 = ((1 : Int32) + (xa &&& (3 : Int32)))) (hv21 : v21 = (own_zero ((v1 + (1 : Int32)) - (1 : Int32)).toNatClampNeg)) (hv36 : v36 = (own_pl xb v1)) (hv51 : v51 = (own_pl xc v1)) (hv66 : v66 = (own_pl xd v1)) (hv71 : v71 = (B3 ((v1 + (1 : Int32)) - (1 : Int32)).toNatClampNeg)) (hv112 : v112 = ((xe &&& (2147483647 : Int32)) % v1)) (hv101_116 : v101_116 = (if (C3 v112.toNatClampNeg) = (0 : Int32) then v36 else v112)) (hc76_72 : ¬ (v1 < (2 : Int32))) (cd20_14 : (52 : Int32) = (52 : Int32)) (cd20_15 : 1 ≤ v1.toInt ∧ v1.toInt ≤ 4) (cd27_20 : (0 : Int32) < (v1 + (1 : Int32))) (cd39_23 : (v1 + (1 : Int32)) = (v1 + (1 : Int32))) (cd39_24 : (0 : Int) ≤ 2) (cd51_38 : (v1 + (1 : Int32)) = (v1 + (1 : Int32))) (cd51_39 : ((0 : Int) + 1) ≤ 2) (cd62_53 : (v1 + (1 : Int32)) = (v1 + (1 : Int32))) (cd62_54 : (((0 : Int) + 1) + 1) ≤ 2) (I3 : own_Inv v1 B3 C3 (3 : Int)) (hF : 1 ≤ (C3 v36.toNatClampNeg).toInt) (cd68_70 : (0 : Int32) < (v1 + (1 : Int32))) (nz86_111 : v1 ≠ (0 : Int32)) (in93_114 : ¬ v112 < 0 ∧ v112 < (4 : Int32)) : (0 ≤ v101_116.toInt ∧ v101_116.toInt < v1.toInt) ∧ 1 ≤ (C3 v101_116.toNatClampNeg).toInt := by
  have a := own_pl_in (n := v1) xb I3.1.1
  have b := own_pl_in (n := v1) xe I3.1.1
  rw [show own_pl xb v1 = v36 from hv36.symm] at a
  rw [show own_pl xe v1 = v112 from hv112.symm] at b
  exact own_from I3 a b hF hv101_116
set_option maxRecDepth 65536 in
theorem own_pl0_22 {xa : Int32} {xb : Int32} {xc : Int32} {xd : Int32} {xe : Int32} {B3 : Nat → Int32} {C3 : Nat → Int32} {v1 : Int32} {v21 : Int32} {v36 : Int32} {v51 : Int32} {v66 : Int32} {v71 : Int32} {v112 : Int32} {v101_116 : Int32} (hv1 : v1 = ((1 : Int32) + (xa &&& (3 : Int32)))) (hv21 : v21 = (own_zero ((v1 + (1 : Int32)) - (1 : Int32)).toNatClampNeg)) (hv36 : v36 = (own_pl xb v1)) (hv51 : v51 = (own_pl xc v1)) (hv66 : v66 = (own_pl xd v1)) (hv71 : v71 = (B3 ((v1 + (1 : Int32)) - (1 : Int32)).toNatClampNeg)) (hv112 : v112 = ((xe &&& (2147483647 : Int32)) % v1)) (hv101_116 : v101_116 = (if (C3 v112.toNatClampNeg) = (0 : Int32) then v36 else v112)) (hc76_72 : ¬ (v1 < (2 : Int32))) (cd20_14 : (52 : Int32) = (52 : Int32)) (cd20_15 : 1 ≤ v1.toInt ∧ v1.toInt ≤ 4) (cd27_20 : (0 : Int32) < (v1 + (1 : Int32))) (cd39_23 : (v1 + (1 : Int32)) = (v1 + (1 : Int32))) (cd39_24 : (0 : Int) ≤ 2) (cd51_38 : (v1 + (1 : Int32)) = (v1 + (1 : Int32))) (cd51_39 : ((0 : Int) + 1) ≤ 2) (cd62_53 : (v1 + (1 : Int32)) = (v1 + (1 : Int32))) (cd62_54 : (((0 : Int) + 1) + 1) ≤ 2) (I3 : own_Inv v1 B3 C3 (3 : Int)) (hF : 1 ≤ (C3 v36.toNatClampNeg).toInt) (cd68_70 : (0 : Int32) < (v1 + (1 : Int32))) (nz86_111 : v1 ≠ (0 : Int32)) (in93_114 : ¬ v112 < 0 ∧ v112 < (4 : Int32)) (HFR : (0 ≤ v101_116.toInt ∧ v101_116.toInt < v1.toInt) ∧ 1 ≤ (C3 v101_116.toNatClampNeg).toInt) : (v1 - (1 : Int32)) ≠ (0 : Int32) := by
  have g := I3.1
  have z := hc76_72
  rw [own_lt] at z
  have e2 : (2 : Int32).toInt = 2 := rfl
  have e1 : (1 : Int32).toInt = 1 := rfl
  exact own_ne0 (by rw [Jvm.Kit.i32_sub (by omega) (by omega), e1]; omega)
set_option maxRecDepth 65536 in
theorem own_pl0_23 {xa : Int32} {xb : Int32} {xc : Int32} {xd : Int32} {xe : Int32} {B3 : Nat → Int32} {C3 : Nat → Int32} {v1 : Int32} {v21 : Int32} {v36 : Int32} {v51 : Int32} {v66 : Int32} {v71 : Int32} {v112 : Int32} {v101_116 : Int32} (hv1 : v1 = ((1 : Int32) + (xa &&& (3 : Int32)))) (hv21 : v21 = (own_zero ((v1 + (1 : Int32)) - (1 : Int32)).toNatClampNeg)) (hv36 : v36 = (own_pl xb v1)) (hv51 : v51 = (own_pl xc v1)) (hv66 : v66 = (own_pl xd v1)) (hv71 : v71 = (B3 ((v1 + (1 : Int32)) - (1 : Int32)).toNatClampNeg)) (hv112 : v112 = ((xe &&& (2147483647 : Int32)) % v1)) (hv101_116 : v101_116 = (if (C3 v112.toNatClampNeg) = (0 : Int32) then v36 else v112)) (hc76_72 : ¬ (v1 < (2 : Int32))) (cd20_14 : (52 : Int32) = (52 : Int32)) (cd20_15 : 1 ≤ v1.toInt ∧ v1.toInt ≤ 4) (cd27_20 : (0 : Int32) < (v1 + (1 : Int32))) (cd39_23 : (v1 + (1 : Int32)) = (v1 + (1 : Int32))) (cd39_24 : (0 : Int) ≤ 2) (cd51_38 : (v1 + (1 : Int32)) = (v1 + (1 : Int32))) (cd51_39 : ((0 : Int) + 1) ≤ 2) (cd62_53 : (v1 + (1 : Int32)) = (v1 + (1 : Int32))) (cd62_54 : (((0 : Int) + 1) + 1) ≤ 2) (I3 : own_Inv v1 B3 C3 (3 : Int)) (hF : 1 ≤ (C3 v36.toNatClampNeg).toInt) (cd68_70 : (0 : Int32) < (v1 + (1 : Int32))) (nz86_111 : v1 ≠ (0 : Int32)) (in93_114 : ¬ v112 < 0 ∧ v112 < (4 : Int32)) (HFR : (0 ≤ v101_116.toInt ∧ v101_116.toInt < v1.toInt) ∧ 1 ≤ (C3 v101_116.toNatClampNeg).toInt) (nz117_119 : (v1 - (1 : Int32)) ≠ (0 : Int32)) : v1 ≠ (0 : Int32) := by
  exact own_ne0 I3.1.1
set_option maxRecDepth 65536 in
theorem own_pl0_24 {xa : Int32} {xb : Int32} {xc : Int32} {xd : Int32} {xe : Int32} {B3 : Nat → Int32} {C3 : Nat → Int32} {v1 : Int32} {v21 : Int32} {v36 : Int32} {v51 : Int32} {v66 : Int32} {v71 : Int32} {v112 : Int32} {v101_116 : Int32} {v121 : Int32} (hv1 : v1 = ((1 : Int32) + (xa &&& (3 : Int32)))) (hv21 : v21 = (own_zero ((v1 + (1 : Int32)) - (1 : Int32)).toNatClampNeg)) (hv36 : v36 = (own_pl xb v1)) (hv51 : v51 = (own_pl xc v1)) (hv66 : v66 = (own_pl xd v1)) (hv71 : v71 = (B3 ((v1 + (1 : Int32)) - (1 : Int32)).toNatClampNeg)) (hv112 : v112 = ((xe &&& (2147483647 : Int32)) % v1)) (hv101_116 : v101_116 = (if (C3 v112.toNatClampNeg) = (0 : Int32) then v36 else v112)) (hv121 : v121 = (((v101_116 + (1 : Int32)) + ((((xe.toUInt32 >>> ((8 : Int32) &&& 31).toUInt32).toInt32) &&& (2147483647 : Int32)) % (v1 - (1 : Int32)))) % v1)) (hc76_72 : ¬ (v1 < (2 : Int32))) (cd20_14 : (52 : Int32) = (52 : Int32)) (cd20_15 : 1 ≤ v1.toInt ∧ v1.toInt ≤ 4) (cd27_20 : (0 : Int32) < (v1 + (1 : Int32))) (cd39_23 : (v1 + (1 : Int32)) = (v1 + (1 : Int32))) (cd39_24 : (0 : Int) ≤ 2) (cd51_38 : (v1 + (1 : Int32)) = (v1 + (1 : Int32))) (cd51_39 : ((0 : Int) + 1) ≤ 2) (cd62_53 : (v1 + (1 : Int32)) = (v1 + (1 : Int32))) (cd62_54 : (((0 : Int) + 1) + 1) ≤ 2) (I3 : own_Inv v1 B3 C3 (3 : Int)) (hF : 1 ≤ (C3 v36.toNatClampNeg).toInt) (cd68_70 : (0 : Int32) < (v1 + (1 : Int32))) (nz86_111 : v1 ≠ (0 : Int32)) (in93_114 : ¬ v112 < 0 ∧ v112 < (4 : Int32)) (HFR : (0 ≤ v101_116.toInt ∧ v101_116.toInt < v1.toInt) ∧ 1 ≤ (C3 v101_116.toNatClampNeg).toInt) (nz117_119 : (v1 - (1 : Int32)) ≠ (0 : Int32)) (nz121_120 : v1 ≠ (0 : Int32)) : (0 ≤ v121.toInt ∧ v121.toInt < v1.toInt) ∧ v101_116.toInt ≠ v121.toInt := by
  exact own_to I3.1 hc76_72 HFR.1 (own_andM _) hv121
set_option maxRecDepth 65536 in
theorem own_pl0_25 {xa : Int32} {xb : Int32} {xc : Int32} {xd : Int32} {xe : Int32} {B3 : Nat → Int32} {C3 : Nat → Int32} {v1 : Int32} {v21 : Int32} {v36 : Int32} {v51 : Int32} {v66 : Int32} {v71 : Int32} {v112 : Int32} {v101_116 : Int32} {v121 : Int32} (hv1 : v1 = ((1 : Int32) + (xa &&& (3 : Int32)))) (hv21 : v21 = (own_zero ((v1 + (1 : Int32)) - (1 : Int32)).toNatClampNeg)) (hv36 : v36 = (own_pl xb v1)) (hv51 : v51 = (own_pl xc v1)) (hv66 : v66 = (own_pl xd v1)) (hv71 : v71 = (B3 ((v1 + (1 : Int32)) - (1 : Int32)).toNatClampNeg)) (hv112 : v112 = ((xe &&& (2147483647 : Int32)) % v1)) (hv101_116 : v101_116 = (if (C3 v112.toNatClampNeg) = (0 : Int32) then v36 else v112)) (hv121 : v121 = (((v101_116 + (1 : Int32)) + ((((xe.toUInt32 >>> ((8 : Int32) &&& 31).toUInt32).toInt32) &&& (2147483647 : Int32)) % (v1 - (1 : Int32)))) % v1)) (hc76_72 : ¬ (v1 < (2 : Int32))) (cd20_14 : (52 : Int32) = (52 : Int32)) (cd20_15 : 1 ≤ v1.toInt ∧ v1.toInt ≤ 4) (cd27_20 : (0 : Int32) < (v1 + (1 : Int32))) (cd39_23 : (v1 + (1 : Int32)) = (v1 + (1 : Int32))) (cd39_24 : (0 : Int) ≤ 2) (cd51_38 : (v1 + (1 : Int32)) = (v1 + (1 : Int32))) (cd51_39 : ((0 : Int) + 1) ≤ 2) (cd62_53 : (v1 + (1 : Int32)) = (v1 + (1 : Int32))) (cd62_54 : (((0 : Int) + 1) + 1) ≤ 2) (I3 : own_Inv v1 B3 C3 (3 : Int)) (hF : 1 ≤ (C3 v36.toNatClampNeg).toInt) (cd68_70 : (0 : Int32) < (v1 + (1 : Int32))) (nz86_111 : v1 ≠ (0 : Int32)) (in93_114 : ¬ v112 < 0 ∧ v112 < (4 : Int32)) (HFR : (0 ≤ v101_116.toInt ∧ v101_116.toInt < v1.toInt) ∧ 1 ≤ (C3 v101_116.toNatClampNeg).toInt) (nz117_119 : (v1 - (1 : Int32)) ≠ (0 : Int32)) (nz121_120 : v1 ≠ (0 : Int32)) (HTO : (0 ≤ v121.toInt ∧ v121.toInt < v1.toInt) ∧ v101_116.toInt ≠ v121.toInt) : ¬ v101_116 < 0 ∧ v101_116 < (4 : Int32) := by
  have g := I3.1
  exact own_in HFR.1.1 (by show _ < (4 : Int); omega)
set_option maxRecDepth 65536 in
theorem own_pl0_26 {xa : Int32} {xb : Int32} {xc : Int32} {xd : Int32} {xe : Int32} {B3 : Nat → Int32} {C3 : Nat → Int32} {v1 : Int32} {v21 : Int32} {v36 : Int32} {v51 : Int32} {v66 : Int32} {v71 : Int32} {v112 : Int32} {v101_116 : Int32} {v121 : Int32} (hv1 : v1 = ((1 : Int32) + (xa &&& (3 : Int32)))) (hv21 : v21 = (own_zero ((v1 + (1 : Int32)) - (1 : Int32)).toNatClampNeg)) (hv36 : v36 = (own_pl xb v1)) (hv51 : v51 = (own_pl xc v1)) (hv66 : v66 = (own_pl xd v1)) (hv71 : v71 = (B3 ((v1 + (1 : Int32)) - (1 : Int32)).toNatClampNeg)) (hv112 : v112 = ((xe &&& (2147483647 : Int32)) % v1)) (hv101_116 : v101_116 = (if (C3 v112.toNatClampNeg) = (0 : Int32) then v36 else v112)) (hv121 : v121 = (((v101_116 + (1 : Int32)) + ((((xe.toUInt32 >>> ((8 : Int32) &&& 31).toUInt32).toInt32) &&& (2147483647 : Int32)) % (v1 - (1 : Int32)))) % v1)) (hc76_72 : ¬ (v1 < (2 : Int32))) (cd20_14 : (52 : Int32) = (52 : Int32)) (cd20_15 : 1 ≤ v1.toInt ∧ v1.toInt ≤ 4) (cd27_20 : (0 : Int32) < (v1 + (1 : Int32))) (cd39_23 : (v1 + (1 : Int32)) = (v1 + (1 : Int32))) (cd39_24 : (0 : Int) ≤ 2) (cd51_38 : (v1 + (1 : Int32)) = (v1 + (1 : Int32))) (cd51_39 : ((0 : Int) + 1) ≤ 2) (cd62_53 : (v1 + (1 : Int32)) = (v1 + (1 : Int32))) (cd62_54 : (((0 : Int) + 1) + 1) ≤ 2) (I3 : own_Inv v1 B3 C3 (3 : Int)) (hF : 1 ≤ (C3 v36.toNatClampNeg).toInt) (cd68_70 : (0 : Int32) < (v1 + (1 : Int32))) (nz86_111 : v1 ≠ (0 : Int32)) (in93_114 : ¬ v112 < 0 ∧ v112 < (4 : Int32)) (HFR : (0 ≤ v101_116.toInt ∧ v101_116.toInt < v1.toInt) ∧ 1 ≤ (C3 v101_116.toNatClampNeg).toInt) (nz117_119 : (v1 - (1 : Int32)) ≠ (0 : Int32)) (nz121_120 : v1 ≠ (0 : Int32)) (HTO : (0 ≤ v121.toInt ∧ v121.toInt < v1.toInt) ∧ v101_116.toInt ≠ v121.toInt) (in136_123 : ¬ v101_116 < 0 ∧ v101_116 < (4 : Int32)) : (C3 v101_116.toNatClampNeg) ≠ (0 : Int32) := by
  exact own_ne0 HFR.2
set_option maxRecDepth 65536 in
theorem own_pl0_27 {xa : Int32} {xb : Int32} {xc : Int32} {xd : Int32} {xe : Int32} {B3 : Nat → Int32} {C3 : Nat → Int32} {v1 : Int32} {v21 : Int32} {v36 : Int32} {v51 : Int32} {v66 : Int32} {v71 : Int32} {v112 : Int32} {v101_116 : Int32} {v121 : Int32} {v125 : Int32} (hv1 : v1 = ((1 : Int32) + (xa &&& (3 : Int32)))) (hv21 : v21 = (own_zero ((v1 + (1 : Int32)) - (1 : Int32)).toNatClampNeg)) (hv36 : v36 = (own_pl xb v1)) (hv51 : v51 = (own_pl xc v1)) (hv66 : v66 = (own_pl xd v1)) (hv71 : v71 = (B3 ((v1 + (1 : Int32)) - (1 : Int32)).toNatClampNeg)) (hv112 : v112 = ((xe &&& (2147483647 : Int32)) % v1)) (hv101_116 : v101_116 = (if (C3 v112.toNatClampNeg) = (0 : Int32) then v36 else v112)) (hv121 : v121 = (((v101_116 + (1 : Int32)) + ((((xe.toUInt32 >>> ((8 : Int32) &&& 31).toUInt32).toInt32) &&& (2147483647 : Int32)) % (v1 - (1 : Int32)))) % v1)) (hv125 : v125 = ((((xe.toUInt32 >>> ((16 : Int32) &&& 31).toUInt32).toInt32) &&& (7 : Int32)) % (C3 v101_116.toNatClampNeg))) (hc76_72 : ¬ (v1 < (2 : Int32))) (cd20_14 : (52 : Int32) = (52 : Int32)) (cd20_15 : 1 ≤ v1.toInt ∧ v1.toInt ≤ 4) (cd27_20 : (0 : Int32) < (v1 + (1 : Int32))) (cd39_23 : (v1 + (1 : Int32)) = (v1 + (1 : Int32))) (cd39_24 : (0 : Int) ≤ 2) (cd51_38 : (v1 + (1 : Int32)) = (v1 + (1 : Int32))) (cd51_39 : ((0 : Int) + 1) ≤ 2) (cd62_53 : (v1 + (1 : Int32)) = (v1 + (1 : Int32))) (cd62_54 : (((0 : Int) + 1) + 1) ≤ 2) (I3 : own_Inv v1 B3 C3 (3 : Int)) (hF : 1 ≤ (C3 v36.toNatClampNeg).toInt) (cd68_70 : (0 : Int32) < (v1 + (1 : Int32))) (nz86_111 : v1 ≠ (0 : Int32)) (in93_114 : ¬ v112 < 0 ∧ v112 < (4 : Int32)) (HFR : (0 ≤ v101_116.toInt ∧ v101_116.toInt < v1.toInt) ∧ 1 ≤ (C3 v101_116.toNatClampNeg).toInt) (nz117_119 : (v1 - (1 : Int32)) ≠ (0 : Int32)) (nz121_120 : v1 ≠ (0 : Int32)) (HTO : (0 ≤ v121.toInt ∧ v121.toInt < v1.toInt) ∧ v101_116.toInt ≠ v121.toInt) (in136_123 : ¬ v101_116 < 0 ∧ v101_116 < (4 : Int32)) (nz137_124 : (C3 v101_116.toNatClampNeg) ≠ (0 : Int32)) : (0 : Int32) < (v1 + (1 : Int32)) := by
  have hn := own_n hv1
  have hn1 := own_n1 hn.2 hn.1
  rw [own_lt, own_z]; omega
set_option maxRecDepth 65536 in
theorem own_pl0_28 {xa : Int32} {xb : Int32} {xc : Int32} {xd : Int32} {xe : Int32} {B3 : Nat → Int32} {C3 : Nat → Int32} {v1 : Int32} {v21 : Int32} {v36 : Int32} {v51 : Int32} {v66 : Int32} {v71 : Int32} {v112 : Int32} {v101_116 : Int32} {v121 : Int32} {v125 : Int32} (hv1 : v1 = ((1 : Int32) + (xa &&& (3 : Int32)))) (hv21 : v21 = (own_zero ((v1 + (1 : Int32)) - (1 : Int32)).toNatClampNeg)) (hv36 : v36 = (own_pl xb v1)) (hv51 : v51 = (own_pl xc v1)) (hv66 : v66 = (own_pl xd v1)) (hv71 : v71 = (B3 ((v1 + (1 : Int32)) - (1 : Int32)).toNatClampNeg)) (hv112 : v112 = ((xe &&& (2147483647 : Int32)) % v1)) (hv101_116 : v101_116 = (if (C3 v112.toNatClampNeg) = (0 : Int32) then v36 else v112)) (hv121 : v121 = (((v101_116 + (1 : Int32)) + ((((xe.toUInt32 >>> ((8 : Int32) &&& 31).toUInt32).toInt32) &&& (2147483647 : Int32)) % (v1 - (1 : Int32)))) % v1)) (hv125 : v125 = ((((xe.toUInt32 >>> ((16 : Int32) &&& 31).toUInt32).toInt32) &&& (7 : Int32)) % (C3 v101_116.toNatClampNeg))) (hc76_72 : ¬ (v1 < (2 : Int32))) (cd20_14 : (52 : Int32) = (52 : Int32)) (cd20_15 : 1 ≤ v1.toInt ∧ v1.toInt ≤ 4) (cd27_20 : (0 : Int32) < (v1 + (1 : Int32))) (cd39_23 : (v1 + (1 : Int32)) = (v1 + (1 : Int32))) (cd39_24 : (0 : Int) ≤ 2) (cd51_38 : (v1 + (1 : Int32)) = (v1 + (1 : Int32))) (cd51_39 : ((0 : Int) + 1) ≤ 2) (cd62_53 : (v1 + (1 : Int32)) = (v1 + (1 : Int32))) (cd62_54 : (((0 : Int) + 1) + 1) ≤ 2) (I3 : own_Inv v1 B3 C3 (3 : Int)) (hF : 1 ≤ (C3 v36.toNatClampNeg).toInt) (cd68_70 : (0 : Int32) < (v1 + (1 : Int32))) (nz86_111 : v1 ≠ (0 : Int32)) (in93_114 : ¬ v112 < 0 ∧ v112 < (4 : Int32)) (HFR : (0 ≤ v101_116.toInt ∧ v101_116.toInt < v1.toInt) ∧ 1 ≤ (C3 v101_116.toNatClampNeg).toInt) (nz117_119 : (v1 - (1 : Int32)) ≠ (0 : Int32)) (nz121_120 : v1 ≠ (0 : Int32)) (HTO : (0 ≤ v121.toInt ∧ v121.toInt < v1.toInt) ∧ v101_116.toInt ≠ v121.toInt) (in136_123 : ¬ v101_116 < 0 ∧ v101_116 < (4 : Int32)) (nz137_124 : (C3 v101_116.toNatClampNeg) ≠ (0 : Int32)) (cd148_127 : (0 : Int32) < (v1 + (1 : Int32))) : ¬ v101_116 < 0 ∧ v101_116 < v1 := by
  exact own_in HFR.1.1 HFR.1.2
set_option maxRecDepth 65536 in
theorem own_pl0_29 {xa : Int32} {xb : Int32} {xc : Int32} {xd : Int32} {xe : Int32} {B3 : Nat → Int32} {C3 : Nat → Int32} {v1 : Int32} {v21 : Int32} {v36 : Int32} {v51 : Int32} {v66 : Int32} {v71 : Int32} {v112 : Int32} {v101_116 : Int32} {v121 : Int32} {v125 : Int32} (hv1 : v1 = ((1 : Int32) + (xa &&& (3 : Int32)))) (hv21 : v21 = (own_zero ((v1 + (1 : Int32)) - (1 : Int32)).toNatClampNeg)) (hv36 : v36 = (own_pl xb v1)) (hv51 : v51 = (own_pl xc v1)) (hv66 : v66 = (own_pl xd v1)) (hv71 : v71 = (B3 ((v1 + (1 : Int32)) - (1 : Int32)).toNatClampNeg)) (hv112 : v112 = ((xe &&& (2147483647 : Int32)) % v1)) (hv101_116 : v101_116 = (if (C3 v112.toNatClampNeg) = (0 : Int32) then v36 else v112)) (hv121 : v121 = (((v101_116 + (1 : Int32)) + ((((xe.toUInt32 >>> ((8 : Int32) &&& 31).toUInt32).toInt32) &&& (2147483647 : Int32)) % (v1 - (1 : Int32)))) % v1)) (hv125 : v125 = ((((xe.toUInt32 >>> ((16 : Int32) &&& 31).toUInt32).toInt32) &&& (7 : Int32)) % (C3 v101_116.toNatClampNeg))) (hc76_72 : ¬ (v1 < (2 : Int32))) (cd20_14 : (52 : Int32) = (52 : Int32)) (cd20_15 : 1 ≤ v1.toInt ∧ v1.toInt ≤ 4) (cd27_20 : (0 : Int32) < (v1 + (1 : Int32))) (cd39_23 : (v1 + (1 : Int32)) = (v1 + (1 : Int32))) (cd39_24 : (0 : Int) ≤ 2) (cd51_38 : (v1 + (1 : Int32)) = (v1 + (1 : Int32))) (cd51_39 : ((0 : Int) + 1) ≤ 2) (cd62_53 : (v1 + (1 : Int32)) = (v1 + (1 : Int32))) (cd62_54 : (((0 : Int) + 1) + 1) ≤ 2) (I3 : own_Inv v1 B3 C3 (3 : Int)) (hF : 1 ≤ (C3 v36.toNatClampNeg).toInt) (cd68_70 : (0 : Int32) < (v1 + (1 : Int32))) (nz86_111 : v1 ≠ (0 : Int32)) (in93_114 : ¬ v112 < 0 ∧ v112 < (4 : Int32)) (HFR : (0 ≤ v101_116.toInt ∧ v101_116.toInt < v1.toInt) ∧ 1 ≤ (C3 v101_116.toNatClampNeg).toInt) (nz117_119 : (v1 - (1 : Int32)) ≠ (0 : Int32)) (nz121_120 : v1 ≠ (0 : Int32)) (HTO : (0 ≤ v121.toInt ∧ v121.toInt < v1.toInt) ∧ v101_116.toInt ≠ v121.toInt) (in136_123 : ¬ v101_116 < 0 ∧ v101_116 < (4 : Int32)) (nz137_124 : (C3 v101_116.toNatClampNeg) ≠ (0 : Int32)) (cd148_127 : (0 : Int32) < (v1 + (1 : Int32))) (cd148_128 : ¬ v101_116 < 0 ∧ v101_116 < v1) : ¬ v101_116 < 0 ∧ v101_116 < (v1 + (1 : Int32)) := by
  have hn := own_n hv1
  have hn1 := own_n1 hn.2 hn.1
  exact own_in HFR.1.1 (by omega)
set_option maxRecDepth 65536 in
theorem own_pl0_30 {xa : Int32} {xb : Int32} {xc : Int32} {xd : Int32} {xe : Int32} {B3 : Nat → Int32} {C3 : Nat → Int32} {v1 : Int32} {v21 : Int32} {v36 : Int32} {v51 : Int32} {v66 : Int32} {v71 : Int32} {v112 : Int32} {v101_116 : Int32} {v121 : Int32} {v125 : Int32} (hv1 : v1 = ((1 : Int32) + (xa &&& (3 : Int32)))) (hv21 : v21 = (own_zero ((v1 + (1 : Int32)) - (1 : Int32)).toNatClampNeg)) (hv36 : v36 = (own_pl xb v1)) (hv51 : v51 = (own_pl xc v1)) (hv66 : v66 = (own_pl xd v1)) (hv71 : v71 = (B3 ((v1 + (1 : Int32)) - (1 : Int32)).toNatClampNeg)) (hv112 : v112 = ((xe &&& (2147483647 : Int32)) % v1)) (hv101_116 : v101_116 = (if (C3 v112.toNatClampNeg) = (0 : Int32) then v36 else v112)) (hv121 : v121 = (((v101_116 + (1 : Int32)) + ((((xe.toUInt32 >>> ((8 : Int32) &&& 31).toUInt32).toInt32) &&& (2147483647 : Int32)) % (v1 - (1 : Int32)))) % v1)) (hv125 : v125 = ((((xe.toUInt32 >>> ((16 : Int32) &&& 31).toUInt32).toInt32) &&& (7 : Int32)) % (C3 v101_116.toNatClampNeg))) (hc76_72 : ¬ (v1 < (2 : Int32))) (cd20_14 : (52 : Int32) = (52 : Int32)) (cd20_15 : 1 ≤ v1.toInt ∧ v1.toInt ≤ 4) (cd27_20 : (0 : Int32) < (v1 + (1 : Int32))) (cd39_23 : (v1 + (1 : Int32)) = (v1 + (1 : Int32))) (cd39_24 : (0 : Int) ≤ 2) (cd51_38 : (v1 + (1 : Int32)) = (v1 + (1 : Int32))) (cd51_39 : ((0 : Int) + 1) ≤ 2) (cd62_53 : (v1 + (1 : Int32)) = (v1 + (1 : Int32))) (cd62_54 : (((0 : Int) + 1) + 1) ≤ 2) (I3 : own_Inv v1 B3 C3 (3 : Int)) (hF : 1 ≤ (C3 v36.toNatClampNeg).toInt) (cd68_70 : (0 : Int32) < (v1 + (1 : Int32))) (nz86_111 : v1 ≠ (0 : Int32)) (in93_114 : ¬ v112 < 0 ∧ v112 < (4 : Int32)) (HFR : (0 ≤ v101_116.toInt ∧ v101_116.toInt < v1.toInt) ∧ 1 ≤ (C3 v101_116.toNatClampNeg).toInt) (nz117_119 : (v1 - (1 : Int32)) ≠ (0 : Int32)) (nz121_120 : v1 ≠ (0 : Int32)) (HTO : (0 ≤ v121.toInt ∧ v121.toInt < v1.toInt) ∧ v101_116.toInt ≠ v121.toInt) (in136_123 : ¬ v101_116 < 0 ∧ v101_116 < (4 : Int32)) (nz137_124 : (C3 v101_116.toNatClampNeg) ≠ (0 : Int32)) (cd148_127 : (0 : Int32) < (v1 + (1 : Int32))) (cd148_128 : ¬ v101_116 < 0 ∧ v101_116 < v1) (cd148_129 : ¬ v101_116 < 0 ∧ v101_116 < (v1 + (1 : Int32))) : ¬ v121 < 0 ∧ v121 < v1 := by
  exact own_in HTO.1.1 HTO.1.2
set_option maxRecDepth 65536 in
theorem own_pl0_31 {xa : Int32} {xb : Int32} {xc : Int32} {xd : Int32} {xe : Int32} {B3 : Nat → Int32} {C3 : Nat → Int32} {v1 : Int32} {v21 : Int32} {v36 : Int32} {v51 : Int32} {v66 : Int32} {v71 : Int32} {v112 : Int32} {v101_116 : Int32} {v121 : Int32} {v125 : Int32} (hv1 : v1 = ((1 : Int32) + (xa &&& (3 : Int32)))) (hv21 : v21 = (own_zero ((v1 + (1 : Int32)) - (1 : Int32)).toNatClampNeg)) (hv36 : v36 = (own_pl xb v1)) (hv51 : v51 = (own_pl xc v1)) (hv66 : v66 = (own_pl xd v1)) (hv71 : v71 = (B3 ((v1 + (1 : Int32)) - (1 : Int32)).toNatClampNeg)) (hv112 : v112 = ((xe &&& (2147483647 : Int32)) % v1)) (hv101_116 : v101_116 = (if (C3 v112.toNatClampNeg) = (0 : Int32) then v36 else v112)) (hv121 : v121 = (((v101_116 + (1 : Int32)) + ((((xe.toUInt32 >>> ((8 : Int32) &&& 31).toUInt32).toInt32) &&& (2147483647 : Int32)) % (v1 - (1 : Int32)))) % v1)) (hv125 : v125 = ((((xe.toUInt32 >>> ((16 : Int32) &&& 31).toUInt32).toInt32) &&& (7 : Int32)) % (C3 v101_116.toNatClampNeg))) (hc76_72 : ¬ (v1 < (2 : Int32))) (cd20_14 : (52 : Int32) = (52 : Int32)) (cd20_15 : 1 ≤ v1.toInt ∧ v1.toInt ≤ 4) (cd27_20 : (0 : Int32) < (v1 + (1 : Int32))) (cd39_23 : (v1 + (1 : Int32)) = (v1 + (1 : Int32))) (cd39_24 : (0 : Int) ≤ 2) (cd51_38 : (v1 + (1 : Int32)) = (v1 + (1 : Int32))) (cd51_39 : ((0 : Int) + 1) ≤ 2) (cd62_53 : (v1 + (1 : Int32)) = (v1 + (1 : Int32))) (cd62_54 : (((0 : Int) + 1) + 1) ≤ 2) (I3 : own_Inv v1 B3 C3 (3 : Int)) (hF : 1 ≤ (C3 v36.toNatClampNeg).toInt) (cd68_70 : (0 : Int32) < (v1 + (1 : Int32))) (nz86_111 : v1 ≠ (0 : Int32)) (in93_114 : ¬ v112 < 0 ∧ v112 < (4 : Int32)) (HFR : (0 ≤ v101_116.toInt ∧ v101_116.toInt < v1.toInt) ∧ 1 ≤ (C3 v101_116.toNatClampNeg).toInt) (nz117_119 : (v1 - (1 : Int32)) ≠ (0 : Int32)) (nz121_120 : v1 ≠ (0 : Int32)) (HTO : (0 ≤ v121.toInt ∧ v121.toInt < v1.toInt) ∧ v101_116.toInt ≠ v121.toInt) (in136_123 : ¬ v101_116 < 0 ∧ v101_116 < (4 : Int32)) (nz137_124 : (C3 v101_116.toNatClampNeg) ≠ (0 : Int32)) (cd148_127 : (0 : Int32) < (v1 + (1 : Int32))) (cd148_128 : ¬ v101_116 < 0 ∧ v101_116 < v1) (cd148_129 : ¬ v101_116 < 0 ∧ v101_116 < (v1 + (1 : Int32))) (cd148_130 : ¬ v121 < 0 ∧ v121 < v1) : ¬ (v121 + (1 : Int32)) < 0 ∧ (v121 + (1 : Int32)) < (v1 + (1 : Int32)) := by
  have hn := own_n hv1
  have hn1 := own_n1 hn.2 hn.1
  have e1 : (1 : Int32).toInt = 1 := rfl
  have t1 : (v121 + (1 : Int32)).toInt = v121.toInt + 1 := by rw [Jvm.Kit.i32_add (by omega) (by omega), e1]
  exact own_in (by omega) (by omega)
set_option maxRecDepth 65536 in
theorem own_pl0_32 {xa : Int32} {xb : Int32} {xc : Int32} {xd : Int32} {xe : Int32} {B3 : Nat → Int32} {C3 : Nat → Int32} {v1 : Int32} {v21 : Int32} {v36 : Int32} {v51 : Int32} {v66 : Int32} {v71 : Int32} {v112 : Int32} {v101_116 : Int32} {v121 : Int32} {v125 : Int32} (hv1 : v1 = ((1 : Int32) + (xa &&& (3 : Int32)))) (hv21 : v21 = (own_zero ((v1 + (1 : Int32)) - (1 : Int32)).toNatClampNeg)) (hv36 : v36 = (own_pl xb v1)) (hv51 : v51 = (own_pl xc v1)) (hv66 : v66 = (own_pl xd v1)) (hv71 : v71 = (B3 ((v1 + (1 : Int32)) - (1 : Int32)).toNatClampNeg)) (hv112 : v112 = ((xe &&& (2147483647 : Int32)) % v1)) (hv101_116 : v101_116 = (if (C3 v112.toNatClampNeg) = (0 : Int32) then v36 else v112)) (hv121 : v121 = (((v101_116 + (1 : Int32)) + ((((xe.toUInt32 >>> ((8 : Int32) &&& 31).toUInt32).toInt32) &&& (2147483647 : Int32)) % (v1 - (1 : Int32)))) % v1)) (hv125 : v125 = ((((xe.toUInt32 >>> ((16 : Int32) &&& 31).toUInt32).toInt32) &&& (7 : Int32)) % (C3 v101_116.toNatClampNeg))) (hc76_72 : ¬ (v1 < (2 : Int32))) (cd20_14 : (52 : Int32) = (52 : Int32)) (cd20_15 : 1 ≤ v1.toInt ∧ v1.toInt ≤ 4) (cd27_20 : (0 : Int32) < (v1 + (1 : Int32))) (cd39_23 : (v1 + (1 : Int32)) = (v1 + (1 : Int32))) (cd39_24 : (0 : Int) ≤ 2) (cd51_38 : (v1 + (1 : Int32)) = (v1 + (1 : Int32))) (cd51_39 : ((0 : Int) + 1) ≤ 2) (cd62_53 : (v1 + (1 : Int32)) = (v1 + (1 : Int32))) (cd62_54 : (((0 : Int) + 1) + 1) ≤ 2) (I3 : own_Inv v1 B3 C3 (3 : Int)) (hF : 1 ≤ (C3 v36.toNatClampNeg).toInt) (cd68_70 : (0 : Int32) < (v1 + (1 : Int32))) (nz86_111 : v1 ≠ (0 : Int32)) (in93_114 : ¬ v112 < 0 ∧ v112 < (4 : Int32)) (HFR : (0 ≤ v101_116.toInt ∧ v101_116.toInt < v1.toInt) ∧ 1 ≤ (C3 v101_116.toNatClampNeg).toInt) (nz117_119 : (v1 - (1 : Int32)) ≠ (0 : Int32)) (nz121_120 : v1 ≠ (0 : Int32)) (HTO : (0 ≤ v121.toInt ∧ v121.toInt < v1.toInt) ∧ v101_116.toInt ≠ v121.toInt) (in136_123 : ¬ v101_116 < 0 ∧ v101_116 < (4 : Int32)) (nz137_124 : (C3 v101_116.toNatClampNeg) ≠ (0 : Int32)) (cd148_127 : (0 : Int32) < (v1 + (1 : Int32))) (cd148_128 : ¬ v101_116 < 0 ∧ v101_116 < v1) (cd148_129 : ¬ v101_116 < 0 ∧ v101_116 < (v1 + (1 : Int32))) (cd148_130 : ¬ v121 < 0 ∧ v121 < v1) (cd148_131 : ¬ (v121 + (1 : Int32)) < 0 ∧ (v121 + (1 : Int32)) < (v1 + (1 : Int32))) : 0 ≤ ((B3 v101_116.toNatClampNeg) + v125).toInt ∧ ((B3 v101_116.toNatClampNeg) + v125).toInt ≤ 3 ∧ 0 ≤ (B3 (v121 + (1 : Int32)).toNatClampNeg).toInt ∧ (B3 (v121 + (1 : Int32)).toNatClampNeg).toInt ≤ 3 ∧ (v101_116 < v121 → ((B3 v101_116.toNatClampNeg) + v125).toInt + 1 ≤ (B3 (v121 + (1 : Int32)).toNatClampNeg).toInt) ∧ (¬ v101_116 < v121 → (B3 (v121 + (1 : Int32)).toNatClampNeg).toInt ≤ ((B3 v101_116.toNatClampNeg) + v125).toInt) := by
  exact own_okT I3 HFR.1 HTO.1 HTO.2 (by rw [hv125]; exact own_rem (own_and7 _) HFR.2)
set_option maxRecDepth 65536 in
theorem own_pl0_33 {xa : Int32} {xb : Int32} {xc : Int32} {xd : Int32} {xe : Int32} {B3 : Nat → Int32} {C3 : Nat → Int32} {v1 : Int32} {v21 : Int32} {v36 : Int32} {v51 : Int32} {v66 : Int32} {v71 : Int32} {v112 : Int32} {v101_116 : Int32} {v121 : Int32} {v125 : Int32} (hv1 : v1 = ((1 : Int32) + (xa &&& (3 : Int32)))) (hv21 : v21 = (own_zero ((v1 + (1 : Int32)) - (1 : Int32)).toNatClampNeg)) (hv36 : v36 = (own_pl xb v1)) (hv51 : v51 = (own_pl xc v1)) (hv66 : v66 = (own_pl xd v1)) (hv71 : v71 = (B3 ((v1 + (1 : Int32)) - (1 : Int32)).toNatClampNeg)) (hv112 : v112 = ((xe &&& (2147483647 : Int32)) % v1)) (hv101_116 : v101_116 = (if (C3 v112.toNatClampNeg) = (0 : Int32) then v36 else v112)) (hv121 : v121 = (((v101_116 + (1 : Int32)) + ((((xe.toUInt32 >>> ((8 : Int32) &&& 31).toUInt32).toInt32) &&& (2147483647 : Int32)) % (v1 - (1 : Int32)))) % v1)) (hv125 : v125 = ((((xe.toUInt32 >>> ((16 : Int32) &&& 31).toUInt32).toInt32) &&& (7 : Int32)) % (C3 v101_116.toNatClampNeg))) (hc76_72 : ¬ (v1 < (2 : Int32))) (cd20_14 : (52 : Int32) = (52 : Int32)) (cd20_15 : 1 ≤ v1.toInt ∧ v1.toInt ≤ 4) (cd27_20 : (0 : Int32) < (v1 + (1 : Int32))) (cd39_23 : (v1 + (1 : Int32)) = (v1 + (1 : Int32))) (cd39_24 : (0 : Int) ≤ 2) (cd51_38 : (v1 + (1 : Int32)) = (v1 + (1 : Int32))) (cd51_39 : ((0 : Int) + 1) ≤ 2) (cd62_53 : (v1 + (1 : Int32)) = (v1 + (1 : Int32))) (cd62_54 : (((0 : Int) + 1) + 1) ≤ 2) (I3 : own_Inv v1 B3 C3 (3 : Int)) (hF : 1 ≤ (C3 v36.toNatClampNeg).toInt) (cd68_70 : (0 : Int32) < (v1 + (1 : Int32))) (nz86_111 : v1 ≠ (0 : Int32)) (in93_114 : ¬ v112 < 0 ∧ v112 < (4 : Int32)) (HFR : (0 ≤ v101_116.toInt ∧ v101_116.toInt < v1.toInt) ∧ 1 ≤ (C3 v101_116.toNatClampNeg).toInt) (nz117_119 : (v1 - (1 : Int32)) ≠ (0 : Int32)) (nz121_120 : v1 ≠ (0 : Int32)) (HTO : (0 ≤ v121.toInt ∧ v121.toInt < v1.toInt) ∧ v101_116.toInt ≠ v121.toInt) (in136_123 : ¬ v101_116 < 0 ∧ v101_116 < (4 : Int32)) (nz137_124 : (C3 v101_116.toNatClampNeg) ≠ (0 : Int32)) (cd148_127 : (0 : Int32) < (v1 + (1 : Int32))) (cd148_128 : ¬ v101_116 < 0 ∧ v101_116 < v1) (cd148_129 : ¬ v101_116 < 0 ∧ v101_116 < (v1 + (1 : Int32))) (cd148_130 : ¬ v121 < 0 ∧ v121 < v1) (cd148_131 : ¬ (v121 + (1 : Int32)) < 0 ∧ (v121 + (1 : Int32)) < (v1 + (1 : Int32))) (cd148_132 : 0 ≤ ((B3 v101_116.toNatClampNeg) + v125).toInt ∧ ((B3 v101_116.toNatClampNeg) + v125).toInt ≤ 3 ∧ 0 ≤ (B3 (v121 + (1 : Int32)).toNatClampNeg).toInt ∧ (B3 (v121 + (1 : Int32)).toNatClampNeg).toInt ≤ 3 ∧ (v101_116 < v121 → ((B3 v101_116.toNatClampNeg) + v125).toInt + 1 ≤ (B3 (v121 + (1 : Int32)).toNatClampNeg).toInt) ∧ (¬ v101_116 < v121 → (B3 (v121 + (1 : Int32)).toNatClampNeg).toInt ≤ ((B3 v101_116.toNatClampNeg) + v125).toInt)) : ¬ v101_116 < 0 ∧ v101_116 < (4 : Int32) := by
  have g := I3.1
  exact own_in HFR.1.1 (by show _ < (4 : Int); omega)
set_option maxRecDepth 65536 in
theorem own_pl0_34 {xa : Int32} {xb : Int32} {xc : Int32} {xd : Int32} {xe : Int32} {B3 : Nat → Int32} {C3 : Nat → Int32} {v1 : Int32} {v21 : Int32} {v36 : Int32} {v51 : Int32} {v66 : Int32} {v71 : Int32} {v112 : Int32} {v101_116 : Int32} {v121 : Int32} {v125 : Int32} (hv1 : v1 = ((1 : Int32) + (xa &&& (3 : Int32)))) (hv21 : v21 = (own_zero ((v1 + (1 : Int32)) - (1 : Int32)).toNatClampNeg)) (hv36 : v36 = (own_pl xb v1)) (hv51 : v51 = (own_pl xc v1)) (hv66 : v66 = (own_pl xd v1)) (hv71 : v71 = (B3 ((v1 + (1 : Int32)) - (1 : Int32)).toNatClampNeg)) (hv112 : v112 = ((xe &&& (2147483647 : Int32)) % v1)) (hv101_116 : v101_116 = (if (C3 v112.toNatClampNeg) = (0 : Int32) then v36 else v112)) (hv121 : v121 = (((v101_116 + (1 : Int32)) + ((((xe.toUInt32 >>> ((8 : Int32) &&& 31).toUInt32).toInt32) &&& (2147483647 : Int32)) % (v1 - (1 : Int32)))) % v1)) (hv125 : v125 = ((((xe.toUInt32 >>> ((16 : Int32) &&& 31).toUInt32).toInt32) &&& (7 : Int32)) % (C3 v101_116.toNatClampNeg))) (hc76_72 : ¬ (v1 < (2 : Int32))) (cd20_14 : (52 : Int32) = (52 : Int32)) (cd20_15 : 1 ≤ v1.toInt ∧ v1.toInt ≤ 4) (cd27_20 : (0 : Int32) < (v1 + (1 : Int32))) (cd39_23 : (v1 + (1 : Int32)) = (v1 + (1 : Int32))) (cd39_24 : (0 : Int) ≤ 2) (cd51_38 : (v1 + (1 : Int32)) = (v1 + (1 : Int32))) (cd51_39 : ((0 : Int) + 1) ≤ 2) (cd62_53 : (v1 + (1 : Int32)) = (v1 + (1 : Int32))) (cd62_54 : (((0 : Int) + 1) + 1) ≤ 2) (I3 : own_Inv v1 B3 C3 (3 : Int)) (hF : 1 ≤ (C3 v36.toNatClampNeg).toInt) (cd68_70 : (0 : Int32) < (v1 + (1 : Int32))) (nz86_111 : v1 ≠ (0 : Int32)) (in93_114 : ¬ v112 < 0 ∧ v112 < (4 : Int32)) (HFR : (0 ≤ v101_116.toInt ∧ v101_116.toInt < v1.toInt) ∧ 1 ≤ (C3 v101_116.toNatClampNeg).toInt) (nz117_119 : (v1 - (1 : Int32)) ≠ (0 : Int32)) (nz121_120 : v1 ≠ (0 : Int32)) (HTO : (0 ≤ v121.toInt ∧ v121.toInt < v1.toInt) ∧ v101_116.toInt ≠ v121.toInt) (in136_123 : ¬ v101_116 < 0 ∧ v101_116 < (4 : Int32)) (nz137_124 : (C3 v101_116.toNatClampNeg) ≠ (0 : Int32)) (cd148_127 : (0 : Int32) < (v1 + (1 : Int32))) (cd148_128 : ¬ v101_116 < 0 ∧ v101_116 < v1) (cd148_129 : ¬ v101_116 < 0 ∧ v101_116 < (v1 + (1 : Int32))) (cd148_130 : ¬ v121 < 0 ∧ v121 < v1) (cd148_131 : ¬ (v121 + (1 : Int32)) < 0 ∧ (v121 + (1 : Int32)) < (v1 + (1 : Int32))) (cd148_132 : 0 ≤ ((B3 v101_116.toNatClampNeg) + v125).toInt ∧ ((B3 v101_116.toNatClampNeg) + v125).toInt ≤ 3 ∧ 0 ≤ (B3 (v121 + (1 : Int32)).toNatClampNeg).toInt ∧ (B3 (v121 + (1 : Int32)).toNatClampNeg).toInt ≤ 3 ∧ (v101_116 < v121 → ((B3 v101_116.toNatClampNeg) + v125).toInt + 1 ≤ (B3 (v121 + (1 : Int32)).toNatClampNeg).toInt) ∧ (¬ v101_116 < v121 → (B3 (v121 + (1 : Int32)).toNatClampNeg).toInt ≤ ((B3 v101_116.toNatClampNeg) + v125).toInt)) (in159_145 : ¬ v101_116 < 0 ∧ v101_116 < (4 : Int32)) : ¬ v101_116 < 0 ∧ v101_116 < (4 : Int32) := by
  have g := I3.1
  exact own_in HFR.1.1 (by show _ < (4 : Int); omega)
set_option maxRecDepth 65536 in
theorem own_pl0_35 {xa : Int32} {xb : Int32} {xc : Int32} {xd : Int32} {xe : Int32} {B3 : Nat → Int32} {C3 : Nat → Int32} {v1 : Int32} {v21 : Int32} {v36 : Int32} {v51 : Int32} {v66 : Int32} {v71 : Int32} {v112 : Int32} {v101_116 : Int32} {v121 : Int32} {v125 : Int32} (hv1 : v1 = ((1 : Int32) + (xa &&& (3 : Int32)))) (hv21 : v21 = (own_zero ((v1 + (1 : Int32)) - (1 : Int32)).toNatClampNeg)) (hv36 : v36 = (own_pl xb v1)) (hv51 : v51 = (own_pl xc v1)) (hv66 : v66 = (own_pl xd v1)) (hv71 : v71 = (B3 ((v1 + (1 : Int32)) - (1 : Int32)).toNatClampNeg)) (hv112 : v112 = ((xe &&& (2147483647 : Int32)) % v1)) (hv101_116 : v101_116 = (if (C3 v112.toNatClampNeg) = (0 : Int32) then v36 else v112)) (hv121 : v121 = (((v101_116 + (1 : Int32)) + ((((xe.toUInt32 >>> ((8 : Int32) &&& 31).toUInt32).toInt32) &&& (2147483647 : Int32)) % (v1 - (1 : Int32)))) % v1)) (hv125 : v125 = ((((xe.toUInt32 >>> ((16 : Int32) &&& 31).toUInt32).toInt32) &&& (7 : Int32)) % (C3 v101_116.toNatClampNeg))) (hc76_72 : ¬ (v1 < (2 : Int32))) (cd20_14 : (52 : Int32) = (52 : Int32)) (cd20_15 : 1 ≤ v1.toInt ∧ v1.toInt ≤ 4) (cd27_20 : (0 : Int32) < (v1 + (1 : Int32))) (cd39_23 : (v1 + (1 : Int32)) = (v1 + (1 : Int32))) (cd39_24 : (0 : Int) ≤ 2) (cd51_38 : (v1 + (1 : Int32)) = (v1 + (1 : Int32))) (cd51_39 : ((0 : Int) + 1) ≤ 2) (cd62_53 : (v1 + (1 : Int32)) = (v1 + (1 : Int32))) (cd62_54 : (((0 : Int) + 1) + 1) ≤ 2) (I3 : own_Inv v1 B3 C3 (3 : Int)) (hF : 1 ≤ (C3 v36.toNatClampNeg).toInt) (cd68_70 : (0 : Int32) < (v1 + (1 : Int32))) (nz86_111 : v1 ≠ (0 : Int32)) (in93_114 : ¬ v112 < 0 ∧ v112 < (4 : Int32)) (HFR : (0 ≤ v101_116.toInt ∧ v101_116.toInt < v1.toInt) ∧ 1 ≤ (C3 v101_116.toNatClampNeg).toInt) (nz117_119 : (v1 - (1 : Int32)) ≠ (0 : Int32)) (nz121_120 : v1 ≠ (0 : Int32)) (HTO : (0 ≤ v121.toInt ∧ v121.toInt < v1.toInt) ∧ v101_116.toInt ≠ v121.toInt) (in136_123 : ¬ v101_116 < 0 ∧ v101_116 < (4 : Int32)) (nz137_124 : (C3 v101_116.toNatClampNeg) ≠ (0 : Int32)) (cd148_127 : (0 : Int32) < (v1 + (1 : Int32))) (cd148_128 : ¬ v101_116 < 0 ∧ v101_116 < v1) (cd148_129 : ¬ v101_116 < 0 ∧ v101_116 < (v1 + (1 : Int32))) (cd148_130 : ¬ v121 < 0 ∧ v121 < v1) (cd148_131 : ¬ (v121 + (1 : Int32)) < 0 ∧ (v121 + (1 : Int32)) < (v1 + (1 : Int32))) (cd148_132 : 0 ≤ ((B3 v101_116.toNatClampNeg) + v125).toInt ∧ ((B3 v101_116.toNatClampNeg) + v125).toInt ≤ 3 ∧ 0 ≤ (B3 (v121 + (1 : Int32)).toNatClampNeg).toInt ∧ (B3 (v121 + (1 : Int32)).toNatClampNeg).toInt ≤ 3 ∧ (v101_116 < v121 → ((B3 v101_116.toNatClampNeg) + v125).toInt + 1 ≤ (B3 (v121 + (1 : Int32)).toNatClampNeg).toInt) ∧ (¬ v101_116 < v121 → (B3 (v121 + (1 : Int32)).toNatClampNeg).toInt ≤ ((B3 v101_116.toNatClampNeg) + v125).toInt)) (in159_145 : ¬ v101_116 < 0 ∧ v101_116 < (4 : Int32)) (in162_147 : ¬ v101_116 < 0 ∧ v101_116 < (4 : Int32)) : ¬ v121 < 0 ∧ v121 < (4 : Int32) := by
  have g := I3.1
  exact own_in HTO.1.1 (by show _ < (4 : Int); omega)
set_option maxRecDepth 65536 in
theorem own_pl0_36 {xa : Int32} {xb : Int32} {xc : Int32} {xd : Int32} {xe : Int32} {B3 : Nat → Int32} {C3 : Nat → Int32} {v1 : Int32} {v21 : Int32} {v36 : Int32} {v51 : Int32} {v66 : Int32} {v71 : Int32} {v112 : Int32} {v101_116 : Int32} {v121 : Int32} {v125 : Int32} (hv1 : v1 = ((1 : Int32) + (xa &&& (3 : Int32)))) (hv21 : v21 = (own_zero ((v1 + (1 : Int32)) - (1 : Int32)).toNatClampNeg)) (hv36 : v36 = (own_pl xb v1)) (hv51 : v51 = (own_pl xc v1)) (hv66 : v66 = (own_pl xd v1)) (hv71 : v71 = (B3 ((v1 + (1 : Int32)) - (1 : Int32)).toNatClampNeg)) (hv112 : v112 = ((xe &&& (2147483647 : Int32)) % v1)) (hv101_116 : v101_116 = (if (C3 v112.toNatClampNeg) = (0 : Int32) then v36 else v112)) (hv121 : v121 = (((v101_116 + (1 : Int32)) + ((((xe.toUInt32 >>> ((8 : Int32) &&& 31).toUInt32).toInt32) &&& (2147483647 : Int32)) % (v1 - (1 : Int32)))) % v1)) (hv125 : v125 = ((((xe.toUInt32 >>> ((16 : Int32) &&& 31).toUInt32).toInt32) &&& (7 : Int32)) % (C3 v101_116.toNatClampNeg))) (hc76_72 : ¬ (v1 < (2 : Int32))) (cd20_14 : (52 : Int32) = (52 : Int32)) (cd20_15 : 1 ≤ v1.toInt ∧ v1.toInt ≤ 4) (cd27_20 : (0 : Int32) < (v1 + (1 : Int32))) (cd39_23 : (v1 + (1 : Int32)) = (v1 + (1 : Int32))) (cd39_24 : (0 : Int) ≤ 2) (cd51_38 : (v1 + (1 : Int32)) = (v1 + (1 : Int32))) (cd51_39 : ((0 : Int) + 1) ≤ 2) (cd62_53 : (v1 + (1 : Int32)) = (v1 + (1 : Int32))) (cd62_54 : (((0 : Int) + 1) + 1) ≤ 2) (I3 : own_Inv v1 B3 C3 (3 : Int)) (hF : 1 ≤ (C3 v36.toNatClampNeg).toInt) (cd68_70 : (0 : Int32) < (v1 + (1 : Int32))) (nz86_111 : v1 ≠ (0 : Int32)) (in93_114 : ¬ v112 < 0 ∧ v112 < (4 : Int32)) (HFR : (0 ≤ v101_116.toInt ∧ v101_116.toInt < v1.toInt) ∧ 1 ≤ (C3 v101_116.toNatClampNeg).toInt) (nz117_119 : (v1 - (1 : Int32)) ≠ (0 : Int32)) (nz121_120 : v1 ≠ (0 : Int32)) (HTO : (0 ≤ v121.toInt ∧ v121.toInt < v1.toInt) ∧ v101_116.toInt ≠ v121.toInt) (in136_123 : ¬ v101_116 < 0 ∧ v101_116 < (4 : Int32)) (nz137_124 : (C3 v101_116.toNatClampNeg) ≠ (0 : Int32)) (cd148_127 : (0 : Int32) < (v1 + (1 : Int32))) (cd148_128 : ¬ v101_116 < 0 ∧ v101_116 < v1) (cd148_129 : ¬ v101_116 < 0 ∧ v101_116 < (v1 + (1 : Int32))) (cd148_130 : ¬ v121 < 0 ∧ v121 < v1) (cd148_131 : ¬ (v121 + (1 : Int32)) < 0 ∧ (v121 + (1 : Int32)) < (v1 + (1 : Int32))) (cd148_132 : 0 ≤ ((B3 v101_116.toNatClampNeg) + v125).toInt ∧ ((B3 v101_116.toNatClampNeg) + v125).toInt ≤ 3 ∧ 0 ≤ (B3 (v121 + (1 : Int32)).toNatClampNeg).toInt ∧ (B3 (v121 + (1 : Int32)).toNatClampNeg).toInt ≤ 3 ∧ (v101_116 < v121 → ((B3 v101_116.toNatClampNeg) + v125).toInt + 1 ≤ (B3 (v121 + (1 : Int32)).toNatClampNeg).toInt) ∧ (¬ v101_116 < v121 → (B3 (v121 + (1 : Int32)).toNatClampNeg).toInt ≤ ((B3 v101_116.toNatClampNeg) + v125).toInt)) (in159_145 : ¬ v101_116 < 0 ∧ v101_116 < (4 : Int32)) (in162_147 : ¬ v101_116 < 0 ∧ v101_116 < (4 : Int32)) (in171_164 : ¬ v121 < 0 ∧ v121 < (4 : Int32)) : ¬ v121 < 0 ∧ v121 < (4 : Int32) := by
  have g := I3.1
  exact own_in HTO.1.1 (by show _ < (4 : Int); omega)
set_option maxRecDepth 65536 in
theorem own_pl0_37 {xa : Int32} {xb : Int32} {xc : Int32} {xd : Int32} {xe : Int32} {B3 : Nat → Int32} {C3 : Nat → Int32} {v1 : Int32} {v21 : Int32} {v36 : Int32} {v51 : Int32} {v66 : Int32} {v71 : Int32} {v112 : Int32} {v101_116 : Int32} {v121 : Int32} {v125 : Int32} (hv1 : v1 = ((1 : Int32) + (xa &&& (3 : Int32)))) (hv21 : v21 = (own_zero ((v1 + (1 : Int32)) - (1 : Int32)).toNatClampNeg)) (hv36 : v36 = (own_pl xb v1)) (hv51 : v51 = (own_pl xc v1)) (hv66 : v66 = (own_pl xd v1)) (hv71 : v71 = (B3 ((v1 + (1 : Int32)) - (1 : Int32)).toNatClampNeg)) (hv112 : v112 = ((xe &&& (2147483647 : Int32)) % v1)) (hv101_116 : v101_116 = (if (C3 v112.toNatClampNeg) = (0 : Int32) then v36 else v112)) (hv121 : v121 = (((v101_116 + (1 : Int32)) + ((((xe.toUInt32 >>> ((8 : Int32) &&& 31).toUInt32).toInt32) &&& (2147483647 : Int32)) % (v1 - (1 : Int32)))) % v1)) (hv125 : v125 = ((((xe.toUInt32 >>> ((16 : Int32) &&& 31).toUInt32).toInt32) &&& (7 : Int32)) % (C3 v101_116.toNatClampNeg))) (hc76_72 : ¬ (v1 < (2 : Int32))) (cd20_14 : (52 : Int32) = (52 : Int32)) (cd20_15 : 1 ≤ v1.toInt ∧ v1.toInt ≤ 4) (cd27_20 : (0 : Int32) < (v1 + (1 : Int32))) (cd39_23 : (v1 + (1 : Int32)) = (v1 + (1 : Int32))) (cd39_24 : (0 : Int) ≤ 2) (cd51_38 : (v1 + (1 : Int32)) = (v1 + (1 : Int32))) (cd51_39 : ((0 : Int) + 1) ≤ 2) (cd62_53 : (v1 + (1 : Int32)) = (v1 + (1 : Int32))) (cd62_54 : (((0 : Int) + 1) + 1) ≤ 2) (I3 : own_Inv v1 B3 C3 (3 : Int)) (hF : 1 ≤ (C3 v36.toNatClampNeg).toInt) (cd68_70 : (0 : Int32) < (v1 + (1 : Int32))) (nz86_111 : v1 ≠ (0 : Int32)) (in93_114 : ¬ v112 < 0 ∧ v112 < (4 : Int32)) (HFR : (0 ≤ v101_116.toInt ∧ v101_116.toInt < v1.toInt) ∧ 1 ≤ (C3 v101_116.toNatClampNeg).toInt) (nz117_119 : (v1 - (1 : Int32)) ≠ (0 : Int32)) (nz121_120 : v1 ≠ (0 : Int32)) (HTO : (0 ≤ v121.toInt ∧ v121.toInt < v1.toInt) ∧ v101_116.toInt ≠ v121.toInt) (in136_123 : ¬ v101_116 < 0 ∧ v101_116 < (4 : Int32)) (nz137_124 : (C3 v101_116.toNatClampNeg) ≠ (0 : Int32)) (cd148_127 : (0 : Int32) < (v1 + (1 : Int32))) (cd148_128 : ¬ v101_116 < 0 ∧ v101_116 < v1) (cd148_129 : ¬ v101_116 < 0 ∧ v101_116 < (v1 + (1 : Int32))) (cd148_130 : ¬ v121 < 0 ∧ v121 < v1) (cd148_131 : ¬ (v121 + (1 : Int32)) < 0 ∧ (v121 + (1 : Int32)) < (v1 + (1 : Int32))) (cd148_132 : 0 ≤ ((B3 v101_116.toNatClampNeg) + v125).toInt ∧ ((B3 v101_116.toNatClampNeg) + v125).toInt ≤ 3 ∧ 0 ≤ (B3 (v121 + (1 : Int32)).toNatClampNeg).toInt ∧ (B3 (v121 + (1 : Int32)).toNatClampNeg).toInt ≤ 3 ∧ (v101_116 < v121 → ((B3 v101_116.toNatClampNeg) + v125).toInt + 1 ≤ (B3 (v121 + (1 : Int32)).toNatClampNeg).toInt) ∧ (¬ v101_116 < v121 → (B3 (v121 + (1 : Int32)).toNatClampNeg).toInt ≤ ((B3 v101_116.toNatClampNeg) + v125).toInt)) (in159_145 : ¬ v101_116 < 0 ∧ v101_116 < (4 : Int32)) (in162_147 : ¬ v101_116 < 0 ∧ v101_116 < (4 : Int32)) (in171_164 : ¬ v121 < 0 ∧ v121 < (4 : Int32)) (in174_166 : ¬ v121 < 0 ∧ v121 < (4 : Int32)) : own_Inv v1 (own_tr B3 v101_116 v121) (own_up (own_up C3 v101_116.toNatClampNeg ((C3 v101_116.toNatClampNeg) - (1 : Int32))) v121.toNatClampNeg (((own_up C3 v101_116.toNatClampNeg ((C3 v101_116.toNatClampNeg) - (1 : Int32))) v121.toNatClampNeg) + (1 : Int32))) (3 : Int) := by
  exact own_Inv.tr I3 HFR.1 HTO.1 HTO.2 HFR.2
set_option maxRecDepth 65536 in
theorem own_pl0_38 {xa : Int32} {xb : Int32} {xc : Int32} {xd : Int32} {xe : Int32} {B3 : Nat → Int32} {C3 : Nat → Int32} {BX : Nat → Int32} {CX : Nat → Int32} {v1 : Int32} {v21 : Int32} {v36 : Int32} {v51 : Int32} {v66 : Int32} {v71 : Int32} {v112 : Int32} {v101_116 : Int32} {v121 : Int32} {v125 : Int32} (hv1 : v1 = ((1 : Int32) + (xa &&& (3 : Int32)))) (hv21 : v21 = (own_zero ((v1 + (1 : Int32)) - (1 : Int32)).toNatClampNeg)) (hv36 : v36 = (own_pl xb v1)) (hv51 : v51 = (own_pl xc v1)) (hv66 : v66 = (own_pl xd v1)) (hv71 : v71 = (B3 ((v1 + (1 : Int32)) - (1 : Int32)).toNatClampNeg)) (hv112 : v112 = ((xe &&& (2147483647 : Int32)) % v1)) (hv101_116 : v101_116 = (if (C3 v112.toNatClampNeg) = (0 : Int32) then v36 else v112)) (hv121 : v121 = (((v101_116 + (1 : Int32)) + ((((xe.toUInt32 >>> ((8 : Int32) &&& 31).toUInt32).toInt32) &&& (2147483647 : Int32)) % (v1 - (1 : Int32)))) % v1)) (hv125 : v125 = ((((xe.toUInt32 >>> ((16 : Int32) &&& 31).toUInt32).toInt32) &&& (7 : Int32)) % (C3 v101_116.toNatClampNeg))) (hc76_72 : ¬ (v1 < (2 : Int32))) (cd20_14 : (52 : Int32) = (52 : Int32)) (cd20_15 : 1 ≤ v1.toInt ∧ v1.toInt ≤ 4) (cd27_20 : (0 : Int32) < (v1 + (1 : Int32))) (cd39_23 : (v1 + (1 : Int32)) = (v1 + (1 : Int32))) (cd39_24 : (0 : Int) ≤ 2) (cd51_38 : (v1 + (1 : Int32)) = (v1 + (1 : Int32))) (cd51_39 : ((0 : Int) + 1) ≤ 2) (cd62_53 : (v1 + (1 : Int32)) = (v1 + (1 : Int32))) (cd62_54 : (((0 : Int) + 1) + 1) ≤ 2) (I3 : own_Inv v1 B3 C3 (3 : Int)) (hF : 1 ≤ (C3 v36.toNatClampNeg).toInt) (cd68_70 : (0 : Int32) < (v1 + (1 : Int32))) (nz86_111 : v1 ≠ (0 : Int32)) (in93_114 : ¬ v112 < 0 ∧ v112 < (4 : Int32)) (HFR : (0 ≤ v101_116.toInt ∧ v101_116.toInt < v1.toInt) ∧ 1 ≤ (C3 v101_116.toNatClampNeg).toInt) (nz117_119 : (v1 - (1 : Int32)) ≠ (0 : Int32)) (nz121_120 : v1 ≠ (0 : Int32)) (HTO : (0 ≤ v121.toInt ∧ v121.toInt < v1.toInt) ∧ v101_116.toInt ≠ v121.toInt) (in136_123 : ¬ v101_116 < 0 ∧ v101_116 < (4 : Int32)) (nz137_124 : (C3 v101_116.toNatClampNeg) ≠ (0 : Int32)) (cd148_127 : (0 : Int32) < (v1 + (1 : Int32))) (cd148_128 : ¬ v101_116 < 0 ∧ v101_116 < v1) (cd148_129 : ¬ v101_116 < 0 ∧ v101_116 < (v1 + (1 : Int32))) (cd148_130 : ¬ v121 < 0 ∧ v121 < v1) (cd148_131 : ¬ (v121 + (1 : Int32)) < 0 ∧ (v121 + (1 : Int32)) < (v1 + (1 : Int32))) (cd148_132 : 0 ≤ ((B3 v101_116.toNatClampNeg) + v125).toInt ∧ ((B3 v101_116.toNatClampNeg) + v125).toInt ≤ 3 ∧ 0 ≤ (B3 (v121 + (1 : Int32)).toNatClampNeg).toInt ∧ (B3 (v121 + (1 : Int32)).toNatClampNeg).toInt ≤ 3 ∧ (v101_116 < v121 → ((B3 v101_116.toNatClampNeg) + v125).toInt + 1 ≤ (B3 (v121 + (1 : Int32)).toNatClampNeg).toInt) ∧ (¬ v101_116 < v121 → (B3 (v121 + (1 : Int32)).toNatClampNeg).toInt ≤ ((B3 v101_116.toNatClampNeg) + v125).toInt)) (in159_145 : ¬ v101_116 < 0 ∧ v101_116 < (4 : Int32)) (in162_147 : ¬ v101_116 < 0 ∧ v101_116 < (4 : Int32)) (in171_164 : ¬ v121 < 0 ∧ v121 < (4 : Int32)) (in174_166 : ¬ v121 < 0 ∧ v121 < (4 : Int32)) (IX : own_Inv v1 BX CX (3 : Int)) : (0 : Int32) < (v1 + (1 : Int32)) := by
  have hn := own_n hv1
  have hn1 := own_n1 hn.2 hn.1
  rw [own_lt, own_z]; omega
set_option maxRecDepth 65536 in
theorem own_pl0_39 {xa : Int32} {xb : Int32} {xc : Int32} {xd : Int32} {xe : Int32} {B3 : Nat → Int32} {C3 : Nat → Int32} {BX : Nat → Int32} {CX : Nat → Int32} {v1 : Int32} {v21 : Int32} {v36 : Int32} {v51 : Int32} {v66 : Int32} {v71 : Int32} {v112 : Int32} {v101_116 : Int32} {v121 : Int32} {v125 : Int32} {v186 : Int32} (hv1 : v1 = ((1 : Int32) + (xa &&& (3 : Int32)))) (hv21 : v21 = (own_zero ((v1 + (1 : Int32)) - (1 : Int32)).toNatClampNeg)) (hv36 : v36 = (own_pl xb v1)) (hv51 : v51 = (own_pl xc v1)) (hv66 : v66 = (own_pl xd v1)) (hv71 : v71 = (B3 ((v1 + (1 : Int32)) - (1 : Int32)).toNatClampNeg)) (hv112 : v112 = ((xe &&& (2147483647 : Int32)) % v1)) (hv101_116 : v101_116 = (if (C3 v112.toNatClampNeg) = (0 : Int32) then v36 else v112)) (hv121 : v121 = (((v101_116 + (1 : Int32)) + ((((xe.toUInt32 >>> ((8 : Int32) &&& 31).toUInt32).toInt32) &&& (2147483647 : Int32)) % (v1 - (1 : Int32)))) % v1)) (hv125 : v125 = ((((xe.toUInt32 >>> ((16 : Int32) &&& 31).toUInt32).toInt32) &&& (7 : Int32)) % (C3 v101_116.toNatClampNeg))) (hv186 : v186 = (BX ((v1 + (1 : Int32)) - (1 : Int32)).toNatClampNeg)) (hc76_72 : ¬ (v1 < (2 : Int32))) (cd20_14 : (52 : Int32) = (52 : Int32)) (cd20_15 : 1 ≤ v1.toInt ∧ v1.toInt ≤ 4) (cd27_20 : (0 : Int32) < (v1 + (1 : Int32))) (cd39_23 : (v1 + (1 : Int32)) = (v1 + (1 : Int32))) (cd39_24 : (0 : Int) ≤ 2) (cd51_38 : (v1 + (1 : Int32)) = (v1 + (1 : Int32))) (cd51_39 : ((0 : Int) + 1) ≤ 2) (cd62_53 : (v1 + (1 : Int32)) = (v1 + (1 : Int32))) (cd62_54 : (((0 : Int) + 1) + 1) ≤ 2) (I3 : own_Inv v1 B3 C3 (3 : Int)) (hF : 1 ≤ (C3 v36.toNatClampNeg).toInt) (cd68_70 : (0 : Int32) < (v1 + (1 : Int32))) (nz86_111 : v1 ≠ (0 : Int32)) (in93_114 : ¬ v112 < 0 ∧ v112 < (4 : Int32)) (HFR : (0 ≤ v101_116.toInt ∧ v101_116.toInt < v1.toInt) ∧ 1 ≤ (C3 v101_116.toNatClampNeg).toInt) (nz117_119 : (v1 - (1 : Int32)) ≠ (0 : Int32)) (nz121_120 : v1 ≠ (0 : Int32)) (HTO : (0 ≤ v121.toInt ∧ v121.toInt < v1.toInt) ∧ v101_116.toInt ≠ v121.toInt) (in136_123 : ¬ v101_116 < 0 ∧ v101_116 < (4 : Int32)) (nz137_124 : (C3 v101_116.toNatClampNeg) ≠ (0 : Int32)) (cd148_127 : (0 : Int32) < (v1 + (1 : Int32))) (cd148_128 : ¬ v101_116 < 0 ∧ v101_116 < v1) (cd148_129 : ¬ v101_116 < 0 ∧ v101_116 < (v1 + (1 : Int32))) (cd148_130 : ¬ v121 < 0 ∧ v121 < v1) (cd148_131 : ¬ (v121 + (1 : Int32)) < 0 ∧ (v121 + (1 : Int32)) < (v1 + (1 : Int32))) (cd148_132 : 0 ≤ ((B3 v101_116.toNatClampNeg) + v125).toInt ∧ ((B3 v101_116.toNatClampNeg) + v125).toInt ≤ 3 ∧ 0 ≤ (B3 (v121 + (1 : Int32)).toNatClampNeg).toInt ∧ (B3 (v121 + (1 : Int32)).toNatClampNeg).toInt ≤ 3 ∧ (v101_116 < v121 → ((B3 v101_116.toNatClampNeg) + v125).toInt + 1 ≤ (B3 (v121 + (1 : Int32)).toNatClampNeg).toInt) ∧ (¬ v101_116 < v121 → (B3 (v121 + (1 : Int32)).toNatClampNeg).toInt ≤ ((B3 v101_116.toNatClampNeg) + v125).toInt)) (in159_145 : ¬ v101_116 < 0 ∧ v101_116 < (4 : Int32)) (in162_147 : ¬ v101_116 < 0 ∧ v101_116 < (4 : Int32)) (in171_164 : ¬ v121 < 0 ∧ v121 < (4 : Int32)) (in174_166 : ¬ v121 < 0 ∧ v121 < (4 : Int32)) (IX : own_Inv v1 BX CX (3 : Int)) (cd177_185 : (0 : Int32) < (v1 + (1 : Int32))) : v1 ≠ (0 : Int32) := by
  exact own_ne0 IX.1.1
set_option maxRecDepth 65536 in
theorem own_pl0_40 {xa : Int32} {xb : Int32} {xc : Int32} {xd : Int32} {xe : Int32} {xf : Int32} {B3 : Nat → Int32} {C3 : Nat → Int32} {BX : Nat → Int32} {CX : Nat → Int32} {v1 : Int32} {v21 : Int32} {v36 : Int32} {v51 : Int32} {v66 : Int32} {v71 : Int32} {v112 : Int32} {v101_116 : Int32} {v121 : Int32} {v125 : Int32} {v186 : Int32} {v188 : Int32} (hv1 : v1 = ((1 : Int32) + (xa &&& (3 : Int32)))) (hv21 : v21 = (own_zero ((v1 + (1 : Int32)) - (1 : Int32)).toNatClampNeg)) (hv36 : v36 = (own_pl xb v1)) (hv51 : v51 = (own_pl xc v1)) (hv66 : v66 = (own_pl xd v1)) (hv71 : v71 = (B3 ((v1 + (1 : Int32)) - (1 : Int32)).toNatClampNeg)) (hv112 : v112 = ((xe &&& (2147483647 : Int32)) % v1)) (hv101_116 : v101_116 = (if (C3 v112.toNatClampNeg) = (0 : Int32) then v36 else v112)) (hv121 : v121 = (((v101_116 + (1 : Int32)) + ((((xe.toUInt32 >>> ((8 : Int32) &&& 31).toUInt32).toInt32) &&& (2147483647 : Int32)) % (v1 - (1 : Int32)))) % v1)) (hv125 : v125 = ((((xe.toUInt32 >>> ((16 : Int32) &&& 31).toUInt32).toInt32) &&& (7 : Int32)) % (C3 v101_116.toNatClampNeg))) (hv186 : v186 = (BX ((v1 + (1 : Int32)) - (1 : Int32)).toNatClampNeg)) (hv188 : v188 = ((xf &&& (2147483647 : Int32)) % v1)) (hc76_72 : ¬ (v1 < (2 : Int32))) (cd20_14 : (52 : Int32) = (52 : Int32)) (cd20_15 : 1 ≤ v1.toInt ∧ v1.toInt ≤ 4) (cd27_20 : (0 : Int32) < (v1 + (1 : Int32))) (cd39_23 : (v1 + (1 : Int32)) = (v1 + (1 : Int32))) (cd39_24 : (0 : Int) ≤ 2) (cd51_38 : (v1 + (1 : Int32)) = (v1 + (1 : Int32))) (cd51_39 : ((0 : Int) + 1) ≤ 2) (cd62_53 : (v1 + (1 : Int32)) = (v1 + (1 : Int32))) (cd62_54 : (((0 : Int) + 1) + 1) ≤ 2) (I3 : own_Inv v1 B3 C3 (3 : Int)) (hF : 1 ≤ (C3 v36.toNatClampNeg).toInt) (cd68_70 : (0 : Int32) < (v1 + (1 : Int32))) (nz86_111 : v1 ≠ (0 : Int32)) (in93_114 : ¬ v112 < 0 ∧ v112 < (4 : Int32)) (HFR : (0 ≤ v101_116.toInt ∧ v101_116.toInt < v1.toInt) ∧ 1 ≤ (C3 v101_116.toNatClampNeg).toInt) (nz117_119 : (v1 - (1 : Int32)) ≠ (0 : Int32)) (nz121_120 : v1 ≠ (0 : Int32)) (HTO : (0 ≤ v121.toInt ∧ v121.toInt < v1.toInt) ∧ v101_116.toInt ≠ v121.toInt) (in136_123 : ¬ v101_116 < 0 ∧ v101_116 < (4 : Int32)) (nz137_124 : (C3 v101_116.toNatClampNeg) ≠ (0 : Int32)) (cd148_127 : (0 : Int32) < (v1 + (1 : Int32))) (cd148_128 : ¬ v101_116 < 0 ∧ v101_116 < v1) (cd148_129 : ¬ v101_116 < 0 ∧ v101_116 < (v1 + (1 : Int32))) (cd148_130 : ¬ v121 < 0 ∧ v121 < v1) (cd148_131 : ¬ (v121 + (1 : Int32)) < 0 ∧ (v121 + (1 : Int32)) < (v1 + (1 : Int32))) (cd148_132 : 0 ≤ ((B3 v101_116.toNatClampNeg) + v125).toInt ∧ ((B3 v101_116.toNatClampNeg) + v125).toInt ≤ 3 ∧ 0 ≤ (B3 (v121 + (1 : Int32)).toNatClampNeg).toInt ∧ (B3 (v121 + (1 : Int32)).toNatClampNeg).toInt ≤ 3 ∧ (v101_116 < v121 → ((B3 v101_116.toNatClampNeg) + v125).toInt + 1 ≤ (B3 (v121 + (1 : Int32)).toNatClampNeg).toInt) ∧ (¬ v101_116 < v121 → (B3 (v121 + (1 : Int32)).toNatClampNeg).toInt ≤ ((B3 v101_116.toNatClampNeg) + v125).toInt)) (in159_145 : ¬ v101_116 < 0 ∧ v101_116 < (4 : Int32)) (in162_147 : ¬ v101_116 < 0 ∧ v101_116 < (4 : Int32)) (in171_164 : ¬ v121 < 0 ∧ v121 < (4 : Int32)) (in174_166 : ¬ v121 < 0 ∧ v121 < (4 : Int32)) (IX : own_Inv v1 BX CX (3 : Int)) (cd177_185 : (0 : Int32) < (v1 + (1 : Int32))) (nz189_187 : v1 ≠ (0 : Int32)) : ¬ v188 < 0 ∧ v188 < (4 : Int32) := by
  have hq := own_pl_in (n := v1) xf IX.1.1
  rw [show own_pl xf v1 = v188 from hv188.symm] at hq
  have g := IX.1
  exact own_in hq.1 (by show _ < (4 : Int); omega)
set_option maxRecDepth 65536 in
theorem own_pl0_41 {xa : Int32} {xb : Int32} {xc : Int32} {xd : Int32} {xe : Int32} {xf : Int32} {B3 : Nat → Int32} {C3 : Nat → Int32} {BX : Nat → Int32} {CX : Nat → Int32} {v1 : Int32} {v21 : Int32} {v36 : Int32} {v51 : Int32} {v66 : Int32} {v71 : Int32} {v112 : Int32} {v101_116 : Int32} {v121 : Int32} {v125 : Int32} {v186 : Int32} {v188 : Int32} {v191 : Int32} (hv1 : v1 = ((1 : Int32) + (xa &&& (3 : Int32)))) (hv21 : v21 = (own_zero ((v1 + (1 : Int32)) - (1 : Int32)).toNatClampNeg)) (hv36 : v36 = (own_pl xb v1)) (hv51 : v51 = (own_pl xc v1)) (hv66 : v66 = (own_pl xd v1)) (hv71 : v71 = (B3 ((v1 + (1 : Int32)) - (1 : Int32)).toNatClampNeg)) (hv112 : v112 = ((xe &&& (2147483647 : Int32)) % v1)) (hv101_116 : v101_116 = (if (C3 v112.toNatClampNeg) = (0 : Int32) then v36 else v112)) (hv121 : v121 = (((v101_116 + (1 : Int32)) + ((((xe.toUInt32 >>> ((8 : Int32) &&& 31).toUInt32).toInt32) &&& (2147483647 : Int32)) % (v1 - (1 : Int32)))) % v1)) (hv125 : v125 = ((((xe.toUInt32 >>> ((16 : Int32) &&& 31).toUInt32).toInt32) &&& (7 : Int32)) % (C3 v101_116.toNatClampNeg))) (hv186 : v186 = (BX ((v1 + (1 : Int32)) - (1 : Int32)).toNatClampNeg)) (hv188 : v188 = ((xf &&& (2147483647 : Int32)) % v1)) (hv191 : v191 = (CX v188.toNatClampNeg)) (hc76_72 : ¬ (v1 < (2 : Int32))) (cd20_14 : (52 : Int32) = (52 : Int32)) (cd20_15 : 1 ≤ v1.toInt ∧ v1.toInt ≤ 4) (cd27_20 : (0 : Int32) < (v1 + (1 : Int32))) (cd39_23 : (v1 + (1 : Int32)) = (v1 + (1 : Int32))) (cd39_24 : (0 : Int) ≤ 2) (cd51_38 : (v1 + (1 : Int32)) = (v1 + (1 : Int32))) (cd51_39 : ((0 : Int) + 1) ≤ 2) (cd62_53 : (v1 + (1 : Int32)) = (v1 + (1 : Int32))) (cd62_54 : (((0 : Int) + 1) + 1) ≤ 2) (I3 : own_Inv v1 B3 C3 (3 : Int)) (hF : 1 ≤ (C3 v36.toNatClampNeg).toInt) (cd68_70 : (0 : Int32) < (v1 + (1 : Int32))) (nz86_111 : v1 ≠ (0 : Int32)) (in93_114 : ¬ v112 < 0 ∧ v112 < (4 : Int32)) (HFR : (0 ≤ v101_116.toInt ∧ v101_116.toInt < v1.toInt) ∧ 1 ≤ (C3 v101_116.toNatClampNeg).toInt) (nz117_119 : (v1 - (1 : Int32)) ≠ (0 : Int32)) (nz121_120 : v1 ≠ (0 : Int32)) (HTO : (0 ≤ v121.toInt ∧ v121.toInt < v1.toInt) ∧ v101_116.toInt ≠ v121.toInt) (in136_123 : ¬ v101_116 < 0 ∧ v101_116 < (4 : Int32)) (nz137_124 : (C3 v101_116.toNatClampNeg) ≠ (0 : Int32)) (cd148_127 : (0 : Int32) < (v1 + (1 : Int32))) (cd148_128 : ¬ v101_116 < 0 ∧ v101_116 < v1) (cd148_129 : ¬ v101_116 < 0 ∧ v101_116 < (v1 + (1 : Int32))) (cd148_130 : ¬ v121 < 0 ∧ v121 < v1) (cd148_131 : ¬ (v121 + (1 : Int32)) < 0 ∧ (v121 + (1 : Int32)) < (v1 + (1 : Int32))) (cd148_132 : 0 ≤ ((B3 v101_116.toNatClampNeg) + v125).toInt ∧ ((B3 v101_116.toNatClampNeg) + v125).toInt ≤ 3 ∧ 0 ≤ (B3 (v121 + (1 : Int32)).toNatClampNeg).toInt ∧ (B3 (v121 + (1 : Int32)).toNatClampNeg).toInt ≤ 3 ∧ (v101_116 < v121 → ((B3 v101_116.toNatClampNeg) + v125).toInt + 1 ≤ (B3 (v121 + (1 : Int32)).toNatClampNeg).toInt) ∧ (¬ v101_116 < v121 → (B3 (v121 + (1 : Int32)).toNatClampNeg).toInt ≤ ((B3 v101_116.toNatClampNeg) + v125).toInt)) (in159_145 : ¬ v101_116 < 0 ∧ v101_116 < (4 : Int32)) (in162_147 : ¬ v101_116 < 0 ∧ v101_116 < (4 : Int32)) (in171_164 : ¬ v121 < 0 ∧ v121 < (4 : Int32)) (in174_166 : ¬ v121 < 0 ∧ v121 < (4 : Int32)) (IX : own_Inv v1 BX CX (3 : Int)) (cd177_185 : (0 : Int32) < (v1 + (1 : Int32))) (nz189_187 : v1 ≠ (0 : Int32)) (in196_190 : ¬ v188 < 0 ∧ v188 < (4 : Int32)) : (v191 + (1 : Int32)) ≠ (0 : Int32) := by
  have hq := own_pl_in (n := v1) xf IX.1.1
  rw [show own_pl xf v1 = v188 from hv188.symm] at hq
  have g := IX.1
  have q := IX.up1 hq
  rw [← hv191] at q
  exact own_ne0 q
set_option maxRecDepth 65536 in
theorem own_pl0_42 {xa : Int32} {xb : Int32} {xc : Int32} {xd : Int32} {xe : Int32} {xf : Int32} {B3 : Nat → Int32} {C3 : Nat → Int32} {BX : Nat → Int32} {CX : Nat → Int32} {v1 : Int32} {v21 : Int32} {v36 : Int32} {v51 : Int32} {v66 : Int32} {v71 : Int32} {v112 : Int32} {v101_116 : Int32} {v121 : Int32} {v125 : Int32} {v186 : Int32} {v188 : Int32} {v191 : Int32} {v193 : Int32} (hv1 : v1 = ((1 : Int32) + (xa &&& (3 : Int32)))) (hv21 : v21 = (own_zero ((v1 + (1 : Int32)) - (1 : Int32)).toNatClampNeg)) (hv36 : v36 = (own_pl xb v1)) (hv51 : v51 = (own_pl xc v1)) (hv66 : v66 = (own_pl xd v1)) (hv71 : v71 = (B3 ((v1 + (1 : Int32)) - (1 : Int32)).toNatClampNeg)) (hv112 : v112 = ((xe &&& (2147483647 : Int32)) % v1)) (hv101_116 : v101_116 = (if (C3 v112.toNatClampNeg) = (0 : Int32) then v36 else v112)) (hv121 : v121 = (((v101_116 + (1 : Int32)) + ((((xe.toUInt32 >>> ((8 : Int32) &&& 31).toUInt32).toInt32) &&& (2147483647 : Int32)) % (v1 - (1 : Int32)))) % v1)) (hv125 : v125 = ((((xe.toUInt32 >>> ((16 : Int32) &&& 31).toUInt32).toInt32) &&& (7 : Int32)) % (C3 v101_116.toNatClampNeg))) (hv186 : v186 = (BX ((v1 + (1 : Int32)) - (1 : Int32)).toNatClampNeg)) (hv188 : v188 = ((xf &&& (2147483647 : Int32)) % v1)) (hv191 : v191 = (CX v188.toNatClampNeg)) (hv193 : v193 = ((((xf.toUInt32 >>> ((8 : Int32) &&& 31).toUInt32).toInt32) &&& (7 : Int32)) % (v191 + (1 : Int32)))) (hc76_72 : ¬ (v1 < (2 : Int32))) (cd20_14 : (52 : Int32) = (52 : Int32)) (cd20_15 : 1 ≤ v1.toInt ∧ v1.toInt ≤ 4) (cd27_20 : (0 : Int32) < (v1 + (1 : Int32))) (cd39_23 : (v1 + (1 : Int32)) = (v1 + (1 : Int32))) (cd39_24 : (0 : Int) ≤ 2) (cd51_38 : (v1 + (1 : Int32)) = (v1 + (1 : Int32))) (cd51_39 : ((0 : Int) + 1) ≤ 2) (cd62_53 : (v1 + (1 : Int32)) = (v1 + (1 : Int32))) (cd62_54 : (((0 : Int) + 1) + 1) ≤ 2) (I3 : own_Inv v1 B3 C3 (3 : Int)) (hF : 1 ≤ (C3 v36.toNatClampNeg).toInt) (cd68_70 : (0 : Int32) < (v1 + (1 : Int32))) (nz86_111 : v1 ≠ (0 : Int32)) (in93_114 : ¬ v112 < 0 ∧ v112 < (4 : Int32)) (HFR : (0 ≤ v101_116.toInt ∧ v101_116.toInt < v1.toInt) ∧ 1 ≤ (C3 v101_116.toNatClampNeg).toInt) (nz117_119 : (v1 - (1 : Int32)) ≠ (0 : Int32)) (nz121_120 : v1 ≠ (0 : Int32)) (HTO : (0 ≤ v121.toInt ∧ v121.toInt < v1.toInt) ∧ v101_116.toInt ≠ v121.toInt) (in136_123 : ¬ v101_116 < 0 ∧ v101_116 < (4 : Int32)) (nz137_124 : (C3 v101_116.toNatClampNeg) ≠ (0 : Int32)) (cd148_127 : (0 : Int32) < (v1 + (1 : Int32))) (cd148_128 : ¬ v101_116 < 0 ∧ v101_116 < v1) (cd148_129 : ¬ v101_116 < 0 ∧ v101_116 < (v1 + (1 : Int32))) (cd148_130 : ¬ v121 < 0 ∧ v121 < v1) (cd148_131 : ¬ (v121 + (1 : Int32)) < 0 ∧ (v121 + (1 : Int32)) < (v1 + (1 : Int32))) (cd148_132 : 0 ≤ ((B3 v101_116.toNatClampNeg) + v125).toInt ∧ ((B3 v101_116.toNatClampNeg) + v125).toInt ≤ 3 ∧ 0 ≤ (B3 (v121 + (1 : Int32)).toNatClampNeg).toInt ∧ (B3 (v121 + (1 : Int32)).toNatClampNeg).toInt ≤ 3 ∧ (v101_116 < v121 → ((B3 v101_116.toNatClampNeg) + v125).toInt + 1 ≤ (B3 (v121 + (1 : Int32)).toNatClampNeg).toInt) ∧ (¬ v101_116 < v121 → (B3 (v121 + (1 : Int32)).toNatClampNeg).toInt ≤ ((B3 v101_116.toNatClampNeg) + v125).toInt)) (in159_145 : ¬ v101_116 < 0 ∧ v101_116 < (4 : Int32)) (in162_147 : ¬ v101_116 < 0 ∧ v101_116 < (4 : Int32)) (in171_164 : ¬ v121 < 0 ∧ v121 < (4 : Int32)) (in174_166 : ¬ v121 < 0 ∧ v121 < (4 : Int32)) (IX : own_Inv v1 BX CX (3 : Int)) (cd177_185 : (0 : Int32) < (v1 + (1 : Int32))) (nz189_187 : v1 ≠ (0 : Int32)) (in196_190 : ¬ v188 < 0 ∧ v188 < (4 : Int32)) (nz211_192 : (v191 + (1 : Int32)) ≠ (0 : Int32)) : ((v191 - v193) + (1 : Int32)) ≠ (0 : Int32) := by
  have hq := own_pl_in (n := v1) xf IX.1.1
  rw [show own_pl xf v1 = v188 from hv188.symm] at hq
  have g := IX.1
  have hl15 := hv193
  rw [hv191] at hl15
  have q := (own_lohi IX hq (own_and7 _) (own_and7 (0 : Int32)) hl15 rfl).2.2.2
  rw [← hv191] at q
  exact own_ne0 q
set_option maxRecDepth 65536 in
theorem own_pl0_43 {xa : Int32} {xb : Int32} {xc : Int32} {xd : Int32} {xe : Int32} {xf : Int32} {B3 : Nat → Int32} {C3 : Nat → Int32} {BX : Nat → Int32} {CX : Nat → Int32} {v1 : Int32} {v21 : Int32} {v36 : Int32} {v51 : Int32} {v66 : Int32} {v71 : Int32} {v112 : Int32} {v101_116 : Int32} {v121 : Int32} {v125 : Int32} {v186 : Int32} {v188 : Int32} {v191 : Int32} {v193 : Int32} {v195 : Int32} (hv1 : v1 = ((1 : Int32) + (xa &&& (3 : Int32)))) (hv21 : v21 = (own_zero ((v1 + (1 : Int32)) - (1 : Int32)).toNatClampNeg)) (hv36 : v36 = (own_pl xb v1)) (hv51 : v51 = (own_pl xc v1)) (hv66 : v66 = (own_pl xd v1)) (hv71 : v71 = (B3 ((v1 + (1 : Int32)) - (1 : Int32)).toNatClampNeg)) (hv112 : v112 = ((xe &&& (2147483647 : Int32)) % v1)) (hv101_116 : v101_116 = (if (C3 v112.toNatClampNeg) = (0 : Int32) then v36 else v112)) (hv121 : v121 = (((v101_116 + (1 : Int32)) + ((((xe.toUInt32 >>> ((8 : Int32) &&& 31).toUInt32).toInt32) &&& (2147483647 : Int32)) % (v1 - (1 : Int32)))) % v1)) (hv125 : v125 = ((((xe.toUInt32 >>> ((16 : Int32) &&& 31).toUInt32).toInt32) &&& (7 : Int32)) % (C3 v101_116.toNatClampNeg))) (hv186 : v186 = (BX ((v1 + (1 : Int32)) - (1 : Int32)).toNatClampNeg)) (hv188 : v188 = ((xf &&& (2147483647 : Int32)) % v1)) (hv191 : v191 = (CX v188.toNatClampNeg)) (hv193 : v193 = ((((xf.toUInt32 >>> ((8 : Int32) &&& 31).toUInt32).toInt32) &&& (7 : Int32)) % (v191 + (1 : Int32)))) (hv195 : v195 = (v193 + ((((xf.toUInt32 >>> ((12 : Int32) &&& 31).toUInt32).toInt32) &&& (7 : Int32)) % ((v191 - v193) + (1 : Int32))))) (hc76_72 : ¬ (v1 < (2 : Int32))) (cd20_14 : (52 : Int32) = (52 : Int32)) (cd20_15 : 1 ≤ v1.toInt ∧ v1.toInt ≤ 4) (cd27_20 : (0 : Int32) < (v1 + (1 : Int32))) (cd39_23 : (v1 + (1 : Int32)) = (v1 + (1 : Int32))) (cd39_24 : (0 : Int) ≤ 2) (cd51_38 : (v1 + (1 : Int32)) = (v1 + (1 : Int32))) (cd51_39 : ((0 : Int) + 1) ≤ 2) (cd62_53 : (v1 + (1 : Int32)) = (v1 + (1 : Int32))) (cd62_54 : (((0 : Int) + 1) + 1) ≤ 2) (I3 : own_Inv v1 B3 C3 (3 : Int)) (hF : 1 ≤ (C3 v36.toNatClampNeg).toInt) (cd68_70 : (0 : Int32) < (v1 + (1 : Int32))) (nz86_111 : v1 ≠ (0 : Int32)) (in93_114 : ¬ v112 < 0 ∧ v112 < (4 : Int32)) (HFR : (0 ≤ v101_116.toInt ∧ v101_116.toInt < v1.toInt) ∧ 1 ≤ (C3 v101_116.toNatClampNeg).toInt) (nz117_119 : (v1 - (1 : Int32)) ≠ (0 : Int32)) (nz121_120 : v1 ≠ (0 : Int32)) (HTO : (0 ≤ v121.toInt ∧ v121.toInt < v1.toInt) ∧ v101_116.toInt ≠ v121.toInt) (in136_123 : ¬ v101_116 < 0 ∧ v101_116 < (4 : Int32)) (nz137_124 : (C3 v101_116.toNatClampNeg) ≠ (0 : Int32)) (cd148_127 : (0 : Int32) < (v1 + (1 : Int32))) (cd148_128 : ¬ v101_116 < 0 ∧ v101_116 < v1) (cd148_129 : ¬ v101_116 < 0 ∧ v101_116 < (v1 + (1 : Int32))) (cd148_130 : ¬ v121 < 0 ∧ v121 < v1) (cd148_131 : ¬ (v121 + (1 : Int32)) < 0 ∧ (v121 + (1 : Int32)) < (v1 + (1 : Int32))) (cd148_132 : 0 ≤ ((B3 v101_116.toNatClampNeg) + v125).toInt ∧ ((B3 v101_116.toNatClampNeg) + v125).toInt ≤ 3 ∧ 0 ≤ (B3 (v121 + (1 : Int32)).toNatClampNeg).toInt ∧ (B3 (v121 + (1 : Int32)).toNatClampNeg).toInt ≤ 3 ∧ (v101_116 < v121 → ((B3 v101_116.toNatClampNeg) + v125).toInt + 1 ≤ (B3 (v121 + (1 : Int32)).toNatClampNeg).toInt) ∧ (¬ v101_116 < v121 → (B3 (v121 + (1 : Int32)).toNatClampNeg).toInt ≤ ((B3 v101_116.toNatClampNeg) + v125).toInt)) (in159_145 : ¬ v101_116 < 0 ∧ v101_116 < (4 : Int32)) (in162_147 : ¬ v101_116 < 0 ∧ v101_116 < (4 : Int32)) (in171_164 : ¬ v121 < 0 ∧ v121 < (4 : Int32)) (in174_166 : ¬ v121 < 0 ∧ v121 < (4 : Int32)) (IX : own_Inv v1 BX CX (3 : Int)) (cd177_185 : (0 : Int32) < (v1 + (1 : Int32))) (nz189_187 : v1 ≠ (0 : Int32)) (in196_190 : ¬ v188 < 0 ∧ v188 < (4 : Int32)) (nz211_192 : (v191 + (1 : Int32)) ≠ (0 : Int32)) (nz231_194 : ((v191 - v193) + (1 : Int32)) ≠ (0 : Int32)) : (0 : Int32) < (v1 + (1 : Int32)) := by
  have hn := own_n hv1
  have hn1 := own_n1 hn.2 hn.1
  rw [own_lt, own_z]; omega
set_option maxRecDepth 65536 in
theorem own_pl0_44 {xa : Int32} {xb : Int32} {xc : Int32} {xd : Int32} {xe : Int32} {xf : Int32} {B3 : Nat → Int32} {C3 : Nat → Int32} {BX : Nat → Int32} {CX : Nat → Int32} {v1 : Int32} {v21 : Int32} {v36 : Int32} {v51 : Int32} {v66 : Int32} {v71 : Int32} {v112 : Int32} {v101_116 : Int32} {v121 : Int32} {v125 : Int32} {v186 : Int32} {v188 : Int32} {v191 : Int32} {v193 : Int32} {v195 : Int32} (hv1 : v1 = ((1 : Int32) + (xa &&& (3 : Int32)))) (hv21 : v21 = (own_zero ((v1 + (1 : Int32)) - (1 : Int32)).toNatClampNeg)) (hv36 : v36 = (own_pl xb v1)) (hv51 : v51 = (own_pl xc v1)) (hv66 : v66 = (own_pl xd v1)) (hv71 : v71 = (B3 ((v1 + (1 : Int32)) - (1 : Int32)).toNatClampNeg)) (hv112 : v112 = ((xe &&& (2147483647 : Int32)) % v1)) (hv101_116 : v101_116 = (if (C3 v112.toNatClampNeg) = (0 : Int32) then v36 else v112)) (hv121 : v121 = (((v101_116 + (1 : Int32)) + ((((xe.toUInt32 >>> ((8 : Int32) &&& 31).toUInt32).toInt32) &&& (2147483647 : Int32)) % (v1 - (1 : Int32)))) % v1)) (hv125 : v125 = ((((xe.toUInt32 >>> ((16 : Int32) &&& 31).toUInt32).toInt32) &&& (7 : Int32)) % (C3 v101_116.toNatClampNeg))) (hv186 : v186 = (BX ((v1 + (1 : Int32)) - (1 : Int32)).toNatClampNeg)) (hv188 : v188 = ((xf &&& (2147483647 : Int32)) % v1)) (hv191 : v191 = (CX v188.toNatClampNeg)) (hv193 : v193 = ((((xf.toUInt32 >>> ((8 : Int32) &&& 31).toUInt32).toInt32) &&& (7 : Int32)) % (v191 + (1 : Int32)))) (hv195 : v195 = (v193 + ((((xf.toUInt32 >>> ((12 : Int32) &&& 31).toUInt32).toInt32) &&& (7 : Int32)) % ((v191 - v193) + (1 : Int32))))) (hc76_72 : ¬ (v1 < (2 : Int32))) (cd20_14 : (52 : Int32) = (52 : Int32)) (cd20_15 : 1 ≤ v1.toInt ∧ v1.toInt ≤ 4) (cd27_20 : (0 : Int32) < (v1 + (1 : Int32))) (cd39_23 : (v1 + (1 : Int32)) = (v1 + (1 : Int32))) (cd39_24 : (0 : Int) ≤ 2) (cd51_38 : (v1 + (1 : Int32)) = (v1 + (1 : Int32))) (cd51_39 : ((0 : Int) + 1) ≤ 2) (cd62_53 : (v1 + (1 : Int32)) = (v1 + (1 : Int32))) (cd62_54 : (((0 : Int) + 1) + 1) ≤ 2) (I3 : own_Inv v1 B3 C3 (3 : Int)) (hF : 1 ≤ (C3 v36.toNatClampNeg).toInt) (cd68_70 : (0 : Int32) < (v1 + (1 : Int32))) (nz86_111 : v1 ≠ (0 : Int32)) (in93_114 : ¬ v112 < 0 ∧ v112 < (4 : Int32)) (HFR : (0 ≤ v101_116.toInt ∧ v101_116.toInt < v1.toInt) ∧ 1 ≤ (C3 v101_116.toNatClampNeg).toInt) (nz117_119 : (v1 - (1 : Int32)) ≠ (0 : Int32)) (nz121_120 : v1 ≠ (0 : Int32)) (HTO : (0 ≤ v121.toInt ∧ v121.toInt < v1.toInt) ∧ v101_116.toInt ≠ v121.toInt) (in136_123 : ¬ v101_116 < 0 ∧ v101_116 < (4 : Int32)) (nz137_124 : (C3 v101_116.toNatClampNeg) ≠ (0 : Int32)) (cd148_127 : (0 : Int32) < (v1 + (1 : Int32))) (cd148_128 : ¬ v101_116 < 0 ∧ v101_116 < v1) (cd148_129 : ¬ v101_116 < 0 ∧ v101_116 < (v1 + (1 : Int32))) (cd148_130 : ¬ v121 < 0 ∧ v121 < v1) (cd148_131 : ¬ (v121 + (1 : Int32)) < 0 ∧ (v121 + (1 : Int32)) < (v1 + (1 : Int32))) (cd148_132 : 0 ≤ ((B3 v101_116.toNatClampNeg) + v125).toInt ∧ ((B3 v101_116.toNatClampNeg) + v125).toInt ≤ 3 ∧ 0 ≤ (B3 (v121 + (1 : Int32)).toNatClampNeg).toInt ∧ (B3 (v121 + (1 : Int32)).toNatClampNeg).toInt ≤ 3 ∧ (v101_116 < v121 → ((B3 v101_116.toNatClampNeg) + v125).toInt + 1 ≤ (B3 (v121 + (1 : Int32)).toNatClampNeg).toInt) ∧ (¬ v101_116 < v121 → (B3 (v121 + (1 : Int32)).toNatClampNeg).toInt ≤ ((B3 v101_116.toNatClampNeg) + v125).toInt)) (in159_145 : ¬ v101_116 < 0 ∧ v101_116 < (4 : Int32)) (in162_147 : ¬ v101_116 < 0 ∧ v101_116 < (4 : Int32)) (in171_164 : ¬ v121 < 0 ∧ v121 < (4 : Int32)) (in174_166 : ¬ v121 < 0 ∧ v121 < (4 : Int32)) (IX : own_Inv v1 BX CX (3 : Int)) (cd177_185 : (0 : Int32) < (v1 + (1 : Int32))) (nz189_187 : v1 ≠ (0 : Int32)) (in196_190 : ¬ v188 < 0 ∧ v188 < (4 : Int32)) (nz211_192 : (v191 + (1 : Int32)) ≠ (0 : Int32)) (nz231_194 : ((v191 - v193) + (1 : Int32)) ≠ (0 : Int32)) (cd243_197 : (0 : Int32) < (v1 + (1 : Int32))) : ¬ v188 < 0 ∧ v188 < v1 := by
  have hq := own_pl_in (n := v1) xf IX.1.1
  rw [show own_pl xf v1 = v188 from hv188.symm] at hq
  have g := IX.1
  exact own_in hq.1 hq.2
set_option maxRecDepth 65536 in
theorem own_pl0_45 {xa : Int32} {xb : Int32} {xc : Int32} {xd : Int32} {xe : Int32} {xf : Int32} {B3 : Nat → Int32} {C3 : Nat → Int32} {BX : Nat → Int32} {CX : Nat → Int32} {v1 : Int32} {v21 : Int32} {v36 : Int32} {v51 : Int32} {v66 : Int32} {v71 : Int32} {v112 : Int32} {v101_116 : Int32} {v121 : Int32} {v125 : Int32} {v186 : Int32} {v188 : Int32} {v191 : Int32} {v193 : Int32} {v195 : Int32} (hv1 : v1 = ((1 : Int32) + (xa &&& (3 : Int32)))) (hv21 : v21 = (own_zero ((v1 + (1 : Int32)) - (1 : Int32)).toNatClampNeg)) (hv36 : v36 = (own_pl xb v1)) (hv51 : v51 = (own_pl xc v1)) (hv66 : v66 = (own_pl xd v1)) (hv71 : v71 = (B3 ((v1 + (1 : Int32)) - (1 : Int32)).toNatClampNeg)) (hv112 : v112 = ((xe &&& (2147483647 : Int32)) % v1)) (hv101_116 : v101_116 = (if (C3 v112.toNatClampNeg) = (0 : Int32) then v36 else v112)) (hv121 : v121 = (((v101_116 + (1 : Int32)) + ((((xe.toUInt32 >>> ((8 : Int32) &&& 31).toUInt32).toInt32) &&& (2147483647 : Int32)) % (v1 - (1 : Int32)))) % v1)) (hv125 : v125 = ((((xe.toUInt32 >>> ((16 : Int32) &&& 31).toUInt32).toInt32) &&& (7 : Int32)) % (C3 v101_116.toNatClampNeg))) (hv186 : v186 = (BX ((v1 + (1 : Int32)) - (1 : Int32)).toNatClampNeg)) (hv188 : v188 = ((xf &&& (2147483647 : Int32)) % v1)) (hv191 : v191 = (CX v188.toNatClampNeg)) (hv193 : v193 = ((((xf.toUInt32 >>> ((8 : Int32) &&& 31).toUInt32).toInt32) &&& (7 : Int32)) % (v191 + (1 : Int32)))) (hv195 : v195 = (v193 + ((((xf.toUInt32 >>> ((12 : Int32) &&& 31).toUInt32).toInt32) &&& (7 : Int32)) % ((v191 - v193) + (1 : Int32))))) (hc76_72 : ¬ (v1 < (2 : Int32))) (cd20_14 : (52 : Int32) = (52 : Int32)) (cd20_15 : 1 ≤ v1.toInt ∧ v1.toInt ≤ 4) (cd27_20 : (0 : Int32) < (v1 + (1 : Int32))) (cd39_23 : (v1 + (1 : Int32)) = (v1 + (1 : Int32))) (cd39_24 : (0 : Int) ≤ 2) (cd51_38 : (v1 + (1 : Int32)) = (v1 + (1 : Int32))) (cd51_39 : ((0 : Int) + 1) ≤ 2) (cd62_53 : (v1 + (1 : Int32)) = (v1 + (1 : Int32))) (cd62_54 : (((0 : Int) + 1) + 1) ≤ 2) (I3 : own_Inv v1 B3 C3 (3 : Int)) (hF : 1 ≤ (C3 v36.toNatClampNeg).toInt) (cd68_70 : (0 : Int32) < (v1 + (1 : Int32))) (nz86_111 : v1 ≠ (0 : Int32)) (in93_114 : ¬ v112 < 0 ∧ v112 < (4 : Int32)) (HFR : (0 ≤ v101_116.toInt ∧ v101_116.toInt < v1.toInt) ∧ 1 ≤ (C3 v101_116.toNatClampNeg).toInt) (nz117_119 : (v1 - (1 : Int32)) ≠ (0 : Int32)) (nz121_120 : v1 ≠ (0 : Int32)) (HTO : (0 ≤ v121.toInt ∧ v121.toInt < v1.toInt) ∧ v101_116.toInt ≠ v121.toInt) (in136_123 : ¬ v101_116 < 0 ∧ v101_116 < (4 : Int32)) (nz137_124 : (C3 v101_116.toNatClampNeg) ≠ (0 : Int32)) (cd148_127 : (0 : Int32) < (v1 + (1 : Int32))) (cd148_128 : ¬ v101_116 < 0 ∧ v101_116 < v1) (cd148_129 : ¬ v101_116 < 0 ∧ v101_116 < (v1 + (1 : Int32))) (cd148_130 : ¬ v121 < 0 ∧ v121 < v1) (cd148_131 : ¬ (v121 + (1 : Int32)) < 0 ∧ (v121 + (1 : Int32)) < (v1 + (1 : Int32))) (cd148_132 : 0 ≤ ((B3 v101_116.toNatClampNeg) + v125).toInt ∧ ((B3 v101_116.toNatClampNeg) + v125).toInt ≤ 3 ∧ 0 ≤ (B3 (v121 + (1 : Int32)).toNatClampNeg).toInt ∧ (B3 (v121 + (1 : Int32)).toNatClampNeg).toInt ≤ 3 ∧ (v101_116 < v121 → ((B3 v101_116.toNatClampNeg) + v125).toInt + 1 ≤ (B3 (v121 + (1 : Int32)).toNatClampNeg).toInt) ∧ (¬ v101_116 < v121 → (B3 (v121 + (1 : Int32)).toNatClampNeg).toInt ≤ ((B3 v101_116.toNatClampNeg) + v125).toInt)) (in159_145 : ¬ v101_116 < 0 ∧ v101_116 < (4 : Int32)) (in162_147 : ¬ v101_116 < 0 ∧ v101_116 < (4 : Int32)) (in171_164 : ¬ v121 < 0 ∧ v121 < (4 : Int32)) (in174_166 : ¬ v121 < 0 ∧ v121 < (4 : Int32)) (IX : own_Inv v1 BX CX (3 : Int)) (cd177_185 : (0 : Int32) < (v1 + (1 : Int32))) (nz189_187 : v1 ≠ (0 : Int32)) (in196_190 : ¬ v188 < 0 ∧ v188 < (4 : Int32)) (nz211_192 : (v191 + (1 : Int32)) ≠ (0 : Int32)) (nz231_194 : ((v191 - v193) + (1 : Int32)) ≠ (0 : Int32)) (cd243_197 : (0 : Int32) < (v1 + (1 : Int32))) (cd243_198 : ¬ v188 < 0 ∧ v188 < v1) : ¬ v188 < 0 ∧ v188 < (v1 + (1 : Int32)) := by
  have hq := own_pl_in (n := v1) xf IX.1.1
  rw [show own_pl xf v1 = v188 from hv188.symm] at hq
  have g := IX.1
  have hn := own_n hv1
  have hn1 := own_n1 hn.2 hn.1
  exact own_in hq.1 (by omega)
set_option maxRecDepth 65536 in
theorem own_pl0_46 {xa : Int32} {xb : Int32} {xc : Int32} {xd : Int32} {xe : Int32} {xf : Int32} {B3 : Nat → Int32} {C3 : Nat → Int32} {BX : Nat → Int32} {CX : Nat → Int32} {v1 : Int32} {v21 : Int32} {v36 : Int32} {v51 : Int32} {v66 : Int32} {v71 : Int32} {v112 : Int32} {v101_116 : Int32} {v121 : Int32} {v125 : Int32} {v186 : Int32} {v188 : Int32} {v191 : Int32} {v193 : Int32} {v195 : Int32} (hv1 : v1 = ((1 : Int32) + (xa &&& (3 : Int32)))) (hv21 : v21 = (own_zero ((v1 + (1 : Int32)) - (1 : Int32)).toNatClampNeg)) (hv36 : v36 = (own_pl xb v1)) (hv51 : v51 = (own_pl xc v1)) (hv66 : v66 = (own_pl xd v1)) (hv71 : v71 = (B3 ((v1 + (1 : Int32)) - (1 : Int32)).toNatClampNeg)) (hv112 : v112 = ((xe &&& (2147483647 : Int32)) % v1)) (hv101_116 : v101_116 = (if (C3 v112.toNatClampNeg) = (0 : Int32) then v36 else v112)) (hv121 : v121 = (((v101_116 + (1 : Int32)) + ((((xe.toUInt32 >>> ((8 : Int32) &&& 31).toUInt32).toInt32) &&& (2147483647 : Int32)) % (v1 - (1 : Int32)))) % v1)) (hv125 : v125 = ((((xe.toUInt32 >>> ((16 : Int32) &&& 31).toUInt32).toInt32) &&& (7 : Int32)) % (C3 v101_116.toNatClampNeg))) (hv186 : v186 = (BX ((v1 + (1 : Int32)) - (1 : Int32)).toNatClampNeg)) (hv188 : v188 = ((xf &&& (2147483647 : Int32)) % v1)) (hv191 : v191 = (CX v188.toNatClampNeg)) (hv193 : v193 = ((((xf.toUInt32 >>> ((8 : Int32) &&& 31).toUInt32).toInt32) &&& (7 : Int32)) % (v191 + (1 : Int32)))) (hv195 : v195 = (v193 + ((((xf.toUInt32 >>> ((12 : Int32) &&& 31).toUInt32).toInt32) &&& (7 : Int32)) % ((v191 - v193) + (1 : Int32))))) (hc76_72 : ¬ (v1 < (2 : Int32))) (cd20_14 : (52 : Int32) = (52 : Int32)) (cd20_15 : 1 ≤ v1.toInt ∧ v1.toInt ≤ 4) (cd27_20 : (0 : Int32) < (v1 + (1 : Int32))) (cd39_23 : (v1 + (1 : Int32)) = (v1 + (1 : Int32))) (cd39_24 : (0 : Int) ≤ 2) (cd51_38 : (v1 + (1 : Int32)) = (v1 + (1 : Int32))) (cd51_39 : ((0 : Int) + 1) ≤ 2) (cd62_53 : (v1 + (1 : Int32)) = (v1 + (1 : Int32))) (cd62_54 : (((0 : Int) + 1) + 1) ≤ 2) (I3 : own_Inv v1 B3 C3 (3 : Int)) (hF : 1 ≤ (C3 v36.toNatClampNeg).toInt) (cd68_70 : (0 : Int32) < (v1 + (1 : Int32))) (nz86_111 : v1 ≠ (0 : Int32)) (in93_114 : ¬ v112 < 0 ∧ v112 < (4 : Int32)) (HFR : (0 ≤ v101_116.toInt ∧ v101_116.toInt < v1.toInt) ∧ 1 ≤ (C3 v101_116.toNatClampNeg).toInt) (nz117_119 : (v1 - (1 : Int32)) ≠ (0 : Int32)) (nz121_120 : v1 ≠ (0 : Int32)) (HTO : (0 ≤ v121.toInt ∧ v121.toInt < v1.toInt) ∧ v101_116.toInt ≠ v121.toInt) (in136_123 : ¬ v101_116 < 0 ∧ v101_116 < (4 : Int32)) (nz137_124 : (C3 v101_116.toNatClampNeg) ≠ (0 : Int32)) (cd148_127 : (0 : Int32) < (v1 + (1 : Int32))) (cd148_128 : ¬ v101_116 < 0 ∧ v101_116 < v1) (cd148_129 : ¬ v101_116 < 0 ∧ v101_116 < (v1 + (1 : Int32))) (cd148_130 : ¬ v121 < 0 ∧ v121 < v1) (cd148_131 : ¬ (v121 + (1 : Int32)) < 0 ∧ (v121 + (1 : Int32)) < (v1 + (1 : Int32))) (cd148_132 : 0 ≤ ((B3 v101_116.toNatClampNeg) + v125).toInt ∧ ((B3 v101_116.toNatClampNeg) + v125).toInt ≤ 3 ∧ 0 ≤ (B3 (v121 + (1 : Int32)).toNatClampNeg).toInt ∧ (B3 (v121 + (1 : Int32)).toNatClampNeg).toInt ≤ 3 ∧ (v101_116 < v121 → ((B3 v101_116.toNatClampNeg) + v125).toInt + 1 ≤ (B3 (v121 + (1 : Int32)).toNatClampNeg).toInt) ∧ (¬ v101_116 < v121 → (B3 (v121 + (1 : Int32)).toNatClampNeg).toInt ≤ ((B3 v101_116.toNatClampNeg) + v125).toInt)) (in159_145 : ¬ v101_116 < 0 ∧ v101_116 < (4 : Int32)) (in162_147 : ¬ v101_116 < 0 ∧ v101_116 < (4 : Int32)) (in171_164 : ¬ v121 < 0 ∧ v121 < (4 : Int32)) (in174_166 : ¬ v121 < 0 ∧ v121 < (4 : Int32)) (IX : own_Inv v1 BX CX (3 : Int)) (cd177_185 : (0 : Int32) < (v1 + (1 : Int32))) (nz189_187 : v1 ≠ (0 : Int32)) (in196_190 : ¬ v188 < 0 ∧ v188 < (4 : Int32)) (nz211_192 : (v191 + (1 : Int32)) ≠ (0 : Int32)) (nz231_194 : ((v191 - v193) + (1 : Int32)) ≠ (0 : Int32)) (cd243_197 : (0 : Int32) < (v1 + (1 : Int32))) (cd243_198 : ¬ v188 < 0 ∧ v188 < v1) (cd243_199 : ¬ v188 < 0 ∧ v188 < (v1 + (1 : Int32))) : 0 ≤ ((BX v188.toNatClampNeg) + v193).toInt ∧ 0 ≤ (v195 - v193).toInt ∧ ((BX v188.toNatClampNeg) + v193).toInt + (v195 - v193).toInt ≤ (BX ((v1 + (1 : Int32)) - (1 : Int32)).toNatClampNeg).toInt ∧ (BX ((v1 + (1 : Int32)) - (1 : Int32)).toNatClampNeg).toInt ≤ 3 := by
  have hq := own_pl_in (n := v1) xf IX.1.1
  rw [show own_pl xf v1 = v188 from hv188.symm] at hq
  have g := IX.1
  have hl15 := hv193
  rw [hv191] at hl15
  have hl16 := hv195
  rw [hv191] at hl16
  have hl := own_lohi IX hq (own_and7 _) (own_and7 _) hl15 hl16
  exact own_okR IX hq ⟨hl.1, hl.2.1, hl.2.2.1⟩
set_option maxRecDepth 65536 in
theorem own_pl0_47 {xa : Int32} {xb : Int32} {xc : Int32} {xd : Int32} {xe : Int32} {xf : Int32} {B3 : Nat → Int32} {C3 : Nat → Int32} {BX : Nat → Int32} {CX : Nat → Int32} {v1 : Int32} {v21 : Int32} {v36 : Int32} {v51 : Int32} {v66 : Int32} {v71 : Int32} {v112 : Int32} {v101_116 : Int32} {v121 : Int32} {v125 : Int32} {v186 : Int32} {v188 : Int32} {v191 : Int32} {v193 : Int32} {v195 : Int32} (hv1 : v1 = ((1 : Int32) + (xa &&& (3 : Int32)))) (hv21 : v21 = (own_zero ((v1 + (1 : Int32)) - (1 : Int32)).toNatClampNeg)) (hv36 : v36 = (own_pl xb v1)) (hv51 : v51 = (own_pl xc v1)) (hv66 : v66 = (own_pl xd v1)) (hv71 : v71 = (B3 ((v1 + (1 : Int32)) - (1 : Int32)).toNatClampNeg)) (hv112 : v112 = ((xe &&& (2147483647 : Int32)) % v1)) (hv101_116 : v101_116 = (if (C3 v112.toNatClampNeg) = (0 : Int32) then v36 else v112)) (hv121 : v121 = (((v101_116 + (1 : Int32)) + ((((xe.toUInt32 >>> ((8 : Int32) &&& 31).toUInt32).toInt32) &&& (2147483647 : Int32)) % (v1 - (1 : Int32)))) % v1)) (hv125 : v125 = ((((xe.toUInt32 >>> ((16 : Int32) &&& 31).toUInt32).toInt32) &&& (7 : Int32)) % (C3 v101_116.toNatClampNeg))) (hv186 : v186 = (BX ((v1 + (1 : Int32)) - (1 : Int32)).toNatClampNeg)) (hv188 : v188 = ((xf &&& (2147483647 : Int32)) % v1)) (hv191 : v191 = (CX v188.toNatClampNeg)) (hv193 : v193 = ((((xf.toUInt32 >>> ((8 : Int32) &&& 31).toUInt32).toInt32) &&& (7 : Int32)) % (v191 + (1 : Int32)))) (hv195 : v195 = (v193 + ((((xf.toUInt32 >>> ((12 : Int32) &&& 31).toUInt32).toInt32) &&& (7 : Int32)) % ((v191 - v193) + (1 : Int32))))) (hc76_72 : ¬ (v1 < (2 : Int32))) (cd20_14 : (52 : Int32) = (52 : Int32)) (cd20_15 : 1 ≤ v1.toInt ∧ v1.toInt ≤ 4) (cd27_20 : (0 : Int32) < (v1 + (1 : Int32))) (cd39_23 : (v1 + (1 : Int32)) = (v1 + (1 : Int32))) (cd39_24 : (0 : Int) ≤ 2) (cd51_38 : (v1 + (1 : Int32)) = (v1 + (1 : Int32))) (cd51_39 : ((0 : Int) + 1) ≤ 2) (cd62_53 : (v1 + (1 : Int32)) = (v1 + (1 : Int32))) (cd62_54 : (((0 : Int) + 1) + 1) ≤ 2) (I3 : own_Inv v1 B3 C3 (3 : Int)) (hF : 1 ≤ (C3 v36.toNatClampNeg).toInt) (cd68_70 : (0 : Int32) < (v1 + (1 : Int32))) (nz86_111 : v1 ≠ (0 : Int32)) (in93_114 : ¬ v112 < 0 ∧ v112 < (4 : Int32)) (HFR : (0 ≤ v101_116.toInt ∧ v101_116.toInt < v1.toInt) ∧ 1 ≤ (C3 v101_116.toNatClampNeg).toInt) (nz117_119 : (v1 - (1 : Int32)) ≠ (0 : Int32)) (nz121_120 : v1 ≠ (0 : Int32)) (HTO : (0 ≤ v121.toInt ∧ v121.toInt < v1.toInt) ∧ v101_116.toInt ≠ v121.toInt) (in136_123 : ¬ v101_116 < 0 ∧ v101_116 < (4 : Int32)) (nz137_124 : (C3 v101_116.toNatClampNeg) ≠ (0 : Int32)) (cd148_127 : (0 : Int32) < (v1 + (1 : Int32))) (cd148_128 : ¬ v101_116 < 0 ∧ v101_116 < v1) (cd148_129 : ¬ v101_116 < 0 ∧ v101_116 < (v1 + (1 : Int32))) (cd148_130 : ¬ v121 < 0 ∧ v121 < v1) (cd148_131 : ¬ (v121 + (1 : Int32)) < 0 ∧ (v121 + (1 : Int32)) < (v1 + (1 : Int32))) (cd148_132 : 0 ≤ ((B3 v101_116.toNatClampNeg) + v125).toInt ∧ ((B3 v101_116.toNatClampNeg) + v125).toInt ≤ 3 ∧ 0 ≤ (B3 (v121 + (1 : Int32)).toNatClampNeg).toInt ∧ (B3 (v121 + (1 : Int32)).toNatClampNeg).toInt ≤ 3 ∧ (v101_116 < v121 → ((B3 v101_116.toNatClampNeg) + v125).toInt + 1 ≤ (B3 (v121 + (1 : Int32)).toNatClampNeg).toInt) ∧ (¬ v101_116 < v121 → (B3 (v121 + (1 : Int32)).toNatClampNeg).toInt ≤ ((B3 v101_116.toNatClampNeg) + v125).toInt)) (in159_145 : ¬ v101_116 < 0 ∧ v101_116 < (4 : Int32)) (in162_147 : ¬ v101_116 < 0 ∧ v101_116 < (4 : Int32)) (in171_164 : ¬ v121 < 0 ∧ v121 < (4 : Int32)) (in174_166 : ¬ v121 < 0 ∧ v121 < (4 : Int32)) (IX : own_Inv v1 BX CX (3 : Int)) (cd177_185 : (0 : Int32) < (v1 + (1 : Int32))) (nz189_187 : v1 ≠ (0 : Int32)) (in196_190 : ¬ v188 < 0 ∧ v188 < (4 : Int32)) (nz211_192 : (v191 + (1 : Int32)) ≠ (0 : Int32)) (nz231_194 : ((v191 - v193) + (1 : Int32)) ≠ (0 : Int32)) (cd243_197 : (0 : Int32) < (v1 + (1 : Int32))) (cd243_198 : ¬ v188 < 0 ∧ v188 < v1) (cd243_199 : ¬ v188 < 0 ∧ v188 < (v1 + (1 : Int32))) (cd243_200 : 0 ≤ ((BX v188.toNatClampNeg) + v193).toInt ∧ 0 ≤ (v195 - v193).toInt ∧ ((BX v188.toNatClampNeg) + v193).toInt + (v195 - v193).toInt ≤ (BX ((v1 + (1 : Int32)) - (1 : Int32)).toNatClampNeg).toInt ∧ (BX ((v1 + (1 : Int32)) - (1 : Int32)).toNatClampNeg).toInt ≤ 3) : (0 : Int32) < (v1 + (1 : Int32)) := by
  have hn := own_n hv1
  have hn1 := own_n1 hn.2 hn.1
  rw [own_lt, own_z]; omega
set_option maxRecDepth 65536 in
theorem own_pl0_48 {xa : Int32} {xb : Int32} {xc : Int32} {xd : Int32} {xe : Int32} {xf : Int32} {B3 : Nat → Int32} {C3 : Nat → Int32} {BX : Nat → Int32} {CX : Nat → Int32} {v1 : Int32} {v21 : Int32} {v36 : Int32} {v51 : Int32} {v66 : Int32} {v71 : Int32} {v112 : Int32} {v101_116 : Int32} {v121 : Int32} {v125 : Int32} {v186 : Int32} {v188 : Int32} {v191 : Int32} {v193 : Int32} {v195 : Int32} {v214 : Int32} {v287_216 : Int32} (hv1 : v1 = ((1 : Int32) + (xa &&& (3 : Int32)))) (hv21 : v21 = (own_zero ((v1 + (1 : Int32)) - (1 : Int32)).toNatClampNeg)) (hv36 : v36 = (own_pl xb v1)) (hv51 : v51 = (own_pl xc v1)) (hv66 : v66 = (own_pl xd v1)) (hv71 : v71 = (B3 ((v1 + (1 : Int32)) - (1 : Int32)).toNatClampNeg)) (hv112 : v112 = ((xe &&& (2147483647 : Int32)) % v1)) (hv101_116 : v101_116 = (if (C3 v112.toNatClampNeg) = (0 : Int32) then v36 else v112)) (hv121 : v121 = (((v101_116 + (1 : Int32)) + ((((xe.toUInt32 >>> ((8 : Int32) &&& 31).toUInt32).toInt32) &&& (2147483647 : Int32)) % (v1 - (1 : Int32)))) % v1)) (hv125 : v125 = ((((xe.toUInt32 >>> ((16 : Int32) &&& 31).toUInt32).toInt32) &&& (7 : Int32)) % (C3 v101_116.toNatClampNeg))) (hv186 : v186 = (BX ((v1 + (1 : Int32)) - (1 : Int32)).toNatClampNeg)) (hv188 : v188 = ((xf &&& (2147483647 : Int32)) % v1)) (hv191 : v191 = (CX v188.toNatClampNeg)) (hv193 : v193 = ((((xf.toUInt32 >>> ((8 : Int32) &&& 31).toUInt32).toInt32) &&& (7 : Int32)) % (v191 + (1 : Int32)))) (hv195 : v195 = (v193 + ((((xf.toUInt32 >>> ((12 : Int32) &&& 31).toUInt32).toInt32) &&& (7 : Int32)) % ((v191 - v193) + (1 : Int32))))) (hv214 : v214 = ((own_mv BX v188 (v1 + (1 : Int32)) (-(v195 - v193))) ((v1 + (1 : Int32)) - (1 : Int32)).toNatClampNeg)) (hv287_216 : v287_216 = (if v21 = (0 : Int32) then (if v71 = (3 : Int32) then (if v186 = (3 : Int32) then (if v214 = ((3 : Int32) - (v195 - v193)) then (1 : Int32) else (0 : Int32)) else (0 : Int32)) else (0 : Int32)) else (0 : Int32))) (hc76_72 : ¬ (v1 < (2 : Int32))) (cd20_14 : (52 : Int32) = (52 : Int32)) (cd20_15 : 1 ≤ v1.toInt ∧ v1.toInt ≤ 4) (cd27_20 : (0 : Int32) < (v1 + (1 : Int32))) (cd39_23 : (v1 + (1 : Int32)) = (v1 + (1 : Int32))) (cd39_24 : (0 : Int) ≤ 2) (cd51_38 : (v1 + (1 : Int32)) = (v1 + (1 : Int32))) (cd51_39 : ((0 : Int) + 1) ≤ 2) (cd62_53 : (v1 + (1 : Int32)) = (v1 + (1 : Int32))) (cd62_54 : (((0 : Int) + 1) + 1) ≤ 2) (I3 : own_Inv v1 B3 C3 (3 : Int)) (hF : 1 ≤ (C3 v36.toNatClampNeg).toInt) (cd68_70 : (0 : Int32) < (v1 + (1 : Int32))) (nz86_111 : v1 ≠ (0 : Int32)) (in93_114 : ¬ v112 < 0 ∧ v112 < (4 : Int32)) (HFR : (0 ≤ v101_116.toInt ∧ v101_116.toInt < v1.toInt) ∧ 1 ≤ (C3 v101_116.toNatClampNeg).toInt) (nz117_119 : (v1 - (1 : Int32)) ≠ (0 : Int32)) (nz121_120 : v1 ≠ (0 : Int32)) (HTO : (0 ≤ v121.toInt ∧ v121.toInt < v1.toInt) ∧ v101_116.toInt ≠ v121.toInt) (in136_123 : ¬ v101_116 < 0 ∧ v101_116 < (4 : Int32)) (nz137_124 : (C3 v101_116.toNatClampNeg) ≠ (0 : Int32)) (cd148_127 : (0 : Int32) < (v1 + (1 : Int32))) (cd148_128 : ¬ v101_116 < 0 ∧ v101_116 < v1) (cd148_129 : ¬ v101_116 < 0 ∧ v101_116 < (v1 + (1 : Int32))) (cd148_130 : ¬ v121 < 0 ∧ v121 < v1) (cd148_131 : ¬ (v121 + (1 : Int32)) < 0 ∧ (v121 + (1 : Int32)) < (v1 + (1 : Int32))) (cd148_132 : 0 ≤ ((B3 v101_116.toNatClampNeg) + v125).toInt ∧ ((B3 v101_116.toNatClampNeg) + v125).toInt ≤ 3 ∧ 0 ≤ (B3 (v121 + (1 : Int32)).toNatClampNeg).toInt ∧ (B3 (v121 + (1 : Int32)).toNatClampNeg).toInt ≤ 3 ∧ (v101_116 < v121 → ((B3 v101_116.toNatClampNeg) + v125).toInt + 1 ≤ (B3 (v121 + (1 : Int32)).toNatClampNeg).toInt) ∧ (¬ v101_116 < v121 → (B3 (v121 + (1 : Int32)).toNatClampNeg).toInt ≤ ((B3 v101_116.toNatClampNeg) + v125).toInt)) (in159_145 : ¬ v101_116 < 0 ∧ v101_116 < (4 : Int32)) (in162_147 : ¬ v101_116 < 0 ∧ v101_116 < (4 : Int32)) (in171_164 : ¬ v121 < 0 ∧ v121 < (4 : Int32)) (in174_166 : ¬ v121 < 0 ∧ v121 < (4 : Int32)) (IX : own_Inv v1 BX CX (3 : Int)) (cd177_185 : (0 : Int32) < (v1 + (1 : Int32))) (nz189_187 : v1 ≠ (0 : Int32)) (in196_190 : ¬ v188 < 0 ∧ v188 < (4 : Int32)) (nz211_192 : (v191 + (1 : Int32)) ≠ (0 : Int32)) (nz231_194 : ((v191 - v193) + (1 : Int32)) ≠ (0 : Int32)) (cd243_197 : (0 : Int32) < (v1 + (1 : Int32))) (cd243_198 : ¬ v188 < 0 ∧ v188 < v1) (cd243_199 : ¬ v188 < 0 ∧ v188 < (v1 + (1 : Int32))) (cd243_200 : 0 ≤ ((BX v188.toNatClampNeg) + v193).toInt ∧ 0 ≤ (v195 - v193).toInt ∧ ((BX v188.toNatClampNeg) + v193).toInt + (v195 - v193).toInt ≤ (BX ((v1 + (1 : Int32)) - (1 : Int32)).toNatClampNeg).toInt ∧ (BX ((v1 + (1 : Int32)) - (1 : Int32)).toNatClampNeg).toInt ≤ 3) (cd248_213 : (0 : Int32) < (v1 + (1 : Int32))) : v287_216 = 1 := by
  have hq := own_pl_in (n := v1) xf IX.1.1
  rw [show own_pl xf v1 = v188 from hv188.symm] at hq
  have g := IX.1
  have hl15 := hv193
  rw [hv191] at hl15
  have hl16 := hv195
  rw [hv191] at hl16
  have hl := own_lohi IX hq (own_and7 _) (own_and7 _) hl15 hl16
  have h0 : v21 = (0 : Int32) := hv21
  have h1 : v71 = (3 : Int32) := hv71.trans (own_fin I3)
  have h2 : v186 = (3 : Int32) := hv186.trans (own_fin IX)
  have h3 : v214 = ((3 : Int32) - (v195 - v193)) := hv214.trans (own_fin3 IX hq ⟨hl.1, hl.2.1, hl.2.2.1⟩)
  rw [hv287_216, if_pos h0, if_pos h1, if_pos h2, if_pos h3]
set_option maxRecDepth 65536 in
set_option maxHeartbeats 40000000 in
theorem rm0 (l : Launch) (Z : State) (a0 : Array Value) (hw : ∀ d ∈ tables_1, d.before a0 Z = true) (ws : List Jvm.Cond) (xa : Int32) (xb : Int32) (xc : Int32) (xd : Int32) (xe : Int32) (xf : Int32) (h0 : Heap) (n0 : Nat) (Z0 : n0 ≤ h0.size) :
    MetFree l x (head1 (Jvm.Cond.code x code maxLocals ret :: ws) room_1) (fun a U => a = #[(.int xa), (.int xb), (.int xc), (.int xd), (.int xe), (.int xf)] ∧ Z.Warmed39 U.vm ∧ U.heap = h0) (fun _ _ _ _ _ => True) (fun _ U o U' => ∃ v L, o = .returned v ∧ Q0 Z xa xb xc xd xe xf h0 n0 v U'.heap L ∧ FrameEnd U o U' L 6 125) := by
  refine MetFree.of_bodySF (plainFor_of_name pn_0) hisR ?_
  intro p e s m args below meth c s₁ Bd hml0 hP hK
  obtain ⟨rfl, hZ, hh⟩ := hP
  have hx := Bd.exec
  have hby := Bd.bytes
  have hml : c.maxLocals = 18 := hml0
  have hown : s.vm.findClass "com/example/wildsuit/wildsuit/game/RowSizePinLaw" = some m.cls := findClass_of_methodNamed Bd.named
  have hnm := (name_of_methodNamed Bd.named Bd.method).1
  have X0 : Stand p l e room_1 s m #[(.int xa), (.int xb), (.int xc), (.int xd), (.int xe), (.int xf)] below meth c s₁ [] 0 0 := Stand.of_body Bd
  have e0 : s₁.heap = h0 := by rw [← hh, Bd.state]; rfl
  have N0 := Fr.nil n0
  suffices G : own_Goes p.tables e below (fun o U' => ∃ v L, o = .returned v ∧ Q0 Z xa xb xc xd xe xf h0 n0 v U'.heap L ∧ FrameEnd s o U' L 6 125) s₁ (mkF m 0 #[.val (.int xa), .val (.int xb), .val (.int xc), .val (.int xd), .val (.int xe), .val (.int xf), .unset, .unset, .unset, .unset, .unset, .unset, .unset, .unset, .unset, .unset, .unset, .unset] []) by
    obtain ⟨t2_, o2_, z1_, z2_, z3_, z4_⟩ := G
    exact ⟨t2_, o2_, castTop (ef_0 m xa xb xc xd xe xf) z1_, z2_, z3_, z4_⟩
  generalize hPd : (fun (o : Outcome) (U' : State) => ∃ v L, o = .returned v ∧ Q0 Z xa xb xc xd xe xf h0 n0 v U'.heap L ∧ FrameEnd s o U' L 6 125) = P
  refine own_Goes.via (T' := s₁) (g' := (mkF m 1 #[.val (.int xa), .val (.int xb), .val (.int xc), .val (.int xd), .val (.int xe), .val (.int xf), .unset, .unset, .unset, .unset, .unset, .unset, .unset, .unset, .unset, .unset, .unset, .unset] [(.int (1 : Int32))])) (fun t_ k_ => XS.iconst X0.here hx rfl (hb hby at_0) k_) ?_
  refine own_Goes.via (T' := s₁) (g' := (mkF m 2 #[.val (.int xa), .val (.int xb), .val (.int xc), .val (.int xd), .val (.int xe), .val (.int xf), .unset, .unset, .unset, .unset, .unset, .unset, .unset, .unset, .unset, .unset, .unset, .unset] [(.int xa), (.int (1 : Int32))])) (fun t_ k_ => XS.iloadN X0.here hx rfl (hb hby at_1) rfl k_) ?_
  refine own_Goes.via (T' := s₁) (g' := (mkF m 3 #[.val (.int xa), .val (.int xb), .val (.int xc), .val (.int xd), .val (.int xe), .val (.int xf), .unset, .unset, .unset, .unset, .unset, .unset, .unset, .unset, .unset, .unset, .unset, .unset] [(.int (3 : Int32)), (.int xa), (.int (1 : Int32))])) (fun t_ k_ => XS.iconst X0.here hx rfl (hb hby at_2) k_) ?_
  refine own_Goes.via (T' := s₁) (g' := (mkF m 4 #[.val (.int xa), .val (.int xb), .val (.int xc), .val (.int xd), .val (.int xe), .val (.int xf), .unset, .unset, .unset, .unset, .unset, .unset, .unset, .unset, .unset, .unset, .unset, .unset] [(.int (xa &&& (3 : Int32))), (.int (1 : Int32))])) (fun t_ k_ => XS.iand X0.here hx rfl (hb hby at_3) rfl k_) ?_
  refine own_Goes.via (T' := s₁) (g' := (mkF m 5 #[.val (.int xa), .val (.int xb), .val (.int xc), .val (.int xd), .val (.int xe), .val (.int xf), .unset, .unset, .unset, .unset, .unset, .unset, .unset, .unset, .unset, .unset, .unset, .unset] [(.int ((1 : Int32) + (xa &&& (3 : Int32))))])) (fun t_ k_ => XS.iadd X0.here hx rfl (hb hby at_4) rfl k_) ?_
  refine own_Goes.via (T' := s₁) (g' := (mkF m 7 #[.val (.int xa), .val (.int xb), .val (.int xc), .val (.int xd), .val (.int xe), .val (.int xf), .val (.int ((1 : Int32) + (xa &&& (3 : Int32)))), .unset, .unset, .unset, .unset, .unset, .unset, .unset, .unset, .unset, .unset, .unset] [])) (fun t_ k_ => XS.istore X0.here hx rfl (hb hby at_5) rfl (l' := #[.val (.int xa), .val (.int xb), .val (.int xc), .val (.int xd), .val (.int xe), .val (.int xf), .val (.int ((1 : Int32) + (xa &&& (3 : Int32)))), .unset, .unset, .unset, .unset, .unset, .unset, .unset, .unset, .unset, .unset, .unset]) rfl k_) ?_
  obtain ⟨v1, hv1⟩ : ∃ z : Int32, z = ((1 : Int32) + (xa &&& (3 : Int32))) := ⟨_, rfl⟩
  rw [← hv1]
  refine own_Goes.via (T' := s₁) (g' := (mkF m 8 #[.val (.int xa), .val (.int xb), .val (.int xc), .val (.int xd), .val (.int xe), .val (.int xf), .val (.int v1), .unset, .unset, .unset, .unset, .unset, .unset, .unset, .unset, .unset, .unset, .unset] [(.int (4 : Int32))])) (fun t_ k_ => XS.iconst X0.here hx rfl (hb hby at_7) k_) ?_
  obtain ⟨T2, h2, k2, X2, e2, E2, A2, Ea2, st2⟩ := newPE X0 hx hZ (hw _ (List.mem_of_getElem? (i := 0) rfl)) e0 (g := (mkF m 8 #[.val (.int xa), .val (.int xb), .val (.int xc), .val (.int xd), .val (.int xe), .val (.int xf), .val (.int v1), .unset, .unset, .unset, .unset, .unset, .unset, .unset, .unset, .unset, .unset, .unset] [(.int (4 : Int32))])) rfl (hb hby at_8) rfl (by decide) (cap := 4) (by decide) (by decide) (by decide) (by decide) (ad := "[I") (by decide)
  obtain ⟨b2, g2⟩ : ∃ z, z = h0.size := ⟨_, rfl⟩
  rw [← g2] at A2 Ea2 st2
  have ge_b2 : n0 ≤ b2 := Nat.le_trans Z0 (Nat.le_of_eq g2.symm)
  have sz_b2 : h0.size ≤ b2 := Nat.le_trans ((Keep.refl h0 [])).1 (Nat.le_of_eq g2.symm)
  have sz2 : n0 ≤ h2.size := Nat.le_trans Z0 E2.1
  have K2 : Keep h0 h2 [] := ((Keep.refl h0 [])).ext E2
  have E3 : Exa Z h2 b2 "[I" := Ea2
  have G4 : own_Gi Z h2 b2 .int (4 : Int32) own_zero := own_Gi.new A2 (by decide)
  refine own_Goes.via (T' := T2) (g' := (mkF m 10 #[.val (.int xa), .val (.int xb), .val (.int xc), .val (.int xd), .val (.int xe), .val (.int xf), .val (.int v1), .unset, .unset, .unset, .unset, .unset, .unset, .unset, .unset, .unset, .unset, .unset] [(.ref b2)])) (st2) ?_
  refine own_Goes.via (T' := T2) (g' := (mkF m 12 #[.val (.int xa), .val (.int xb), .val (.int xc), .val (.int xd), .val (.int xe), .val (.int xf), .val (.int v1), .val (.ref b2), .unset, .unset, .unset, .unset, .unset, .unset, .unset, .unset, .unset, .unset] [])) (fun t_ k_ => XS.astore X2.here hx rfl (hb hby at_10) rfl rfl (l' := #[.val (.int xa), .val (.int xb), .val (.int xc), .val (.int xd), .val (.int xe), .val (.int xf), .val (.int v1), .val (.ref b2), .unset, .unset, .unset, .unset, .unset, .unset, .unset, .unset, .unset, .unset]) rfl k_) ?_
  obtain ⟨T5, h5, X5, e5, E5, A5, D5, -, st5⟩ := newO X2 hx hZ hown (hw _ (List.mem_of_getElem? (i := 1) rfl)) (hw _ (List.mem_of_getElem? (i := 2) rfl)) (hw _ (List.mem_of_getElem? (i := 3) rfl)) e2 (g := (mkF m 12 #[.val (.int xa), .val (.int xb), .val (.int xc), .val (.int xd), .val (.int xe), .val (.int xf), .val (.int v1), .val (.ref b2), .unset, .unset, .unset, .unset, .unset, .unset, .unset, .unset, .unset, .unset] [])) rfl (hb hby at_12) (by decide) (by decide)
  obtain ⟨b5, g5⟩ : ∃ z, z = h2.size := ⟨_, rfl⟩
  rw [← g5] at A5 D5 st5
  have ne_b2_b5 : b2 ≠ b5 := Nat.ne_of_lt (Nat.lt_of_lt_of_le E3.lt (Nat.le_of_eq g5.symm))
  have E6 : Exa Z h5 b2 "[I" := E3.ext E5
  have G7 : own_Gi Z h5 b2 .int (4 : Int32) own_zero := G4.ext E5
  have ge_b5 : n0 ≤ b5 := Nat.le_trans sz2 (Nat.le_of_eq g5.symm)
  have sz_b5 : h0.size ≤ b5 := Nat.le_trans (K2).1 (Nat.le_of_eq g5.symm)
  have sz5 : n0 ≤ h5.size := Nat.le_trans sz2 E5.1
  have K5 : Keep h0 h5 [] := (K2).ext E5
  have E8 : Exa Z h5 b5 "com/example/wildsuit/wildsuit/game/Row" := A5
  have F9 : Fld Z h5 b5 "com/example/wildsuit/wildsuit/game/Row" "cards" "[B" .null := D5 (Or.inr (hw _ (List.mem_of_getElem? (i := 12) rfl))) (ty := (.array .byte)) (by decide)
  have F10 : Fld Z h5 b5 "com/example/wildsuit/wildsuit/game/Row" "borders" "[I" .null := D5 (Or.inr (hw _ (List.mem_of_getElem? (i := 14) rfl))) (ty := (.array .int)) (by decide)
  have F11 : Fld Z h5 b5 "com/example/wildsuit/wildsuit/game/Row" "held" "[J" .null := D5 (Or.inr (hw _ (List.mem_of_getElem? (i := 17) rfl))) (ty := (.array .long)) (by decide)
  have F12 : Fld Z h5 b5 "com/example/wildsuit/wildsuit/game/Row" "heldTwice" "[J" .null := D5 (Or.inr (hw _ (List.mem_of_getElem? (i := 19) rfl))) (ty := (.array .long)) (by decide)
  refine own_Goes.via (T' := T5) (g' := (mkF m 15 #[.val (.int xa), .val (.int xb), .val (.int xc), .val (.int xd), .val (.int xe), .val (.int xf), .val (.int v1), .val (.ref b2), .unset, .unset, .unset, .unset, .unset, .unset, .unset, .unset, .unset, .unset] [(.ref b5)])) (st5) ?_
  refine own_Goes.via (T' := T5) (g' := (mkF m 16 #[.val (.int xa), .val (.int xb), .val (.int xc), .val (.int xd), .val (.int xe), .val (.int xf), .val (.int v1), .val (.ref b2), .unset, .unset, .unset, .unset, .unset, .unset, .unset, .unset, .unset, .unset] [(.ref b5), (.ref b5)])) (fun t_ k_ => XS.dup X5.here hx rfl (hb hby at_15) rfl rfl k_) ?_
  refine own_Goes.via (T' := T5) (g' := (mkF m 18 #[.val (.int xa), .val (.int xb), .val (.int xc), .val (.int xd), .val (.int xe), .val (.int xf), .val (.int v1), .val (.ref b2), .unset, .unset, .unset, .unset, .unset, .unset, .unset, .unset, .unset, .unset] [(.int v1), (.ref b5), (.ref b5)])) (fun t_ k_ => XS.iload X5.here hx rfl (hb hby at_16) rfl k_) ?_
  refine own_Goes.via (T' := T5) (g' := (mkF m 20 #[.val (.int xa), .val (.int xb), .val (.int xc), .val (.int xd), .val (.int xe), .val (.int xf), .val (.int v1), .val (.ref b2), .unset, .unset, .unset, .unset, .unset, .unset, .unset, .unset, .unset, .unset] [(.int (52 : Int32)), (.int v1), (.ref b5), (.ref b5)])) (fun t_ k_ => XS.bipush X5.here hx rfl (hb hby at_18) k_) ?_
  have cd20_14 : (52 : Int32) = (52 : Int32) := rfl
  have cd20_15 : 1 ≤ v1.toInt ∧ v1.toInt ≤ 4 := own_pl0_0 hv1 cd20_14
  obtain ⟨_, _, ⟨T13, L13, k13, n13⟩, -, X13, ⟨Lc13, hQ13, l13, y13, z13⟩, st13⟩ := X5.specialBack hx (y := (⟨"com/example/wildsuit/wildsuit/game/Row", "<init>", "(II)V"⟩ : MethodName)) rfl hown (mvT hZ (hw _ (List.mem_of_getElem? (i := 4) rfl))) (mvT hZ (hw _ (List.mem_of_getElem? (i := 5) rfl))) (mvT hZ (hw _ (List.mem_of_getElem? (i := 6) rfl))) (by decide) (backOf (W := 1) (rm1 l Z a0 hw [] b5 v1 (52 : Int32) h5 n0 sz5 E8 F9 F10 F11 F12 ge_b5 cd20_14 cd20_15) hZ (hw _ (List.mem_of_getElem? (i := 6) rfl)) (hw _ (List.mem_of_getElem? (i := 3) rfl)) (by decide) (by decide)) (g := (mkF m 20 #[.val (.int xa), .val (.int xb), .val (.int xc), .val (.int xd), .val (.int xe), .val (.int xf), .val (.int v1), .val (.ref b2), .unset, .unset, .unset, .unset, .unset, .unset, .unset, .unset, .unset, .unset] [(.int (52 : Int32)), (.int v1), (.ref b5), (.ref b5)])) rfl (by rw [hml]; rfl) (Steps.refl _) (a := b5) (argsL := [(.int v1), (.int (52 : Int32))]) (rest := [(.ref b5)]) (lenOf pd_0_0 rfl) rfl (by show 2 * 0 + _ ≤ _; exact Nat.le_of_eq rfl) (hb hby at_20) (fun _ _ => ⟨rfl, e5, (by decide : 2 + 4 ≤ _), (by decide : 8 + 117 ≤ _)⟩)
  dsimp only [Pt.U, Pt.locs, Pt.cells, Pt.slots] at X13 l13 y13 z13 st13 hQ13
  subst l13 y13 z13
  obtain ⟨bc_13, bo_13, bh_13, bt_13, rfl, Nq13, Kq13, ⟨sq_bc_13, ge_bc_13⟩, ⟨sq_bo_13, ge_bo_13⟩, ⟨sq_bh_13, ge_bh_13⟩, ⟨sq_bt_13, ge_bt_13⟩, nq13_0, nq13_1, nq13_2, nq13_3, nq13_4, nq13_5, pf13_0, pf13_1, pf13_2, pf13_3, pf13_4, pf13_5, pf13_6, pf13_7, pf13_8, pf13_9, pf13_10, pf13_11⟩ := hQ13
  have N13 := Fr.app N0 Nq13
  have sz_bc_13 : h0.size ≤ bc_13 := Nat.le_trans (K5).1 sq_bc_13
  have ne_b2_bc_13 : b2 ≠ bc_13 := Nat.ne_of_lt (Nat.lt_of_lt_of_le E6.lt sq_bc_13)
  have ne_b5_bc_13 : b5 ≠ bc_13 := Nat.ne_of_lt (Nat.lt_of_lt_of_le E8.lt sq_bc_13)
  have sz_bo_13 : h0.size ≤ bo_13 := Nat.le_trans (K5).1 sq_bo_13
  have ne_b2_bo_13 : b2 ≠ bo_13 := Nat.ne_of_lt (Nat.lt_of_lt_of_le E6.lt sq_bo_13)
  have ne_b5_bo_13 : b5 ≠ bo_13 := Nat.ne_of_lt (Nat.lt_of_lt_of_le E8.lt sq_bo_13)
  have sz_bh_13 : h0.size ≤ bh_13 := Nat.le_trans (K5).1 sq_bh_13
  have ne_b2_bh_13 : b2 ≠ bh_13 := Nat.ne_of_lt (Nat.lt_of_lt_of_le E6.lt sq_bh_13)
  have ne_b5_bh_13 : b5 ≠ bh_13 := Nat.ne_of_lt (Nat.lt_of_lt_of_le E8.lt sq_bh_13)
  have sz_bt_13 : h0.size ≤ bt_13 := Nat.le_trans (K5).1 sq_bt_13
  have ne_b2_bt_13 : b2 ≠ bt_13 := Nat.ne_of_lt (Nat.lt_of_lt_of_le E6.lt sq_bt_13)
  have ne_b5_bt_13 : b5 ≠ bt_13 := Nat.ne_of_lt (Nat.lt_of_lt_of_le E8.lt sq_bt_13)
  have E16 : Exa Z T13.heap b2 "[I" := E6.keep Kq13
  have E17 : Exa Z T13.heap b5 "com/example/wildsuit/wildsuit/game/Row" := E8.keep Kq13
  have G18 : own_Gi Z T13.heap b2 .int (4 : Int32) own_zero := G7.keep Kq13 (ninS ne_b2_b5 nin0)
  have sz13 : n0 ≤ T13.heap.size := Nat.le_trans sz5 Kq13.1
  have K13 : Keep h0 T13.heap [] := (K5).trans Kq13 (allS (Or.inr sz_b5) all0)
  refine own_Goes.via (T' := T13) (g' := (mkF m 23 #[.val (.int xa), .val (.int xb), .val (.int xc), .val (.int xd), .val (.int xe), .val (.int xf), .val (.int v1), .val (.ref b2), .unset, .unset, .unset, .unset, .unset, .unset, .unset, .unset, .unset, .unset] [(.ref b5)])) (fun t_ k_ => st13.trans k_) ?_
  refine own_Goes.via (T' := T13) (g' := (mkF m 25 #[.val (.int xa), .val (.int xb), .val (.int xc), .val (.int xd), .val (.int xe), .val (.int xf), .val (.int v1), .val (.ref b2), .val (.ref b5), .unset, .unset, .unset, .unset, .unset, .unset, .unset, .unset, .unset] [])) (fun t_ k_ => XS.astore X13.here hx rfl (hb hby at_23) rfl rfl (l' := #[.val (.int xa), .val (.int xb), .val (.int xc), .val (.int xd), .val (.int xe), .val (.int xf), .val (.int v1), .val (.ref b2), .val (.ref b5), .unset, .unset, .unset, .unset, .unset, .unset, .unset, .unset, .unset]) rfl k_) ?_
  refine own_Goes.via (T' := T13) (g' := (mkF m 27 #[.val (.int xa), .val (.int xb), .val (.int xc), .val (.int xd), .val (.int xe), .val (.int xf), .val (.int v1), .val (.ref b2), .val (.ref b5), .unset, .unset, .unset, .unset, .unset, .unset, .unset, .unset, .unset] [(.ref b5)])) (fun t_ k_ => XS.aload X13.here hx rfl (hb hby at_25) rfl rfl k_) ?_
  have cd27_20 : (0 : Int32) < (v1 + (1 : Int32)) := own_pl0_1 hv1 cd20_14 cd20_15
  obtain ⟨cq19, kq19, q19a, q19b, q19c⟩ := isOf hZ rfl E17
  obtain ⟨_, _, ⟨T19, L19, k19, n19⟩, -, X19, ⟨Lc19, hQ19, l19, y19, z19⟩, st19⟩ := X13.virtualBack hx (y := (⟨"com/example/wildsuit/wildsuit/game/Row", "size", "()I"⟩ : MethodName)) (z := (⟨"com/example/wildsuit/wildsuit/game/Row", "size", "()I"⟩ : MethodName)) hown (mvT hZ (hw _ (List.mem_of_getElem? (i := 20) rfl))) (mvT hZ (hw _ (List.mem_of_getElem? (i := 21) rfl))) (notFace_of_selects (args := #[]) (mvT hZ (hw _ (List.mem_of_getElem? (i := 23) rfl)))) (mvT hZ (hw _ (List.mem_of_getElem? (i := 23) rfl))) (mvT hZ (hw _ (List.mem_of_getElem? (i := 22) rfl))) (by decide) (backOf (W := 0) (rm3 l Z a0 hw [] b5 bo_13 (v1 + (1 : Int32)) own_zero T13.heap n0 sz13 pf13_1 pf13_8 cd27_20) hZ (hw _ (List.mem_of_getElem? (i := 24) rfl)) (hw _ (List.mem_of_getElem? (i := 3) rfl)) (by decide) (by decide)) q19a q19c (g := (mkF m 27 #[.val (.int xa), .val (.int xb), .val (.int xc), .val (.int xd), .val (.int xe), .val (.int xf), .val (.int v1), .val (.ref b2), .val (.ref b5), .unset, .unset, .unset, .unset, .unset, .unset, .unset, .unset, .unset] [(.ref b5)])) rfl (by rw [hml]; rfl) (Steps.refl _) (argsL := []) (rest := []) (lenOf pd_0_1 rfl) rfl (by show 2 * 0 + _ ≤ _; exact Nat.le_of_eq rfl) (hb hby at_27) (fun _ _ => ⟨rfl, rfl, (by decide : 6 + 0 ≤ _), (by decide : 125 + 0 ≤ _)⟩)
  dsimp only [Pt.U, Pt.locs, Pt.cells, Pt.slots] at X19 l19 y19 z19 st19 hQ19
  subst l19 y19 z19
  obtain ⟨rfl, Nq19, hh19⟩ := hQ19
  have N19 := Fr.app N13 Nq19
  refine own_Goes.via (T' := T19) (g' := (mkF m 30 #[.val (.int xa), .val (.int xb), .val (.int xc), .val (.int xd), .val (.int xe), .val (.int xf), .val (.int v1), .val (.ref b2), .val (.ref b5), .unset, .unset, .unset, .unset, .unset, .unset, .unset, .unset, .unset] [(.int (own_zero ((v1 + (1 : Int32)) - (1 : Int32)).toNatClampNeg))])) (fun t_ k_ => st19.trans k_) ?_
  obtain ⟨v21, hv21⟩ : ∃ z : Int32, z = (own_zero ((v1 + (1 : Int32)) - (1 : Int32)).toNatClampNeg) := ⟨_, rfl⟩
  rw [← hv21]
  refine own_Goes.via (T' := T19) (g' := (mkF m 32 #[.val (.int xa), .val (.int xb), .val (.int xc), .val (.int xd), .val (.int xe), .val (.int xf), .val (.int v1), .val (.ref b2), .val (.ref b5), .val (.int v21), .unset, .unset, .unset, .unset, .unset, .unset, .unset, .unset] [])) (fun t_ k_ => XS.istore X19.here hx rfl (hb hby at_30) rfl (l' := #[.val (.int xa), .val (.int xb), .val (.int xc), .val (.int xd), .val (.int xe), .val (.int xf), .val (.int v1), .val (.ref b2), .val (.ref b5), .val (.int v21), .unset, .unset, .unset, .unset, .unset, .unset, .unset, .unset]) rfl k_) ?_
  refine own_Goes.via (T' := T19) (g' := (mkF m 34 #[.val (.int xa), .val (.int xb), .val (.int xc), .val (.int xd), .val (.int xe), .val (.int xf), .val (.int v1), .val (.ref b2), .val (.ref b5), .val (.int v21), .unset, .unset, .unset, .unset, .unset, .unset, .unset, .unset] [(.ref b5)])) (fun t_ k_ => XS.aload X19.here hx rfl (hb hby at_32) rfl rfl k_) ?_
  refine own_Goes.via (T' := T19) (g' := (mkF m 36 #[.val (.int xa), .val (.int xb), .val (.int xc), .val (.int xd), .val (.int xe), .val (.int xf), .val (.int v1), .val (.ref b2), .val (.ref b5), .val (.int v21), .unset, .unset, .unset, .unset, .unset, .unset, .unset, .unset] [(.ref b2), (.ref b5)])) (fun t_ k_ => XS.aload X19.here hx rfl (hb hby at_34) rfl rfl k_) ?_
  refine own_Goes.via (T' := T19) (g' := (mkF m 38 #[.val (.int xa), .val (.int xb), .val (.int xc), .val (.int xd), .val (.int xe), .val (.int xf), .val (.int v1), .val (.ref b2), .val (.ref b5), .val (.int v21), .unset, .unset, .unset, .unset, .unset, .unset, .unset, .unset] [(.int v1), (.ref b2), (.ref b5)])) (fun t_ k_ => XS.iload X19.here hx rfl (hb hby at_36) rfl k_) ?_
  refine own_Goes.via (T' := T19) (g' := (mkF m 39 #[.val (.int xa), .val (.int xb), .val (.int xc), .val (.int xd), .val (.int xe), .val (.int xf), .val (.int v1), .val (.ref b2), .val (.ref b5), .val (.int v21), .unset, .unset, .unset, .unset, .unset, .unset, .unset, .unset] [(.int xb), (.int v1), (.ref b2), (.ref b5)])) (fun t_ k_ => XS.iloadN X19.here hx rfl (hb hby at_38) rfl k_) ?_
  have cd39_23 : (v1 + (1 : Int32)) = (v1 + (1 : Int32)) := rfl
  have cd39_24 : (0 : Int) ≤ 2 := by decide
  have cd39_25 : own_Inv v1 own_zero own_zero (0 : Int) := own_pl0_2 hv1 hv21 cd20_14 cd20_15 cd27_20 cd39_23 cd39_24
  obtain ⟨_, _, ⟨T22, L22, k22, n22⟩, -, X22, ⟨Lc22, hQ22, l22, y22, z22⟩, st22⟩ := Jvm.LawKit.callS X19 hx (y := (⟨"com/example/wildsuit/wildsuit/game/RowSizePinLaw", "put", "(Lcom/example/wildsuit/wildsuit/game/Row;[III)I"⟩ : MethodName)) hown (mvT hZ (hw _ (List.mem_of_getElem? (i := 25) rfl))) (mvT hZ (hw _ (List.mem_of_getElem? (i := 26) rfl))) (mvT hZ (hw _ (List.mem_of_getElem? (i := 27) rfl))) (mvT hZ (hw _ (List.mem_of_getElem? (i := 28) rfl))) (by decide) (backOf (W := 0) (rm4 l Z a0 hw [] b5 b2 v1 xb bc_13 bo_13 bh_13 bt_13 (v1 + (1 : Int32)) own_zero own_zero (0 : Int) T13.heap n0 sz13 E17 pf13_4 pf13_5 pf13_6 pf13_7 pf13_0 pf13_1 pf13_2 pf13_3 pf13_8 pf13_9 pf13_10 pf13_11 E16 G18 nq13_5 ne_b2_bo_13 ge_bc_13 ge_bo_13 ge_bh_13 ge_bt_13 ge_b2 cd39_23 cd39_24 cd39_25) hZ (hw _ (List.mem_of_getElem? (i := 28) rfl)) (hw _ (List.mem_of_getElem? (i := 27) rfl)) (by decide) (by decide)) (g := (mkF m 39 #[.val (.int xa), .val (.int xb), .val (.int xc), .val (.int xd), .val (.int xe), .val (.int xf), .val (.int v1), .val (.ref b2), .val (.ref b5), .val (.int v21), .unset, .unset, .unset, .unset, .unset, .unset, .unset, .unset] [(.int xb), (.int v1), (.ref b2), (.ref b5)])) rfl (by rw [hml]; rfl) (argsL := [(.ref b5), (.ref b2), (.int v1), (.int xb)]) (rest := []) (lenOf pd_0_2 rfl) rfl (by show 2 * 0 + _ ≤ _; exact Nat.le_of_eq rfl) (hb hby at_39) (fun _ _ => ⟨rfl, hh19, (by decide : 6 + 0 ≤ _), (by decide : 125 + 0 ≤ _)⟩)
  dsimp only [Pt.U, Pt.locs, Pt.cells, Pt.slots] at X22 l22 y22 z22 st22 hQ22
  subst l22 y22 z22
  obtain ⟨rfl, Nq22, Kq22, pf22_0, pf22_1, pf22_2, pf22_3, pf22_4⟩ := hQ22
  have N22 := Fr.app N19 Nq22
  have E26 : Exa Z T22.heap b2 "[I" := E16.keep Kq22
  have E27 : Exa Z T22.heap b5 "com/example/wildsuit/wildsuit/game/Row" := E17.keep Kq22
  have E28 : Exa Z T22.heap bc_13 "[B" := pf13_4.keep Kq22
  have E29 : Exa Z T22.heap bo_13 "[I" := pf13_5.keep Kq22
  have E30 : Exa Z T22.heap bh_13 "[J" := pf13_6.keep Kq22
  have E31 : Exa Z T22.heap bt_13 "[J" := pf13_7.keep Kq22
  have F32 : Fld Z T22.heap b5 "com/example/wildsuit/wildsuit/game/Row" "cards" "[B" (.ref bc_13) := pf13_0.keep Kq22 (ninS ne_b5_bc_13 (ninS ne_b5_bo_13 (ninS ne_b5_bh_13 (ninS ne_b5_bt_13 (ninS (Ne.symm ne_b2_b5) nin0)))))
  have F33 : Fld Z T22.heap b5 "com/example/wildsuit/wildsuit/game/Row" "borders" "[I" (.ref bo_13) := pf13_1.keep Kq22 (ninS ne_b5_bc_13 (ninS ne_b5_bo_13 (ninS ne_b5_bh_13 (ninS ne_b5_bt_13 (ninS (Ne.symm ne_b2_b5) nin0)))))
  have F34 : Fld Z T22.heap b5 "com/example/wildsuit/wildsuit/game/Row" "held" "[J" (.ref bh_13) := pf13_2.keep Kq22 (ninS ne_b5_bc_13 (ninS ne_b5_bo_13 (ninS ne_b5_bh_13 (ninS ne_b5_bt_13 (ninS (Ne.symm ne_b2_b5) nin0)))))
  have F35 : Fld Z T22.heap b5 "com/example/wildsuit/wildsuit/game/Row" "heldTwice" "[J" (.ref bt_13) := pf13_3.keep Kq22 (ninS ne_b5_bc_13 (ninS ne_b5_bo_13 (ninS ne_b5_bh_13 (ninS ne_b5_bt_13 (ninS (Ne.symm ne_b2_b5) nin0)))))
  have sz22 : n0 ≤ T22.heap.size := Nat.le_trans sz13 Kq22.1
  have K22 : Keep h0 T22.heap [] := (K13).trans Kq22 (allS (Or.inr sz_bc_13) (allS (Or.inr sz_bo_13) (allS (Or.inr sz_bh_13) (allS (Or.inr sz_bt_13) (allS (Or.inr sz_b2) all0)))))
  refine own_Goes.via (T' := T22) (g' := (mkF m 42 #[.val (.int xa), .val (.int xb), .val (.int xc), .val (.int xd), .val (.int xe), .val (.int xf), .val (.int v1), .val (.ref b2), .val (.ref b5), .val (.int v21), .unset, .unset, .unset, .unset, .unset, .unset, .unset, .unset] [(.int (own_pl xb v1))])) (st22) ?_
  obtain ⟨v36, hv36⟩ : ∃ z : Int32, z = (own_pl xb v1) := ⟨_, rfl⟩
  rw [← hv36]
  refine own_Goes.via (T' := T22) (g' := (mkF m 44 #[.val (.int xa), .val (.int xb), .val (.int xc), .val (.int xd), .val (.int xe), .val (.int xf), .val (.int v1), .val (.ref b2), .val (.ref b5), .val (.int v21), .val (.int v36), .unset, .unset, .unset, .unset, .unset, .unset, .unset] [])) (fun t_ k_ => XS.istore X22.here hx rfl (hb hby at_42) rfl (l' := #[.val (.int xa), .val (.int xb), .val (.int xc), .val (.int xd), .val (.int xe), .val (.int xf), .val (.int v1), .val (.ref b2), .val (.ref b5), .val (.int v21), .val (.int v36), .unset, .unset, .unset, .unset, .unset, .unset, .unset]) rfl k_) ?_
  refine own_Goes.via (T' := T22) (g' := (mkF m 46 #[.val (.int xa), .val (.int xb), .val (.int xc), .val (.int xd), .val (.int xe), .val (.int xf), .val (.int v1), .val (.ref b2), .val (.ref b5), .val (.int v21), .val (.int v36), .unset, .unset, .unset, .unset, .unset, .unset, .unset] [(.ref b5)])) (fun t_ k_ => XS.aload X22.here hx rfl (hb hby at_44) rfl rfl k_) ?_
  refine own_Goes.via (T' := T22) (g' := (mkF m 48 #[.val (.int xa), .val (.int xb), .val (.int xc), .val (.int xd), .val (.int xe), .val (.int xf), .val (.int v1), .val (.ref b2), .val (.ref b5), .val (.int v21), .val (.int v36), .unset, .unset, .unset, .unset, .unset, .unset, .unset] [(.ref b2), (.ref b5)])) (fun t_ k_ => XS.aload X22.here hx rfl (hb hby at_46) rfl rfl k_) ?_
  refine own_Goes.via (T' := T22) (g' := (mkF m 50 #[.val (.int xa), .val (.int xb), .val (.int xc), .val (.int xd), .val (.int xe), .val (.int xf), .val (.int v1), .val (.ref b2), .val (.ref b5), .val (.int v21), .val (.int v36), .unset, .unset, .unset, .unset, .unset, .unset, .unset] [(.int v1), (.ref b2), (.ref b5)])) (fun t_ k_ => XS.iload X22.here hx rfl (hb hby at_48) rfl k_) ?_
  refine own_Goes.via (T' := T22) (g' := (mkF m 51 #[.val (.int xa), .val (.int xb), .val (.int xc), .val (.int xd), .val (.int xe), .val (.int xf), .val (.int v1), .val (.ref b2), .val (.ref b5), .val (.int v21), .val (.int v36), .unset, .unset, .unset, .unset, .unset, .unset, .unset] [(.int xc), (.int v1), (.ref b2), (.ref b5)])) (fun t_ k_ => XS.iloadN X22.here hx rfl (hb hby at_50) rfl k_) ?_
  have cd51_38 : (v1 + (1 : Int32)) = (v1 + (1 : Int32)) := rfl
  have cd51_39 : ((0 : Int) + 1) ≤ 2 := by decide
  have cd51_40 : own_Inv v1 (own_mv own_zero (own_pl xb v1) (v1 + (1 : Int32)) (1 : Int32)) (own_up own_zero (own_pl xb v1).toNatClampNeg ((own_zero (own_pl xb v1).toNatClampNeg) + (1 : Int32))) ((0 : Int) + 1) := own_pl0_3 hv1 hv21 hv36 cd20_14 cd20_15 cd27_20 cd39_23 cd39_24 cd39_25 cd51_38 cd51_39
  obtain ⟨_, _, ⟨T37, L37, k37, n37⟩, -, X37, ⟨Lc37, hQ37, l37, y37, z37⟩, st37⟩ := Jvm.LawKit.callS X22 hx (y := (⟨"com/example/wildsuit/wildsuit/game/RowSizePinLaw", "put", "(Lcom/example/wildsuit/wildsuit/game/Row;[III)I"⟩ : MethodName)) hown (mvT hZ (hw _ (List.mem_of_getElem? (i := 25) rfl))) (mvT hZ (hw _ (List.mem_of_getElem? (i := 26) rfl))) (mvT hZ (hw _ (List.mem_of_getElem? (i := 27) rfl))) (mvT hZ (hw _ (List.mem_of_getElem? (i := 28) rfl))) (by decide) (backOf (W := 0) (rm4 l Z a0 hw [] b5 b2 v1 xc bc_13 bo_13 bh_13 bt_13 (v1 + (1 : Int32)) (own_mv own_zero (own_pl xb v1) (v1 + (1 : Int32)) (1 : Int32)) (own_up own_zero (own_pl xb v1).toNatClampNeg ((own_zero (own_pl xb v1).toNatClampNeg) + (1 : Int32))) ((0 : Int) + 1) T22.heap n0 sz22 E27 E28 E29 E30 E31 F32 F33 F34 F35 pf22_1 pf22_0 pf22_2 pf22_3 E26 pf22_4 nq13_5 ne_b2_bo_13 ge_bc_13 ge_bo_13 ge_bh_13 ge_bt_13 ge_b2 cd51_38 cd51_39 cd51_40) hZ (hw _ (List.mem_of_getElem? (i := 28) rfl)) (hw _ (List.mem_of_getElem? (i := 27) rfl)) (by decide) (by decide)) (g := (mkF m 51 #[.val (.int xa), .val (.int xb), .val (.int xc), .val (.int xd), .val (.int xe), .val (.int xf), .val (.int v1), .val (.ref b2), .val (.ref b5), .val (.int v21), .val (.int v36), .unset, .unset, .unset, .unset, .unset, .unset, .unset] [(.int xc), (.int v1), (.ref b2), (.ref b5)])) rfl (by rw [hml]; rfl) (argsL := [(.ref b5), (.ref b2), (.int v1), (.int xc)]) (rest := []) (lenOf pd_0_2 rfl) rfl (by show 2 * 0 + _ ≤ _; exact Nat.le_of_eq rfl) (hb hby at_51) (fun _ _ => ⟨rfl, rfl, (by decide : 6 + 0 ≤ _), (by decide : 125 + 0 ≤ _)⟩)
  dsimp only [Pt.U, Pt.locs, Pt.cells, Pt.slots] at X37 l37 y37 z37 st37 hQ37
  subst l37 y37 z37
  obtain ⟨rfl, Nq37, Kq37, pf37_0, pf37_1, pf37_2, pf37_3, pf37_4⟩ := hQ37
  have N37 := Fr.app N22 Nq37
  have E41 : Exa Z T37.heap b2 "[I" := E26.keep Kq37
  have E42 : Exa Z T37.heap b5 "com/example/wildsuit/wildsuit/game/Row" := E27.keep Kq37
  have E43 : Exa Z T37.heap bc_13 "[B" := E28.keep Kq37
  have E44 : Exa Z T37.heap bo_13 "[I" := E29.keep Kq37
  have E45 : Exa Z T37.heap bh_13 "[J" := E30.keep Kq37
  have E46 : Exa Z T37.heap bt_13 "[J" := E31.keep Kq37
  have F47 : Fld Z T37.heap b5 "com/example/wildsuit/wildsuit/game/Row" "cards" "[B" (.ref bc_13) := F32.keep Kq37 (ninS ne_b5_bc_13 (ninS ne_b5_bo_13 (ninS ne_b5_bh_13 (ninS ne_b5_bt_13 (ninS (Ne.symm ne_b2_b5) nin0)))))
  have F48 : Fld Z T37.heap b5 "com/example/wildsuit/wildsuit/game/Row" "borders" "[I" (.ref bo_13) := F33.keep Kq37 (ninS ne_b5_bc_13 (ninS ne_b5_bo_13 (ninS ne_b5_bh_13 (ninS ne_b5_bt_13 (ninS (Ne.symm ne_b2_b5) nin0)))))
  have F49 : Fld Z T37.heap b5 "com/example/wildsuit/wildsuit/game/Row" "held" "[J" (.ref bh_13) := F34.keep Kq37 (ninS ne_b5_bc_13 (ninS ne_b5_bo_13 (ninS ne_b5_bh_13 (ninS ne_b5_bt_13 (ninS (Ne.symm ne_b2_b5) nin0)))))
  have F50 : Fld Z T37.heap b5 "com/example/wildsuit/wildsuit/game/Row" "heldTwice" "[J" (.ref bt_13) := F35.keep Kq37 (ninS ne_b5_bc_13 (ninS ne_b5_bo_13 (ninS ne_b5_bh_13 (ninS ne_b5_bt_13 (ninS (Ne.symm ne_b2_b5) nin0)))))
  have sz37 : n0 ≤ T37.heap.size := Nat.le_trans sz22 Kq37.1
  have K37 : Keep h0 T37.heap [] := (K22).trans Kq37 (allS (Or.inr sz_bc_13) (allS (Or.inr sz_bo_13) (allS (Or.inr sz_bh_13) (allS (Or.inr sz_bt_13) (allS (Or.inr sz_b2) all0)))))
  refine own_Goes.via (T' := T37) (g' := (mkF m 54 #[.val (.int xa), .val (.int xb), .val (.int xc), .val (.int xd), .val (.int xe), .val (.int xf), .val (.int v1), .val (.ref b2), .val (.ref b5), .val (.int v21), .val (.int v36), .unset, .unset, .unset, .unset, .unset, .unset, .unset] [(.int (own_pl xc v1))])) (st37) ?_
  obtain ⟨v51, hv51⟩ : ∃ z : Int32, z = (own_pl xc v1) := ⟨_, rfl⟩
  rw [← hv51]
  refine own_Goes.via (T' := T37) (g' := (mkF m 55 #[.val (.int xa), .val (.int xb), .val (.int xc), .val (.int xd), .val (.int xe), .val (.int xf), .val (.int v1), .val (.ref b2), .val (.ref b5), .val (.int v21), .val (.int v36), .unset, .unset, .unset, .unset, .unset, .unset, .unset] [])) (fun t_ k_ => XS.pop X37.here hx rfl (hb hby at_54) rfl rfl k_) ?_
  refine own_Goes.via (T' := T37) (g' := (mkF m 57 #[.val (.int xa), .val (.int xb), .val (.int xc), .val (.int xd), .val (.int xe), .val (.int xf), .val (.int v1), .val (.ref b2), .val (.ref b5), .val (.int v21), .val (.int v36), .unset, .unset, .unset, .unset, .unset, .unset, .unset] [(.ref b5)])) (fun t_ k_ => XS.aload X37.here hx rfl (hb hby at_55) rfl rfl k_) ?_
  refine own_Goes.via (T' := T37) (g' := (mkF m 59 #[.val (.int xa), .val (.int xb), .val (.int xc), .val (.int xd), .val (.int xe), .val (.int xf), .val (.int v1), .val (.ref b2), .val (.ref b5), .val (.int v21), .val (.int v36), .unset, .unset, .unset, .unset, .unset, .unset, .unset] [(.ref b2), (.ref b5)])) (fun t_ k_ => XS.aload X37.here hx rfl (hb hby at_57) rfl rfl k_) ?_
  refine own_Goes.via (T' := T37) (g' := (mkF m 61 #[.val (.int xa), .val (.int xb), .val (.int xc), .val (.int xd), .val (.int xe), .val (.int xf), .val (.int v1), .val (.ref b2), .val (.ref b5), .val (.int v21), .val (.int v36), .unset, .unset, .unset, .unset, .unset, .unset, .unset] [(.int v1), (.ref b2), (.ref b5)])) (fun t_ k_ => XS.iload X37.here hx rfl (hb hby at_59) rfl k_) ?_
  refine own_Goes.via (T' := T37) (g' := (mkF m 62 #[.val (.int xa), .val (.int xb), .val (.int xc), .val (.int xd), .val (.int xe), .val (.int xf), .val (.int v1), .val (.ref b2), .val (.ref b5), .val (.int v21), .val (.int v36), .unset, .unset, .unset, .unset, .unset, .unset, .unset] [(.int xd), (.int v1), (.ref b2), (.ref b5)])) (fun t_ k_ => XS.iloadN X37.here hx rfl (hb hby at_61) rfl k_) ?_
  have cd62_53 : (v1 + (1 : Int32)) = (v1 + (1 : Int32)) := rfl
  have cd62_54 : (((0 : Int) + 1) + 1) ≤ 2 := by decide
  have cd62_55 : own_Inv v1 (own_mv (own_mv own_zero (own_pl xb v1) (v1 + (1 : Int32)) (1 : Int32)) (own_pl xc v1) (v1 + (1 : Int32)) (1 : Int32)) (own_up (own_up own_zero (own_pl xb v1).toNatClampNeg ((own_zero (own_pl xb v1).toNatClampNeg) + (1 : Int32))) (own_pl xc v1).toNatClampNeg (((own_up own_zero (own_pl xb v1).toNatClampNeg ((own_zero (own_pl xb v1).toNatClampNeg) + (1 : Int32))) (own_pl xc v1).toNatClampNeg) + (1 : Int32))) (((0 : Int) + 1) + 1) := own_pl0_4 hv1 hv21 hv36 hv51 cd20_14 cd20_15 cd27_20 cd39_23 cd39_24 cd39_25 cd51_38 cd51_39 cd51_40 cd62_53 cd62_54
  obtain ⟨_, _, ⟨T52, L52, k52, n52⟩, -, X52, ⟨Lc52, hQ52, l52, y52, z52⟩, st52⟩ := Jvm.LawKit.callS X37 hx (y := (⟨"com/example/wildsuit/wildsuit/game/RowSizePinLaw", "put", "(Lcom/example/wildsuit/wildsuit/game/Row;[III)I"⟩ : MethodName)) hown (mvT hZ (hw _ (List.mem_of_getElem? (i := 25) rfl))) (mvT hZ (hw _ (List.mem_of_getElem? (i := 26) rfl))) (mvT hZ (hw _ (List.mem_of_getElem? (i := 27) rfl))) (mvT hZ (hw _ (List.mem_of_getElem? (i := 28) rfl))) (by decide) (backOf (W := 0) (rm4 l Z a0 hw [] b5 b2 v1 xd bc_13 bo_13 bh_13 bt_13 (v1 + (1 : Int32)) (own_mv (own_mv own_zero (own_pl xb v1) (v1 + (1 : Int32)) (1 : Int32)) (own_pl xc v1) (v1 + (1 : Int32)) (1 : Int32)) (own_up (own_up own_zero (own_pl xb v1).toNatClampNeg ((own_zero (own_pl xb v1).toNatClampNeg) + (1 : Int32))) (own_pl xc v1).toNatClampNeg (((own_up own_zero (own_pl xb v1).toNatClampNeg ((own_zero (own_pl xb v1).toNatClampNeg) + (1 : Int32))) (own_pl xc v1).toNatClampNeg) + (1 : Int32))) (((0 : Int) + 1) + 1) T37.heap n0 sz37 E42 E43 E44 E45 E46 F47 F48 F49 F50 pf37_1 pf37_0 pf37_2 pf37_3 E41 pf37_4 nq13_5 ne_b2_bo_13 ge_bc_13 ge_bo_13 ge_bh_13 ge_bt_13 ge_b2 cd62_53 cd62_54 cd62_55) hZ (hw _ (List.mem_of_getElem? (i := 28) rfl)) (hw _ (List.mem_of_getElem? (i := 27) rfl)) (by decide) (by decide)) (g := (mkF m 62 #[.val (.int xa), .val (.int xb), .val (.int xc), .val (.int xd), .val (.int xe), .val (.int xf), .val (.int v1), .val (.ref b2), .val (.ref b5), .val (.int v21), .val (.int v36), .unset, .unset, .unset, .unset, .unset, .unset, .unset] [(.int xd), (.int v1), (.ref b2), (.ref b5)])) rfl (by rw [hml]; rfl) (argsL := [(.ref b5), (.ref b2), (.int v1), (.int xd)]) (rest := []) (lenOf pd_0_2 rfl) rfl (by show 2 * 0 + _ ≤ _; exact Nat.le_of_eq rfl) (hb hby at_62) (fun _ _ => ⟨rfl, rfl, (by decide : 6 + 0 ≤ _), (by decide : 125 + 0 ≤ _)⟩)
  dsimp only [Pt.U, Pt.locs, Pt.cells, Pt.slots] at X52 l52 y52 z52 st52 hQ52
  subst l52 y52 z52
  obtain ⟨rfl, Nq52, Kq52, pf52_0, pf52_1, pf52_2, pf52_3, pf52_4⟩ := hQ52
  have N52 := Fr.app N37 Nq52
  have E56 : Exa Z T52.heap b2 "[I" := E41.keep Kq52
  have E57 : Exa Z T52.heap b5 "com/example/wildsuit/wildsuit/game/Row" := E42.keep Kq52
  have E58 : Exa Z T52.heap bc_13 "[B" := E43.keep Kq52
  have E59 : Exa Z T52.heap bo_13 "[I" := E44.keep Kq52
  have E60 : Exa Z T52.heap bh_13 "[J" := E45.keep Kq52
  have E61 : Exa Z T52.heap bt_13 "[J" := E46.keep Kq52
  have F62 : Fld Z T52.heap b5 "com/example/wildsuit/wildsuit/game/Row" "cards" "[B" (.ref bc_13) := F47.keep Kq52 (ninS ne_b5_bc_13 (ninS ne_b5_bo_13 (ninS ne_b5_bh_13 (ninS ne_b5_bt_13 (ninS (Ne.symm ne_b2_b5) nin0)))))
  have F63 : Fld Z T52.heap b5 "com/example/wildsuit/wildsuit/game/Row" "borders" "[I" (.ref bo_13) := F48.keep Kq52 (ninS ne_b5_bc_13 (ninS ne_b5_bo_13 (ninS ne_b5_bh_13 (ninS ne_b5_bt_13 (ninS (Ne.symm ne_b2_b5) nin0)))))
  have F64 : Fld Z T52.heap b5 "com/example/wildsuit/wildsuit/game/Row" "held" "[J" (.ref bh_13) := F49.keep Kq52 (ninS ne_b5_bc_13 (ninS ne_b5_bo_13 (ninS ne_b5_bh_13 (ninS ne_b5_bt_13 (ninS (Ne.symm ne_b2_b5) nin0)))))
  have F65 : Fld Z T52.heap b5 "com/example/wildsuit/wildsuit/game/Row" "heldTwice" "[J" (.ref bt_13) := F50.keep Kq52 (ninS ne_b5_bc_13 (ninS ne_b5_bo_13 (ninS ne_b5_bh_13 (ninS ne_b5_bt_13 (ninS (Ne.symm ne_b2_b5) nin0)))))
  have sz52 : n0 ≤ T52.heap.size := Nat.le_trans sz37 Kq52.1
  have K52 : Keep h0 T52.heap [] := (K37).trans Kq52 (allS (Or.inr sz_bc_13) (allS (Or.inr sz_bo_13) (allS (Or.inr sz_bh_13) (allS (Or.inr sz_bt_13) (allS (Or.inr sz_b2) all0)))))
  refine own_Goes.via (T' := T52) (g' := (mkF m 65 #[.val (.int xa), .val (.int xb), .val (.int xc), .val (.int xd), .val (.int xe), .val (.int xf), .val (.int v1), .val (.ref b2), .val (.ref b5), .val (.int v21), .val (.int v36), .unset, .unset, .unset, .unset, .unset, .unset, .unset] [(.int (own_pl xd v1))])) (st52) ?_
  obtain ⟨v66, hv66⟩ : ∃ z : Int32, z = (own_pl xd v1) := ⟨_, rfl⟩
  rw [← hv66]
  refine own_Goes.via (T' := T52) (g' := (mkF m 66 #[.val (.int xa), .val (.int xb), .val (.int xc), .val (.int xd), .val (.int xe), .val (.int xf), .val (.int v1), .val (.ref b2), .val (.ref b5), .val (.int v21), .val (.int v36), .unset, .unset, .unset, .unset, .unset, .unset, .unset] [])) (fun t_ k_ => XS.pop X52.here hx rfl (hb hby at_65) rfl rfl k_) ?_
  have I3_ : own_Inv v1 (own_mv (own_mv (own_mv own_zero (own_pl xb v1) (v1 + (1 : Int32)) (1 : Int32)) (own_pl xc v1) (v1 + (1 : Int32)) (1 : Int32)) (own_pl xd v1) (v1 + (1 : Int32)) (1 : Int32)) (own_up (own_up (own_up own_zero (own_pl xb v1).toNatClampNeg ((own_zero (own_pl xb v1).toNatClampNeg) + (1 : Int32))) (own_pl xc v1).toNatClampNeg (((own_up own_zero (own_pl xb v1).toNatClampNeg ((own_zero (own_pl xb v1).toNatClampNeg) + (1 : Int32))) (own_pl xc v1).toNatClampNeg) + (1 : Int32))) (own_pl xd v1).toNatClampNeg (((own_up (own_up own_zero (own_pl xb v1).toNatClampNeg ((own_zero (own_pl xb v1).toNatClampNeg) + (1 : Int32))) (own_pl xc v1).toNatClampNeg (((own_up own_zero (own_pl xb v1).toNatClampNeg ((own_zero (own_pl xb v1).toNatClampNeg) + (1 : Int32))) (own_pl xc v1).toNatClampNeg) + (1 : Int32))) (own_pl xd v1).toNatClampNeg) + (1 : Int32))) (3 : Int) := own_pl0_5 hv1 hv21 hv36 hv51 hv66 cd20_14 cd20_15 cd27_20 cd39_23 cd39_24 cd39_25 cd51_38 cd51_39 cd51_40 cd62_53 cd62_54 cd62_55
  have hF_ : 1 ≤ ((own_up (own_up (own_up own_zero (own_pl xb v1).toNatClampNeg ((own_zero (own_pl xb v1).toNatClampNeg) + (1 : Int32))) (own_pl xc v1).toNatClampNeg (((own_up own_zero (own_pl xb v1).toNatClampNeg ((own_zero (own_pl xb v1).toNatClampNeg) + (1 : Int32))) (own_pl xc v1).toNatClampNeg) + (1 : Int32))) (own_pl xd v1).toNatClampNeg (((own_up (own_up own_zero (own_pl xb v1).toNatClampNeg ((own_zero (own_pl xb v1).toNatClampNeg) + (1 : Int32))) (own_pl xc v1).toNatClampNeg (((own_up own_zero (own_pl xb v1).toNatClampNeg ((own_zero (own_pl xb v1).toNatClampNeg) + (1 : Int32))) (own_pl xc v1).toNatClampNeg) + (1 : Int32))) (own_pl xd v1).toNatClampNeg) + (1 : Int32))) v36.toNatClampNeg).toInt := own_pl0_6 hv1 hv21 hv36 hv51 hv66 cd20_14 cd20_15 cd27_20 cd39_23 cd39_24 cd39_25 cd51_38 cd51_39 cd51_40 cd62_53 cd62_54 cd62_55 I3_
  obtain ⟨B3, hB3⟩ : ∃ z : Nat → Int32, z = (own_mv (own_mv (own_mv own_zero (own_pl xb v1) (v1 + (1 : Int32)) (1 : Int32)) (own_pl xc v1) (v1 + (1 : Int32)) (1 : Int32)) (own_pl xd v1) (v1 + (1 : Int32)) (1 : Int32)) := ⟨_, rfl⟩
  obtain ⟨C3, hC3⟩ : ∃ z : Nat → Int32, z = (own_up (own_up (own_up own_zero (own_pl xb v1).toNatClampNeg ((own_zero (own_pl xb v1).toNatClampNeg) + (1 : Int32))) (own_pl xc v1).toNatClampNeg (((own_up own_zero (own_pl xb v1).toNatClampNeg ((own_zero (own_pl xb v1).toNatClampNeg) + (1 : Int32))) (own_pl xc v1).toNatClampNeg) + (1 : Int32))) (own_pl xd v1).toNatClampNeg (((own_up (own_up own_zero (own_pl xb v1).toNatClampNeg ((own_zero (own_pl xb v1).toNatClampNeg) + (1 : Int32))) (own_pl xc v1).toNatClampNeg (((own_up own_zero (own_pl xb v1).toNatClampNeg ((own_zero (own_pl xb v1).toNatClampNeg) + (1 : Int32))) (own_pl xc v1).toNatClampNeg) + (1 : Int32))) (own_pl xd v1).toNatClampNeg) + (1 : Int32))) := ⟨_, rfl⟩
  have G67 : own_Gi Z T52.heap bo_13 .int (v1 + (1 : Int32)) B3 := (by rw [hB3]; exact pf52_1)
  have G68 : own_Gi Z T52.heap b2 .int (4 : Int32) C3 := (by rw [hC3]; exact pf52_4)
  have I3 : own_Inv v1 B3 C3 (3 : Int) := by rw [hB3, hC3]; exact I3_
  have hF : 1 ≤ (C3 v36.toNatClampNeg).toInt := by rw [hC3]; exact hF_
  refine own_Goes.via (T' := T52) (g' := (mkF m 68 #[.val (.int xa), .val (.int xb), .val (.int xc), .val (.int xd), .val (.int xe), .val (.int xf), .val (.int v1), .val (.ref b2), .val (.ref b5), .val (.int v21), .val (.int v36), .unset, .unset, .unset, .unset, .unset, .unset, .unset] [(.ref b5)])) (fun t_ k_ => XS.aload X52.here hx rfl (hb hby at_66) rfl rfl k_) ?_
  have cd68_70 : (0 : Int32) < (v1 + (1 : Int32)) := own_pl0_7 hv1 hv21 hv36 hv51 hv66 cd20_14 cd20_15 cd27_20 cd39_23 cd39_24 cd51_38 cd51_39 cd62_53 cd62_54 I3 hF
  obtain ⟨cq69, kq69, q69a, q69b, q69c⟩ := isOf hZ rfl E57
  obtain ⟨_, _, ⟨T69, L69, k69, n69⟩, -, X69, ⟨Lc69, hQ69, l69, y69, z69⟩, st69⟩ := X52.virtualBack hx (y := (⟨"com/example/wildsuit/wildsuit/game/Row", "size", "()I"⟩ : MethodName)) (z := (⟨"com/example/wildsuit/wildsuit/game/Row", "size", "()I"⟩ : MethodName)) hown (mvT hZ (hw _ (List.mem_of_getElem? (i := 20) rfl))) (mvT hZ (hw _ (List.mem_of_getElem? (i := 21) rfl))) (notFace_of_selects (args := #[]) (mvT hZ (hw _ (List.mem_of_getElem? (i := 23) rfl)))) (mvT hZ (hw _ (List.mem_of_getElem? (i := 23) rfl))) (mvT hZ (hw _ (List.mem_of_getElem? (i := 22) rfl))) (by decide) (backOf (W := 0) (rm3 l Z a0 hw [] b5 bo_13 (v1 + (1 : Int32)) B3 T52.heap n0 sz52 F63 G67 cd68_70) hZ (hw _ (List.mem_of_getElem? (i := 24) rfl)) (hw _ (List.mem_of_getElem? (i := 3) rfl)) (by decide) (by decide)) q69a q69c (g := (mkF m 68 #[.val (.int xa), .val (.int xb), .val (.int xc), .val (.int xd), .val (.int xe), .val (.int xf), .val (.int v1), .val (.ref b2), .val (.ref b5), .val (.int v21), .val (.int v36), .unset, .unset, .unset, .unset, .unset, .unset, .unset] [(.ref b5)])) rfl (by rw [hml]; rfl) (Steps.refl _) (argsL := []) (rest := []) (lenOf pd_0_1 rfl) rfl (by show 2 * 0 + _ ≤ _; exact Nat.le_of_eq rfl) (hb hby at_68) (fun _ _ => ⟨rfl, rfl, (by decide : 6 + 0 ≤ _), (by decide : 125 + 0 ≤ _)⟩)
  dsimp only [Pt.U, Pt.locs, Pt.cells, Pt.slots] at X69 l69 y69 z69 st69 hQ69
  subst l69 y69 z69
  obtain ⟨rfl, Nq69, hh69⟩ := hQ69
  have N69 := Fr.app N52 Nq69
  refine own_Goes.via (T' := T69) (g' := (mkF m 71 #[.val (.int xa), .val (.int xb), .val (.int xc), .val (.int xd), .val (.int xe), .val (.int xf), .val (.int v1), .val (.ref b2), .val (.ref b5), .val (.int v21), .val (.int v36), .unset, .unset, .unset, .unset, .unset, .unset, .unset] [(.int (B3 ((v1 + (1 : Int32)) - (1 : Int32)).toNatClampNeg))])) (fun t_ k_ => st69.trans k_) ?_
  obtain ⟨v71, hv71⟩ : ∃ z : Int32, z = (B3 ((v1 + (1 : Int32)) - (1 : Int32)).toNatClampNeg) := ⟨_, rfl⟩
  rw [← hv71]
  refine own_Goes.via (T' := T69) (g' := (mkF m 73 #[.val (.int xa), .val (.int xb), .val (.int xc), .val (.int xd), .val (.int xe), .val (.int xf), .val (.int v1), .val (.ref b2), .val (.ref b5), .val (.int v21), .val (.int v36), .val (.int v71), .unset, .unset, .unset, .unset, .unset, .unset] [])) (fun t_ k_ => XS.istore X69.here hx rfl (hb hby at_71) rfl (l' := #[.val (.int xa), .val (.int xb), .val (.int xc), .val (.int xd), .val (.int xe), .val (.int xf), .val (.int v1), .val (.ref b2), .val (.ref b5), .val (.int v21), .val (.int v36), .val (.int v71), .unset, .unset, .unset, .unset, .unset, .unset]) rfl k_) ?_
  refine own_Goes.via (T' := T69) (g' := (mkF m 75 #[.val (.int xa), .val (.int xb), .val (.int xc), .val (.int xd), .val (.int xe), .val (.int xf), .val (.int v1), .val (.ref b2), .val (.ref b5), .val (.int v21), .val (.int v36), .val (.int v71), .unset, .unset, .unset, .unset, .unset, .unset] [(.int v1)])) (fun t_ k_ => XS.iload X69.here hx rfl (hb hby at_73) rfl k_) ?_
  refine own_Goes.via (T' := T69) (g' := (mkF m 76 #[.val (.int xa), .val (.int xb), .val (.int xc), .val (.int xd), .val (.int xe), .val (.int xf), .val (.int v1), .val (.ref b2), .val (.ref b5), .val (.int v21), .val (.int v36), .val (.int v71), .unset, .unset, .unset, .unset, .unset, .unset] [(.int (2 : Int32)), (.int v1)])) (fun t_ k_ => XS.iconst X69.here hx rfl (hb hby at_75) k_) ?_
  by_cases hc76_72 : v1 < (2 : Int32)
  · refine own_Goes.via (T' := T69) (g' := (mkF m 175 #[.val (.int xa), .val (.int xb), .val (.int xc), .val (.int xd), .val (.int xe), .val (.int xf), .val (.int v1), .val (.ref b2), .val (.ref b5), .val (.int v21), .val (.int v36), .val (.int v71), .unset, .unset, .unset, .unset, .unset, .unset] [])) (fun t_ k_ => XS.icmpYes X69.here hx rfl (pc0 := 76) (pc' := 175) rfl (hb hby at_76) rfl (tlt hc76_72).1 (by decide) (by decide) k_) ?_
    have IX := I3
    refine own_Goes.via (T' := T69) (g' := (mkF m 177 #[.val (.int xa), .val (.int xb), .val (.int xc), .val (.int xd), .val (.int xe), .val (.int xf), .val (.int v1), .val (.ref b2), .val (.ref b5), .val (.int v21), .val (.int v36), .val (.int v71), .unset, .unset, .unset, .unset, .unset, .unset] [(.ref b5)])) (fun t_ k_ => XS.aload X69.here hx rfl (hb hby at_175) rfl rfl k_) ?_
    have cd177_74 : (0 : Int32) < (v1 + (1 : Int32)) := own_pl0_8 hv1 hv21 hv36 hv51 hv66 hv71 hc76_72 cd20_14 cd20_15 cd27_20 cd39_23 cd39_24 cd51_38 cd51_39 cd62_53 cd62_54 I3 hF cd68_70 IX
    obtain ⟨cq73, kq73, q73a, q73b, q73c⟩ := isOf hZ hh69 E57
    obtain ⟨_, _, ⟨T73, L73, k73, n73⟩, -, X73, ⟨Lc73, hQ73, l73, y73, z73⟩, st73⟩ := X69.virtualBack hx (y := (⟨"com/example/wildsuit/wildsuit/game/Row", "size", "()I"⟩ : MethodName)) (z := (⟨"com/example/wildsuit/wildsuit/game/Row", "size", "()I"⟩ : MethodName)) hown (mvT hZ (hw _ (List.mem_of_getElem? (i := 20) rfl))) (mvT hZ (hw _ (List.mem_of_getElem? (i := 21) rfl))) (notFace_of_selects (args := #[]) (mvT hZ (hw _ (List.mem_of_getElem? (i := 23) rfl)))) (mvT hZ (hw _ (List.mem_of_getElem? (i := 23) rfl))) (mvT hZ (hw _ (List.mem_of_getElem? (i := 22) rfl))) (by decide) (backOf (W := 0) (rm3 l Z a0 hw [] b5 bo_13 (v1 + (1 : Int32)) B3 T52.heap n0 sz52 F63 G67 cd177_74) hZ (hw _ (List.mem_of_getElem? (i := 24) rfl)) (hw _ (List.mem_of_getElem? (i := 3) rfl)) (by decide) (by decide)) q73a q73c (g := (mkF m 177 #[.val (.int xa), .val (.int xb), .val (.int xc), .val (.int xd), .val (.int xe), .val (.int xf), .val (.int v1), .val (.ref b2), .val (.ref b5), .val (.int v21), .val (.int v36), .val (.int v71), .unset, .unset, .unset, .unset, .unset, .unset] [(.ref b5)])) rfl (by rw [hml]; rfl) (Steps.refl _) (argsL := []) (rest := []) (lenOf pd_0_1 rfl) rfl (by show 2 * 0 + _ ≤ _; exact Nat.le_of_eq rfl) (hb hby at_177) (fun _ _ => ⟨rfl, hh69, (by decide : 6 + 0 ≤ _), (by decide : 125 + 0 ≤ _)⟩)
    dsimp only [Pt.U, Pt.locs, Pt.cells, Pt.slots] at X73 l73 y73 z73 st73 hQ73
    subst l73 y73 z73
    obtain ⟨rfl, Nq73, hh73⟩ := hQ73
    have N73 := Fr.app N69 Nq73
    refine own_Goes.via (T' := T73) (g' := (mkF m 180 #[.val (.int xa), .val (.int xb), .val (.int xc), .val (.int xd), .val (.int xe), .val (.int xf), .val (.int v1), .val (.ref b2), .val (.ref b5), .val (.int v21), .val (.int v36), .val (.int v71), .unset, .unset, .unset, .unset, .unset, .unset] [(.int (B3 ((v1 + (1 : Int32)) - (1 : Int32)).toNatClampNeg))])) (fun t_ k_ => st73.trans k_) ?_
    obtain ⟨v75, hv75⟩ : ∃ z : Int32, z = (B3 ((v1 + (1 : Int32)) - (1 : Int32)).toNatClampNeg) := ⟨_, rfl⟩
    rw [← hv75]
    refine own_Goes.via (T' := T73) (g' := (mkF m 182 #[.val (.int xa), .val (.int xb), .val (.int xc), .val (.int xd), .val (.int xe), .val (.int xf), .val (.int v1), .val (.ref b2), .val (.ref b5), .val (.int v21), .val (.int v36), .val (.int v71), .val (.int v75), .unset, .unset, .unset, .unset, .unset] [])) (fun t_ k_ => XS.istore X73.here hx rfl (hb hby at_180) rfl (l' := #[.val (.int xa), .val (.int xb), .val (.int xc), .val (.int xd), .val (.int xe), .val (.int xf), .val (.int v1), .val (.ref b2), .val (.ref b5), .val (.int v21), .val (.int v36), .val (.int v71), .val (.int v75), .unset, .unset, .unset, .unset, .unset]) rfl k_) ?_
    refine own_Goes.via (T' := T73) (g' := (mkF m 184 #[.val (.int xa), .val (.int xb), .val (.int xc), .val (.int xd), .val (.int xe), .val (.int xf), .val (.int v1), .val (.ref b2), .val (.ref b5), .val (.int v21), .val (.int v36), .val (.int v71), .val (.int v75), .unset, .unset, .unset, .unset, .unset] [(.int xf)])) (fun t_ k_ => XS.iload X73.here hx rfl (hb hby at_182) rfl k_) ?_
    refine own_Goes.via (T' := T73) (g' := (mkF m 186 #[.val (.int xa), .val (.int xb), .val (.int xc), .val (.int xd), .val (.int xe), .val (.int xf), .val (.int v1), .val (.ref b2), .val (.ref b5), .val (.int v21), .val (.int v36), .val (.int v71), .val (.int v75), .unset, .unset, .unset, .unset, .unset] [(.int (2147483647 : Int32)), (.int xf)])) (X73.ldcInt hx hown (mvT hZ (hw _ (List.mem_of_getElem? (i := 29) rfl))) (g := (mkF m 184 #[.val (.int xa), .val (.int xb), .val (.int xc), .val (.int xd), .val (.int xe), .val (.int xf), .val (.int v1), .val (.ref b2), .val (.ref b5), .val (.int v21), .val (.int v36), .val (.int v71), .val (.int v75), .unset, .unset, .unset, .unset, .unset] [(.int xf)])) rfl (hb hby at_184)) ?_
    refine own_Goes.via (T' := T73) (g' := (mkF m 187 #[.val (.int xa), .val (.int xb), .val (.int xc), .val (.int xd), .val (.int xe), .val (.int xf), .val (.int v1), .val (.ref b2), .val (.ref b5), .val (.int v21), .val (.int v36), .val (.int v71), .val (.int v75), .unset, .unset, .unset, .unset, .unset] [(.int (xf &&& (2147483647 : Int32)))])) (fun t_ k_ => XS.iand X73.here hx rfl (hb hby at_186) rfl k_) ?_
    refine own_Goes.via (T' := T73) (g' := (mkF m 189 #[.val (.int xa), .val (.int xb), .val (.int xc), .val (.int xd), .val (.int xe), .val (.int xf), .val (.int v1), .val (.ref b2), .val (.ref b5), .val (.int v21), .val (.int v36), .val (.int v71), .val (.int v75), .unset, .unset, .unset, .unset, .unset] [(.int v1), (.int (xf &&& (2147483647 : Int32)))])) (fun t_ k_ => XS.iload X73.here hx rfl (hb hby at_187) rfl k_) ?_
    have nz189_76 : v1 ≠ (0 : Int32) := own_pl0_9 hv1 hv21 hv36 hv51 hv66 hv71 hv75 hc76_72 cd20_14 cd20_15 cd27_20 cd39_23 cd39_24 cd51_38 cd51_39 cd62_53 cd62_54 I3 hF cd68_70 IX cd177_74
    refine own_Goes.via (T' := T73) (g' := (mkF m 190 #[.val (.int xa), .val (.int xb), .val (.int xc), .val (.int xd), .val (.int xe), .val (.int xf), .val (.int v1), .val (.ref b2), .val (.ref b5), .val (.int v21), .val (.int v36), .val (.int v71), .val (.int v75), .unset, .unset, .unset, .unset, .unset] [(.int ((xf &&& (2147483647 : Int32)) % v1))])) (fun t_ k_ => iremM X73 hx rfl (hb hby at_189) rfl nz189_76 k_) ?_
    refine own_Goes.via (T' := T73) (g' := (mkF m 192 #[.val (.int xa), .val (.int xb), .val (.int xc), .val (.int xd), .val (.int xe), .val (.int xf), .val (.int v1), .val (.ref b2), .val (.ref b5), .val (.int v21), .val (.int v36), .val (.int v71), .val (.int v75), .val (.int ((xf &&& (2147483647 : Int32)) % v1)), .unset, .unset, .unset, .unset] [])) (fun t_ k_ => XS.istore X73.here hx rfl (hb hby at_190) rfl (l' := #[.val (.int xa), .val (.int xb), .val (.int xc), .val (.int xd), .val (.int xe), .val (.int xf), .val (.int v1), .val (.ref b2), .val (.ref b5), .val (.int v21), .val (.int v36), .val (.int v71), .val (.int v75), .val (.int ((xf &&& (2147483647 : Int32)) % v1)), .unset, .unset, .unset, .unset]) rfl k_) ?_
    obtain ⟨v77, hv77⟩ : ∃ z : Int32, z = ((xf &&& (2147483647 : Int32)) % v1) := ⟨_, rfl⟩
    rw [← hv77]
    refine own_Goes.via (T' := T73) (g' := (mkF m 194 #[.val (.int xa), .val (.int xb), .val (.int xc), .val (.int xd), .val (.int xe), .val (.int xf), .val (.int v1), .val (.ref b2), .val (.ref b5), .val (.int v21), .val (.int v36), .val (.int v71), .val (.int v75), .val (.int v77), .unset, .unset, .unset, .unset] [(.ref b2)])) (fun t_ k_ => XS.aload X73.here hx rfl (hb hby at_192) rfl rfl k_) ?_
    refine own_Goes.via (T' := T73) (g' := (mkF m 196 #[.val (.int xa), .val (.int xb), .val (.int xc), .val (.int xd), .val (.int xe), .val (.int xf), .val (.int v1), .val (.ref b2), .val (.ref b5), .val (.int v21), .val (.int v36), .val (.int v71), .val (.int v75), .val (.int v77), .unset, .unset, .unset, .unset] [(.int v77), (.ref b2)])) (fun t_ k_ => XS.iload X73.here hx rfl (hb hby at_194) rfl k_) ?_
    have in196_79 : ¬ v77 < 0 ∧ v77 < (4 : Int32) := own_pl0_10 hv1 hv21 hv36 hv51 hv66 hv71 hv75 hv77 hc76_72 cd20_14 cd20_15 cd27_20 cd39_23 cd39_24 cd51_38 cd51_39 cd62_53 cd62_54 I3 hF cd68_70 IX cd177_74 nz189_76
    obtain ⟨cl78, Ar78, Sl78, at78⟩ := G68.rd in196_79
    refine own_Goes.via (T' := T73) (g' := (mkF m 197 #[.val (.int xa), .val (.int xb), .val (.int xc), .val (.int xd), .val (.int xe), .val (.int xf), .val (.int v1), .val (.ref b2), .val (.ref b5), .val (.int v21), .val (.int v36), .val (.int v71), .val (.int v75), .val (.int v77), .unset, .unset, .unset, .unset] [(.int (C3 v77.toNatClampNeg))])) (fun t_ k_ => X73.iaload hx (j := v77) (v := (.int (C3 v77.toNatClampNeg))) (by rw [hh73]; exact Ar78.1) (State.isArrayOf_alike hZ.alike Ar78.2.1) Ar78.2.2 (inb_of Sl78 in196_79) at78 (g := (mkF m 196 #[.val (.int xa), .val (.int xb), .val (.int xc), .val (.int xd), .val (.int xe), .val (.int xf), .val (.int v1), .val (.ref b2), .val (.ref b5), .val (.int v21), .val (.int v36), .val (.int v71), .val (.int v75), .val (.int v77), .unset, .unset, .unset, .unset] [(.int v77), (.ref b2)])) rfl rfl (hb hby at_196) _ k_) ?_
    refine own_Goes.via (T' := T73) (g' := (mkF m 199 #[.val (.int xa), .val (.int xb), .val (.int xc), .val (.int xd), .val (.int xe), .val (.int xf), .val (.int v1), .val (.ref b2), .val (.ref b5), .val (.int v21), .val (.int v36), .val (.int v71), .val (.int v75), .val (.int v77), .val (.int (C3 v77.toNatClampNeg)), .unset, .unset, .unset] [])) (fun t_ k_ => XS.istore X73.here hx rfl (hb hby at_197) rfl (l' := #[.val (.int xa), .val (.int xb), .val (.int xc), .val (.int xd), .val (.int xe), .val (.int xf), .val (.int v1), .val (.ref b2), .val (.ref b5), .val (.int v21), .val (.int v36), .val (.int v71), .val (.int v75), .val (.int v77), .val (.int (C3 v77.toNatClampNeg)), .unset, .unset, .unset]) rfl k_) ?_
    obtain ⟨v80, hv80⟩ : ∃ z : Int32, z = (C3 v77.toNatClampNeg) := ⟨_, rfl⟩
    rw [← hv80]
    refine own_Goes.via (T' := T73) (g' := (mkF m 201 #[.val (.int xa), .val (.int xb), .val (.int xc), .val (.int xd), .val (.int xe), .val (.int xf), .val (.int v1), .val (.ref b2), .val (.ref b5), .val (.int v21), .val (.int v36), .val (.int v71), .val (.int v75), .val (.int v77), .val (.int v80), .unset, .unset, .unset] [(.int xf)])) (fun t_ k_ => XS.iload X73.here hx rfl (hb hby at_199) rfl k_) ?_
    refine own_Goes.via (T' := T73) (g' := (mkF m 203 #[.val (.int xa), .val (.int xb), .val (.int xc), .val (.int xd), .val (.int xe), .val (.int xf), .val (.int v1), .val (.ref b2), .val (.ref b5), .val (.int v21), .val (.int v36), .val (.int v71), .val (.int v75), .val (.int v77), .val (.int v80), .unset, .unset, .unset] [(.int (8 : Int32)), (.int xf)])) (fun t_ k_ => XS.bipush X73.here hx rfl (hb hby at_201) k_) ?_
    refine own_Goes.via (T' := T73) (g' := (mkF m 204 #[.val (.int xa), .val (.int xb), .val (.int xc), .val (.int xd), .val (.int xe), .val (.int xf), .val (.int v1), .val (.ref b2), .val (.ref b5), .val (.int v21), .val (.int v36), .val (.int v71), .val (.int v75), .val (.int v77), .val (.int v80), .unset, .unset, .unset] [(.int ((xf.toUInt32 >>> ((8 : Int32) &&& 31).toUInt32).toInt32))])) (fun t_ k_ => XS.iushr X73.here hx rfl (hb hby at_203) rfl k_) ?_
    refine own_Goes.via (T' := T73) (g' := (mkF m 206 #[.val (.int xa), .val (.int xb), .val (.int xc), .val (.int xd), .val (.int xe), .val (.int xf), .val (.int v1), .val (.ref b2), .val (.ref b5), .val (.int v21), .val (.int v36), .val (.int v71), .val (.int v75), .val (.int v77), .val (.int v80), .unset, .unset, .unset] [(.int (7 : Int32)), (.int ((xf.toUInt32 >>> ((8 : Int32) &&& 31).toUInt32).toInt32))])) (fun t_ k_ => XS.bipush X73.here hx rfl (hb hby at_204) k_) ?_
    refine own_Goes.via (T' := T73) (g' := (mkF m 207 #[.val (.int xa), .val (.int xb), .val (.int xc), .val (.int xd), .val (.int xe), .val (.int xf), .val (.int v1), .val (.ref b2), .val (.ref b5), .val (.int v21), .val (.int v36), .val (.int v71), .val (.int v75), .val (.int v77), .val (.int v80), .unset, .unset, .unset] [(.int (((xf.toUInt32 >>> ((8 : Int32) &&& 31).toUInt32).toInt32) &&& (7 : Int32)))])) (fun t_ k_ => XS.iand X73.here hx rfl (hb hby at_206) rfl k_) ?_
    refine own_Goes.via (T' := T73) (g' := (mkF m 209 #[.val (.int xa), .val (.int xb), .val (.int xc), .val (.int xd), .val (.int xe), .val (.int xf), .val (.int v1), .val (.ref b2), .val (.ref b5), .val (.int v21), .val (.int v36), .val (.int v71), .val (.int v75), .val (.int v77), .val (.int v80), .unset, .unset, .unset] [(.int v80), (.int (((xf.toUInt32 >>> ((8 : Int32) &&& 31).toUInt32).toInt32) &&& (7 : Int32)))])) (fun t_ k_ => XS.iload X73.here hx rfl (hb hby at_207) rfl k_) ?_
    refine own_Goes.via (T' := T73) (g' := (mkF m 210 #[.val (.int xa), .val (.int xb), .val (.int xc), .val (.int xd), .val (.int xe), .val (.int xf), .val (.int v1), .val (.ref b2), .val (.ref b5), .val (.int v21), .val (.int v36), .val (.int v71), .val (.int v75), .val (.int v77), .val (.int v80), .unset, .unset, .unset] [(.int (1 : Int32)), (.int v80), (.int (((xf.toUInt32 >>> ((8 : Int32) &&& 31).toUInt32).toInt32) &&& (7 : Int32)))])) (fun t_ k_ => XS.iconst X73.here hx rfl (hb hby at_209) k_) ?_
    refine own_Goes.via (T' := T73) (g' := (mkF m 211 #[.val (.int xa), .val (.int xb), .val (.int xc), .val (.int xd), .val (.int xe), .val (.int xf), .val (.int v1), .val (.ref b2), .val (.ref b5), .val (.int v21), .val (.int v36), .val (.int v71), .val (.int v75), .val (.int v77), .val (.int v80), .unset, .unset, .unset] [(.int (v80 + (1 : Int32))), (.int (((xf.toUInt32 >>> ((8 : Int32) &&& 31).toUInt32).toInt32) &&& (7 : Int32)))])) (fun t_ k_ => XS.iadd X73.here hx rfl (hb hby at_210) rfl k_) ?_
    have nz211_81 : (v80 + (1 : Int32)) ≠ (0 : Int32) := own_pl0_11 hv1 hv21 hv36 hv51 hv66 hv71 hv75 hv77 hv80 hc76_72 cd20_14 cd20_15 cd27_20 cd39_23 cd39_24 cd51_38 cd51_39 cd62_53 cd62_54 I3 hF cd68_70 IX cd177_74 nz189_76 in196_79
    refine own_Goes.via (T' := T73) (g' := (mkF m 212 #[.val (.int xa), .val (.int xb), .val (.int xc), .val (.int xd), .val (.int xe), .val (.int xf), .val (.int v1), .val (.ref b2), .val (.ref b5), .val (.int v21), .val (.int v36), .val (.int v71), .val (.int v75), .val (.int v77), .val (.int v80), .unset, .unset, .unset] [(.int ((((xf.toUInt32 >>> ((8 : Int32) &&& 31).toUInt32).toInt32) &&& (7 : Int32)) % (v80 + (1 : Int32))))])) (fun t_ k_ => iremM X73 hx rfl (hb hby at_211) rfl nz211_81 k_) ?_
    refine own_Goes.via (T' := T73) (g' := (mkF m 214 #[.val (.int xa), .val (.int xb), .val (.int xc), .val (.int xd), .val (.int xe), .val (.int xf), .val (.int v1), .val (.ref b2), .val (.ref b5), .val (.int v21), .val (.int v36), .val (.int v71), .val (.int v75), .val (.int v77), .val (.int v80), .val (.int ((((xf.toUInt32 >>> ((8 : Int32) &&& 31).toUInt32).toInt32) &&& (7 : Int32)) % (v80 + (1 : Int32)))), .unset, .unset] [])) (fun t_ k_ => XS.istore X73.here hx rfl (hb hby at_212) rfl (l' := #[.val (.int xa), .val (.int xb), .val (.int xc), .val (.int xd), .val (.int xe), .val (.int xf), .val (.int v1), .val (.ref b2), .val (.ref b5), .val (.int v21), .val (.int v36), .val (.int v71), .val (.int v75), .val (.int v77), .val (.int v80), .val (.int ((((xf.toUInt32 >>> ((8 : Int32) &&& 31).toUInt32).toInt32) &&& (7 : Int32)) % (v80 + (1 : Int32)))), .unset, .unset]) rfl k_) ?_
    obtain ⟨v82, hv82⟩ : ∃ z : Int32, z = ((((xf.toUInt32 >>> ((8 : Int32) &&& 31).toUInt32).toInt32) &&& (7 : Int32)) % (v80 + (1 : Int32))) := ⟨_, rfl⟩
    rw [← hv82]
    refine own_Goes.via (T' := T73) (g' := (mkF m 216 #[.val (.int xa), .val (.int xb), .val (.int xc), .val (.int xd), .val (.int xe), .val (.int xf), .val (.int v1), .val (.ref b2), .val (.ref b5), .val (.int v21), .val (.int v36), .val (.int v71), .val (.int v75), .val (.int v77), .val (.int v80), .val (.int v82), .unset, .unset] [(.int v82)])) (fun t_ k_ => XS.iload X73.here hx rfl (hb hby at_214) rfl k_) ?_
    refine own_Goes.via (T' := T73) (g' := (mkF m 218 #[.val (.int xa), .val (.int xb), .val (.int xc), .val (.int xd), .val (.int xe), .val (.int xf), .val (.int v1), .val (.ref b2), .val (.ref b5), .val (.int v21), .val (.int v36), .val (.int v71), .val (.int v75), .val (.int v77), .val (.int v80), .val (.int v82), .unset, .unset] [(.int xf), (.int v82)])) (fun t_ k_ => XS.iload X73.here hx rfl (hb hby at_216) rfl k_) ?_
    refine own_Goes.via (T' := T73) (g' := (mkF m 220 #[.val (.int xa), .val (.int xb), .val (.int xc), .val (.int xd), .val (.int xe), .val (.int xf), .val (.int v1), .val (.ref b2), .val (.ref b5), .val (.int v21), .val (.int v36), .val (.int v71), .val (.int v75), .val (.int v77), .val (.int v80), .val (.int v82), .unset, .unset] [(.int (12 : Int32)), (.int xf), (.int v82)])) (fun t_ k_ => XS.bipush X73.here hx rfl (hb hby at_218) k_) ?_
    refine own_Goes.via (T' := T73) (g' := (mkF m 221 #[.val (.int xa), .val (.int xb), .val (.int xc), .val (.int xd), .val (.int xe), .val (.int xf), .val (.int v1), .val (.ref b2), .val (.ref b5), .val (.int v21), .val (.int v36), .val (.int v71), .val (.int v75), .val (.int v77), .val (.int v80), .val (.int v82), .unset, .unset] [(.int ((xf.toUInt32 >>> ((12 : Int32) &&& 31).toUInt32).toInt32)), (.int v82)])) (fun t_ k_ => XS.iushr X73.here hx rfl (hb hby at_220) rfl k_) ?_
    refine own_Goes.via (T' := T73) (g' := (mkF m 223 #[.val (.int xa), .val (.int xb), .val (.int xc), .val (.int xd), .val (.int xe), .val (.int xf), .val (.int v1), .val (.ref b2), .val (.ref b5), .val (.int v21), .val (.int v36), .val (.int v71), .val (.int v75), .val (.int v77), .val (.int v80), .val (.int v82), .unset, .unset] [(.int (7 : Int32)), (.int ((xf.toUInt32 >>> ((12 : Int32) &&& 31).toUInt32).toInt32)), (.int v82)])) (fun t_ k_ => XS.bipush X73.here hx rfl (hb hby at_221) k_) ?_
    refine own_Goes.via (T' := T73) (g' := (mkF m 224 #[.val (.int xa), .val (.int xb), .val (.int xc), .val (.int xd), .val (.int xe), .val (.int xf), .val (.int v1), .val (.ref b2), .val (.ref b5), .val (.int v21), .val (.int v36), .val (.int v71), .val (.int v75), .val (.int v77), .val (.int v80), .val (.int v82), .unset, .unset] [(.int (((xf.toUInt32 >>> ((12 : Int32) &&& 31).toUInt32).toInt32) &&& (7 : Int32))), (.int v82)])) (fun t_ k_ => XS.iand X73.here hx rfl (hb hby at_223) rfl k_) ?_
    refine own_Goes.via (T' := T73) (g' := (mkF m 226 #[.val (.int xa), .val (.int xb), .val (.int xc), .val (.int xd), .val (.int xe), .val (.int xf), .val (.int v1), .val (.ref b2), .val (.ref b5), .val (.int v21), .val (.int v36), .val (.int v71), .val (.int v75), .val (.int v77), .val (.int v80), .val (.int v82), .unset, .unset] [(.int v80), (.int (((xf.toUInt32 >>> ((12 : Int32) &&& 31).toUInt32).toInt32) &&& (7 : Int32))), (.int v82)])) (fun t_ k_ => XS.iload X73.here hx rfl (hb hby at_224) rfl k_) ?_
    refine own_Goes.via (T' := T73) (g' := (mkF m 228 #[.val (.int xa), .val (.int xb), .val (.int xc), .val (.int xd), .val (.int xe), .val (.int xf), .val (.int v1), .val (.ref b2), .val (.ref b5), .val (.int v21), .val (.int v36), .val (.int v71), .val (.int v75), .val (.int v77), .val (.int v80), .val (.int v82), .unset, .unset] [(.int v82), (.int v80), (.int (((xf.toUInt32 >>> ((12 : Int32) &&& 31).toUInt32).toInt32) &&& (7 : Int32))), (.int v82)])) (fun t_ k_ => XS.iload X73.here hx rfl (hb hby at_226) rfl k_) ?_
    refine own_Goes.via (T' := T73) (g' := (mkF m 229 #[.val (.int xa), .val (.int xb), .val (.int xc), .val (.int xd), .val (.int xe), .val (.int xf), .val (.int v1), .val (.ref b2), .val (.ref b5), .val (.int v21), .val (.int v36), .val (.int v71), .val (.int v75), .val (.int v77), .val (.int v80), .val (.int v82), .unset, .unset] [(.int (v80 - v82)), (.int (((xf.toUInt32 >>> ((12 : Int32) &&& 31).toUInt32).toInt32) &&& (7 : Int32))), (.int v82)])) (fun t_ k_ => XS.isub X73.here hx rfl (hb hby at_228) rfl k_) ?_
    refine own_Goes.via (T' := T73) (g' := (mkF m 230 #[.val (.int xa), .val (.int xb), .val (.int xc), .val (.int xd), .val (.int xe), .val (.int xf), .val (.int v1), .val (.ref b2), .val (.ref b5), .val (.int v21), .val (.int v36), .val (.int v71), .val (.int v75), .val (.int v77), .val (.int v80), .val (.int v82), .unset, .unset] [(.int (1 : Int32)), (.int (v80 - v82)), (.int (((xf.toUInt32 >>> ((12 : Int32) &&& 31).toUInt32).toInt32) &&& (7 : Int32))), (.int v82)])) (fun t_ k_ => XS.iconst X73.here hx rfl (hb hby at_229) k_) ?_
    refine own_Goes.via (T' := T73) (g' := (mkF m 231 #[.val (.int xa), .val (.int xb), .val (.int xc), .val (.int xd), .val (.int xe), .val (.int xf), .val (.int v1), .val (.ref b2), .val (.ref b5), .val (.int v21), .val (.int v36), .val (.int v71), .val (.int v75), .val (.int v77), .val (.int v80), .val (.int v82), .unset, .unset] [(.int ((v80 - v82) + (1 : Int32))), (.int (((xf.toUInt32 >>> ((12 : Int32) &&& 31).toUInt32).toInt32) &&& (7 : Int32))), (.int v82)])) (fun t_ k_ => XS.iadd X73.here hx rfl (hb hby at_230) rfl k_) ?_
    have nz231_83 : ((v80 - v82) + (1 : Int32)) ≠ (0 : Int32) := own_pl0_12 hv1 hv21 hv36 hv51 hv66 hv71 hv75 hv77 hv80 hv82 hc76_72 cd20_14 cd20_15 cd27_20 cd39_23 cd39_24 cd51_38 cd51_39 cd62_53 cd62_54 I3 hF cd68_70 IX cd177_74 nz189_76 in196_79 nz211_81
    refine own_Goes.via (T' := T73) (g' := (mkF m 232 #[.val (.int xa), .val (.int xb), .val (.int xc), .val (.int xd), .val (.int xe), .val (.int xf), .val (.int v1), .val (.ref b2), .val (.ref b5), .val (.int v21), .val (.int v36), .val (.int v71), .val (.int v75), .val (.int v77), .val (.int v80), .val (.int v82), .unset, .unset] [(.int ((((xf.toUInt32 >>> ((12 : Int32) &&& 31).toUInt32).toInt32) &&& (7 : Int32)) % ((v80 - v82) + (1 : Int32)))), (.int v82)])) (fun t_ k_ => iremM X73 hx rfl (hb hby at_231) rfl nz231_83 k_) ?_
    refine own_Goes.via (T' := T73) (g' := (mkF m 233 #[.val (.int xa), .val (.int xb), .val (.int xc), .val (.int xd), .val (.int xe), .val (.int xf), .val (.int v1), .val (.ref b2), .val (.ref b5), .val (.int v21), .val (.int v36), .val (.int v71), .val (.int v75), .val (.int v77), .val (.int v80), .val (.int v82), .unset, .unset] [(.int (v82 + ((((xf.toUInt32 >>> ((12 : Int32) &&& 31).toUInt32).toInt32) &&& (7 : Int32)) % ((v80 - v82) + (1 : Int32)))))])) (fun t_ k_ => XS.iadd X73.here hx rfl (hb hby at_232) rfl k_) ?_
    refine own_Goes.via (T' := T73) (g' := (mkF m 235 #[.val (.int xa), .val (.int xb), .val (.int xc), .val (.int xd), .val (.int xe), .val (.int xf), .val (.int v1), .val (.ref b2), .val (.ref b5), .val (.int v21), .val (.int v36), .val (.int v71), .val (.int v75), .val (.int v77), .val (.int v80), .val (.int v82), .val (.int (v82 + ((((xf.toUInt32 >>> ((12 : Int32) &&& 31).toUInt32).toInt32) &&& (7 : Int32)) % ((v80 - v82) + (1 : Int32))))), .unset] [])) (fun t_ k_ => XS.istore X73.here hx rfl (hb hby at_233) rfl (l' := #[.val (.int xa), .val (.int xb), .val (.int xc), .val (.int xd), .val (.int xe), .val (.int xf), .val (.int v1), .val (.ref b2), .val (.ref b5), .val (.int v21), .val (.int v36), .val (.int v71), .val (.int v75), .val (.int v77), .val (.int v80), .val (.int v82), .val (.int (v82 + ((((xf.toUInt32 >>> ((12 : Int32) &&& 31).toUInt32).toInt32) &&& (7 : Int32)) % ((v80 - v82) + (1 : Int32))))), .unset]) rfl k_) ?_
    obtain ⟨v84, hv84⟩ : ∃ z : Int32, z = (v82 + ((((xf.toUInt32 >>> ((12 : Int32) &&& 31).toUInt32).toInt32) &&& (7 : Int32)) % ((v80 - v82) + (1 : Int32)))) := ⟨_, rfl⟩
    rw [← hv84]
    refine own_Goes.via (T' := T73) (g' := (mkF m 237 #[.val (.int xa), .val (.int xb), .val (.int xc), .val (.int xd), .val (.int xe), .val (.int xf), .val (.int v1), .val (.ref b2), .val (.ref b5), .val (.int v21), .val (.int v36), .val (.int v71), .val (.int v75), .val (.int v77), .val (.int v80), .val (.int v82), .val (.int v84), .unset] [(.ref b5)])) (fun t_ k_ => XS.aload X73.here hx rfl (hb hby at_235) rfl rfl k_) ?_
    refine own_Goes.via (T' := T73) (g' := (mkF m 239 #[.val (.int xa), .val (.int xb), .val (.int xc), .val (.int xd), .val (.int xe), .val (.int xf), .val (.int v1), .val (.ref b2), .val (.ref b5), .val (.int v21), .val (.int v36), .val (.int v71), .val (.int v75), .val (.int v77), .val (.int v80), .val (.int v82), .val (.int v84), .unset] [(.int v77), (.ref b5)])) (fun t_ k_ => XS.iload X73.here hx rfl (hb hby at_237) rfl k_) ?_
    refine own_Goes.via (T' := T73) (g' := (mkF m 241 #[.val (.int xa), .val (.int xb), .val (.int xc), .val (.int xd), .val (.int xe), .val (.int xf), .val (.int v1), .val (.ref b2), .val (.ref b5), .val (.int v21), .val (.int v36), .val (.int v71), .val (.int v75), .val (.int v77), .val (.int v80), .val (.int v82), .val (.int v84), .unset] [(.int v82), (.int v77), (.ref b5)])) (fun t_ k_ => XS.iload X73.here hx rfl (hb hby at_239) rfl k_) ?_
    refine own_Goes.via (T' := T73) (g' := (mkF m 243 #[.val (.int xa), .val (.int xb), .val (.int xc), .val (.int xd), .val (.int xe), .val (.int xf), .val (.int v1), .val (.ref b2), .val (.ref b5), .val (.int v21), .val (.int v36), .val (.int v71), .val (.int v75), .val (.int v77), .val (.int v80), .val (.int v82), .val (.int v84), .unset] [(.int v84), (.int v82), (.int v77), (.ref b5)])) (fun t_ k_ => XS.iload X73.here hx rfl (hb hby at_241) rfl k_) ?_
    have cd243_86 : (0 : Int32) < (v1 + (1 : Int32)) := own_pl0_13 hv1 hv21 hv36 hv51 hv66 hv71 hv75 hv77 hv80 hv82 hv84 hc76_72 cd20_14 cd20_15 cd27_20 cd39_23 cd39_24 cd51_38 cd51_39 cd62_53 cd62_54 I3 hF cd68_70 IX cd177_74 nz189_76 in196_79 nz211_81 nz231_83
    have cd243_87 : ¬ v77 < 0 ∧ v77 < v1 := own_pl0_14 hv1 hv21 hv36 hv51 hv66 hv71 hv75 hv77 hv80 hv82 hv84 hc76_72 cd20_14 cd20_15 cd27_20 cd39_23 cd39_24 cd51_38 cd51_39 cd62_53 cd62_54 I3 hF cd68_70 IX cd177_74 nz189_76 in196_79 nz211_81 nz231_83 cd243_86
    have cd243_88 : ¬ v77 < 0 ∧ v77 < (v1 + (1 : Int32)) := own_pl0_15 hv1 hv21 hv36 hv51 hv66 hv71 hv75 hv77 hv80 hv82 hv84 hc76_72 cd20_14 cd20_15 cd27_20 cd39_23 cd39_24 cd51_38 cd51_39 cd62_53 cd62_54 I3 hF cd68_70 IX cd177_74 nz189_76 in196_79 nz211_81 nz231_83 cd243_86 cd243_87
    have cd243_89 : 0 ≤ ((B3 v77.toNatClampNeg) + v82).toInt ∧ 0 ≤ (v84 - v82).toInt ∧ ((B3 v77.toNatClampNeg) + v82).toInt + (v84 - v82).toInt ≤ (B3 ((v1 + (1 : Int32)) - (1 : Int32)).toNatClampNeg).toInt ∧ (B3 ((v1 + (1 : Int32)) - (1 : Int32)).toNatClampNeg).toInt ≤ 3 := own_pl0_16 hv1 hv21 hv36 hv51 hv66 hv71 hv75 hv77 hv80 hv82 hv84 hc76_72 cd20_14 cd20_15 cd27_20 cd39_23 cd39_24 cd51_38 cd51_39 cd62_53 cd62_54 I3 hF cd68_70 IX cd177_74 nz189_76 in196_79 nz211_81 nz231_83 cd243_86 cd243_87 cd243_88
    obtain ⟨cq85, kq85, q85a, q85b, q85c⟩ := isOf hZ hh73 E57
    obtain ⟨_, _, ⟨T85, L85, k85, n85⟩, -, X85, ⟨Lc85, hQ85, l85, y85, z85⟩, st85⟩ := X73.virtualBack hx (y := (⟨"com/example/wildsuit/wildsuit/game/Row", "remove", "(III)V"⟩ : MethodName)) (z := (⟨"com/example/wildsuit/wildsuit/game/Row", "remove", "(III)V"⟩ : MethodName)) hown (mvT hZ (hw _ (List.mem_of_getElem? (i := 55) rfl))) (mvT hZ (hw _ (List.mem_of_getElem? (i := 56) rfl))) (notFace_of_selects (args := #[]) (mvT hZ (hw _ (List.mem_of_getElem? (i := 58) rfl)))) (mvT hZ (hw _ (List.mem_of_getElem? (i := 58) rfl))) (mvT hZ (hw _ (List.mem_of_getElem? (i := 57) rfl))) (by decide) (backOf (W := 0) (rm10 l Z a0 hw [] b5 v77 v82 v84 bc_13 bo_13 bh_13 bt_13 (v1 + (1 : Int32)) v1 B3 T52.heap n0 sz52 E57 E58 E59 E60 E61 F62 F63 F64 F65 G67 pf52_0 pf52_2 pf52_3 nq13_5 ge_bc_13 ge_bo_13 ge_bh_13 ge_bt_13 cd243_86 cd243_87 cd243_88 cd243_89) hZ (hw _ (List.mem_of_getElem? (i := 59) rfl)) (hw _ (List.mem_of_getElem? (i := 3) rfl)) (by decide) (by decide)) q85a q85c (g := (mkF m 243 #[.val (.int xa), .val (.int xb), .val (.int xc), .val (.int xd), .val (.int xe), .val (.int xf), .val (.int v1), .val (.ref b2), .val (.ref b5), .val (.int v21), .val (.int v36), .val (.int v71), .val (.int v75), .val (.int v77), .val (.int v80), .val (.int v82), .val (.int v84), .unset] [(.int v84), (.int v82), (.int v77), (.ref b5)])) rfl (by rw [hml]; rfl) (Steps.refl _) (argsL := [(.int v77), (.int v82), (.int v84)]) (rest := []) (lenOf pd_0_3 rfl) rfl (by show 2 * 0 + _ ≤ _; exact Nat.le_of_eq rfl) (hb hby at_243) (fun _ _ => ⟨rfl, hh73, (by decide : 6 + 0 ≤ _), (by decide : 125 + 0 ≤ _)⟩)
    dsimp only [Pt.U, Pt.locs, Pt.cells, Pt.slots] at X85 l85 y85 z85 st85 hQ85
    subst l85 y85 z85
    obtain ⟨rfl, Nq85, Kq85, pf85_0, pf85_1, pf85_2, pf85_3⟩ := hQ85
    have N85 := Fr.app N73 Nq85
    have E90 : Exa Z T85.heap b2 "[I" := E56.keep Kq85
    have E91 : Exa Z T85.heap b5 "com/example/wildsuit/wildsuit/game/Row" := E57.keep Kq85
    have E92 : Exa Z T85.heap bc_13 "[B" := E58.keep Kq85
    have E93 : Exa Z T85.heap bo_13 "[I" := E59.keep Kq85
    have E94 : Exa Z T85.heap bh_13 "[J" := E60.keep Kq85
    have E95 : Exa Z T85.heap bt_13 "[J" := E61.keep Kq85
    have F96 : Fld Z T85.heap b5 "com/example/wildsuit/wildsuit/game/Row" "cards" "[B" (.ref bc_13) := F62.keep Kq85 (ninS ne_b5_bc_13 (ninS ne_b5_bo_13 (ninS ne_b5_bh_13 (ninS ne_b5_bt_13 nin0))))
    have F97 : Fld Z T85.heap b5 "com/example/wildsuit/wildsuit/game/Row" "borders" "[I" (.ref bo_13) := F63.keep Kq85 (ninS ne_b5_bc_13 (ninS ne_b5_bo_13 (ninS ne_b5_bh_13 (ninS ne_b5_bt_13 nin0))))
    have F98 : Fld Z T85.heap b5 "com/example/wildsuit/wildsuit/game/Row" "held" "[J" (.ref bh_13) := F64.keep Kq85 (ninS ne_b5_bc_13 (ninS ne_b5_bo_13 (ninS ne_b5_bh_13 (ninS ne_b5_bt_13 nin0))))
    have F99 : Fld Z T85.heap b5 "com/example/wildsuit/wildsuit/game/Row" "heldTwice" "[J" (.ref bt_13) := F65.keep Kq85 (ninS ne_b5_bc_13 (ninS ne_b5_bo_13 (ninS ne_b5_bh_13 (ninS ne_b5_bt_13 nin0))))
    have G100 : own_Gi Z T85.heap b2 .int (4 : Int32) C3 := G68.keep Kq85 (ninS ne_b2_bc_13 (ninS ne_b2_bo_13 (ninS ne_b2_bh_13 (ninS ne_b2_bt_13 nin0))))
    have sz85 : n0 ≤ T85.heap.size := Nat.le_trans sz52 Kq85.1
    have K85 : Keep h0 T85.heap [] := (K52).trans Kq85 (allS (Or.inr sz_bc_13) (allS (Or.inr sz_bo_13) (allS (Or.inr sz_bh_13) (allS (Or.inr sz_bt_13) all0))))
    refine own_Goes.via (T' := T85) (g' := (mkF m 246 #[.val (.int xa), .val (.int xb), .val (.int xc), .val (.int xd), .val (.int xe), .val (.int xf), .val (.int v1), .val (.ref b2), .val (.ref b5), .val (.int v21), .val (.int v36), .val (.int v71), .val (.int v75), .val (.int v77), .val (.int v80), .val (.int v82), .val (.int v84), .unset] [])) (fun t_ k_ => st85.trans k_) ?_
    refine own_Goes.via (T' := T85) (g' := (mkF m 248 #[.val (.int xa), .val (.int xb), .val (.int xc), .val (.int xd), .val (.int xe), .val (.int xf), .val (.int v1), .val (.ref b2), .val (.ref b5), .val (.int v21), .val (.int v36), .val (.int v71), .val (.int v75), .val (.int v77), .val (.int v80), .val (.int v82), .val (.int v84), .unset] [(.ref b5)])) (fun t_ k_ => XS.aload X85.here hx rfl (hb hby at_246) rfl rfl k_) ?_
    have cd248_102 : (0 : Int32) < (v1 + (1 : Int32)) := own_pl0_17 hv1 hv21 hv36 hv51 hv66 hv71 hv75 hv77 hv80 hv82 hv84 hc76_72 cd20_14 cd20_15 cd27_20 cd39_23 cd39_24 cd51_38 cd51_39 cd62_53 cd62_54 I3 hF cd68_70 IX cd177_74 nz189_76 in196_79 nz211_81 nz231_83 cd243_86 cd243_87 cd243_88 cd243_89
    obtain ⟨cq101, kq101, q101a, q101b, q101c⟩ := isOf hZ rfl E91
    obtain ⟨_, _, ⟨T101, L101, k101, n101⟩, -, X101, ⟨Lc101, hQ101, l101, y101, z101⟩, st101⟩ := X85.virtualBack hx (y := (⟨"com/example/wildsuit/wildsuit/game/Row", "size", "()I"⟩ : MethodName)) (z := (⟨"com/example/wildsuit/wildsuit/game/Row", "size", "()I"⟩ : MethodName)) hown (mvT hZ (hw _ (List.mem_of_getElem? (i := 20) rfl))) (mvT hZ (hw _ (List.mem_of_getElem? (i := 21) rfl))) (notFace_of_selects (args := #[]) (mvT hZ (hw _ (List.mem_of_getElem? (i := 23) rfl)))) (mvT hZ (hw _ (List.mem_of_getElem? (i := 23) rfl))) (mvT hZ (hw _ (List.mem_of_getElem? (i := 22) rfl))) (by decide) (backOf (W := 0) (rm3 l Z a0 hw [] b5 bo_13 (v1 + (1 : Int32)) (own_mv B3 v77 (v1 + (1 : Int32)) (-(v84 - v82))) T85.heap n0 sz85 F97 pf85_1 cd248_102) hZ (hw _ (List.mem_of_getElem? (i := 24) rfl)) (hw _ (List.mem_of_getElem? (i := 3) rfl)) (by decide) (by decide)) q101a q101c (g := (mkF m 248 #[.val (.int xa), .val (.int xb), .val (.int xc), .val (.int xd), .val (.int xe), .val (.int xf), .val (.int v1), .val (.ref b2), .val (.ref b5), .val (.int v21), .val (.int v36), .val (.int v71), .val (.int v75), .val (.int v77), .val (.int v80), .val (.int v82), .val (.int v84), .unset] [(.ref b5)])) rfl (by rw [hml]; rfl) (Steps.refl _) (argsL := []) (rest := []) (lenOf pd_0_1 rfl) rfl (by show 2 * 0 + _ ≤ _; exact Nat.le_of_eq rfl) (hb hby at_248) (fun _ _ => ⟨rfl, rfl, (by decide : 6 + 0 ≤ _), (by decide : 125 + 0 ≤ _)⟩)
    dsimp only [Pt.U, Pt.locs, Pt.cells, Pt.slots] at X101 l101 y101 z101 st101 hQ101
    subst l101 y101 z101
    obtain ⟨rfl, Nq101, hh101⟩ := hQ101
    have N101 := Fr.app N85 Nq101
    refine own_Goes.via (T' := T101) (g' := (mkF m 251 #[.val (.int xa), .val (.int xb), .val (.int xc), .val (.int xd), .val (.int xe), .val (.int xf), .val (.int v1), .val (.ref b2), .val (.ref b5), .val (.int v21), .val (.int v36), .val (.int v71), .val (.int v75), .val (.int v77), .val (.int v80), .val (.int v82), .val (.int v84), .unset] [(.int ((own_mv B3 v77 (v1 + (1 : Int32)) (-(v84 - v82))) ((v1 + (1 : Int32)) - (1 : Int32)).toNatClampNeg))])) (fun t_ k_ => st101.trans k_) ?_
    obtain ⟨v103, hv103⟩ : ∃ z : Int32, z = ((own_mv B3 v77 (v1 + (1 : Int32)) (-(v84 - v82))) ((v1 + (1 : Int32)) - (1 : Int32)).toNatClampNeg) := ⟨_, rfl⟩
    rw [← hv103]
    refine own_Goes.via (T' := T101) (g' := (mkF m 253 #[.val (.int xa), .val (.int xb), .val (.int xc), .val (.int xd), .val (.int xe), .val (.int xf), .val (.int v1), .val (.ref b2), .val (.ref b5), .val (.int v21), .val (.int v36), .val (.int v71), .val (.int v75), .val (.int v77), .val (.int v80), .val (.int v82), .val (.int v84), .val (.int v103)] [])) (fun t_ k_ => XS.istore X101.here hx rfl (hb hby at_251) rfl (l' := #[.val (.int xa), .val (.int xb), .val (.int xc), .val (.int xd), .val (.int xe), .val (.int xf), .val (.int v1), .val (.ref b2), .val (.ref b5), .val (.int v21), .val (.int v36), .val (.int v71), .val (.int v75), .val (.int v77), .val (.int v80), .val (.int v82), .val (.int v84), .val (.int v103)]) rfl k_) ?_
    refine own_Goes.via (T' := T101) (g' := (mkF m 255 #[.val (.int xa), .val (.int xb), .val (.int xc), .val (.int xd), .val (.int xe), .val (.int xf), .val (.int v1), .val (.ref b2), .val (.ref b5), .val (.int v21), .val (.int v36), .val (.int v71), .val (.int v75), .val (.int v77), .val (.int v80), .val (.int v82), .val (.int v84), .val (.int v103)] [(.int v21)])) (fun t_ k_ => XS.iload X101.here hx rfl (hb hby at_253) rfl k_) ?_
    suffices J287_107 : ∀ (v287_105 : Int32) (hv287_105 : v287_105 = (if v21 = (0 : Int32) then (if v71 = (3 : Int32) then (if v75 = (3 : Int32) then (if v103 = ((3 : Int32) - (v84 - v82)) then (1 : Int32) else (0 : Int32)) else (0 : Int32)) else (0 : Int32)) else (0 : Int32))), own_Goes p.tables e below P T101 (mkF m 287 #[.val (.int xa), .val (.int xb), .val (.int xc), .val (.int xd), .val (.int xe), .val (.int xf), .val (.int v1), .val (.ref b2), .val (.ref b5), .val (.int v21), .val (.int v36), .val (.int v71), .val (.int v75), .val (.int v77), .val (.int v80), .val (.int v82), .val (.int v84), .val (.int v103)] [(.int v287_105)]) by
      by_cases hc255_104 : v21 = (0 : Int32)
      · refine own_Goes.via (T' := T101) (g' := (mkF m 258 #[.val (.int xa), .val (.int xb), .val (.int xc), .val (.int xd), .val (.int xe), .val (.int xf), .val (.int v1), .val (.ref b2), .val (.ref b5), .val (.int v21), .val (.int v36), .val (.int v71), .val (.int v75), .val (.int v77), .val (.int v80), .val (.int v82), .val (.int v84), .val (.int v103)] [])) (fun t_ k_ => XS.ifNo X101.here hx rfl (hb hby at_255) rfl ((if0 _ _).trans (teq hc255_104).2) k_) ?_
        refine own_Goes.via (T' := T101) (g' := (mkF m 260 #[.val (.int xa), .val (.int xb), .val (.int xc), .val (.int xd), .val (.int xe), .val (.int xf), .val (.int v1), .val (.ref b2), .val (.ref b5), .val (.int v21), .val (.int v36), .val (.int v71), .val (.int v75), .val (.int v77), .val (.int v80), .val (.int v82), .val (.int v84), .val (.int v103)] [(.int v71)])) (fun t_ k_ => XS.iload X101.here hx rfl (hb hby at_258) rfl k_) ?_
        refine own_Goes.via (T' := T101) (g' := (mkF m 261 #[.val (.int xa), .val (.int xb), .val (.int xc), .val (.int xd), .val (.int xe), .val (.int xf), .val (.int v1), .val (.ref b2), .val (.ref b5), .val (.int v21), .val (.int v36), .val (.int v71), .val (.int v75), .val (.int v77), .val (.int v80), .val (.int v82), .val (.int v84), .val (.int v103)] [(.int (3 : Int32)), (.int v71)])) (fun t_ k_ => XS.iconst X101.here hx rfl (hb hby at_260) k_) ?_
        by_cases hc261_108 : v71 = (3 : Int32)
        · refine own_Goes.via (T' := T101) (g' := (mkF m 264 #[.val (.int xa), .val (.int xb), .val (.int xc), .val (.int xd), .val (.int xe), .val (.int xf), .val (.int v1), .val (.ref b2), .val (.ref b5), .val (.int v21), .val (.int v36), .val (.int v71), .val (.int v75), .val (.int v77), .val (.int v80), .val (.int v82), .val (.int v84), .val (.int v103)] [])) (fun t_ k_ => XS.icmpNo X101.here hx rfl (hb hby at_261) rfl (teq hc261_108).2 k_) ?_
          refine own_Goes.via (T' := T101) (g' := (mkF m 266 #[.val (.int xa), .val (.int xb), .val (.int xc), .val (.int xd), .val (.int xe), .val (.int xf), .val (.int v1), .val (.ref b2), .val (.ref b5), .val (.int v21), .val (.int v36), .val (.int v71), .val (.int v75), .val (.int v77), .val (.int v80), .val (.int v82), .val (.int v84), .val (.int v103)] [(.int v75)])) (fun t_ k_ => XS.iload X101.here hx rfl (hb hby at_264) rfl k_) ?_
          refine own_Goes.via (T' := T101) (g' := (mkF m 267 #[.val (.int xa), .val (.int xb), .val (.int xc), .val (.int xd), .val (.int xe), .val (.int xf), .val (.int v1), .val (.ref b2), .val (.ref b5), .val (.int v21), .val (.int v36), .val (.int v71), .val (.int v75), .val (.int v77), .val (.int v80), .val (.int v82), .val (.int v84), .val (.int v103)] [(.int (3 : Int32)), (.int v75)])) (fun t_ k_ => XS.iconst X101.here hx rfl (hb hby at_266) k_) ?_
          by_cases hc267_109 : v75 = (3 : Int32)
          · refine own_Goes.via (T' := T101) (g' := (mkF m 270 #[.val (.int xa), .val (.int xb), .val (.int xc), .val (.int xd), .val (.int xe), .val (.int xf), .val (.int v1), .val (.ref b2), .val (.ref b5), .val (.int v21), .val (.int v36), .val (.int v71), .val (.int v75), .val (.int v77), .val (.int v80), .val (.int v82), .val (.int v84), .val (.int v103)] [])) (fun t_ k_ => XS.icmpNo X101.here hx rfl (hb hby at_267) rfl (teq hc267_109).2 k_) ?_
            refine own_Goes.via (T' := T101) (g' := (mkF m 272 #[.val (.int xa), .val (.int xb), .val (.int xc), .val (.int xd), .val (.int xe), .val (.int xf), .val (.int v1), .val (.ref b2), .val (.ref b5), .val (.int v21), .val (.int v36), .val (.int v71), .val (.int v75), .val (.int v77), .val (.int v80), .val (.int v82), .val (.int v84), .val (.int v103)] [(.int v103)])) (fun t_ k_ => XS.iload X101.here hx rfl (hb hby at_270) rfl k_) ?_
            refine own_Goes.via (T' := T101) (g' := (mkF m 273 #[.val (.int xa), .val (.int xb), .val (.int xc), .val (.int xd), .val (.int xe), .val (.int xf), .val (.int v1), .val (.ref b2), .val (.ref b5), .val (.int v21), .val (.int v36), .val (.int v71), .val (.int v75), .val (.int v77), .val (.int v80), .val (.int v82), .val (.int v84), .val (.int v103)] [(.int (3 : Int32)), (.int v103)])) (fun t_ k_ => XS.iconst X101.here hx rfl (hb hby at_272) k_) ?_
            refine own_Goes.via (T' := T101) (g' := (mkF m 275 #[.val (.int xa), .val (.int xb), .val (.int xc), .val (.int xd), .val (.int xe), .val (.int xf), .val (.int v1), .val (.ref b2), .val (.ref b5), .val (.int v21), .val (.int v36), .val (.int v71), .val (.int v75), .val (.int v77), .val (.int v80), .val (.int v82), .val (.int v84), .val (.int v103)] [(.int v84), (.int (3 : Int32)), (.int v103)])) (fun t_ k_ => XS.iload X101.here hx rfl (hb hby at_273) rfl k_) ?_
            refine own_Goes.via (T' := T101) (g' := (mkF m 277 #[.val (.int xa), .val (.int xb), .val (.int xc), .val (.int xd), .val (.int xe), .val (.int xf), .val (.int v1), .val (.ref b2), .val (.ref b5), .val (.int v21), .val (.int v36), .val (.int v71), .val (.int v75), .val (.int v77), .val (.int v80), .val (.int v82), .val (.int v84), .val (.int v103)] [(.int v82), (.int v84), (.int (3 : Int32)), (.int v103)])) (fun t_ k_ => XS.iload X101.here hx rfl (hb hby at_275) rfl k_) ?_
            refine own_Goes.via (T' := T101) (g' := (mkF m 278 #[.val (.int xa), .val (.int xb), .val (.int xc), .val (.int xd), .val (.int xe), .val (.int xf), .val (.int v1), .val (.ref b2), .val (.ref b5), .val (.int v21), .val (.int v36), .val (.int v71), .val (.int v75), .val (.int v77), .val (.int v80), .val (.int v82), .val (.int v84), .val (.int v103)] [(.int (v84 - v82)), (.int (3 : Int32)), (.int v103)])) (fun t_ k_ => XS.isub X101.here hx rfl (hb hby at_277) rfl k_) ?_
            refine own_Goes.via (T' := T101) (g' := (mkF m 279 #[.val (.int xa), .val (.int xb), .val (.int xc), .val (.int xd), .val (.int xe), .val (.int xf), .val (.int v1), .val (.ref b2), .val (.ref b5), .val (.int v21), .val (.int v36), .val (.int v71), .val (.int v75), .val (.int v77), .val (.int v80), .val (.int v82), .val (.int v84), .val (.int v103)] [(.int ((3 : Int32) - (v84 - v82))), (.int v103)])) (fun t_ k_ => XS.isub X101.here hx rfl (hb hby at_278) rfl k_) ?_
            by_cases hc279_110 : v103 = ((3 : Int32) - (v84 - v82))
            · refine own_Goes.via (T' := T101) (g' := (mkF m 282 #[.val (.int xa), .val (.int xb), .val (.int xc), .val (.int xd), .val (.int xe), .val (.int xf), .val (.int v1), .val (.ref b2), .val (.ref b5), .val (.int v21), .val (.int v36), .val (.int v71), .val (.int v75), .val (.int v77), .val (.int v80), .val (.int v82), .val (.int v84), .val (.int v103)] [])) (fun t_ k_ => XS.icmpNo X101.here hx rfl (hb hby at_279) rfl (teq hc279_110).2 k_) ?_
              refine own_Goes.via (T' := T101) (g' := (mkF m 283 #[.val (.int xa), .val (.int xb), .val (.int xc), .val (.int xd), .val (.int xe), .val (.int xf), .val (.int v1), .val (.ref b2), .val (.ref b5), .val (.int v21), .val (.int v36), .val (.int v71), .val (.int v75), .val (.int v77), .val (.int v80), .val (.int v82), .val (.int v84), .val (.int v103)] [(.int (1 : Int32))])) (fun t_ k_ => XS.iconst X101.here hx rfl (hb hby at_282) k_) ?_
              refine own_Goes.via (T' := T101) (g' := (mkF m 287 #[.val (.int xa), .val (.int xb), .val (.int xc), .val (.int xd), .val (.int xe), .val (.int xf), .val (.int v1), .val (.ref b2), .val (.ref b5), .val (.int v21), .val (.int v36), .val (.int v71), .val (.int v75), .val (.int v77), .val (.int v80), .val (.int v82), .val (.int v84), .val (.int v103)] [(.int (1 : Int32))])) (fun t_ k_ => XS.goto X101.here hx rfl (pc0 := 283) (pc' := 287) rfl (hb hby at_283) (by decide) (by decide) k_) ?_
              exact J287_107 (1 : Int32) (((if_pos hc255_104).trans ((if_pos hc261_108).trans ((if_pos hc267_109).trans (if_pos hc279_110))))).symm
            · refine own_Goes.via (T' := T101) (g' := (mkF m 286 #[.val (.int xa), .val (.int xb), .val (.int xc), .val (.int xd), .val (.int xe), .val (.int xf), .val (.int v1), .val (.ref b2), .val (.ref b5), .val (.int v21), .val (.int v36), .val (.int v71), .val (.int v75), .val (.int v77), .val (.int v80), .val (.int v82), .val (.int v84), .val (.int v103)] [])) (fun t_ k_ => XS.icmpYes X101.here hx rfl (pc0 := 279) (pc' := 286) rfl (hb hby at_279) rfl (feq hc279_110).2 (by decide) (by decide) k_) ?_
              refine own_Goes.via (T' := T101) (g' := (mkF m 287 #[.val (.int xa), .val (.int xb), .val (.int xc), .val (.int xd), .val (.int xe), .val (.int xf), .val (.int v1), .val (.ref b2), .val (.ref b5), .val (.int v21), .val (.int v36), .val (.int v71), .val (.int v75), .val (.int v77), .val (.int v80), .val (.int v82), .val (.int v84), .val (.int v103)] [(.int (0 : Int32))])) (fun t_ k_ => XS.iconst X101.here hx rfl (hb hby at_286) k_) ?_
              exact J287_107 (0 : Int32) (((if_pos hc255_104).trans ((if_pos hc261_108).trans ((if_pos hc267_109).trans (if_neg hc279_110))))).symm
          · refine own_Goes.via (T' := T101) (g' := (mkF m 286 #[.val (.int xa), .val (.int xb), .val (.int xc), .val (.int xd), .val (.int xe), .val (.int xf), .val (.int v1), .val (.ref b2), .val (.ref b5), .val (.int v21), .val (.int v36), .val (.int v71), .val (.int v75), .val (.int v77), .val (.int v80), .val (.int v82), .val (.int v84), .val (.int v103)] [])) (fun t_ k_ => XS.icmpYes X101.here hx rfl (pc0 := 267) (pc' := 286) rfl (hb hby at_267) rfl (feq hc267_109).2 (by decide) (by decide) k_) ?_
            refine own_Goes.via (T' := T101) (g' := (mkF m 287 #[.val (.int xa), .val (.int xb), .val (.int xc), .val (.int xd), .val (.int xe), .val (.int xf), .val (.int v1), .val (.ref b2), .val (.ref b5), .val (.int v21), .val (.int v36), .val (.int v71), .val (.int v75), .val (.int v77), .val (.int v80), .val (.int v82), .val (.int v84), .val (.int v103)] [(.int (0 : Int32))])) (fun t_ k_ => XS.iconst X101.here hx rfl (hb hby at_286) k_) ?_
            exact J287_107 (0 : Int32) (((if_pos hc255_104).trans ((if_pos hc261_108).trans (if_neg hc267_109)))).symm
        · refine own_Goes.via (T' := T101) (g' := (mkF m 286 #[.val (.int xa), .val (.int xb), .val (.int xc), .val (.int xd), .val (.int xe), .val (.int xf), .val (.int v1), .val (.ref b2), .val (.ref b5), .val (.int v21), .val (.int v36), .val (.int v71), .val (.int v75), .val (.int v77), .val (.int v80), .val (.int v82), .val (.int v84), .val (.int v103)] [])) (fun t_ k_ => XS.icmpYes X101.here hx rfl (pc0 := 261) (pc' := 286) rfl (hb hby at_261) rfl (feq hc261_108).2 (by decide) (by decide) k_) ?_
          refine own_Goes.via (T' := T101) (g' := (mkF m 287 #[.val (.int xa), .val (.int xb), .val (.int xc), .val (.int xd), .val (.int xe), .val (.int xf), .val (.int v1), .val (.ref b2), .val (.ref b5), .val (.int v21), .val (.int v36), .val (.int v71), .val (.int v75), .val (.int v77), .val (.int v80), .val (.int v82), .val (.int v84), .val (.int v103)] [(.int (0 : Int32))])) (fun t_ k_ => XS.iconst X101.here hx rfl (hb hby at_286) k_) ?_
          exact J287_107 (0 : Int32) (((if_pos hc255_104).trans (if_neg hc261_108))).symm
      · refine own_Goes.via (T' := T101) (g' := (mkF m 286 #[.val (.int xa), .val (.int xb), .val (.int xc), .val (.int xd), .val (.int xe), .val (.int xf), .val (.int v1), .val (.ref b2), .val (.ref b5), .val (.int v21), .val (.int v36), .val (.int v71), .val (.int v75), .val (.int v77), .val (.int v80), .val (.int v82), .val (.int v84), .val (.int v103)] [])) (fun t_ k_ => XS.ifYes X101.here hx rfl (pc0 := 255) (pc' := 286) rfl (hb hby at_255) rfl ((if0 _ _).trans (feq hc255_104).2) (by decide) (by decide) k_) ?_
        refine own_Goes.via (T' := T101) (g' := (mkF m 287 #[.val (.int xa), .val (.int xb), .val (.int xc), .val (.int xd), .val (.int xe), .val (.int xf), .val (.int v1), .val (.ref b2), .val (.ref b5), .val (.int v21), .val (.int v36), .val (.int v71), .val (.int v75), .val (.int v77), .val (.int v80), .val (.int v82), .val (.int v84), .val (.int v103)] [(.int (0 : Int32))])) (fun t_ k_ => XS.iconst X101.here hx rfl (hb hby at_286) k_) ?_
        exact J287_107 (0 : Int32) ((if_neg hc255_104)).symm
    intro v287_105 hv287_105
    have hfin : v287_105 = 1 := own_pl0_18 hv1 hv21 hv36 hv51 hv66 hv71 hv75 hv77 hv80 hv82 hv84 hv103 hv287_105 hc76_72 cd20_14 cd20_15 cd27_20 cd39_23 cd39_24 cd51_38 cd51_39 cd62_53 cd62_54 I3 hF cd68_70 IX cd177_74 nz189_76 in196_79 nz211_81 nz231_83 cd243_86 cd243_87 cd243_88 cd243_89 cd248_102
    rw [hfin]
    obtain ⟨fs, hr, hrun, hended, hW, hsame⟩ := X101.leave (v := some (.int 1)) (fun h => by rw [Bd.returns] at h; cases h)
    refine own_Goes.fin (retN X101 hx (t := .boolean) Bd.returns (by simp) (hb hby at_287) hr) hrun hended ?_
    subst hPd
    refine ⟨_, _, rfl, ?_, ⟨_, rfl⟩, hW, hsame.mono (by decide) (by decide)⟩
    show Q0 Z xa xb xc xd xe xf h0 n0 _ T101.heap _
    rw [hh101]
    exact ⟨rfl, N101⟩
  · refine own_Goes.via (T' := T69) (g' := (mkF m 79 #[.val (.int xa), .val (.int xb), .val (.int xc), .val (.int xd), .val (.int xe), .val (.int xf), .val (.int v1), .val (.ref b2), .val (.ref b5), .val (.int v21), .val (.int v36), .val (.int v71), .unset, .unset, .unset, .unset, .unset, .unset] [])) (fun t_ k_ => XS.icmpNo X69.here hx rfl (hb hby at_76) rfl (flt hc76_72).1 k_) ?_
    refine own_Goes.via (T' := T69) (g' := (mkF m 81 #[.val (.int xa), .val (.int xb), .val (.int xc), .val (.int xd), .val (.int xe), .val (.int xf), .val (.int v1), .val (.ref b2), .val (.ref b5), .val (.int v21), .val (.int v36), .val (.int v71), .unset, .unset, .unset, .unset, .unset, .unset] [(.int xe)])) (fun t_ k_ => XS.iload X69.here hx rfl (hb hby at_79) rfl k_) ?_
    refine own_Goes.via (T' := T69) (g' := (mkF m 83 #[.val (.int xa), .val (.int xb), .val (.int xc), .val (.int xd), .val (.int xe), .val (.int xf), .val (.int v1), .val (.ref b2), .val (.ref b5), .val (.int v21), .val (.int v36), .val (.int v71), .unset, .unset, .unset, .unset, .unset, .unset] [(.int (2147483647 : Int32)), (.int xe)])) (X69.ldcInt hx hown (mvT hZ (hw _ (List.mem_of_getElem? (i := 29) rfl))) (g := (mkF m 81 #[.val (.int xa), .val (.int xb), .val (.int xc), .val (.int xd), .val (.int xe), .val (.int xf), .val (.int v1), .val (.ref b2), .val (.ref b5), .val (.int v21), .val (.int v36), .val (.int v71), .unset, .unset, .unset, .unset, .unset, .unset] [(.int xe)])) rfl (hb hby at_81)) ?_
    refine own_Goes.via (T' := T69) (g' := (mkF m 84 #[.val (.int xa), .val (.int xb), .val (.int xc), .val (.int xd), .val (.int xe), .val (.int xf), .val (.int v1), .val (.ref b2), .val (.ref b5), .val (.int v21), .val (.int v36), .val (.int v71), .unset, .unset, .unset, .unset, .unset, .unset] [(.int (xe &&& (2147483647 : Int32)))])) (fun t_ k_ => XS.iand X69.here hx rfl (hb hby at_83) rfl k_) ?_
    refine own_Goes.via (T' := T69) (g' := (mkF m 86 #[.val (.int xa), .val (.int xb), .val (.int xc), .val (.int xd), .val (.int xe), .val (.int xf), .val (.int v1), .val (.ref b2), .val (.ref b5), .val (.int v21), .val (.int v36), .val (.int v71), .unset, .unset, .unset, .unset, .unset, .unset] [(.int v1), (.int (xe &&& (2147483647 : Int32)))])) (fun t_ k_ => XS.iload X69.here hx rfl (hb hby at_84) rfl k_) ?_
    have nz86_111 : v1 ≠ (0 : Int32) := own_pl0_19 hv1 hv21 hv36 hv51 hv66 hv71 hc76_72 cd20_14 cd20_15 cd27_20 cd39_23 cd39_24 cd51_38 cd51_39 cd62_53 cd62_54 I3 hF cd68_70
    refine own_Goes.via (T' := T69) (g' := (mkF m 87 #[.val (.int xa), .val (.int xb), .val (.int xc), .val (.int xd), .val (.int xe), .val (.int xf), .val (.int v1), .val (.ref b2), .val (.ref b5), .val (.int v21), .val (.int v36), .val (.int v71), .unset, .unset, .unset, .unset, .unset, .unset] [(.int ((xe &&& (2147483647 : Int32)) % v1))])) (fun t_ k_ => iremM X69 hx rfl (hb hby at_86) rfl nz86_111 k_) ?_
    refine own_Goes.via (T' := T69) (g' := (mkF m 89 #[.val (.int xa), .val (.int xb), .val (.int xc), .val (.int xd), .val (.int xe), .val (.int xf), .val (.int v1), .val (.ref b2), .val (.ref b5), .val (.int v21), .val (.int v36), .val (.int v71), .val (.int ((xe &&& (2147483647 : Int32)) % v1)), .unset, .unset, .unset, .unset, .unset] [])) (fun t_ k_ => XS.istore X69.here hx rfl (hb hby at_87) rfl (l' := #[.val (.int xa), .val (.int xb), .val (.int xc), .val (.int xd), .val (.int xe), .val (.int xf), .val (.int v1), .val (.ref b2), .val (.ref b5), .val (.int v21), .val (.int v36), .val (.int v71), .val (.int ((xe &&& (2147483647 : Int32)) % v1)), .unset, .unset, .unset, .unset, .unset]) rfl k_) ?_
    obtain ⟨v112, hv112⟩ : ∃ z : Int32, z = ((xe &&& (2147483647 : Int32)) % v1) := ⟨_, rfl⟩
    rw [← hv112]
    refine own_Goes.via (T' := T69) (g' := (mkF m 91 #[.val (.int xa), .val (.int xb), .val (.int xc), .val (.int xd), .val (.int xe), .val (.int xf), .val (.int v1), .val (.ref b2), .val (.ref b5), .val (.int v21), .val (.int v36), .val (.int v71), .val (.int v112), .unset, .unset, .unset, .unset, .unset] [(.ref b2)])) (fun t_ k_ => XS.aload X69.here hx rfl (hb hby at_89) rfl rfl k_) ?_
    refine own_Goes.via (T' := T69) (g' := (mkF m 93 #[.val (.int xa), .val (.int xb), .val (.int xc), .val (.int xd), .val (.int xe), .val (.int xf), .val (.int v1), .val (.ref b2), .val (.ref b5), .val (.int v21), .val (.int v36), .val (.int v71), .val (.int v112), .unset, .unset, .unset, .unset, .unset] [(.int v112), (.ref b2)])) (fun t_ k_ => XS.iload X69.here hx rfl (hb hby at_91) rfl k_) ?_
    have in93_114 : ¬ v112 < 0 ∧ v112 < (4 : Int32) := own_pl0_20 hv1 hv21 hv36 hv51 hv66 hv71 hv112 hc76_72 cd20_14 cd20_15 cd27_20 cd39_23 cd39_24 cd51_38 cd51_39 cd62_53 cd62_54 I3 hF cd68_70 nz86_111
    obtain ⟨cl113, Ar113, Sl113, at113⟩ := G68.rd in93_114
    refine own_Goes.via (T' := T69) (g' := (mkF m 94 #[.val (.int xa), .val (.int xb), .val (.int xc), .val (.int xd), .val (.int xe), .val (.int xf), .val (.int v1), .val (.ref b2), .val (.ref b5), .val (.int v21), .val (.int v36), .val (.int v71), .val (.int v112), .unset, .unset, .unset, .unset, .unset] [(.int (C3 v112.toNatClampNeg))])) (fun t_ k_ => X69.iaload hx (j := v112) (v := (.int (C3 v112.toNatClampNeg))) (by rw [hh69]; exact Ar113.1) (State.isArrayOf_alike hZ.alike Ar113.2.1) Ar113.2.2 (inb_of Sl113 in93_114) at113 (g := (mkF m 93 #[.val (.int xa), .val (.int xb), .val (.int xc), .val (.int xd), .val (.int xe), .val (.int xf), .val (.int v1), .val (.ref b2), .val (.ref b5), .val (.int v21), .val (.int v36), .val (.int v71), .val (.int v112), .unset, .unset, .unset, .unset, .unset] [(.int v112), (.ref b2)])) rfl rfl (hb hby at_93) _ k_) ?_
    suffices J101_118 : ∀ (v101_116 : Int32) (hv101_116 : v101_116 = (if (C3 v112.toNatClampNeg) = (0 : Int32) then v36 else v112)), own_Goes p.tables e below P T69 (mkF m 101 #[.val (.int xa), .val (.int xb), .val (.int xc), .val (.int xd), .val (.int xe), .val (.int xf), .val (.int v1), .val (.ref b2), .val (.ref b5), .val (.int v21), .val (.int v36), .val (.int v71), .val (.int v101_116), .unset, .unset, .unset, .unset, .unset] []) by
      by_cases hc94_115 : (C3 v112.toNatClampNeg) = (0 : Int32)
      · refine own_Goes.via (T' := T69) (g' := (mkF m 97 #[.val (.int xa), .val (.int xb), .val (.int xc), .val (.int xd), .val (.int xe), .val (.int xf), .val (.int v1), .val (.ref b2), .val (.ref b5), .val (.int v21), .val (.int v36), .val (.int v71), .val (.int v112), .unset, .unset, .unset, .unset, .unset] [])) (fun t_ k_ => XS.ifNo X69.here hx rfl (hb hby at_94) rfl ((if0 _ _).trans (teq hc94_115).2) k_) ?_
        refine own_Goes.via (T' := T69) (g' := (mkF m 99 #[.val (.int xa), .val (.int xb), .val (.int xc), .val (.int xd), .val (.int xe), .val (.int xf), .val (.int v1), .val (.ref b2), .val (.ref b5), .val (.int v21), .val (.int v36), .val (.int v71), .val (.int v112), .unset, .unset, .unset, .unset, .unset] [(.int v36)])) (fun t_ k_ => XS.iload X69.here hx rfl (hb hby at_97) rfl k_) ?_
        refine own_Goes.via (T' := T69) (g' := (mkF m 101 #[.val (.int xa), .val (.int xb), .val (.int xc), .val (.int xd), .val (.int xe), .val (.int xf), .val (.int v1), .val (.ref b2), .val (.ref b5), .val (.int v21), .val (.int v36), .val (.int v71), .val (.int v36), .unset, .unset, .unset, .unset, .unset] [])) (fun t_ k_ => XS.istore X69.here hx rfl (hb hby at_99) rfl (l' := #[.val (.int xa), .val (.int xb), .val (.int xc), .val (.int xd), .val (.int xe), .val (.int xf), .val (.int v1), .val (.ref b2), .val (.ref b5), .val (.int v21), .val (.int v36), .val (.int v71), .val (.int v36), .unset, .unset, .unset, .unset, .unset]) rfl k_) ?_
        exact J101_118 v36 ((if_pos hc94_115)).symm
      · refine own_Goes.via (T' := T69) (g' := (mkF m 101 #[.val (.int xa), .val (.int xb), .val (.int xc), .val (.int xd), .val (.int xe), .val (.int xf), .val (.int v1), .val (.ref b2), .val (.ref b5), .val (.int v21), .val (.int v36), .val (.int v71), .val (.int v112), .unset, .unset, .unset, .unset, .unset] [])) (fun t_ k_ => XS.ifYes X69.here hx rfl (pc0 := 94) (pc' := 101) rfl (hb hby at_94) rfl ((if0 _ _).trans (feq hc94_115).2) (by decide) (by decide) k_) ?_
        exact J101_118 v112 ((if_neg hc94_115)).symm
    intro v101_116 hv101_116
    have HFR : (0 ≤ v101_116.toInt ∧ v101_116.toInt < v1.toInt) ∧ 1 ≤ (C3 v101_116.toNatClampNeg).toInt := own_pl0_21 hv1 hv21 hv36 hv51 hv66 hv71 hv112 hv101_116 hc76_72 cd20_14 cd20_15 cd27_20 cd39_23 cd39_24 cd51_38 cd51_39 cd62_53 cd62_54 I3 hF cd68_70 nz86_111 in93_114
    refine own_Goes.via (T' := T69) (g' := (mkF m 103 #[.val (.int xa), .val (.int xb), .val (.int xc), .val (.int xd), .val (.int xe), .val (.int xf), .val (.int v1), .val (.ref b2), .val (.ref b5), .val (.int v21), .val (.int v36), .val (.int v71), .val (.int v101_116), .unset, .unset, .unset, .unset, .unset] [(.int v101_116)])) (fun t_ k_ => XS.iload X69.here hx rfl (hb hby at_101) rfl k_) ?_
    refine own_Goes.via (T' := T69) (g' := (mkF m 104 #[.val (.int xa), .val (.int xb), .val (.int xc), .val (.int xd), .val (.int xe), .val (.int xf), .val (.int v1), .val (.ref b2), .val (.ref b5), .val (.int v21), .val (.int v36), .val (.int v71), .val (.int v101_116), .unset, .unset, .unset, .unset, .unset] [(.int (1 : Int32)), (.int v101_116)])) (fun t_ k_ => XS.iconst X69.here hx rfl (hb hby at_103) k_) ?_
    refine own_Goes.via (T' := T69) (g' := (mkF m 105 #[.val (.int xa), .val (.int xb), .val (.int xc), .val (.int xd), .val (.int xe), .val (.int xf), .val (.int v1), .val (.ref b2), .val (.ref b5), .val (.int v21), .val (.int v36), .val (.int v71), .val (.int v101_116), .unset, .unset, .unset, .unset, .unset] [(.int (v101_116 + (1 : Int32)))])) (fun t_ k_ => XS.iadd X69.here hx rfl (hb hby at_104) rfl k_) ?_
    refine own_Goes.via (T' := T69) (g' := (mkF m 107 #[.val (.int xa), .val (.int xb), .val (.int xc), .val (.int xd), .val (.int xe), .val (.int xf), .val (.int v1), .val (.ref b2), .val (.ref b5), .val (.int v21), .val (.int v36), .val (.int v71), .val (.int v101_116), .unset, .unset, .unset, .unset, .unset] [(.int xe), (.int (v101_116 + (1 : Int32)))])) (fun t_ k_ => XS.iload X69.here hx rfl (hb hby at_105) rfl k_) ?_
    refine own_Goes.via (T' := T69) (g' := (mkF m 109 #[.val (.int xa), .val (.int xb), .val (.int xc), .val (.int xd), .val (.int xe), .val (.int xf), .val (.int v1), .val (.ref b2), .val (.ref b5), .val (.int v21), .val (.int v36), .val (.int v71), .val (.int v101_116), .unset, .unset, .unset, .unset, .unset] [(.int (8 : Int32)), (.int xe), (.int (v101_116 + (1 : Int32)))])) (fun t_ k_ => XS.bipush X69.here hx rfl (hb hby at_107) k_) ?_
    refine own_Goes.via (T' := T69) (g' := (mkF m 110 #[.val (.int xa), .val (.int xb), .val (.int xc), .val (.int xd), .val (.int xe), .val (.int xf), .val (.int v1), .val (.ref b2), .val (.ref b5), .val (.int v21), .val (.int v36), .val (.int v71), .val (.int v101_116), .unset, .unset, .unset, .unset, .unset] [(.int ((xe.toUInt32 >>> ((8 : Int32) &&& 31).toUInt32).toInt32)), (.int (v101_116 + (1 : Int32)))])) (fun t_ k_ => XS.iushr X69.here hx rfl (hb hby at_109) rfl k_) ?_
    refine own_Goes.via (T' := T69) (g' := (mkF m 112 #[.val (.int xa), .val (.int xb), .val (.int xc), .val (.int xd), .val (.int xe), .val (.int xf), .val (.int v1), .val (.ref b2), .val (.ref b5), .val (.int v21), .val (.int v36), .val (.int v71), .val (.int v101_116), .unset, .unset, .unset, .unset, .unset] [(.int (2147483647 : Int32)), (.int ((xe.toUInt32 >>> ((8 : Int32) &&& 31).toUInt32).toInt32)), (.int (v101_116 + (1 : Int32)))])) (X69.ldcInt hx hown (mvT hZ (hw _ (List.mem_of_getElem? (i := 29) rfl))) (g := (mkF m 110 #[.val (.int xa), .val (.int xb), .val (.int xc), .val (.int xd), .val (.int xe), .val (.int xf), .val (.int v1), .val (.ref b2), .val (.ref b5), .val (.int v21), .val (.int v36), .val (.int v71), .val (.int v101_116), .unset, .unset, .unset, .unset, .unset] [(.int ((xe.toUInt32 >>> ((8 : Int32) &&& 31).toUInt32).toInt32)), (.int (v101_116 + (1 : Int32)))])) rfl (hb hby at_110)) ?_
    refine own_Goes.via (T' := T69) (g' := (mkF m 113 #[.val (.int xa), .val (.int xb), .val (.int xc), .val (.int xd), .val (.int xe), .val (.int xf), .val (.int v1), .val (.ref b2), .val (.ref b5), .val (.int v21), .val (.int v36), .val (.int v71), .val (.int v101_116), .unset, .unset, .unset, .unset, .unset] [(.int (((xe.toUInt32 >>> ((8 : Int32) &&& 31).toUInt32).toInt32) &&& (2147483647 : Int32))), (.int (v101_116 + (1 : Int32)))])) (fun t_ k_ => XS.iand X69.here hx rfl (hb hby at_112) rfl k_) ?_
    refine own_Goes.via (T' := T69) (g' := (mkF m 115 #[.val (.int xa), .val (.int xb), .val (.int xc), .val (.int xd), .val (.int xe), .val (.int xf), .val (.int v1), .val (.ref b2), .val (.ref b5), .val (.int v21), .val (.int v36), .val (.int v71), .val (.int v101_116), .unset, .unset, .unset, .unset, .unset] [(.int v1), (.int (((xe.toUInt32 >>> ((8 : Int32) &&& 31).toUInt32).toInt32) &&& (2147483647 : Int32))), (.int (v101_116 + (1 : Int32)))])) (fun t_ k_ => XS.iload X69.here hx rfl (hb hby at_113) rfl k_) ?_
    refine own_Goes.via (T' := T69) (g' := (mkF m 116 #[.val (.int xa), .val (.int xb), .val (.int xc), .val (.int xd), .val (.int xe), .val (.int xf), .val (.int v1), .val (.ref b2), .val (.ref b5), .val (.int v21), .val (.int v36), .val (.int v71), .val (.int v101_116), .unset, .unset, .unset, .unset, .unset] [(.int (1 : Int32)), (.int v1), (.int (((xe.toUInt32 >>> ((8 : Int32) &&& 31).toUInt32).toInt32) &&& (2147483647 : Int32))), (.int (v101_116 + (1 : Int32)))])) (fun t_ k_ => XS.iconst X69.here hx rfl (hb hby at_115) k_) ?_
    refine own_Goes.via (T' := T69) (g' := (mkF m 117 #[.val (.int xa), .val (.int xb), .val (.int xc), .val (.int xd), .val (.int xe), .val (.int xf), .val (.int v1), .val (.ref b2), .val (.ref b5), .val (.int v21), .val (.int v36), .val (.int v71), .val (.int v101_116), .unset, .unset, .unset, .unset, .unset] [(.int (v1 - (1 : Int32))), (.int (((xe.toUInt32 >>> ((8 : Int32) &&& 31).toUInt32).toInt32) &&& (2147483647 : Int32))), (.int (v101_116 + (1 : Int32)))])) (fun t_ k_ => XS.isub X69.here hx rfl (hb hby at_116) rfl k_) ?_
    have nz117_119 : (v1 - (1 : Int32)) ≠ (0 : Int32) := own_pl0_22 hv1 hv21 hv36 hv51 hv66 hv71 hv112 hv101_116 hc76_72 cd20_14 cd20_15 cd27_20 cd39_23 cd39_24 cd51_38 cd51_39 cd62_53 cd62_54 I3 hF cd68_70 nz86_111 in93_114 HFR
    refine own_Goes.via (T' := T69) (g' := (mkF m 118 #[.val (.int xa), .val (.int xb), .val (.int xc), .val (.int xd), .val (.int xe), .val (.int xf), .val (.int v1), .val (.ref b2), .val (.ref b5), .val (.int v21), .val (.int v36), .val (.int v71), .val (.int v101_116), .unset, .unset, .unset, .unset, .unset] [(.int ((((xe.toUInt32 >>> ((8 : Int32) &&& 31).toUInt32).toInt32) &&& (2147483647 : Int32)) % (v1 - (1 : Int32)))), (.int (v101_116 + (1 : Int32)))])) (fun t_ k_ => iremM X69 hx rfl (hb hby at_117) rfl nz117_119 k_) ?_
    refine own_Goes.via (T' := T69) (g' := (mkF m 119 #[.val (.int xa), .val (.int xb), .val (.int xc), .val (.int xd), .val (.int xe), .val (.int xf), .val (.int v1), .val (.ref b2), .val (.ref b5), .val (.int v21), .val (.int v36), .val (.int v71), .val (.int v101_116), .unset, .unset, .unset, .unset, .unset] [(.int ((v101_116 + (1 : Int32)) + ((((xe.toUInt32 >>> ((8 : Int32) &&& 31).toUInt32).toInt32) &&& (2147483647 : Int32)) % (v1 - (1 : Int32)))))])) (fun t_ k_ => XS.iadd X69.here hx rfl (hb hby at_118) rfl k_) ?_
    refine own_Goes.via (T' := T69) (g' := (mkF m 121 #[.val (.int xa), .val (.int xb), .val (.int xc), .val (.int xd), .val (.int xe), .val (.int xf), .val (.int v1), .val (.ref b2), .val (.ref b5), .val (.int v21), .val (.int v36), .val (.int v71), .val (.int v101_116), .unset, .unset, .unset, .unset, .unset] [(.int v1), (.int ((v101_116 + (1 : Int32)) + ((((xe.toUInt32 >>> ((8 : Int32) &&& 31).toUInt32).toInt32) &&& (2147483647 : Int32)) % (v1 - (1 : Int32)))))])) (fun t_ k_ => XS.iload X69.here hx rfl (hb hby at_119) rfl k_) ?_
    have nz121_120 : v1 ≠ (0 : Int32) := own_pl0_23 hv1 hv21 hv36 hv51 hv66 hv71 hv112 hv101_116 hc76_72 cd20_14 cd20_15 cd27_20 cd39_23 cd39_24 cd51_38 cd51_39 cd62_53 cd62_54 I3 hF cd68_70 nz86_111 in93_114 HFR nz117_119
    refine own_Goes.via (T' := T69) (g' := (mkF m 122 #[.val (.int xa), .val (.int xb), .val (.int xc), .val (.int xd), .val (.int xe), .val (.int xf), .val (.int v1), .val (.ref b2), .val (.ref b5), .val (.int v21), .val (.int v36), .val (.int v71), .val (.int v101_116), .unset, .unset, .unset, .unset, .unset] [(.int (((v101_116 + (1 : Int32)) + ((((xe.toUInt32 >>> ((8 : Int32) &&& 31).toUInt32).toInt32) &&& (2147483647 : Int32)) % (v1 - (1 : Int32)))) % v1))])) (fun t_ k_ => iremM X69 hx rfl (hb hby at_121) rfl nz121_120 k_) ?_
    refine own_Goes.via (T' := T69) (g' := (mkF m 124 #[.val (.int xa), .val (.int xb), .val (.int xc), .val (.int xd), .val (.int xe), .val (.int xf), .val (.int v1), .val (.ref b2), .val (.ref b5), .val (.int v21), .val (.int v36), .val (.int v71), .val (.int v101_116), .val (.int (((v101_116 + (1 : Int32)) + ((((xe.toUInt32 >>> ((8 : Int32) &&& 31).toUInt32).toInt32) &&& (2147483647 : Int32)) % (v1 - (1 : Int32)))) % v1)), .unset, .unset, .unset, .unset] [])) (fun t_ k_ => XS.istore X69.here hx rfl (hb hby at_122) rfl (l' := #[.val (.int xa), .val (.int xb), .val (.int xc), .val (.int xd), .val (.int xe), .val (.int xf), .val (.int v1), .val (.ref b2), .val (.ref b5), .val (.int v21), .val (.int v36), .val (.int v71), .val (.int v101_116), .val (.int (((v101_116 + (1 : Int32)) + ((((xe.toUInt32 >>> ((8 : Int32) &&& 31).toUInt32).toInt32) &&& (2147483647 : Int32)) % (v1 - (1 : Int32)))) % v1)), .unset, .unset, .unset, .unset]) rfl k_) ?_
    obtain ⟨v121, hv121⟩ : ∃ z : Int32, z = (((v101_116 + (1 : Int32)) + ((((xe.toUInt32 >>> ((8 : Int32) &&& 31).toUInt32).toInt32) &&& (2147483647 : Int32)) % (v1 - (1 : Int32)))) % v1) := ⟨_, rfl⟩
    rw [← hv121]
    have HTO : (0 ≤ v121.toInt ∧ v121.toInt < v1.toInt) ∧ v101_116.toInt ≠ v121.toInt := own_pl0_24 hv1 hv21 hv36 hv51 hv66 hv71 hv112 hv101_116 hv121 hc76_72 cd20_14 cd20_15 cd27_20 cd39_23 cd39_24 cd51_38 cd51_39 cd62_53 cd62_54 I3 hF cd68_70 nz86_111 in93_114 HFR nz117_119 nz121_120
    refine own_Goes.via (T' := T69) (g' := (mkF m 126 #[.val (.int xa), .val (.int xb), .val (.int xc), .val (.int xd), .val (.int xe), .val (.int xf), .val (.int v1), .val (.ref b2), .val (.ref b5), .val (.int v21), .val (.int v36), .val (.int v71), .val (.int v101_116), .val (.int v121), .unset, .unset, .unset, .unset] [(.int xe)])) (fun t_ k_ => XS.iload X69.here hx rfl (hb hby at_124) rfl k_) ?_
    refine own_Goes.via (T' := T69) (g' := (mkF m 128 #[.val (.int xa), .val (.int xb), .val (.int xc), .val (.int xd), .val (.int xe), .val (.int xf), .val (.int v1), .val (.ref b2), .val (.ref b5), .val (.int v21), .val (.int v36), .val (.int v71), .val (.int v101_116), .val (.int v121), .unset, .unset, .unset, .unset] [(.int (16 : Int32)), (.int xe)])) (fun t_ k_ => XS.bipush X69.here hx rfl (hb hby at_126) k_) ?_
    refine own_Goes.via (T' := T69) (g' := (mkF m 129 #[.val (.int xa), .val (.int xb), .val (.int xc), .val (.int xd), .val (.int xe), .val (.int xf), .val (.int v1), .val (.ref b2), .val (.ref b5), .val (.int v21), .val (.int v36), .val (.int v71), .val (.int v101_116), .val (.int v121), .unset, .unset, .unset, .unset] [(.int ((xe.toUInt32 >>> ((16 : Int32) &&& 31).toUInt32).toInt32))])) (fun t_ k_ => XS.iushr X69.here hx rfl (hb hby at_128) rfl k_) ?_
    refine own_Goes.via (T' := T69) (g' := (mkF m 131 #[.val (.int xa), .val (.int xb), .val (.int xc), .val (.int xd), .val (.int xe), .val (.int xf), .val (.int v1), .val (.ref b2), .val (.ref b5), .val (.int v21), .val (.int v36), .val (.int v71), .val (.int v101_116), .val (.int v121), .unset, .unset, .unset, .unset] [(.int (7 : Int32)), (.int ((xe.toUInt32 >>> ((16 : Int32) &&& 31).toUInt32).toInt32))])) (fun t_ k_ => XS.bipush X69.here hx rfl (hb hby at_129) k_) ?_
    refine own_Goes.via (T' := T69) (g' := (mkF m 132 #[.val (.int xa), .val (.int xb), .val (.int xc), .val (.int xd), .val (.int xe), .val (.int xf), .val (.int v1), .val (.ref b2), .val (.ref b5), .val (.int v21), .val (.int v36), .val (.int v71), .val (.int v101_116), .val (.int v121), .unset, .unset, .unset, .unset] [(.int (((xe.toUInt32 >>> ((16 : Int32) &&& 31).toUInt32).toInt32) &&& (7 : Int32)))])) (fun t_ k_ => XS.iand X69.here hx rfl (hb hby at_131) rfl k_) ?_
    refine own_Goes.via (T' := T69) (g' := (mkF m 134 #[.val (.int xa), .val (.int xb), .val (.int xc), .val (.int xd), .val (.int xe), .val (.int xf), .val (.int v1), .val (.ref b2), .val (.ref b5), .val (.int v21), .val (.int v36), .val (.int v71), .val (.int v101_116), .val (.int v121), .unset, .unset, .unset, .unset] [(.ref b2), (.int (((xe.toUInt32 >>> ((16 : Int32) &&& 31).toUInt32).toInt32) &&& (7 : Int32)))])) (fun t_ k_ => XS.aload X69.here hx rfl (hb hby at_132) rfl rfl k_) ?_
    refine own_Goes.via (T' := T69) (g' := (mkF m 136 #[.val (.int xa), .val (.int xb), .val (.int xc), .val (.int xd), .val (.int xe), .val (.int xf), .val (.int v1), .val (.ref b2), .val (.ref b5), .val (.int v21), .val (.int v36), .val (.int v71), .val (.int v101_116), .val (.int v121), .unset, .unset, .unset, .unset] [(.int v101_116), (.ref b2), (.int (((xe.toUInt32 >>> ((16 : Int32) &&& 31).toUInt32).toInt32) &&& (7 : Int32)))])) (fun t_ k_ => XS.iload X69.here hx rfl (hb hby at_134) rfl k_) ?_
    have in136_123 : ¬ v101_116 < 0 ∧ v101_116 < (4 : Int32) := own_pl0_25 hv1 hv21 hv36 hv51 hv66 hv71 hv112 hv101_116 hv121 hc76_72 cd20_14 cd20_15 cd27_20 cd39_23 cd39_24 cd51_38 cd51_39 cd62_53 cd62_54 I3 hF cd68_70 nz86_111 in93_114 HFR nz117_119 nz121_120 HTO
    obtain ⟨cl122, Ar122, Sl122, at122⟩ := G68.rd in136_123
    refine own_Goes.via (T' := T69) (g' := (mkF m 137 #[.val (.int xa), .val (.int xb), .val (.int xc), .val (.int xd), .val (.int xe), .val (.int xf), .val (.int v1), .val (.ref b2), .val (.ref b5), .val (.int v21), .val (.int v36), .val (.int v71), .val (.int v101_116), .val (.int v121), .unset, .unset, .unset, .unset] [(.int (C3 v101_116.toNatClampNeg)), (.int (((xe.toUInt32 >>> ((16 : Int32) &&& 31).toUInt32).toInt32) &&& (7 : Int32)))])) (fun t_ k_ => X69.iaload hx (j := v101_116) (v := (.int (C3 v101_116.toNatClampNeg))) (by rw [hh69]; exact Ar122.1) (State.isArrayOf_alike hZ.alike Ar122.2.1) Ar122.2.2 (inb_of Sl122 in136_123) at122 (g := (mkF m 136 #[.val (.int xa), .val (.int xb), .val (.int xc), .val (.int xd), .val (.int xe), .val (.int xf), .val (.int v1), .val (.ref b2), .val (.ref b5), .val (.int v21), .val (.int v36), .val (.int v71), .val (.int v101_116), .val (.int v121), .unset, .unset, .unset, .unset] [(.int v101_116), (.ref b2), (.int (((xe.toUInt32 >>> ((16 : Int32) &&& 31).toUInt32).toInt32) &&& (7 : Int32)))])) rfl rfl (hb hby at_136) _ k_) ?_
    have nz137_124 : (C3 v101_116.toNatClampNeg) ≠ (0 : Int32) := own_pl0_26 hv1 hv21 hv36 hv51 hv66 hv71 hv112 hv101_116 hv121 hc76_72 cd20_14 cd20_15 cd27_20 cd39_23 cd39_24 cd51_38 cd51_39 cd62_53 cd62_54 I3 hF cd68_70 nz86_111 in93_114 HFR nz117_119 nz121_120 HTO in136_123
    refine own_Goes.via (T' := T69) (g' := (mkF m 138 #[.val (.int xa), .val (.int xb), .val (.int xc), .val (.int xd), .val (.int xe), .val (.int xf), .val (.int v1), .val (.ref b2), .val (.ref b5), .val (.int v21), .val (.int v36), .val (.int v71), .val (.int v101_116), .val (.int v121), .unset, .unset, .unset, .unset] [(.int ((((xe.toUInt32 >>> ((16 : Int32) &&& 31).toUInt32).toInt32) &&& (7 : Int32)) % (C3 v101_116.toNatClampNeg)))])) (fun t_ k_ => iremM X69 hx rfl (hb hby at_137) rfl nz137_124 k_) ?_
    refine own_Goes.via (T' := T69) (g' := (mkF m 140 #[.val (.int xa), .val (.int xb), .val (.int xc), .val (.int xd), .val (.int xe), .val (.int xf), .val (.int v1), .val (.ref b2), .val (.ref b5), .val (.int v21), .val (.int v36), .val (.int v71), .val (.int v101_116), .val (.int v121), .val (.int ((((xe.toUInt32 >>> ((16 : Int32) &&& 31).toUInt32).toInt32) &&& (7 : Int32)) % (C3 v101_116.toNatClampNeg))), .unset, .unset, .unset] [])) (fun t_ k_ => XS.istore X69.here hx rfl (hb hby at_138) rfl (l' := #[.val (.int xa), .val (.int xb), .val (.int xc), .val (.int xd), .val (.int xe), .val (.int xf), .val (.int v1), .val (.ref b2), .val (.ref b5), .val (.int v21), .val (.int v36), .val (.int v71), .val (.int v101_116), .val (.int v121), .val (.int ((((xe.toUInt32 >>> ((16 : Int32) &&& 31).toUInt32).toInt32) &&& (7 : Int32)) % (C3 v101_116.toNatClampNeg))), .unset, .unset, .unset]) rfl k_) ?_
    obtain ⟨v125, hv125⟩ : ∃ z : Int32, z = ((((xe.toUInt32 >>> ((16 : Int32) &&& 31).toUInt32).toInt32) &&& (7 : Int32)) % (C3 v101_116.toNatClampNeg)) := ⟨_, rfl⟩
    rw [← hv125]
    refine own_Goes.via (T' := T69) (g' := (mkF m 142 #[.val (.int xa), .val (.int xb), .val (.int xc), .val (.int xd), .val (.int xe), .val (.int xf), .val (.int v1), .val (.ref b2), .val (.ref b5), .val (.int v21), .val (.int v36), .val (.int v71), .val (.int v101_116), .val (.int v121), .val (.int v125), .unset, .unset, .unset] [(.ref b5)])) (fun t_ k_ => XS.aload X69.here hx rfl (hb hby at_140) rfl rfl k_) ?_
    refine own_Goes.via (T' := T69) (g' := (mkF m 144 #[.val (.int xa), .val (.int xb), .val (.int xc), .val (.int xd), .val (.int xe), .val (.int xf), .val (.int v1), .val (.ref b2), .val (.ref b5), .val (.int v21), .val (.int v36), .val (.int v71), .val (.int v101_116), .val (.int v121), .val (.int v125), .unset, .unset, .unset] [(.int v101_116), (.ref b5)])) (fun t_ k_ => XS.iload X69.here hx rfl (hb hby at_142) rfl k_) ?_
    refine own_Goes.via (T' := T69) (g' := (mkF m 146 #[.val (.int xa), .val (.int xb), .val (.int xc), .val (.int xd), .val (.int xe), .val (.int xf), .val (.int v1), .val (.ref b2), .val (.ref b5), .val (.int v21), .val (.int v36), .val (.int v71), .val (.int v101_116), .val (.int v121), .val (.int v125), .unset, .unset, .unset] [(.int v125), (.int v101_116), (.ref b5)])) (fun t_ k_ => XS.iload X69.here hx rfl (hb hby at_144) rfl k_) ?_
    refine own_Goes.via (T' := T69) (g' := (mkF m 148 #[.val (.int xa), .val (.int xb), .val (.int xc), .val (.int xd), .val (.int xe), .val (.int xf), .val (.int v1), .val (.ref b2), .val (.ref b5), .val (.int v21), .val (.int v36), .val (.int v71), .val (.int v101_116), .val (.int v121), .val (.int v125), .unset, .unset, .unset] [(.int v121), (.int v125), (.int v101_116), (.ref b5)])) (fun t_ k_ => XS.iload X69.here hx rfl (hb hby at_146) rfl k_) ?_
    have cd148_127 : (0 : Int32) < (v1 + (1 : Int32)) := own_pl0_27 hv1 hv21 hv36 hv51 hv66 hv71 hv112 hv101_116 hv121 hv125 hc76_72 cd20_14 cd20_15 cd27_20 cd39_23 cd39_24 cd51_38 cd51_39 cd62_53 cd62_54 I3 hF cd68_70 nz86_111 in93_114 HFR nz117_119 nz121_120 HTO in136_123 nz137_124
    have cd148_128 : ¬ v101_116 < 0 ∧ v101_116 < v1 := own_pl0_28 hv1 hv21 hv36 hv51 hv66 hv71 hv112 hv101_116 hv121 hv125 hc76_72 cd20_14 cd20_15 cd27_20 cd39_23 cd39_24 cd51_38 cd51_39 cd62_53 cd62_54 I3 hF cd68_70 nz86_111 in93_114 HFR nz117_119 nz121_120 HTO in136_123 nz137_124 cd148_127
    have cd148_129 : ¬ v101_116 < 0 ∧ v101_116 < (v1 + (1 : Int32)) := own_pl0_29 hv1 hv21 hv36 hv51 hv66 hv71 hv112 hv101_116 hv121 hv125 hc76_72 cd20_14 cd20_15 cd27_20 cd39_23 cd39_24 cd51_38 cd51_39 cd62_53 cd62_54 I3 hF cd68_70 nz86_111 in93_114 HFR nz117_119 nz121_120 HTO in136_123 nz137_124 cd148_127 cd148_128
    have cd148_130 : ¬ v121 < 0 ∧ v121 < v1 := own_pl0_30 hv1 hv21 hv36 hv51 hv66 hv71 hv112 hv101_116 hv121 hv125 hc76_72 cd20_14 cd20_15 cd27_20 cd39_23 cd39_24 cd51_38 cd51_39 cd62_53 cd62_54 I3 hF cd68_70 nz86_111 in93_114 HFR nz117_119 nz121_120 HTO in136_123 nz137_124 cd148_127 cd148_128 cd148_129
    have cd148_131 : ¬ (v121 + (1 : Int32)) < 0 ∧ (v121 + (1 : Int32)) < (v1 + (1 : Int32)) := own_pl0_31 hv1 hv21 hv36 hv51 hv66 hv71 hv112 hv101_116 hv121 hv125 hc76_72 cd20_14 cd20_15 cd27_20 cd39_23 cd39_24 cd51_38 cd51_39 cd62_53 cd62_54 I3 hF cd68_70 nz86_111 in93_114 HFR nz117_119 nz121_120 HTO in136_123 nz137_124 cd148_127 cd148_128 cd148_129 cd148_130
    have cd148_132 : 0 ≤ ((B3 v101_116.toNatClampNeg) + v125).toInt ∧ ((B3 v101_116.toNatClampNeg) + v125).toInt ≤ 3 ∧ 0 ≤ (B3 (v121 + (1 : Int32)).toNatClampNeg).toInt ∧ (B3 (v121 + (1 : Int32)).toNatClampNeg).toInt ≤ 3 ∧ (v101_116 < v121 → ((B3 v101_116.toNatClampNeg) + v125).toInt + 1 ≤ (B3 (v121 + (1 : Int32)).toNatClampNeg).toInt) ∧ (¬ v101_116 < v121 → (B3 (v121 + (1 : Int32)).toNatClampNeg).toInt ≤ ((B3 v101_116.toNatClampNeg) + v125).toInt) := own_pl0_32 hv1 hv21 hv36 hv51 hv66 hv71 hv112 hv101_116 hv121 hv125 hc76_72 cd20_14 cd20_15 cd27_20 cd39_23 cd39_24 cd51_38 cd51_39 cd62_53 cd62_54 I3 hF cd68_70 nz86_111 in93_114 HFR nz117_119 nz121_120 HTO in136_123 nz137_124 cd148_127 cd148_128 cd148_129 cd148_130 cd148_131
    obtain ⟨cq126, kq126, q126a, q126b, q126c⟩ := isOf hZ hh69 E57
    obtain ⟨_, _, ⟨T126, L126, k126, n126⟩, -, X126, ⟨Lc126, hQ126, l126, y126, z126⟩, st126⟩ := X69.virtualBack hx (y := (⟨"com/example/wildsuit/wildsuit/game/Row", "transfer", "(III)V"⟩ : MethodName)) (z := (⟨"com/example/wildsuit/wildsuit/game/Row", "transfer", "(III)V"⟩ : MethodName)) hown (mvT hZ (hw _ (List.mem_of_getElem? (i := 60) rfl))) (mvT hZ (hw _ (List.mem_of_getElem? (i := 61) rfl))) (notFace_of_selects (args := #[]) (mvT hZ (hw _ (List.mem_of_getElem? (i := 63) rfl)))) (mvT hZ (hw _ (List.mem_of_getElem? (i := 63) rfl))) (mvT hZ (hw _ (List.mem_of_getElem? (i := 62) rfl))) (by decide) (backOf (W := 0) (rm11 l Z a0 hw [] b5 v101_116 v125 v121 bc_13 bo_13 bh_13 bt_13 (v1 + (1 : Int32)) v1 B3 T52.heap n0 sz52 E57 E58 E59 E60 E61 F62 F63 F64 F65 G67 pf52_0 pf52_2 pf52_3 nq13_5 ge_bc_13 ge_bo_13 ge_bh_13 ge_bt_13 cd148_127 cd148_128 cd148_129 cd148_130 cd148_131 cd148_132) hZ (hw _ (List.mem_of_getElem? (i := 64) rfl)) (hw _ (List.mem_of_getElem? (i := 3) rfl)) (by decide) (by decide)) q126a q126c (g := (mkF m 148 #[.val (.int xa), .val (.int xb), .val (.int xc), .val (.int xd), .val (.int xe), .val (.int xf), .val (.int v1), .val (.ref b2), .val (.ref b5), .val (.int v21), .val (.int v36), .val (.int v71), .val (.int v101_116), .val (.int v121), .val (.int v125), .unset, .unset, .unset] [(.int v121), (.int v125), (.int v101_116), (.ref b5)])) rfl (by rw [hml]; rfl) (Steps.refl _) (argsL := [(.int v101_116), (.int v125), (.int v121)]) (rest := []) (lenOf pd_0_3 rfl) rfl (by show 2 * 0 + _ ≤ _; exact Nat.le_of_eq rfl) (hb hby at_148) (fun _ _ => ⟨rfl, hh69, (by decide : 6 + 0 ≤ _), (by decide : 125 + 0 ≤ _)⟩)
    dsimp only [Pt.U, Pt.locs, Pt.cells, Pt.slots] at X126 l126 y126 z126 st126 hQ126
    subst l126 y126 z126
    obtain ⟨rfl, Nq126, Kq126, pf126_0, pf126_1, pf126_2, pf126_3⟩ := hQ126
    have N126 := Fr.app N69 Nq126
    have E133 : Exa Z T126.heap b2 "[I" := E56.keep Kq126
    have E134 : Exa Z T126.heap b5 "com/example/wildsuit/wildsuit/game/Row" := E57.keep Kq126
    have E135 : Exa Z T126.heap bc_13 "[B" := E58.keep Kq126
    have E136 : Exa Z T126.heap bo_13 "[I" := E59.keep Kq126
    have E137 : Exa Z T126.heap bh_13 "[J" := E60.keep Kq126
    have E138 : Exa Z T126.heap bt_13 "[J" := E61.keep Kq126
    have F139 : Fld Z T126.heap b5 "com/example/wildsuit/wildsuit/game/Row" "cards" "[B" (.ref bc_13) := F62.keep Kq126 (ninS ne_b5_bc_13 (ninS ne_b5_bo_13 (ninS ne_b5_bh_13 (ninS ne_b5_bt_13 nin0))))
    have F140 : Fld Z T126.heap b5 "com/example/wildsuit/wildsuit/game/Row" "borders" "[I" (.ref bo_13) := F63.keep Kq126 (ninS ne_b5_bc_13 (ninS ne_b5_bo_13 (ninS ne_b5_bh_13 (ninS ne_b5_bt_13 nin0))))
    have F141 : Fld Z T126.heap b5 "com/example/wildsuit/wildsuit/game/Row" "held" "[J" (.ref bh_13) := F64.keep Kq126 (ninS ne_b5_bc_13 (ninS ne_b5_bo_13 (ninS ne_b5_bh_13 (ninS ne_b5_bt_13 nin0))))
    have F142 : Fld Z T126.heap b5 "com/example/wildsuit/wildsuit/game/Row" "heldTwice" "[J" (.ref bt_13) := F65.keep Kq126 (ninS ne_b5_bc_13 (ninS ne_b5_bo_13 (ninS ne_b5_bh_13 (ninS ne_b5_bt_13 nin0))))
    have G143 : own_Gi Z T126.heap b2 .int (4 : Int32) C3 := G68.keep Kq126 (ninS ne_b2_bc_13 (ninS ne_b2_bo_13 (ninS ne_b2_bh_13 (ninS ne_b2_bt_13 nin0))))
    have sz126 : n0 ≤ T126.heap.size := Nat.le_trans sz52 Kq126.1
    have K126 : Keep h0 T126.heap [] := (K52).trans Kq126 (allS (Or.inr sz_bc_13) (allS (Or.inr sz_bo_13) (allS (Or.inr sz_bh_13) (allS (Or.inr sz_bt_13) all0))))
    refine own_Goes.via (T' := T126) (g' := (mkF m 151 #[.val (.int xa), .val (.int xb), .val (.int xc), .val (.int xd), .val (.int xe), .val (.int xf), .val (.int v1), .val (.ref b2), .val (.ref b5), .val (.int v21), .val (.int v36), .val (.int v71), .val (.int v101_116), .val (.int v121), .val (.int v125), .unset, .unset, .unset] [])) (fun t_ k_ => st126.trans k_) ?_
    refine own_Goes.via (T' := T126) (g' := (mkF m 153 #[.val (.int xa), .val (.int xb), .val (.int xc), .val (.int xd), .val (.int xe), .val (.int xf), .val (.int v1), .val (.ref b2), .val (.ref b5), .val (.int v21), .val (.int v36), .val (.int v71), .val (.int v101_116), .val (.int v121), .val (.int v125), .unset, .unset, .unset] [(.ref b2)])) (fun t_ k_ => XS.aload X126.here hx rfl (hb hby at_151) rfl rfl k_) ?_
    refine own_Goes.via (T' := T126) (g' := (mkF m 155 #[.val (.int xa), .val (.int xb), .val (.int xc), .val (.int xd), .val (.int xe), .val (.int xf), .val (.int v1), .val (.ref b2), .val (.ref b5), .val (.int v21), .val (.int v36), .val (.int v71), .val (.int v101_116), .val (.int v121), .val (.int v125), .unset, .unset, .unset] [(.int v101_116), (.ref b2)])) (fun t_ k_ => XS.iload X126.here hx rfl (hb hby at_153) rfl k_) ?_
    refine own_Goes.via (T' := T126) (g' := (mkF m 157 #[.val (.int xa), .val (.int xb), .val (.int xc), .val (.int xd), .val (.int xe), .val (.int xf), .val (.int v1), .val (.ref b2), .val (.ref b5), .val (.int v21), .val (.int v36), .val (.int v71), .val (.int v101_116), .val (.int v121), .val (.int v125), .unset, .unset, .unset] [(.ref b2), (.int v101_116), (.ref b2)])) (fun t_ k_ => XS.aload X126.here hx rfl (hb hby at_155) rfl rfl k_) ?_
    refine own_Goes.via (T' := T126) (g' := (mkF m 159 #[.val (.int xa), .val (.int xb), .val (.int xc), .val (.int xd), .val (.int xe), .val (.int xf), .val (.int v1), .val (.ref b2), .val (.ref b5), .val (.int v21), .val (.int v36), .val (.int v71), .val (.int v101_116), .val (.int v121), .val (.int v125), .unset, .unset, .unset] [(.int v101_116), (.ref b2), (.int v101_116), (.ref b2)])) (fun t_ k_ => XS.iload X126.here hx rfl (hb hby at_157) rfl k_) ?_
    have in159_145 : ¬ v101_116 < 0 ∧ v101_116 < (4 : Int32) := own_pl0_33 hv1 hv21 hv36 hv51 hv66 hv71 hv112 hv101_116 hv121 hv125 hc76_72 cd20_14 cd20_15 cd27_20 cd39_23 cd39_24 cd51_38 cd51_39 cd62_53 cd62_54 I3 hF cd68_70 nz86_111 in93_114 HFR nz117_119 nz121_120 HTO in136_123 nz137_124 cd148_127 cd148_128 cd148_129 cd148_130 cd148_131 cd148_132
    obtain ⟨cl144, Ar144, Sl144, at144⟩ := G143.rd in159_145
    refine own_Goes.via (T' := T126) (g' := (mkF m 160 #[.val (.int xa), .val (.int xb), .val (.int xc), .val (.int xd), .val (.int xe), .val (.int xf), .val (.int v1), .val (.ref b2), .val (.ref b5), .val (.int v21), .val (.int v36), .val (.int v71), .val (.int v101_116), .val (.int v121), .val (.int v125), .unset, .unset, .unset] [(.int (C3 v101_116.toNatClampNeg)), (.int v101_116), (.ref b2)])) (fun t_ k_ => X126.iaload hx (j := v101_116) (v := (.int (C3 v101_116.toNatClampNeg))) Ar144.1 (State.isArrayOf_alike hZ.alike Ar144.2.1) Ar144.2.2 (inb_of Sl144 in159_145) at144 (g := (mkF m 159 #[.val (.int xa), .val (.int xb), .val (.int xc), .val (.int xd), .val (.int xe), .val (.int xf), .val (.int v1), .val (.ref b2), .val (.ref b5), .val (.int v21), .val (.int v36), .val (.int v71), .val (.int v101_116), .val (.int v121), .val (.int v125), .unset, .unset, .unset] [(.int v101_116), (.ref b2), (.int v101_116), (.ref b2)])) rfl rfl (hb hby at_159) _ k_) ?_
    refine own_Goes.via (T' := T126) (g' := (mkF m 161 #[.val (.int xa), .val (.int xb), .val (.int xc), .val (.int xd), .val (.int xe), .val (.int xf), .val (.int v1), .val (.ref b2), .val (.ref b5), .val (.int v21), .val (.int v36), .val (.int v71), .val (.int v101_116), .val (.int v121), .val (.int v125), .unset, .unset, .unset] [(.int (1 : Int32)), (.int (C3 v101_116.toNatClampNeg)), (.int v101_116), (.ref b2)])) (fun t_ k_ => XS.iconst X126.here hx rfl (hb hby at_160) k_) ?_
    refine own_Goes.via (T' := T126) (g' := (mkF m 162 #[.val (.int xa), .val (.int xb), .val (.int xc), .val (.int xd), .val (.int xe), .val (.int xf), .val (.int v1), .val (.ref b2), .val (.ref b5), .val (.int v21), .val (.int v36), .val (.int v71), .val (.int v101_116), .val (.int v121), .val (.int v125), .unset, .unset, .unset] [(.int ((C3 v101_116.toNatClampNeg) - (1 : Int32))), (.int v101_116), (.ref b2)])) (fun t_ k_ => XS.isub X126.here hx rfl (hb hby at_161) rfl k_) ?_
    obtain ⟨cl146, Ar146, Sl146, Ng146, -⟩ := id G143
    have in162_147 : ¬ v101_116 < 0 ∧ v101_116 < (4 : Int32) := own_pl0_34 hv1 hv21 hv36 hv51 hv66 hv71 hv112 hv101_116 hv121 hv125 hc76_72 cd20_14 cd20_15 cd27_20 cd39_23 cd39_24 cd51_38 cd51_39 cd62_53 cd62_54 I3 hF cd68_70 nz86_111 in93_114 HFR nz117_119 nz121_120 HTO in136_123 nz137_124 cd148_127 cd148_128 cd148_129 cd148_130 cd148_131 cd148_132 in159_145
    obtain ⟨T146, h146, X146, e146, W146, st146⟩ := stI X126 hx hZ rfl Ar146 (j := v101_116) (inb_of Sl146 in162_147) (g := (mkF m 162 #[.val (.int xa), .val (.int xb), .val (.int xc), .val (.int xd), .val (.int xe), .val (.int xf), .val (.int v1), .val (.ref b2), .val (.ref b5), .val (.int v21), .val (.int v36), .val (.int v71), .val (.int v101_116), .val (.int v121), .val (.int v125), .unset, .unset, .unset] [(.int ((C3 v101_116.toNatClampNeg) - (1 : Int32))), (.int v101_116), (.ref b2)])) rfl rfl (hb hby at_162)
    have E148 : Exa Z h146 b2 "[I" := E133.wr W146
    have E149 : Exa Z h146 b5 "com/example/wildsuit/wildsuit/game/Row" := E134.wr W146
    have E150 : Exa Z h146 bc_13 "[B" := E135.wr W146
    have E151 : Exa Z h146 bo_13 "[I" := E136.wr W146
    have E152 : Exa Z h146 bh_13 "[J" := E137.wr W146
    have E153 : Exa Z h146 bt_13 "[J" := E138.wr W146
    have F154 : Fld Z h146 b5 "com/example/wildsuit/wildsuit/game/Row" "cards" "[B" (.ref bc_13) := F139.other W146 (Or.inl (Ne.symm ne_b2_b5))
    have F155 : Fld Z h146 b5 "com/example/wildsuit/wildsuit/game/Row" "borders" "[I" (.ref bo_13) := F140.other W146 (Or.inl (Ne.symm ne_b2_b5))
    have F156 : Fld Z h146 b5 "com/example/wildsuit/wildsuit/game/Row" "held" "[J" (.ref bh_13) := F141.other W146 (Or.inl (Ne.symm ne_b2_b5))
    have F157 : Fld Z h146 b5 "com/example/wildsuit/wildsuit/game/Row" "heldTwice" "[J" (.ref bt_13) := F142.other W146 (Or.inl (Ne.symm ne_b2_b5))
    have U158 : own_Un Z h146 bc_13 .byte (104 : Int32) := pf126_0.other W146 (Ne.symm ne_b2_bc_13)
    have G159 : own_Gi Z h146 bo_13 .int (v1 + (1 : Int32)) (own_tr B3 v101_116 v121) := pf126_1.other W146 (Ne.symm ne_b2_bo_13)
    have U160 : own_Un Z h146 bh_13 .long v1 := pf126_2.other W146 (Ne.symm ne_b2_bh_13)
    have U161 : own_Un Z h146 bt_13 .long v1 := pf126_3.other W146 (Ne.symm ne_b2_bt_13)
    have G162 : own_Gi Z h146 b2 .int (4 : Int32) (own_up C3 v101_116.toNatClampNeg ((C3 v101_116.toNatClampNeg) - (1 : Int32))) := G143.set W146 rfl
    have N146 := Fr.snoc X146 N126 ge_b2
    have sz146 : n0 ≤ h146.size := Nat.le_trans sz126 (Keep.of_wr W146).1
    have K146 : Keep h0 h146 [] := (K126).wr W146 (Or.inr sz_b2)
    refine own_Goes.via (T' := T146) (g' := (mkF m 163 #[.val (.int xa), .val (.int xb), .val (.int xc), .val (.int xd), .val (.int xe), .val (.int xf), .val (.int v1), .val (.ref b2), .val (.ref b5), .val (.int v21), .val (.int v36), .val (.int v71), .val (.int v101_116), .val (.int v121), .val (.int v125), .unset, .unset, .unset] [])) (st146) ?_
    refine own_Goes.via (T' := T146) (g' := (mkF m 165 #[.val (.int xa), .val (.int xb), .val (.int xc), .val (.int xd), .val (.int xe), .val (.int xf), .val (.int v1), .val (.ref b2), .val (.ref b5), .val (.int v21), .val (.int v36), .val (.int v71), .val (.int v101_116), .val (.int v121), .val (.int v125), .unset, .unset, .unset] [(.ref b2)])) (fun t_ k_ => XS.aload X146.here hx rfl (hb hby at_163) rfl rfl k_) ?_
    refine own_Goes.via (T' := T146) (g' := (mkF m 167 #[.val (.int xa), .val (.int xb), .val (.int xc), .val (.int xd), .val (.int xe), .val (.int xf), .val (.int v1), .val (.ref b2), .val (.ref b5), .val (.int v21), .val (.int v36), .val (.int v71), .val (.int v101_116), .val (.int v121), .val (.int v125), .unset, .unset, .unset] [(.int v121), (.ref b2)])) (fun t_ k_ => XS.iload X146.here hx rfl (hb hby at_165) rfl k_) ?_
    refine own_Goes.via (T' := T146) (g' := (mkF m 169 #[.val (.int xa), .val (.int xb), .val (.int xc), .val (.int xd), .val (.int xe), .val (.int xf), .val (.int v1), .val (.ref b2), .val (.ref b5), .val (.int v21), .val (.int v36), .val (.int v71), .val (.int v101_116), .val (.int v121), .val (.int v125), .unset, .unset, .unset] [(.ref b2), (.int v121), (.ref b2)])) (fun t_ k_ => XS.aload X146.here hx rfl (hb hby at_167) rfl rfl k_) ?_
    refine own_Goes.via (T' := T146) (g' := (mkF m 171 #[.val (.int xa), .val (.int xb), .val (.int xc), .val (.int xd), .val (.int xe), .val (.int xf), .val (.int v1), .val (.ref b2), .val (.ref b5), .val (.int v21), .val (.int v36), .val (.int v71), .val (.int v101_116), .val (.int v121), .val (.int v125), .unset, .unset, .unset] [(.int v121), (.ref b2), (.int v121), (.ref b2)])) (fun t_ k_ => XS.iload X146.here hx rfl (hb hby at_169) rfl k_) ?_
    have in171_164 : ¬ v121 < 0 ∧ v121 < (4 : Int32) := own_pl0_35 hv1 hv21 hv36 hv51 hv66 hv71 hv112 hv101_116 hv121 hv125 hc76_72 cd20_14 cd20_15 cd27_20 cd39_23 cd39_24 cd51_38 cd51_39 cd62_53 cd62_54 I3 hF cd68_70 nz86_111 in93_114 HFR nz117_119 nz121_120 HTO in136_123 nz137_124 cd148_127 cd148_128 cd148_129 cd148_130 cd148_131 cd148_132 in159_145 in162_147
    obtain ⟨cl163, Ar163, Sl163, at163⟩ := G162.rd in171_164
    refine own_Goes.via (T' := T146) (g' := (mkF m 172 #[.val (.int xa), .val (.int xb), .val (.int xc), .val (.int xd), .val (.int xe), .val (.int xf), .val (.int v1), .val (.ref b2), .val (.ref b5), .val (.int v21), .val (.int v36), .val (.int v71), .val (.int v101_116), .val (.int v121), .val (.int v125), .unset, .unset, .unset] [(.int ((own_up C3 v101_116.toNatClampNeg ((C3 v101_116.toNatClampNeg) - (1 : Int32))) v121.toNatClampNeg)), (.int v121), (.ref b2)])) (fun t_ k_ => X146.iaload hx (j := v121) (v := (.int ((own_up C3 v101_116.toNatClampNeg ((C3 v101_116.toNatClampNeg) - (1 : Int32))) v121.toNatClampNeg))) (by rw [e146]; exact Ar163.1) (State.isArrayOf_alike hZ.alike Ar163.2.1) Ar163.2.2 (inb_of Sl163 in171_164) at163 (g := (mkF m 171 #[.val (.int xa), .val (.int xb), .val (.int xc), .val (.int xd), .val (.int xe), .val (.int xf), .val (.int v1), .val (.ref b2), .val (.ref b5), .val (.int v21), .val (.int v36), .val (.int v71), .val (.int v101_116), .val (.int v121), .val (.int v125), .unset, .unset, .unset] [(.int v121), (.ref b2), (.int v121), (.ref b2)])) rfl rfl (hb hby at_171) _ k_) ?_
    refine own_Goes.via (T' := T146) (g' := (mkF m 173 #[.val (.int xa), .val (.int xb), .val (.int xc), .val (.int xd), .val (.int xe), .val (.int xf), .val (.int v1), .val (.ref b2), .val (.ref b5), .val (.int v21), .val (.int v36), .val (.int v71), .val (.int v101_116), .val (.int v121), .val (.int v125), .unset, .unset, .unset] [(.int (1 : Int32)), (.int ((own_up C3 v101_116.toNatClampNeg ((C3 v101_116.toNatClampNeg) - (1 : Int32))) v121.toNatClampNeg)), (.int v121), (.ref b2)])) (fun t_ k_ => XS.iconst X146.here hx rfl (hb hby at_172) k_) ?_
    refine own_Goes.via (T' := T146) (g' := (mkF m 174 #[.val (.int xa), .val (.int xb), .val (.int xc), .val (.int xd), .val (.int xe), .val (.int xf), .val (.int v1), .val (.ref b2), .val (.ref b5), .val (.int v21), .val (.int v36), .val (.int v71), .val (.int v101_116), .val (.int v121), .val (.int v125), .unset, .unset, .unset] [(.int (((own_up C3 v101_116.toNatClampNeg ((C3 v101_116.toNatClampNeg) - (1 : Int32))) v121.toNatClampNeg) + (1 : Int32))), (.int v121), (.ref b2)])) (fun t_ k_ => XS.iadd X146.here hx rfl (hb hby at_173) rfl k_) ?_
    obtain ⟨cl165, Ar165, Sl165, Ng165, -⟩ := id G162
    have in174_166 : ¬ v121 < 0 ∧ v121 < (4 : Int32) := own_pl0_36 hv1 hv21 hv36 hv51 hv66 hv71 hv112 hv101_116 hv121 hv125 hc76_72 cd20_14 cd20_15 cd27_20 cd39_23 cd39_24 cd51_38 cd51_39 cd62_53 cd62_54 I3 hF cd68_70 nz86_111 in93_114 HFR nz117_119 nz121_120 HTO in136_123 nz137_124 cd148_127 cd148_128 cd148_129 cd148_130 cd148_131 cd148_132 in159_145 in162_147 in171_164
    obtain ⟨T165, h165, X165, e165, W165, st165⟩ := stI X146 hx hZ e146 Ar165 (j := v121) (inb_of Sl165 in174_166) (g := (mkF m 174 #[.val (.int xa), .val (.int xb), .val (.int xc), .val (.int xd), .val (.int xe), .val (.int xf), .val (.int v1), .val (.ref b2), .val (.ref b5), .val (.int v21), .val (.int v36), .val (.int v71), .val (.int v101_116), .val (.int v121), .val (.int v125), .unset, .unset, .unset] [(.int (((own_up C3 v101_116.toNatClampNeg ((C3 v101_116.toNatClampNeg) - (1 : Int32))) v121.toNatClampNeg) + (1 : Int32))), (.int v121), (.ref b2)])) rfl rfl (hb hby at_174)
    have E167 : Exa Z h165 b2 "[I" := E148.wr W165
    have E168 : Exa Z h165 b5 "com/example/wildsuit/wildsuit/game/Row" := E149.wr W165
    have E169 : Exa Z h165 bc_13 "[B" := E150.wr W165
    have E170 : Exa Z h165 bo_13 "[I" := E151.wr W165
    have E171 : Exa Z h165 bh_13 "[J" := E152.wr W165
    have E172 : Exa Z h165 bt_13 "[J" := E153.wr W165
    have F173 : Fld Z h165 b5 "com/example/wildsuit/wildsuit/game/Row" "cards" "[B" (.ref bc_13) := F154.other W165 (Or.inl (Ne.symm ne_b2_b5))
    have F174 : Fld Z h165 b5 "com/example/wildsuit/wildsuit/game/Row" "borders" "[I" (.ref bo_13) := F155.other W165 (Or.inl (Ne.symm ne_b2_b5))
    have F175 : Fld Z h165 b5 "com/example/wildsuit/wildsuit/game/Row" "held" "[J" (.ref bh_13) := F156.other W165 (Or.inl (Ne.symm ne_b2_b5))
    have F176 : Fld Z h165 b5 "com/example/wildsuit/wildsuit/game/Row" "heldTwice" "[J" (.ref bt_13) := F157.other W165 (Or.inl (Ne.symm ne_b2_b5))
    have U177 : own_Un Z h165 bc_13 .byte (104 : Int32) := U158.other W165 (Ne.symm ne_b2_bc_13)
    have G178 : own_Gi Z h165 bo_13 .int (v1 + (1 : Int32)) (own_tr B3 v101_116 v121) := G159.other W165 (Ne.symm ne_b2_bo_13)
    have U179 : own_Un Z h165 bh_13 .long v1 := U160.other W165 (Ne.symm ne_b2_bh_13)
    have U180 : own_Un Z h165 bt_13 .long v1 := U161.other W165 (Ne.symm ne_b2_bt_13)
    have G181 : own_Gi Z h165 b2 .int (4 : Int32) (own_up (own_up C3 v101_116.toNatClampNeg ((C3 v101_116.toNatClampNeg) - (1 : Int32))) v121.toNatClampNeg (((own_up C3 v101_116.toNatClampNeg ((C3 v101_116.toNatClampNeg) - (1 : Int32))) v121.toNatClampNeg) + (1 : Int32))) := G162.set W165 rfl
    have N165 := Fr.snoc X165 N146 ge_b2
    have sz165 : n0 ≤ h165.size := Nat.le_trans sz146 (Keep.of_wr W165).1
    have K165 : Keep h0 h165 [] := (K146).wr W165 (Or.inr sz_b2)
    refine own_Goes.via (T' := T165) (g' := (mkF m 175 #[.val (.int xa), .val (.int xb), .val (.int xc), .val (.int xd), .val (.int xe), .val (.int xf), .val (.int v1), .val (.ref b2), .val (.ref b5), .val (.int v21), .val (.int v36), .val (.int v71), .val (.int v101_116), .val (.int v121), .val (.int v125), .unset, .unset, .unset] [])) (st165) ?_
    have IX_ : own_Inv v1 (own_tr B3 v101_116 v121) (own_up (own_up C3 v101_116.toNatClampNeg ((C3 v101_116.toNatClampNeg) - (1 : Int32))) v121.toNatClampNeg (((own_up C3 v101_116.toNatClampNeg ((C3 v101_116.toNatClampNeg) - (1 : Int32))) v121.toNatClampNeg) + (1 : Int32))) (3 : Int) := own_pl0_37 hv1 hv21 hv36 hv51 hv66 hv71 hv112 hv101_116 hv121 hv125 hc76_72 cd20_14 cd20_15 cd27_20 cd39_23 cd39_24 cd51_38 cd51_39 cd62_53 cd62_54 I3 hF cd68_70 nz86_111 in93_114 HFR nz117_119 nz121_120 HTO in136_123 nz137_124 cd148_127 cd148_128 cd148_129 cd148_130 cd148_131 cd148_132 in159_145 in162_147 in171_164 in174_166
    obtain ⟨BX, hBX⟩ : ∃ z : Nat → Int32, z = (own_tr B3 v101_116 v121) := ⟨_, rfl⟩
    obtain ⟨CX, hCX⟩ : ∃ z : Nat → Int32, z = (own_up (own_up C3 v101_116.toNatClampNeg ((C3 v101_116.toNatClampNeg) - (1 : Int32))) v121.toNatClampNeg (((own_up C3 v101_116.toNatClampNeg ((C3 v101_116.toNatClampNeg) - (1 : Int32))) v121.toNatClampNeg) + (1 : Int32))) := ⟨_, rfl⟩
    have G182 : own_Gi Z h165 bo_13 .int (v1 + (1 : Int32)) BX := (by rw [hBX]; exact G178)
    have G183 : own_Gi Z h165 b2 .int (4 : Int32) CX := (by rw [hCX]; exact G181)
    have IX : own_Inv v1 BX CX (3 : Int) := by rw [hBX, hCX]; exact IX_
    refine own_Goes.via (T' := T165) (g' := (mkF m 177 #[.val (.int xa), .val (.int xb), .val (.int xc), .val (.int xd), .val (.int xe), .val (.int xf), .val (.int v1), .val (.ref b2), .val (.ref b5), .val (.int v21), .val (.int v36), .val (.int v71), .val (.int v101_116), .val (.int v121), .val (.int v125), .unset, .unset, .unset] [(.ref b5)])) (fun t_ k_ => XS.aload X165.here hx rfl (hb hby at_175) rfl rfl k_) ?_
    have cd177_185 : (0 : Int32) < (v1 + (1 : Int32)) := own_pl0_38 hv1 hv21 hv36 hv51 hv66 hv71 hv112 hv101_116 hv121 hv125 hc76_72 cd20_14 cd20_15 cd27_20 cd39_23 cd39_24 cd51_38 cd51_39 cd62_53 cd62_54 I3 hF cd68_70 nz86_111 in93_114 HFR nz117_119 nz121_120 HTO in136_123 nz137_124 cd148_127 cd148_128 cd148_129 cd148_130 cd148_131 cd148_132 in159_145 in162_147 in171_164 in174_166 IX
    obtain ⟨cq184, kq184, q184a, q184b, q184c⟩ := isOf hZ e165 E168
    obtain ⟨_, _, ⟨T184, L184, k184, n184⟩, -, X184, ⟨Lc184, hQ184, l184, y184, z184⟩, st184⟩ := X165.virtualBack hx (y := (⟨"com/example/wildsuit/wildsuit/game/Row", "size", "()I"⟩ : MethodName)) (z := (⟨"com/example/wildsuit/wildsuit/game/Row", "size", "()I"⟩ : MethodName)) hown (mvT hZ (hw _ (List.mem_of_getElem? (i := 20) rfl))) (mvT hZ (hw _ (List.mem_of_getElem? (i := 21) rfl))) (notFace_of_selects (args := #[]) (mvT hZ (hw _ (List.mem_of_getElem? (i := 23) rfl)))) (mvT hZ (hw _ (List.mem_of_getElem? (i := 23) rfl))) (mvT hZ (hw _ (List.mem_of_getElem? (i := 22) rfl))) (by decide) (backOf (W := 0) (rm3 l Z a0 hw [] b5 bo_13 (v1 + (1 : Int32)) BX h165 n0 sz165 F174 G182 cd177_185) hZ (hw _ (List.mem_of_getElem? (i := 24) rfl)) (hw _ (List.mem_of_getElem? (i := 3) rfl)) (by decide) (by decide)) q184a q184c (g := (mkF m 177 #[.val (.int xa), .val (.int xb), .val (.int xc), .val (.int xd), .val (.int xe), .val (.int xf), .val (.int v1), .val (.ref b2), .val (.ref b5), .val (.int v21), .val (.int v36), .val (.int v71), .val (.int v101_116), .val (.int v121), .val (.int v125), .unset, .unset, .unset] [(.ref b5)])) rfl (by rw [hml]; rfl) (Steps.refl _) (argsL := []) (rest := []) (lenOf pd_0_1 rfl) rfl (by show 2 * 0 + _ ≤ _; exact Nat.le_of_eq rfl) (hb hby at_177) (fun _ _ => ⟨rfl, e165, (by decide : 6 + 0 ≤ _), (by decide : 125 + 0 ≤ _)⟩)
    dsimp only [Pt.U, Pt.locs, Pt.cells, Pt.slots] at X184 l184 y184 z184 st184 hQ184
    subst l184 y184 z184
    obtain ⟨rfl, Nq184, hh184⟩ := hQ184
    have N184 := Fr.app N165 Nq184
    refine own_Goes.via (T' := T184) (g' := (mkF m 180 #[.val (.int xa), .val (.int xb), .val (.int xc), .val (.int xd), .val (.int xe), .val (.int xf), .val (.int v1), .val (.ref b2), .val (.ref b5), .val (.int v21), .val (.int v36), .val (.int v71), .val (.int v101_116), .val (.int v121), .val (.int v125), .unset, .unset, .unset] [(.int (BX ((v1 + (1 : Int32)) - (1 : Int32)).toNatClampNeg))])) (fun t_ k_ => st184.trans k_) ?_
    obtain ⟨v186, hv186⟩ : ∃ z : Int32, z = (BX ((v1 + (1 : Int32)) - (1 : Int32)).toNatClampNeg) := ⟨_, rfl⟩
    rw [← hv186]
    refine own_Goes.via (T' := T184) (g' := (mkF m 182 #[.val (.int xa), .val (.int xb), .val (.int xc), .val (.int xd), .val (.int xe), .val (.int xf), .val (.int v1), .val (.ref b2), .val (.ref b5), .val (.int v21), .val (.int v36), .val (.int v71), .val (.int v186), .val (.int v121), .val (.int v125), .unset, .unset, .unset] [])) (fun t_ k_ => XS.istore X184.here hx rfl (hb hby at_180) rfl (l' := #[.val (.int xa), .val (.int xb), .val (.int xc), .val (.int xd), .val (.int xe), .val (.int xf), .val (.int v1), .val (.ref b2), .val (.ref b5), .val (.int v21), .val (.int v36), .val (.int v71), .val (.int v186), .val (.int v121), .val (.int v125), .unset, .unset, .unset]) rfl k_) ?_
    refine own_Goes.via (T' := T184) (g' := (mkF m 184 #[.val (.int xa), .val (.int xb), .val (.int xc), .val (.int xd), .val (.int xe), .val (.int xf), .val (.int v1), .val (.ref b2), .val (.ref b5), .val (.int v21), .val (.int v36), .val (.int v71), .val (.int v186), .val (.int v121), .val (.int v125), .unset, .unset, .unset] [(.int xf)])) (fun t_ k_ => XS.iload X184.here hx rfl (hb hby at_182) rfl k_) ?_
    refine own_Goes.via (T' := T184) (g' := (mkF m 186 #[.val (.int xa), .val (.int xb), .val (.int xc), .val (.int xd), .val (.int xe), .val (.int xf), .val (.int v1), .val (.ref b2), .val (.ref b5), .val (.int v21), .val (.int v36), .val (.int v71), .val (.int v186), .val (.int v121), .val (.int v125), .unset, .unset, .unset] [(.int (2147483647 : Int32)), (.int xf)])) (X184.ldcInt hx hown (mvT hZ (hw _ (List.mem_of_getElem? (i := 29) rfl))) (g := (mkF m 184 #[.val (.int xa), .val (.int xb), .val (.int xc), .val (.int xd), .val (.int xe), .val (.int xf), .val (.int v1), .val (.ref b2), .val (.ref b5), .val (.int v21), .val (.int v36), .val (.int v71), .val (.int v186), .val (.int v121), .val (.int v125), .unset, .unset, .unset] [(.int xf)])) rfl (hb hby at_184)) ?_
    refine own_Goes.via (T' := T184) (g' := (mkF m 187 #[.val (.int xa), .val (.int xb), .val (.int xc), .val (.int xd), .val (.int xe), .val (.int xf), .val (.int v1), .val (.ref b2), .val (.ref b5), .val (.int v21), .val (.int v36), .val (.int v71), .val (.int v186), .val (.int v121), .val (.int v125), .unset, .unset, .unset] [(.int (xf &&& (2147483647 : Int32)))])) (fun t_ k_ => XS.iand X184.here hx rfl (hb hby at_186) rfl k_) ?_
    refine own_Goes.via (T' := T184) (g' := (mkF m 189 #[.val (.int xa), .val (.int xb), .val (.int xc), .val (.int xd), .val (.int xe), .val (.int xf), .val (.int v1), .val (.ref b2), .val (.ref b5), .val (.int v21), .val (.int v36), .val (.int v71), .val (.int v186), .val (.int v121), .val (.int v125), .unset, .unset, .unset] [(.int v1), (.int (xf &&& (2147483647 : Int32)))])) (fun t_ k_ => XS.iload X184.here hx rfl (hb hby at_187) rfl k_) ?_
    have nz189_187 : v1 ≠ (0 : Int32) := own_pl0_39 hv1 hv21 hv36 hv51 hv66 hv71 hv112 hv101_116 hv121 hv125 hv186 hc76_72 cd20_14 cd20_15 cd27_20 cd39_23 cd39_24 cd51_38 cd51_39 cd62_53 cd62_54 I3 hF cd68_70 nz86_111 in93_114 HFR nz117_119 nz121_120 HTO in136_123 nz137_124 cd148_127 cd148_128 cd148_129 cd148_130 cd148_131 cd148_132 in159_145 in162_147 in171_164 in174_166 IX cd177_185
    refine own_Goes.via (T' := T184) (g' := (mkF m 190 #[.val (.int xa), .val (.int xb), .val (.int xc), .val (.int xd), .val (.int xe), .val (.int xf), .val (.int v1), .val (.ref b2), .val (.ref b5), .val (.int v21), .val (.int v36), .val (.int v71), .val (.int v186), .val (.int v121), .val (.int v125), .unset, .unset, .unset] [(.int ((xf &&& (2147483647 : Int32)) % v1))])) (fun t_ k_ => iremM X184 hx rfl (hb hby at_189) rfl nz189_187 k_) ?_
    refine own_Goes.via (T' := T184) (g' := (mkF m 192 #[.val (.int xa), .val (.int xb), .val (.int xc), .val (.int xd), .val (.int xe), .val (.int xf), .val (.int v1), .val (.ref b2), .val (.ref b5), .val (.int v21), .val (.int v36), .val (.int v71), .val (.int v186), .val (.int ((xf &&& (2147483647 : Int32)) % v1)), .val (.int v125), .unset, .unset, .unset] [])) (fun t_ k_ => XS.istore X184.here hx rfl (hb hby at_190) rfl (l' := #[.val (.int xa), .val (.int xb), .val (.int xc), .val (.int xd), .val (.int xe), .val (.int xf), .val (.int v1), .val (.ref b2), .val (.ref b5), .val (.int v21), .val (.int v36), .val (.int v71), .val (.int v186), .val (.int ((xf &&& (2147483647 : Int32)) % v1)), .val (.int v125), .unset, .unset, .unset]) rfl k_) ?_
    obtain ⟨v188, hv188⟩ : ∃ z : Int32, z = ((xf &&& (2147483647 : Int32)) % v1) := ⟨_, rfl⟩
    rw [← hv188]
    refine own_Goes.via (T' := T184) (g' := (mkF m 194 #[.val (.int xa), .val (.int xb), .val (.int xc), .val (.int xd), .val (.int xe), .val (.int xf), .val (.int v1), .val (.ref b2), .val (.ref b5), .val (.int v21), .val (.int v36), .val (.int v71), .val (.int v186), .val (.int v188), .val (.int v125), .unset, .unset, .unset] [(.ref b2)])) (fun t_ k_ => XS.aload X184.here hx rfl (hb hby at_192) rfl rfl k_) ?_
    refine own_Goes.via (T' := T184) (g' := (mkF m 196 #[.val (.int xa), .val (.int xb), .val (.int xc), .val (.int xd), .val (.int xe), .val (.int xf), .val (.int v1), .val (.ref b2), .val (.ref b5), .val (.int v21), .val (.int v36), .val (.int v71), .val (.int v186), .val (.int v188), .val (.int v125), .unset, .unset, .unset] [(.int v188), (.ref b2)])) (fun t_ k_ => XS.iload X184.here hx rfl (hb hby at_194) rfl k_) ?_
    have in196_190 : ¬ v188 < 0 ∧ v188 < (4 : Int32) := own_pl0_40 hv1 hv21 hv36 hv51 hv66 hv71 hv112 hv101_116 hv121 hv125 hv186 hv188 hc76_72 cd20_14 cd20_15 cd27_20 cd39_23 cd39_24 cd51_38 cd51_39 cd62_53 cd62_54 I3 hF cd68_70 nz86_111 in93_114 HFR nz117_119 nz121_120 HTO in136_123 nz137_124 cd148_127 cd148_128 cd148_129 cd148_130 cd148_131 cd148_132 in159_145 in162_147 in171_164 in174_166 IX cd177_185 nz189_187
    obtain ⟨cl189, Ar189, Sl189, at189⟩ := G183.rd in196_190
    refine own_Goes.via (T' := T184) (g' := (mkF m 197 #[.val (.int xa), .val (.int xb), .val (.int xc), .val (.int xd), .val (.int xe), .val (.int xf), .val (.int v1), .val (.ref b2), .val (.ref b5), .val (.int v21), .val (.int v36), .val (.int v71), .val (.int v186), .val (.int v188), .val (.int v125), .unset, .unset, .unset] [(.int (CX v188.toNatClampNeg))])) (fun t_ k_ => X184.iaload hx (j := v188) (v := (.int (CX v188.toNatClampNeg))) (by rw [hh184]; exact Ar189.1) (State.isArrayOf_alike hZ.alike Ar189.2.1) Ar189.2.2 (inb_of Sl189 in196_190) at189 (g := (mkF m 196 #[.val (.int xa), .val (.int xb), .val (.int xc), .val (.int xd), .val (.int xe), .val (.int xf), .val (.int v1), .val (.ref b2), .val (.ref b5), .val (.int v21), .val (.int v36), .val (.int v71), .val (.int v186), .val (.int v188), .val (.int v125), .unset, .unset, .unset] [(.int v188), (.ref b2)])) rfl rfl (hb hby at_196) _ k_) ?_
    refine own_Goes.via (T' := T184) (g' := (mkF m 199 #[.val (.int xa), .val (.int xb), .val (.int xc), .val (.int xd), .val (.int xe), .val (.int xf), .val (.int v1), .val (.ref b2), .val (.ref b5), .val (.int v21), .val (.int v36), .val (.int v71), .val (.int v186), .val (.int v188), .val (.int (CX v188.toNatClampNeg)), .unset, .unset, .unset] [])) (fun t_ k_ => XS.istore X184.here hx rfl (hb hby at_197) rfl (l' := #[.val (.int xa), .val (.int xb), .val (.int xc), .val (.int xd), .val (.int xe), .val (.int xf), .val (.int v1), .val (.ref b2), .val (.ref b5), .val (.int v21), .val (.int v36), .val (.int v71), .val (.int v186), .val (.int v188), .val (.int (CX v188.toNatClampNeg)), .unset, .unset, .unset]) rfl k_) ?_
    obtain ⟨v191, hv191⟩ : ∃ z : Int32, z = (CX v188.toNatClampNeg) := ⟨_, rfl⟩
    rw [← hv191]
    refine own_Goes.via (T' := T184) (g' := (mkF m 201 #[.val (.int xa), .val (.int xb), .val (.int xc), .val (.int xd), .val (.int xe), .val (.int xf), .val (.int v1), .val (.ref b2), .val (.ref b5), .val (.int v21), .val (.int v36), .val (.int v71), .val (.int v186), .val (.int v188), .val (.int v191), .unset, .unset, .unset] [(.int xf)])) (fun t_ k_ => XS.iload X184.here hx rfl (hb hby at_199) rfl k_) ?_
    refine own_Goes.via (T' := T184) (g' := (mkF m 203 #[.val (.int xa), .val (.int xb), .val (.int xc), .val (.int xd), .val (.int xe), .val (.int xf), .val (.int v1), .val (.ref b2), .val (.ref b5), .val (.int v21), .val (.int v36), .val (.int v71), .val (.int v186), .val (.int v188), .val (.int v191), .unset, .unset, .unset] [(.int (8 : Int32)), (.int xf)])) (fun t_ k_ => XS.bipush X184.here hx rfl (hb hby at_201) k_) ?_
    refine own_Goes.via (T' := T184) (g' := (mkF m 204 #[.val (.int xa), .val (.int xb), .val (.int xc), .val (.int xd), .val (.int xe), .val (.int xf), .val (.int v1), .val (.ref b2), .val (.ref b5), .val (.int v21), .val (.int v36), .val (.int v71), .val (.int v186), .val (.int v188), .val (.int v191), .unset, .unset, .unset] [(.int ((xf.toUInt32 >>> ((8 : Int32) &&& 31).toUInt32).toInt32))])) (fun t_ k_ => XS.iushr X184.here hx rfl (hb hby at_203) rfl k_) ?_
    refine own_Goes.via (T' := T184) (g' := (mkF m 206 #[.val (.int xa), .val (.int xb), .val (.int xc), .val (.int xd), .val (.int xe), .val (.int xf), .val (.int v1), .val (.ref b2), .val (.ref b5), .val (.int v21), .val (.int v36), .val (.int v71), .val (.int v186), .val (.int v188), .val (.int v191), .unset, .unset, .unset] [(.int (7 : Int32)), (.int ((xf.toUInt32 >>> ((8 : Int32) &&& 31).toUInt32).toInt32))])) (fun t_ k_ => XS.bipush X184.here hx rfl (hb hby at_204) k_) ?_
    refine own_Goes.via (T' := T184) (g' := (mkF m 207 #[.val (.int xa), .val (.int xb), .val (.int xc), .val (.int xd), .val (.int xe), .val (.int xf), .val (.int v1), .val (.ref b2), .val (.ref b5), .val (.int v21), .val (.int v36), .val (.int v71), .val (.int v186), .val (.int v188), .val (.int v191), .unset, .unset, .unset] [(.int (((xf.toUInt32 >>> ((8 : Int32) &&& 31).toUInt32).toInt32) &&& (7 : Int32)))])) (fun t_ k_ => XS.iand X184.here hx rfl (hb hby at_206) rfl k_) ?_
    refine own_Goes.via (T' := T184) (g' := (mkF m 209 #[.val (.int xa), .val (.int xb), .val (.int xc), .val (.int xd), .val (.int xe), .val (.int xf), .val (.int v1), .val (.ref b2), .val (.ref b5), .val (.int v21), .val (.int v36), .val (.int v71), .val (.int v186), .val (.int v188), .val (.int v191), .unset, .unset, .unset] [(.int v191), (.int (((xf.toUInt32 >>> ((8 : Int32) &&& 31).toUInt32).toInt32) &&& (7 : Int32)))])) (fun t_ k_ => XS.iload X184.here hx rfl (hb hby at_207) rfl k_) ?_
    refine own_Goes.via (T' := T184) (g' := (mkF m 210 #[.val (.int xa), .val (.int xb), .val (.int xc), .val (.int xd), .val (.int xe), .val (.int xf), .val (.int v1), .val (.ref b2), .val (.ref b5), .val (.int v21), .val (.int v36), .val (.int v71), .val (.int v186), .val (.int v188), .val (.int v191), .unset, .unset, .unset] [(.int (1 : Int32)), (.int v191), (.int (((xf.toUInt32 >>> ((8 : Int32) &&& 31).toUInt32).toInt32) &&& (7 : Int32)))])) (fun t_ k_ => XS.iconst X184.here hx rfl (hb hby at_209) k_) ?_
    refine own_Goes.via (T' := T184) (g' := (mkF m 211 #[.val (.int xa), .val (.int xb), .val (.int xc), .val (.int xd), .val (.int xe), .val (.int xf), .val (.int v1), .val (.ref b2), .val (.ref b5), .val (.int v21), .val (.int v36), .val (.int v71), .val (.int v186), .val (.int v188), .val (.int v191), .unset, .unset, .unset] [(.int (v191 + (1 : Int32))), (.int (((xf.toUInt32 >>> ((8 : Int32) &&& 31).toUInt32).toInt32) &&& (7 : Int32)))])) (fun t_ k_ => XS.iadd X184.here hx rfl (hb hby at_210) rfl k_) ?_
    have nz211_192 : (v191 + (1 : Int32)) ≠ (0 : Int32) := own_pl0_41 hv1 hv21 hv36 hv51 hv66 hv71 hv112 hv101_116 hv121 hv125 hv186 hv188 hv191 hc76_72 cd20_14 cd20_15 cd27_20 cd39_23 cd39_24 cd51_38 cd51_39 cd62_53 cd62_54 I3 hF cd68_70 nz86_111 in93_114 HFR nz117_119 nz121_120 HTO in136_123 nz137_124 cd148_127 cd148_128 cd148_129 cd148_130 cd148_131 cd148_132 in159_145 in162_147 in171_164 in174_166 IX cd177_185 nz189_187 in196_190
    refine own_Goes.via (T' := T184) (g' := (mkF m 212 #[.val (.int xa), .val (.int xb), .val (.int xc), .val (.int xd), .val (.int xe), .val (.int xf), .val (.int v1), .val (.ref b2), .val (.ref b5), .val (.int v21), .val (.int v36), .val (.int v71), .val (.int v186), .val (.int v188), .val (.int v191), .unset, .unset, .unset] [(.int ((((xf.toUInt32 >>> ((8 : Int32) &&& 31).toUInt32).toInt32) &&& (7 : Int32)) % (v191 + (1 : Int32))))])) (fun t_ k_ => iremM X184 hx rfl (hb hby at_211) rfl nz211_192 k_) ?_
    refine own_Goes.via (T' := T184) (g' := (mkF m 214 #[.val (.int xa), .val (.int xb), .val (.int xc), .val (.int xd), .val (.int xe), .val (.int xf), .val (.int v1), .val (.ref b2), .val (.ref b5), .val (.int v21), .val (.int v36), .val (.int v71), .val (.int v186), .val (.int v188), .val (.int v191), .val (.int ((((xf.toUInt32 >>> ((8 : Int32) &&& 31).toUInt32).toInt32) &&& (7 : Int32)) % (v191 + (1 : Int32)))), .unset, .unset] [])) (fun t_ k_ => XS.istore X184.here hx rfl (hb hby at_212) rfl (l' := #[.val (.int xa), .val (.int xb), .val (.int xc), .val (.int xd), .val (.int xe), .val (.int xf), .val (.int v1), .val (.ref b2), .val (.ref b5), .val (.int v21), .val (.int v36), .val (.int v71), .val (.int v186), .val (.int v188), .val (.int v191), .val (.int ((((xf.toUInt32 >>> ((8 : Int32) &&& 31).toUInt32).toInt32) &&& (7 : Int32)) % (v191 + (1 : Int32)))), .unset, .unset]) rfl k_) ?_
    obtain ⟨v193, hv193⟩ : ∃ z : Int32, z = ((((xf.toUInt32 >>> ((8 : Int32) &&& 31).toUInt32).toInt32) &&& (7 : Int32)) % (v191 + (1 : Int32))) := ⟨_, rfl⟩
    rw [← hv193]
    refine own_Goes.via (T' := T184) (g' := (mkF m 216 #[.val (.int xa), .val (.int xb), .val (.int xc), .val (.int xd), .val (.int xe), .val (.int xf), .val (.int v1), .val (.ref b2), .val (.ref b5), .val (.int v21), .val (.int v36), .val (.int v71), .val (.int v186), .val (.int v188), .val (.int v191), .val (.int v193), .unset, .unset] [(.int v193)])) (fun t_ k_ => XS.iload X184.here hx rfl (hb hby at_214) rfl k_) ?_
    refine own_Goes.via (T' := T184) (g' := (mkF m 218 #[.val (.int xa), .val (.int xb), .val (.int xc), .val (.int xd), .val (.int xe), .val (.int xf), .val (.int v1), .val (.ref b2), .val (.ref b5), .val (.int v21), .val (.int v36), .val (.int v71), .val (.int v186), .val (.int v188), .val (.int v191), .val (.int v193), .unset, .unset] [(.int xf), (.int v193)])) (fun t_ k_ => XS.iload X184.here hx rfl (hb hby at_216) rfl k_) ?_
    refine own_Goes.via (T' := T184) (g' := (mkF m 220 #[.val (.int xa), .val (.int xb), .val (.int xc), .val (.int xd), .val (.int xe), .val (.int xf), .val (.int v1), .val (.ref b2), .val (.ref b5), .val (.int v21), .val (.int v36), .val (.int v71), .val (.int v186), .val (.int v188), .val (.int v191), .val (.int v193), .unset, .unset] [(.int (12 : Int32)), (.int xf), (.int v193)])) (fun t_ k_ => XS.bipush X184.here hx rfl (hb hby at_218) k_) ?_
    refine own_Goes.via (T' := T184) (g' := (mkF m 221 #[.val (.int xa), .val (.int xb), .val (.int xc), .val (.int xd), .val (.int xe), .val (.int xf), .val (.int v1), .val (.ref b2), .val (.ref b5), .val (.int v21), .val (.int v36), .val (.int v71), .val (.int v186), .val (.int v188), .val (.int v191), .val (.int v193), .unset, .unset] [(.int ((xf.toUInt32 >>> ((12 : Int32) &&& 31).toUInt32).toInt32)), (.int v193)])) (fun t_ k_ => XS.iushr X184.here hx rfl (hb hby at_220) rfl k_) ?_
    refine own_Goes.via (T' := T184) (g' := (mkF m 223 #[.val (.int xa), .val (.int xb), .val (.int xc), .val (.int xd), .val (.int xe), .val (.int xf), .val (.int v1), .val (.ref b2), .val (.ref b5), .val (.int v21), .val (.int v36), .val (.int v71), .val (.int v186), .val (.int v188), .val (.int v191), .val (.int v193), .unset, .unset] [(.int (7 : Int32)), (.int ((xf.toUInt32 >>> ((12 : Int32) &&& 31).toUInt32).toInt32)), (.int v193)])) (fun t_ k_ => XS.bipush X184.here hx rfl (hb hby at_221) k_) ?_
    refine own_Goes.via (T' := T184) (g' := (mkF m 224 #[.val (.int xa), .val (.int xb), .val (.int xc), .val (.int xd), .val (.int xe), .val (.int xf), .val (.int v1), .val (.ref b2), .val (.ref b5), .val (.int v21), .val (.int v36), .val (.int v71), .val (.int v186), .val (.int v188), .val (.int v191), .val (.int v193), .unset, .unset] [(.int (((xf.toUInt32 >>> ((12 : Int32) &&& 31).toUInt32).toInt32) &&& (7 : Int32))), (.int v193)])) (fun t_ k_ => XS.iand X184.here hx rfl (hb hby at_223) rfl k_) ?_
    refine own_Goes.via (T' := T184) (g' := (mkF m 226 #[.val (.int xa), .val (.int xb), .val (.int xc), .val (.int xd), .val (.int xe), .val (.int xf), .val (.int v1), .val (.ref b2), .val (.ref b5), .val (.int v21), .val (.int v36), .val (.int v71), .val (.int v186), .val (.int v188), .val (.int v191), .val (.int v193), .unset, .unset] [(.int v191), (.int (((xf.toUInt32 >>> ((12 : Int32) &&& 31).toUInt32).toInt32) &&& (7 : Int32))), (.int v193)])) (fun t_ k_ => XS.iload X184.here hx rfl (hb hby at_224) rfl k_) ?_
    refine own_Goes.via (T' := T184) (g' := (mkF m 228 #[.val (.int xa), .val (.int xb), .val (.int xc), .val (.int xd), .val (.int xe), .val (.int xf), .val (.int v1), .val (.ref b2), .val (.ref b5), .val (.int v21), .val (.int v36), .val (.int v71), .val (.int v186), .val (.int v188), .val (.int v191), .val (.int v193), .unset, .unset] [(.int v193), (.int v191), (.int (((xf.toUInt32 >>> ((12 : Int32) &&& 31).toUInt32).toInt32) &&& (7 : Int32))), (.int v193)])) (fun t_ k_ => XS.iload X184.here hx rfl (hb hby at_226) rfl k_) ?_
    refine own_Goes.via (T' := T184) (g' := (mkF m 229 #[.val (.int xa), .val (.int xb), .val (.int xc), .val (.int xd), .val (.int xe), .val (.int xf), .val (.int v1), .val (.ref b2), .val (.ref b5), .val (.int v21), .val (.int v36), .val (.int v71), .val (.int v186), .val (.int v188), .val (.int v191), .val (.int v193), .unset, .unset] [(.int (v191 - v193)), (.int (((xf.toUInt32 >>> ((12 : Int32) &&& 31).toUInt32).toInt32) &&& (7 : Int32))), (.int v193)])) (fun t_ k_ => XS.isub X184.here hx rfl (hb hby at_228) rfl k_) ?_
    refine own_Goes.via (T' := T184) (g' := (mkF m 230 #[.val (.int xa), .val (.int xb), .val (.int xc), .val (.int xd), .val (.int xe), .val (.int xf), .val (.int v1), .val (.ref b2), .val (.ref b5), .val (.int v21), .val (.int v36), .val (.int v71), .val (.int v186), .val (.int v188), .val (.int v191), .val (.int v193), .unset, .unset] [(.int (1 : Int32)), (.int (v191 - v193)), (.int (((xf.toUInt32 >>> ((12 : Int32) &&& 31).toUInt32).toInt32) &&& (7 : Int32))), (.int v193)])) (fun t_ k_ => XS.iconst X184.here hx rfl (hb hby at_229) k_) ?_
    refine own_Goes.via (T' := T184) (g' := (mkF m 231 #[.val (.int xa), .val (.int xb), .val (.int xc), .val (.int xd), .val (.int xe), .val (.int xf), .val (.int v1), .val (.ref b2), .val (.ref b5), .val (.int v21), .val (.int v36), .val (.int v71), .val (.int v186), .val (.int v188), .val (.int v191), .val (.int v193), .unset, .unset] [(.int ((v191 - v193) + (1 : Int32))), (.int (((xf.toUInt32 >>> ((12 : Int32) &&& 31).toUInt32).toInt32) &&& (7 : Int32))), (.int v193)])) (fun t_ k_ => XS.iadd X184.here hx rfl (hb hby at_230) rfl k_) ?_
    have nz231_194 : ((v191 - v193) + (1 : Int32)) ≠ (0 : Int32) := own_pl0_42 hv1 hv21 hv36 hv51 hv66 hv71 hv112 hv101_116 hv121 hv125 hv186 hv188 hv191 hv193 hc76_72 cd20_14 cd20_15 cd27_20 cd39_23 cd39_24 cd51_38 cd51_39 cd62_53 cd62_54 I3 hF cd68_70 nz86_111 in93_114 HFR nz117_119 nz121_120 HTO in136_123 nz137_124 cd148_127 cd148_128 cd148_129 cd148_130 cd148_131 cd148_132 in159_145 in162_147 in171_164 in174_166 IX cd177_185 nz189_187 in196_190 nz211_192
    refine own_Goes.via (T' := T184) (g' := (mkF m 232 #[.val (.int xa), .val (.int xb), .val (.int xc), .val (.int xd), .val (.int xe), .val (.int xf), .val (.int v1), .val (.ref b2), .val (.ref b5), .val (.int v21), .val (.int v36), .val (.int v71), .val (.int v186), .val (.int v188), .val (.int v191), .val (.int v193), .unset, .unset] [(.int ((((xf.toUInt32 >>> ((12 : Int32) &&& 31).toUInt32).toInt32) &&& (7 : Int32)) % ((v191 - v193) + (1 : Int32)))), (.int v193)])) (fun t_ k_ => iremM X184 hx rfl (hb hby at_231) rfl nz231_194 k_) ?_
    refine own_Goes.via (T' := T184) (g' := (mkF m 233 #[.val (.int xa), .val (.int xb), .val (.int xc), .val (.int xd), .val (.int xe), .val (.int xf), .val (.int v1), .val (.ref b2), .val (.ref b5), .val (.int v21), .val (.int v36), .val (.int v71), .val (.int v186), .val (.int v188), .val (.int v191), .val (.int v193), .unset, .unset] [(.int (v193 + ((((xf.toUInt32 >>> ((12 : Int32) &&& 31).toUInt32).toInt32) &&& (7 : Int32)) % ((v191 - v193) + (1 : Int32)))))])) (fun t_ k_ => XS.iadd X184.here hx rfl (hb hby at_232) rfl k_) ?_
    refine own_Goes.via (T' := T184) (g' := (mkF m 235 #[.val (.int xa), .val (.int xb), .val (.int xc), .val (.int xd), .val (.int xe), .val (.int xf), .val (.int v1), .val (.ref b2), .val (.ref b5), .val (.int v21), .val (.int v36), .val (.int v71), .val (.int v186), .val (.int v188), .val (.int v191), .val (.int v193), .val (.int (v193 + ((((xf.toUInt32 >>> ((12 : Int32) &&& 31).toUInt32).toInt32) &&& (7 : Int32)) % ((v191 - v193) + (1 : Int32))))), .unset] [])) (fun t_ k_ => XS.istore X184.here hx rfl (hb hby at_233) rfl (l' := #[.val (.int xa), .val (.int xb), .val (.int xc), .val (.int xd), .val (.int xe), .val (.int xf), .val (.int v1), .val (.ref b2), .val (.ref b5), .val (.int v21), .val (.int v36), .val (.int v71), .val (.int v186), .val (.int v188), .val (.int v191), .val (.int v193), .val (.int (v193 + ((((xf.toUInt32 >>> ((12 : Int32) &&& 31).toUInt32).toInt32) &&& (7 : Int32)) % ((v191 - v193) + (1 : Int32))))), .unset]) rfl k_) ?_
    obtain ⟨v195, hv195⟩ : ∃ z : Int32, z = (v193 + ((((xf.toUInt32 >>> ((12 : Int32) &&& 31).toUInt32).toInt32) &&& (7 : Int32)) % ((v191 - v193) + (1 : Int32)))) := ⟨_, rfl⟩
    rw [← hv195]
    refine own_Goes.via (T' := T184) (g' := (mkF m 237 #[.val (.int xa), .val (.int xb), .val (.int xc), .val (.int xd), .val (.int xe), .val (.int xf), .val (.int v1), .val (.ref b2), .val (.ref b5), .val (.int v21), .val (.int v36), .val (.int v71), .val (.int v186), .val (.int v188), .val (.int v191), .val (.int v193), .val (.int v195), .unset] [(.ref b5)])) (fun t_ k_ => XS.aload X184.here hx rfl (hb hby at_235) rfl rfl k_) ?_
    refine own_Goes.via (T' := T184) (g' := (mkF m 239 #[.val (.int xa), .val (.int xb), .val (.int xc), .val (.int xd), .val (.int xe), .val (.int xf), .val (.int v1), .val (.ref b2), .val (.ref b5), .val (.int v21), .val (.int v36), .val (.int v71), .val (.int v186), .val (.int v188), .val (.int v191), .val (.int v193), .val (.int v195), .unset] [(.int v188), (.ref b5)])) (fun t_ k_ => XS.iload X184.here hx rfl (hb hby at_237) rfl k_) ?_
    refine own_Goes.via (T' := T184) (g' := (mkF m 241 #[.val (.int xa), .val (.int xb), .val (.int xc), .val (.int xd), .val (.int xe), .val (.int xf), .val (.int v1), .val (.ref b2), .val (.ref b5), .val (.int v21), .val (.int v36), .val (.int v71), .val (.int v186), .val (.int v188), .val (.int v191), .val (.int v193), .val (.int v195), .unset] [(.int v193), (.int v188), (.ref b5)])) (fun t_ k_ => XS.iload X184.here hx rfl (hb hby at_239) rfl k_) ?_
    refine own_Goes.via (T' := T184) (g' := (mkF m 243 #[.val (.int xa), .val (.int xb), .val (.int xc), .val (.int xd), .val (.int xe), .val (.int xf), .val (.int v1), .val (.ref b2), .val (.ref b5), .val (.int v21), .val (.int v36), .val (.int v71), .val (.int v186), .val (.int v188), .val (.int v191), .val (.int v193), .val (.int v195), .unset] [(.int v195), (.int v193), (.int v188), (.ref b5)])) (fun t_ k_ => XS.iload X184.here hx rfl (hb hby at_241) rfl k_) ?_
    have cd243_197 : (0 : Int32) < (v1 + (1 : Int32)) := own_pl0_43 hv1 hv21 hv36 hv51 hv66 hv71 hv112 hv101_116 hv121 hv125 hv186 hv188 hv191 hv193 hv195 hc76_72 cd20_14 cd20_15 cd27_20 cd39_23 cd39_24 cd51_38 cd51_39 cd62_53 cd62_54 I3 hF cd68_70 nz86_111 in93_114 HFR nz117_119 nz121_120 HTO in136_123 nz137_124 cd148_127 cd148_128 cd148_129 cd148_130 cd148_131 cd148_132 in159_145 in162_147 in171_164 in174_166 IX cd177_185 nz189_187 in196_190 nz211_192 nz231_194
    have cd243_198 : ¬ v188 < 0 ∧ v188 < v1 := own_pl0_44 hv1 hv21 hv36 hv51 hv66 hv71 hv112 hv101_116 hv121 hv125 hv186 hv188 hv191 hv193 hv195 hc76_72 cd20_14 cd20_15 cd27_20 cd39_23 cd39_24 cd51_38 cd51_39 cd62_53 cd62_54 I3 hF cd68_70 nz86_111 in93_114 HFR nz117_119 nz121_120 HTO in136_123 nz137_124 cd148_127 cd148_128 cd148_129 cd148_130 cd148_131 cd148_132 in159_145 in162_147 in171_164 in174_166 IX cd177_185 nz189_187 in196_190 nz211_192 nz231_194 cd243_197
    have cd243_199 : ¬ v188 < 0 ∧ v188 < (v1 + (1 : Int32)) := own_pl0_45 hv1 hv21 hv36 hv51 hv66 hv71 hv112 hv101_116 hv121 hv125 hv186 hv188 hv191 hv193 hv195 hc76_72 cd20_14 cd20_15 cd27_20 cd39_23 cd39_24 cd51_38 cd51_39 cd62_53 cd62_54 I3 hF cd68_70 nz86_111 in93_114 HFR nz117_119 nz121_120 HTO in136_123 nz137_124 cd148_127 cd148_128 cd148_129 cd148_130 cd148_131 cd148_132 in159_145 in162_147 in171_164 in174_166 IX cd177_185 nz189_187 in196_190 nz211_192 nz231_194 cd243_197 cd243_198
    have cd243_200 : 0 ≤ ((BX v188.toNatClampNeg) + v193).toInt ∧ 0 ≤ (v195 - v193).toInt ∧ ((BX v188.toNatClampNeg) + v193).toInt + (v195 - v193).toInt ≤ (BX ((v1 + (1 : Int32)) - (1 : Int32)).toNatClampNeg).toInt ∧ (BX ((v1 + (1 : Int32)) - (1 : Int32)).toNatClampNeg).toInt ≤ 3 := own_pl0_46 hv1 hv21 hv36 hv51 hv66 hv71 hv112 hv101_116 hv121 hv125 hv186 hv188 hv191 hv193 hv195 hc76_72 cd20_14 cd20_15 cd27_20 cd39_23 cd39_24 cd51_38 cd51_39 cd62_53 cd62_54 I3 hF cd68_70 nz86_111 in93_114 HFR nz117_119 nz121_120 HTO in136_123 nz137_124 cd148_127 cd148_128 cd148_129 cd148_130 cd148_131 cd148_132 in159_145 in162_147 in171_164 in174_166 IX cd177_185 nz189_187 in196_190 nz211_192 nz231_194 cd243_197 cd243_198 cd243_199
    obtain ⟨cq196, kq196, q196a, q196b, q196c⟩ := isOf hZ hh184 E168
    obtain ⟨_, _, ⟨T196, L196, k196, n196⟩, -, X196, ⟨Lc196, hQ196, l196, y196, z196⟩, st196⟩ := X184.virtualBack hx (y := (⟨"com/example/wildsuit/wildsuit/game/Row", "remove", "(III)V"⟩ : MethodName)) (z := (⟨"com/example/wildsuit/wildsuit/game/Row", "remove", "(III)V"⟩ : MethodName)) hown (mvT hZ (hw _ (List.mem_of_getElem? (i := 55) rfl))) (mvT hZ (hw _ (List.mem_of_getElem? (i := 56) rfl))) (notFace_of_selects (args := #[]) (mvT hZ (hw _ (List.mem_of_getElem? (i := 58) rfl)))) (mvT hZ (hw _ (List.mem_of_getElem? (i := 58) rfl))) (mvT hZ (hw _ (List.mem_of_getElem? (i := 57) rfl))) (by decide) (backOf (W := 0) (rm10 l Z a0 hw [] b5 v188 v193 v195 bc_13 bo_13 bh_13 bt_13 (v1 + (1 : Int32)) v1 BX h165 n0 sz165 E168 E169 E170 E171 E172 F173 F174 F175 F176 G182 U177 U179 U180 nq13_5 ge_bc_13 ge_bo_13 ge_bh_13 ge_bt_13 cd243_197 cd243_198 cd243_199 cd243_200) hZ (hw _ (List.mem_of_getElem? (i := 59) rfl)) (hw _ (List.mem_of_getElem? (i := 3) rfl)) (by decide) (by decide)) q196a q196c (g := (mkF m 243 #[.val (.int xa), .val (.int xb), .val (.int xc), .val (.int xd), .val (.int xe), .val (.int xf), .val (.int v1), .val (.ref b2), .val (.ref b5), .val (.int v21), .val (.int v36), .val (.int v71), .val (.int v186), .val (.int v188), .val (.int v191), .val (.int v193), .val (.int v195), .unset] [(.int v195), (.int v193), (.int v188), (.ref b5)])) rfl (by rw [hml]; rfl) (Steps.refl _) (argsL := [(.int v188), (.int v193), (.int v195)]) (rest := []) (lenOf pd_0_3 rfl) rfl (by show 2 * 0 + _ ≤ _; exact Nat.le_of_eq rfl) (hb hby at_243) (fun _ _ => ⟨rfl, hh184, (by decide : 6 + 0 ≤ _), (by decide : 125 + 0 ≤ _)⟩)
    dsimp only [Pt.U, Pt.locs, Pt.cells, Pt.slots] at X196 l196 y196 z196 st196 hQ196
    subst l196 y196 z196
    obtain ⟨rfl, Nq196, Kq196, pf196_0, pf196_1, pf196_2, pf196_3⟩ := hQ196
    have N196 := Fr.app N184 Nq196
    have E201 : Exa Z T196.heap b2 "[I" := E167.keep Kq196
    have E202 : Exa Z T196.heap b5 "com/example/wildsuit/wildsuit/game/Row" := E168.keep Kq196
    have E203 : Exa Z T196.heap bc_13 "[B" := E169.keep Kq196
    have E204 : Exa Z T196.heap bo_13 "[I" := E170.keep Kq196
    have E205 : Exa Z T196.heap bh_13 "[J" := E171.keep Kq196
    have E206 : Exa Z T196.heap bt_13 "[J" := E172.keep Kq196
    have F207 : Fld Z T196.heap b5 "com/example/wildsuit/wildsuit/game/Row" "cards" "[B" (.ref bc_13) := F173.keep Kq196 (ninS ne_b5_bc_13 (ninS ne_b5_bo_13 (ninS ne_b5_bh_13 (ninS ne_b5_bt_13 nin0))))
    have F208 : Fld Z T196.heap b5 "com/example/wildsuit/wildsuit/game/Row" "borders" "[I" (.ref bo_13) := F174.keep Kq196 (ninS ne_b5_bc_13 (ninS ne_b5_bo_13 (ninS ne_b5_bh_13 (ninS ne_b5_bt_13 nin0))))
    have F209 : Fld Z T196.heap b5 "com/example/wildsuit/wildsuit/game/Row" "held" "[J" (.ref bh_13) := F175.keep Kq196 (ninS ne_b5_bc_13 (ninS ne_b5_bo_13 (ninS ne_b5_bh_13 (ninS ne_b5_bt_13 nin0))))
    have F210 : Fld Z T196.heap b5 "com/example/wildsuit/wildsuit/game/Row" "heldTwice" "[J" (.ref bt_13) := F176.keep Kq196 (ninS ne_b5_bc_13 (ninS ne_b5_bo_13 (ninS ne_b5_bh_13 (ninS ne_b5_bt_13 nin0))))
    have G211 : own_Gi Z T196.heap b2 .int (4 : Int32) CX := G183.keep Kq196 (ninS ne_b2_bc_13 (ninS ne_b2_bo_13 (ninS ne_b2_bh_13 (ninS ne_b2_bt_13 nin0))))
    have sz196 : n0 ≤ T196.heap.size := Nat.le_trans sz165 Kq196.1
    have K196 : Keep h0 T196.heap [] := (K165).trans Kq196 (allS (Or.inr sz_bc_13) (allS (Or.inr sz_bo_13) (allS (Or.inr sz_bh_13) (allS (Or.inr sz_bt_13) all0))))
    refine own_Goes.via (T' := T196) (g' := (mkF m 246 #[.val (.int xa), .val (.int xb), .val (.int xc), .val (.int xd), .val (.int xe), .val (.int xf), .val (.int v1), .val (.ref b2), .val (.ref b5), .val (.int v21), .val (.int v36), .val (.int v71), .val (.int v186), .val (.int v188), .val (.int v191), .val (.int v193), .val (.int v195), .unset] [])) (fun t_ k_ => st196.trans k_) ?_
    refine own_Goes.via (T' := T196) (g' := (mkF m 248 #[.val (.int xa), .val (.int xb), .val (.int xc), .val (.int xd), .val (.int xe), .val (.int xf), .val (.int v1), .val (.ref b2), .val (.ref b5), .val (.int v21), .val (.int v36), .val (.int v71), .val (.int v186), .val (.int v188), .val (.int v191), .val (.int v193), .val (.int v195), .unset] [(.ref b5)])) (fun t_ k_ => XS.aload X196.here hx rfl (hb hby at_246) rfl rfl k_) ?_
    have cd248_213 : (0 : Int32) < (v1 + (1 : Int32)) := own_pl0_47 hv1 hv21 hv36 hv51 hv66 hv71 hv112 hv101_116 hv121 hv125 hv186 hv188 hv191 hv193 hv195 hc76_72 cd20_14 cd20_15 cd27_20 cd39_23 cd39_24 cd51_38 cd51_39 cd62_53 cd62_54 I3 hF cd68_70 nz86_111 in93_114 HFR nz117_119 nz121_120 HTO in136_123 nz137_124 cd148_127 cd148_128 cd148_129 cd148_130 cd148_131 cd148_132 in159_145 in162_147 in171_164 in174_166 IX cd177_185 nz189_187 in196_190 nz211_192 nz231_194 cd243_197 cd243_198 cd243_199 cd243_200
    obtain ⟨cq212, kq212, q212a, q212b, q212c⟩ := isOf hZ rfl E202
    obtain ⟨_, _, ⟨T212, L212, k212, n212⟩, -, X212, ⟨Lc212, hQ212, l212, y212, z212⟩, st212⟩ := X196.virtualBack hx (y := (⟨"com/example/wildsuit/wildsuit/game/Row", "size", "()I"⟩ : MethodName)) (z := (⟨"com/example/wildsuit/wildsuit/game/Row", "size", "()I"⟩ : MethodName)) hown (mvT hZ (hw _ (List.mem_of_getElem? (i := 20) rfl))) (mvT hZ (hw _ (List.mem_of_getElem? (i := 21) rfl))) (notFace_of_selects (args := #[]) (mvT hZ (hw _ (List.mem_of_getElem? (i := 23) rfl)))) (mvT hZ (hw _ (List.mem_of_getElem? (i := 23) rfl))) (mvT hZ (hw _ (List.mem_of_getElem? (i := 22) rfl))) (by decide) (backOf (W := 0) (rm3 l Z a0 hw [] b5 bo_13 (v1 + (1 : Int32)) (own_mv BX v188 (v1 + (1 : Int32)) (-(v195 - v193))) T196.heap n0 sz196 F208 pf196_1 cd248_213) hZ (hw _ (List.mem_of_getElem? (i := 24) rfl)) (hw _ (List.mem_of_getElem? (i := 3) rfl)) (by decide) (by decide)) q212a q212c (g := (mkF m 248 #[.val (.int xa), .val (.int xb), .val (.int xc), .val (.int xd), .val (.int xe), .val (.int xf), .val (.int v1), .val (.ref b2), .val (.ref b5), .val (.int v21), .val (.int v36), .val (.int v71), .val (.int v186), .val (.int v188), .val (.int v191), .val (.int v193), .val (.int v195), .unset] [(.ref b5)])) rfl (by rw [hml]; rfl) (Steps.refl _) (argsL := []) (rest := []) (lenOf pd_0_1 rfl) rfl (by show 2 * 0 + _ ≤ _; exact Nat.le_of_eq rfl) (hb hby at_248) (fun _ _ => ⟨rfl, rfl, (by decide : 6 + 0 ≤ _), (by decide : 125 + 0 ≤ _)⟩)
    dsimp only [Pt.U, Pt.locs, Pt.cells, Pt.slots] at X212 l212 y212 z212 st212 hQ212
    subst l212 y212 z212
    obtain ⟨rfl, Nq212, hh212⟩ := hQ212
    have N212 := Fr.app N196 Nq212
    refine own_Goes.via (T' := T212) (g' := (mkF m 251 #[.val (.int xa), .val (.int xb), .val (.int xc), .val (.int xd), .val (.int xe), .val (.int xf), .val (.int v1), .val (.ref b2), .val (.ref b5), .val (.int v21), .val (.int v36), .val (.int v71), .val (.int v186), .val (.int v188), .val (.int v191), .val (.int v193), .val (.int v195), .unset] [(.int ((own_mv BX v188 (v1 + (1 : Int32)) (-(v195 - v193))) ((v1 + (1 : Int32)) - (1 : Int32)).toNatClampNeg))])) (fun t_ k_ => st212.trans k_) ?_
    obtain ⟨v214, hv214⟩ : ∃ z : Int32, z = ((own_mv BX v188 (v1 + (1 : Int32)) (-(v195 - v193))) ((v1 + (1 : Int32)) - (1 : Int32)).toNatClampNeg) := ⟨_, rfl⟩
    rw [← hv214]
    refine own_Goes.via (T' := T212) (g' := (mkF m 253 #[.val (.int xa), .val (.int xb), .val (.int xc), .val (.int xd), .val (.int xe), .val (.int xf), .val (.int v1), .val (.ref b2), .val (.ref b5), .val (.int v21), .val (.int v36), .val (.int v71), .val (.int v186), .val (.int v188), .val (.int v191), .val (.int v193), .val (.int v195), .val (.int v214)] [])) (fun t_ k_ => XS.istore X212.here hx rfl (hb hby at_251) rfl (l' := #[.val (.int xa), .val (.int xb), .val (.int xc), .val (.int xd), .val (.int xe), .val (.int xf), .val (.int v1), .val (.ref b2), .val (.ref b5), .val (.int v21), .val (.int v36), .val (.int v71), .val (.int v186), .val (.int v188), .val (.int v191), .val (.int v193), .val (.int v195), .val (.int v214)]) rfl k_) ?_
    refine own_Goes.via (T' := T212) (g' := (mkF m 255 #[.val (.int xa), .val (.int xb), .val (.int xc), .val (.int xd), .val (.int xe), .val (.int xf), .val (.int v1), .val (.ref b2), .val (.ref b5), .val (.int v21), .val (.int v36), .val (.int v71), .val (.int v186), .val (.int v188), .val (.int v191), .val (.int v193), .val (.int v195), .val (.int v214)] [(.int v21)])) (fun t_ k_ => XS.iload X212.here hx rfl (hb hby at_253) rfl k_) ?_
    suffices J287_218 : ∀ (v287_216 : Int32) (hv287_216 : v287_216 = (if v21 = (0 : Int32) then (if v71 = (3 : Int32) then (if v186 = (3 : Int32) then (if v214 = ((3 : Int32) - (v195 - v193)) then (1 : Int32) else (0 : Int32)) else (0 : Int32)) else (0 : Int32)) else (0 : Int32))), own_Goes p.tables e below P T212 (mkF m 287 #[.val (.int xa), .val (.int xb), .val (.int xc), .val (.int xd), .val (.int xe), .val (.int xf), .val (.int v1), .val (.ref b2), .val (.ref b5), .val (.int v21), .val (.int v36), .val (.int v71), .val (.int v186), .val (.int v188), .val (.int v191), .val (.int v193), .val (.int v195), .val (.int v214)] [(.int v287_216)]) by
      by_cases hc255_215 : v21 = (0 : Int32)
      · refine own_Goes.via (T' := T212) (g' := (mkF m 258 #[.val (.int xa), .val (.int xb), .val (.int xc), .val (.int xd), .val (.int xe), .val (.int xf), .val (.int v1), .val (.ref b2), .val (.ref b5), .val (.int v21), .val (.int v36), .val (.int v71), .val (.int v186), .val (.int v188), .val (.int v191), .val (.int v193), .val (.int v195), .val (.int v214)] [])) (fun t_ k_ => XS.ifNo X212.here hx rfl (hb hby at_255) rfl ((if0 _ _).trans (teq hc255_215).2) k_) ?_
        refine own_Goes.via (T' := T212) (g' := (mkF m 260 #[.val (.int xa), .val (.int xb), .val (.int xc), .val (.int xd), .val (.int xe), .val (.int xf), .val (.int v1), .val (.ref b2), .val (.ref b5), .val (.int v21), .val (.int v36), .val (.int v71), .val (.int v186), .val (.int v188), .val (.int v191), .val (.int v193), .val (.int v195), .val (.int v214)] [(.int v71)])) (fun t_ k_ => XS.iload X212.here hx rfl (hb hby at_258) rfl k_) ?_
        refine own_Goes.via (T' := T212) (g' := (mkF m 261 #[.val (.int xa), .val (.int xb), .val (.int xc), .val (.int xd), .val (.int xe), .val (.int xf), .val (.int v1), .val (.ref b2), .val (.ref b5), .val (.int v21), .val (.int v36), .val (.int v71), .val (.int v186), .val (.int v188), .val (.int v191), .val (.int v193), .val (.int v195), .val (.int v214)] [(.int (3 : Int32)), (.int v71)])) (fun t_ k_ => XS.iconst X212.here hx rfl (hb hby at_260) k_) ?_
        by_cases hc261_219 : v71 = (3 : Int32)
        · refine own_Goes.via (T' := T212) (g' := (mkF m 264 #[.val (.int xa), .val (.int xb), .val (.int xc), .val (.int xd), .val (.int xe), .val (.int xf), .val (.int v1), .val (.ref b2), .val (.ref b5), .val (.int v21), .val (.int v36), .val (.int v71), .val (.int v186), .val (.int v188), .val (.int v191), .val (.int v193), .val (.int v195), .val (.int v214)] [])) (fun t_ k_ => XS.icmpNo X212.here hx rfl (hb hby at_261) rfl (teq hc261_219).2 k_) ?_
          refine own_Goes.via (T' := T212) (g' := (mkF m 266 #[.val (.int xa), .val (.int xb), .val (.int xc), .val (.int xd), .val (.int xe), .val (.int xf), .val (.int v1), .val (.ref b2), .val (.ref b5), .val (.int v21), .val (.int v36), .val (.int v71), .val (.int v186), .val (.int v188), .val (.int v191), .val (.int v193), .val (.int v195), .val (.int v214)] [(.int v186)])) (fun t_ k_ => XS.iload X212.here hx rfl (hb hby at_264) rfl k_) ?_
          refine own_Goes.via (T' := T212) (g' := (mkF m 267 #[.val (.int xa), .val (.int xb), .val (.int xc), .val (.int xd), .val (.int xe), .val (.int xf), .val (.int v1), .val (.ref b2), .val (.ref b5), .val (.int v21), .val (.int v36), .val (.int v71), .val (.int v186), .val (.int v188), .val (.int v191), .val (.int v193), .val (.int v195), .val (.int v214)] [(.int (3 : Int32)), (.int v186)])) (fun t_ k_ => XS.iconst X212.here hx rfl (hb hby at_266) k_) ?_
          by_cases hc267_220 : v186 = (3 : Int32)
          · refine own_Goes.via (T' := T212) (g' := (mkF m 270 #[.val (.int xa), .val (.int xb), .val (.int xc), .val (.int xd), .val (.int xe), .val (.int xf), .val (.int v1), .val (.ref b2), .val (.ref b5), .val (.int v21), .val (.int v36), .val (.int v71), .val (.int v186), .val (.int v188), .val (.int v191), .val (.int v193), .val (.int v195), .val (.int v214)] [])) (fun t_ k_ => XS.icmpNo X212.here hx rfl (hb hby at_267) rfl (teq hc267_220).2 k_) ?_
            refine own_Goes.via (T' := T212) (g' := (mkF m 272 #[.val (.int xa), .val (.int xb), .val (.int xc), .val (.int xd), .val (.int xe), .val (.int xf), .val (.int v1), .val (.ref b2), .val (.ref b5), .val (.int v21), .val (.int v36), .val (.int v71), .val (.int v186), .val (.int v188), .val (.int v191), .val (.int v193), .val (.int v195), .val (.int v214)] [(.int v214)])) (fun t_ k_ => XS.iload X212.here hx rfl (hb hby at_270) rfl k_) ?_
            refine own_Goes.via (T' := T212) (g' := (mkF m 273 #[.val (.int xa), .val (.int xb), .val (.int xc), .val (.int xd), .val (.int xe), .val (.int xf), .val (.int v1), .val (.ref b2), .val (.ref b5), .val (.int v21), .val (.int v36), .val (.int v71), .val (.int v186), .val (.int v188), .val (.int v191), .val (.int v193), .val (.int v195), .val (.int v214)] [(.int (3 : Int32)), (.int v214)])) (fun t_ k_ => XS.iconst X212.here hx rfl (hb hby at_272) k_) ?_
            refine own_Goes.via (T' := T212) (g' := (mkF m 275 #[.val (.int xa), .val (.int xb), .val (.int xc), .val (.int xd), .val (.int xe), .val (.int xf), .val (.int v1), .val (.ref b2), .val (.ref b5), .val (.int v21), .val (.int v36), .val (.int v71), .val (.int v186), .val (.int v188), .val (.int v191), .val (.int v193), .val (.int v195), .val (.int v214)] [(.int v195), (.int (3 : Int32)), (.int v214)])) (fun t_ k_ => XS.iload X212.here hx rfl (hb hby at_273) rfl k_) ?_
            refine own_Goes.via (T' := T212) (g' := (mkF m 277 #[.val (.int xa), .val (.int xb), .val (.int xc), .val (.int xd), .val (.int xe), .val (.int xf), .val (.int v1), .val (.ref b2), .val (.ref b5), .val (.int v21), .val (.int v36), .val (.int v71), .val (.int v186), .val (.int v188), .val (.int v191), .val (.int v193), .val (.int v195), .val (.int v214)] [(.int v193), (.int v195), (.int (3 : Int32)), (.int v214)])) (fun t_ k_ => XS.iload X212.here hx rfl (hb hby at_275) rfl k_) ?_
            refine own_Goes.via (T' := T212) (g' := (mkF m 278 #[.val (.int xa), .val (.int xb), .val (.int xc), .val (.int xd), .val (.int xe), .val (.int xf), .val (.int v1), .val (.ref b2), .val (.ref b5), .val (.int v21), .val (.int v36), .val (.int v71), .val (.int v186), .val (.int v188), .val (.int v191), .val (.int v193), .val (.int v195), .val (.int v214)] [(.int (v195 - v193)), (.int (3 : Int32)), (.int v214)])) (fun t_ k_ => XS.isub X212.here hx rfl (hb hby at_277) rfl k_) ?_
            refine own_Goes.via (T' := T212) (g' := (mkF m 279 #[.val (.int xa), .val (.int xb), .val (.int xc), .val (.int xd), .val (.int xe), .val (.int xf), .val (.int v1), .val (.ref b2), .val (.ref b5), .val (.int v21), .val (.int v36), .val (.int v71), .val (.int v186), .val (.int v188), .val (.int v191), .val (.int v193), .val (.int v195), .val (.int v214)] [(.int ((3 : Int32) - (v195 - v193))), (.int v214)])) (fun t_ k_ => XS.isub X212.here hx rfl (hb hby at_278) rfl k_) ?_
            by_cases hc279_221 : v214 = ((3 : Int32) - (v195 - v193))
            · refine own_Goes.via (T' := T212) (g' := (mkF m 282 #[.val (.int xa), .val (.int xb), .val (.int xc), .val (.int xd), .val (.int xe), .val (.int xf), .val (.int v1), .val (.ref b2), .val (.ref b5), .val (.int v21), .val (.int v36), .val (.int v71), .val (.int v186), .val (.int v188), .val (.int v191), .val (.int v193), .val (.int v195), .val (.int v214)] [])) (fun t_ k_ => XS.icmpNo X212.here hx rfl (hb hby at_279) rfl (teq hc279_221).2 k_) ?_
              refine own_Goes.via (T' := T212) (g' := (mkF m 283 #[.val (.int xa), .val (.int xb), .val (.int xc), .val (.int xd), .val (.int xe), .val (.int xf), .val (.int v1), .val (.ref b2), .val (.ref b5), .val (.int v21), .val (.int v36), .val (.int v71), .val (.int v186), .val (.int v188), .val (.int v191), .val (.int v193), .val (.int v195), .val (.int v214)] [(.int (1 : Int32))])) (fun t_ k_ => XS.iconst X212.here hx rfl (hb hby at_282) k_) ?_
              refine own_Goes.via (T' := T212) (g' := (mkF m 287 #[.val (.int xa), .val (.int xb), .val (.int xc), .val (.int xd), .val (.int xe), .val (.int xf), .val (.int v1), .val (.ref b2), .val (.ref b5), .val (.int v21), .val (.int v36), .val (.int v71), .val (.int v186), .val (.int v188), .val (.int v191), .val (.int v193), .val (.int v195), .val (.int v214)] [(.int (1 : Int32))])) (fun t_ k_ => XS.goto X212.here hx rfl (pc0 := 283) (pc' := 287) rfl (hb hby at_283) (by decide) (by decide) k_) ?_
              exact J287_218 (1 : Int32) (((if_pos hc255_215).trans ((if_pos hc261_219).trans ((if_pos hc267_220).trans (if_pos hc279_221))))).symm
            · refine own_Goes.via (T' := T212) (g' := (mkF m 286 #[.val (.int xa), .val (.int xb), .val (.int xc), .val (.int xd), .val (.int xe), .val (.int xf), .val (.int v1), .val (.ref b2), .val (.ref b5), .val (.int v21), .val (.int v36), .val (.int v71), .val (.int v186), .val (.int v188), .val (.int v191), .val (.int v193), .val (.int v195), .val (.int v214)] [])) (fun t_ k_ => XS.icmpYes X212.here hx rfl (pc0 := 279) (pc' := 286) rfl (hb hby at_279) rfl (feq hc279_221).2 (by decide) (by decide) k_) ?_
              refine own_Goes.via (T' := T212) (g' := (mkF m 287 #[.val (.int xa), .val (.int xb), .val (.int xc), .val (.int xd), .val (.int xe), .val (.int xf), .val (.int v1), .val (.ref b2), .val (.ref b5), .val (.int v21), .val (.int v36), .val (.int v71), .val (.int v186), .val (.int v188), .val (.int v191), .val (.int v193), .val (.int v195), .val (.int v214)] [(.int (0 : Int32))])) (fun t_ k_ => XS.iconst X212.here hx rfl (hb hby at_286) k_) ?_
              exact J287_218 (0 : Int32) (((if_pos hc255_215).trans ((if_pos hc261_219).trans ((if_pos hc267_220).trans (if_neg hc279_221))))).symm
          · refine own_Goes.via (T' := T212) (g' := (mkF m 286 #[.val (.int xa), .val (.int xb), .val (.int xc), .val (.int xd), .val (.int xe), .val (.int xf), .val (.int v1), .val (.ref b2), .val (.ref b5), .val (.int v21), .val (.int v36), .val (.int v71), .val (.int v186), .val (.int v188), .val (.int v191), .val (.int v193), .val (.int v195), .val (.int v214)] [])) (fun t_ k_ => XS.icmpYes X212.here hx rfl (pc0 := 267) (pc' := 286) rfl (hb hby at_267) rfl (feq hc267_220).2 (by decide) (by decide) k_) ?_
            refine own_Goes.via (T' := T212) (g' := (mkF m 287 #[.val (.int xa), .val (.int xb), .val (.int xc), .val (.int xd), .val (.int xe), .val (.int xf), .val (.int v1), .val (.ref b2), .val (.ref b5), .val (.int v21), .val (.int v36), .val (.int v71), .val (.int v186), .val (.int v188), .val (.int v191), .val (.int v193), .val (.int v195), .val (.int v214)] [(.int (0 : Int32))])) (fun t_ k_ => XS.iconst X212.here hx rfl (hb hby at_286) k_) ?_
            exact J287_218 (0 : Int32) (((if_pos hc255_215).trans ((if_pos hc261_219).trans (if_neg hc267_220)))).symm
        · refine own_Goes.via (T' := T212) (g' := (mkF m 286 #[.val (.int xa), .val (.int xb), .val (.int xc), .val (.int xd), .val (.int xe), .val (.int xf), .val (.int v1), .val (.ref b2), .val (.ref b5), .val (.int v21), .val (.int v36), .val (.int v71), .val (.int v186), .val (.int v188), .val (.int v191), .val (.int v193), .val (.int v195), .val (.int v214)] [])) (fun t_ k_ => XS.icmpYes X212.here hx rfl (pc0 := 261) (pc' := 286) rfl (hb hby at_261) rfl (feq hc261_219).2 (by decide) (by decide) k_) ?_
          refine own_Goes.via (T' := T212) (g' := (mkF m 287 #[.val (.int xa), .val (.int xb), .val (.int xc), .val (.int xd), .val (.int xe), .val (.int xf), .val (.int v1), .val (.ref b2), .val (.ref b5), .val (.int v21), .val (.int v36), .val (.int v71), .val (.int v186), .val (.int v188), .val (.int v191), .val (.int v193), .val (.int v195), .val (.int v214)] [(.int (0 : Int32))])) (fun t_ k_ => XS.iconst X212.here hx rfl (hb hby at_286) k_) ?_
          exact J287_218 (0 : Int32) (((if_pos hc255_215).trans (if_neg hc261_219))).symm
      · refine own_Goes.via (T' := T212) (g' := (mkF m 286 #[.val (.int xa), .val (.int xb), .val (.int xc), .val (.int xd), .val (.int xe), .val (.int xf), .val (.int v1), .val (.ref b2), .val (.ref b5), .val (.int v21), .val (.int v36), .val (.int v71), .val (.int v186), .val (.int v188), .val (.int v191), .val (.int v193), .val (.int v195), .val (.int v214)] [])) (fun t_ k_ => XS.ifYes X212.here hx rfl (pc0 := 255) (pc' := 286) rfl (hb hby at_255) rfl ((if0 _ _).trans (feq hc255_215).2) (by decide) (by decide) k_) ?_
        refine own_Goes.via (T' := T212) (g' := (mkF m 287 #[.val (.int xa), .val (.int xb), .val (.int xc), .val (.int xd), .val (.int xe), .val (.int xf), .val (.int v1), .val (.ref b2), .val (.ref b5), .val (.int v21), .val (.int v36), .val (.int v71), .val (.int v186), .val (.int v188), .val (.int v191), .val (.int v193), .val (.int v195), .val (.int v214)] [(.int (0 : Int32))])) (fun t_ k_ => XS.iconst X212.here hx rfl (hb hby at_286) k_) ?_
        exact J287_218 (0 : Int32) ((if_neg hc255_215)).symm
    intro v287_216 hv287_216
    have hfin : v287_216 = 1 := own_pl0_48 hv1 hv21 hv36 hv51 hv66 hv71 hv112 hv101_116 hv121 hv125 hv186 hv188 hv191 hv193 hv195 hv214 hv287_216 hc76_72 cd20_14 cd20_15 cd27_20 cd39_23 cd39_24 cd51_38 cd51_39 cd62_53 cd62_54 I3 hF cd68_70 nz86_111 in93_114 HFR nz117_119 nz121_120 HTO in136_123 nz137_124 cd148_127 cd148_128 cd148_129 cd148_130 cd148_131 cd148_132 in159_145 in162_147 in171_164 in174_166 IX cd177_185 nz189_187 in196_190 nz211_192 nz231_194 cd243_197 cd243_198 cd243_199 cd243_200 cd248_213
    rw [hfin]
    obtain ⟨fs, hr, hrun, hended, hW, hsame⟩ := X212.leave (v := some (.int 1)) (fun h => by rw [Bd.returns] at h; cases h)
    refine own_Goes.fin (retN X212 hx (t := .boolean) Bd.returns (by simp) (hb hby at_287) hr) hrun hended ?_
    subst hPd
    refine ⟨_, _, rfl, ?_, ⟨_, rfl⟩, hW, hsame.mono (by decide) (by decide)⟩
    show Q0 Z xa xb xc xd xe xf h0 n0 _ T212.heap _
    rw [hh212]
    exact ⟨rfl, N212⟩
set_option maxRecDepth 65536 in
set_option maxHeartbeats 40000000 in
theorem comes_1 {Post : Tables → Env → Array Value → State → Outcome → State → Prop} (hpost : ∀ tb e args s v u, (limb_1_1.after args s (.returned v) u = true ∧ limb_1_2.after args s (.returned v) u = true ∧ True) → FrameEnd s (.returned v) u (Jvm.fieldLocs frame_1_writes args s ++ Jvm.arrayLocs frame_1_arrays args s ++ Jvm.staticLocs frame_1_statics s) 24 320 → Post tb e args s (.returned v) u) :
    ArmFor flags0 classFile x code maxLocals ret World_1 tables_1 room_1 Calls_1 rest_1 Pre_1 Post := by
  intro l hfl _ _ p e ha hc hk s m args below hf hA hF happ hP
  obtain ⟨hcalls, hrest, hpre⟩ := hP
  obtain ⟨-, -, -, hnamed, -, -, -, hat⟩ := (Spec.applies_iff hf).mp happ
  obtain ⟨hg, hn⟩ := and_e (Cond.before_iff.mp (show (Jvm.Cond.and given_1 narrow_1).before args s = true from hpre))
  obtain ⟨g1, g2⟩ := and_e hg
  obtain ⟨g3, g4⟩ := and_e g2
  obtain ⟨g5, g6⟩ := and_e g4
  obtain ⟨g7, g8⟩ := and_e g6
  obtain ⟨g9, g10⟩ := and_e g8
  obtain ⟨g11, g12⟩ := and_e g10
  obtain ⟨w0, w1, w2, w3, w4, w5, rfl⟩ : ∃ w0 w1 w2 w3 w4 w5 : Value, args = #[w0, w1, w2, w3, w4, w5] := by
    have hs : args.size = 6 := by simpa [Cond.value, given_1] using g1
    obtain ⟨L⟩ := args
    match L, hs with
    | [w0, w1, w2, w3, w4, w5], _ => exact ⟨w0, w1, w2, w3, w4, w5, rfl⟩
  have hw := fun d (hd : d ∈ tables_1) => atoms_spec (ws := Jvm.Cond.code x code maxLocals ret :: tables_1) hat d (List.mem_cons_of_mem _ hd)
  have hfit : Fit s := fun {y c} hc i hi => by
    obtain ⟨ha, rfl⟩ := Array.getElem?_eq_some_iff.mp hc
    have q := List.all_eq_true.mp ((Array.all_eq_true_iff_forall_mem.mp hF) _ (Array.getElem_mem ha)) i (List.mem_range.mpr hi)
    simpa [Array.getElem?_eq_getElem hi] using q
  obtain ⟨i0, ei0⟩ := is_v g3
  obtain rfl : w0 = (.int i0) := Option.some.inj ei0
  obtain ⟨i1, ei1⟩ := is_v g5
  obtain rfl : w1 = (.int i1) := Option.some.inj ei1
  obtain ⟨i2, ei2⟩ := is_v g7
  obtain rfl : w2 = (.int i2) := Option.some.inj ei2
  obtain ⟨i3, ei3⟩ := is_v g9
  obtain rfl : w3 = (.int i3) := Option.some.inj ei3
  obtain ⟨i4, ei4⟩ := is_v g11
  obtain rfl : w4 = (.int i4) := Option.some.inj ei4
  obtain ⟨i5, ei5⟩ := is_v g12
  obtain rfl : w5 = (.int i5) := Option.some.inj ei5
  obtain ⟨n, o, h1, h2, h3, _, L, rfl, ⟨rfl, N⟩, hq⟩ := rm0 l s _ hw tables_1 i0 i1 i2 i3 i4 i5  s.heap s.heap.size (Nat.le_refl _)  p e ha hc hk s m _ below hf ((Spec.applies_iff_loose hf).mp happ).1 ⟨rfl, State.Warmed39.refl s, rfl⟩ trivial
  refine ⟨n, _, h1, h2, h3, hpost _ _ _ _ _ _ ⟨Cond.after_iff.mpr rfl, Cond.after_iff.mpr (eq_i res_at (Term.int_eval (1)) rfl), trivial⟩ ⟨hq.1, hq.2.1, (hq.2.2.sift fun y hy => Or.inr (N y hy)).mono (by decide) (by decide)⟩⟩
theorem main_1_1 : Claimed_1_1 := comes_1 fun _ _ _ _ _ _ h hF => ⟨h.1, hF⟩
theorem main_1_2 : Claimed_1_2 := comes_1 fun _ _ _ _ _ _ h hF => ⟨h.2.1, hF⟩
end Jvm.Pilot.@@N@@
namespace Jvm.Pilot.@@N@@
open Jvm Jvm.ClassFile Sem Op Lib Jvm.Free Jvm.Stand Jvm.Pilot.@@N@@.Jvm.D
/-! MADE BY PROGRAM (witnessworld.py) out of the Statement's table words and the real class files: 13 classes; the members and pool entries that the words name. The judged class is class 1, her method 1. -/
namespace start1
open Jvm.ClassFile
def u (s : String) : CpInfo := .utf8 (stringToUtf16 s)
/-- a pool by its gaps: so many unusable entries, then the entry; so many at the end -/
def gap : Nat → List CpInfo → List CpInfo
  | 0, r => r
  | n + 1, r => .unusable :: gap n r
def poolList (es : List (Nat × CpInfo)) (last : Nat) : List CpInfo := es.foldr (fun e r => gap e.1 (e.2 :: r)) (gap last [])
def pool (es : List (Nat × CpInfo)) (last : Nat) : Array CpInfo := ⟨poolList es last⟩
def fileOf (pool : Array CpInfo) (this : Nat) (attrs : Array Attribute := #[]) (ms : Array MethodInfo := #[]) (fl : Nat := 33) (sup : Nat := 0) (ifs : Array Nat := #[]) (fds : Array FieldInfo := #[]) : ClassFile where
  minorVersion := 0
  majorVersion := 65
  constantPool := pool
  accessFlags := fl
  thisClass := this
  superClass := sup
  interfaces := ifs
  fields := fds
  methods := ms
  attributes := attrs
def plain (name : String) (sup : Option ClassId) : Class where
  name := name
  kind := .ordinary
  loader := none
  accessFlags := 33
  super := sup
  interfaces := #[]
  cf := none
  fields := #[]
  methods := #[]
  instanceTypes := #[]
  staticTypes := #[]
  resolved := #[]
  callSites := []
  init := .initialized
  statics := none
  mirror := none

def pool0 : Array CpInfo := pool [(5, u "<init>"), (0, u "()V"), (1, .class_ 10), (1, u "java/lang/Object")] 113

def k0c0 : Code := { maxStack := 0, maxLocals := 1, code := object_method_1_code, exceptionTable := #[], attributes := #[] }
def k0m0 : Method := { name := "<init>", desc := "()V", sig := { parameters := [], returnType := none }, accessFlags := 1, code := some k0c0 }
/-- java/lang/Object -/
def k0 : Class := { plain "java/lang/Object" none with
  accessFlags := 33
  interfaces := #[]
  cf := some (fileOf pool0 8 #[] #[{ accessFlags := 1, nameIndex := 5, descriptorIndex := 6, attributes := #[] }] 33 0 #[] #[])
  fields := #[]
  methods := #[k0m0]
  instanceTypes := #[]
  staticTypes := #[]
  resolved := Array.replicate 124 none
  statics := none }

def pool1 : Array CpInfo := pool [(2, .class_ 4), (1, u "java/lang/Object"), (0, u "<init>"), (0, u "()V"), (0, .class_ 8), (0, u "com/example/wildsuit/wildsuit/game/Row"), (0, .methodref 7 10), (0, .nameAndType 5 11), (0, u "(II)V"), (0, .methodref 7 13), (0, .nameAndType 14 15), (0, u "size"), (0, u "()I"), (0, .methodref 17 18), (0, .class_ 19), (0, .nameAndType 20 21), (0, u "com/example/wildsuit/wildsuit/game/RowSizePinLaw"), (0, u "put"), (0, u "(Lcom/example/wildsuit/wildsuit/game/Row;[III)I"), (0, .integer 2147483647), (0, .methodref 7 24), (0, .nameAndType 25 26), (0, u "transfer"), (0, u "(III)V"), (0, .methodref 7 28), (0, .nameAndType 29 26), (0, u "remove"), (0, .methodref 7 31), (0, .nameAndType 32 26), (0, u "insert"), (2, u "law"), (0, u "(IIIIII)Z")] 5

def k1m0 : Method := { name := "<init>", desc := "()V", sig := { parameters := [], returnType := none }, accessFlags := 1, code := none }
def k1c1 : Code := { maxStack := 4, maxLocals := 18, code := code, exceptionTable := #[], attributes := #[] }
def k1m1 : Method := { name := "law", desc := "(IIIIII)Z", sig := { parameters := [.int, .int, .int, .int, .int, .int], returnType := some .boolean }, accessFlags := 9, code := some k1c1 }
def k1c2 : Code := { maxStack := 4, maxLocals := 7, code := method_3_code, exceptionTable := #[], attributes := #[] }
def k1m2 : Method := { name := "put", desc := "(Lcom/example/wildsuit/wildsuit/game/Row;[III)I", sig := { parameters := [(.object "com/example/wildsuit/wildsuit/game/Row"), (.array .int), .int, .int], returnType := some .int }, accessFlags := 10, code := some k1c2 }
/-- com/example/wildsuit/wildsuit/game/RowSizePinLaw -/
def k1 : Class := { plain "com/example/wildsuit/wildsuit/game/RowSizePinLaw" (some 0) with
  accessFlags := 49
  interfaces := #[]
  cf := some (fileOf pool1 17 #[] #[{ accessFlags := 1, nameIndex := 5, descriptorIndex := 6, attributes := #[] }, { accessFlags := 9, nameIndex := 35, descriptorIndex := 36, attributes := #[] }, { accessFlags := 10, nameIndex := 20, descriptorIndex := 21, attributes := #[] }] 49 2 #[] #[])
  fields := #[]
  methods := #[k1m0, k1m1, k1m2]
  instanceTypes := #[]
  staticTypes := #[]
  resolved := Array.replicate 42 none
  statics := none }

def pool2 : Array CpInfo := pool [(1, .methodref 2 3), (0, .class_ 4), (0, .nameAndType 5 6), (0, u "java/lang/Object"), (0, u "<init>"), (0, u "()V"), (0, .fieldref 8 9), (0, .class_ 10), (0, .nameAndType 11 12), (0, u "com/example/wildsuit/wildsuit/game/Row"), (0, u "cards"), (0, u "[B"), (0, .fieldref 8 14), (0, .nameAndType 15 16), (0, u "borders"), (0, u "[I"), (0, .fieldref 8 18), (0, .nameAndType 19 20), (0, u "held"), (0, u "[J"), (0, .fieldref 8 22), (0, .nameAndType 23 20), (0, u "heldTwice"), (0, .methodref 8 25), (0, .nameAndType 26 27), (0, u "size"), (0, u "()I"), (0, .methodref 29 30), (0, .class_ 31), (0, .nameAndType 32 33), (0, u "java/lang/System"), (0, u "arraycopy"), (0, u "(Ljava/lang/Object;ILjava/lang/Object;II)V"), (0, .methodref 8 35), (0, .nameAndType 36 37), (0, u "moveBorders"), (0, u "(III)V"), (0, .methodref 8 39), (0, .nameAndType 40 41), (0, u "hold"), (0, u "(II)V"), (0, .methodref 8 43), (0, .nameAndType 44 41), (0, u "release"), (11, .methodref 57 58), (0, .class_ 59), (0, .nameAndType 60 61), (0, u "com/example/wildsuit/wildsuit/game/CardSet"), (0, u "contains"), (0, u "(JI)Z"), (0, .methodref 57 63), (0, .nameAndType 64 65), (0, u "of"), (0, u "(I)J"), (0, .long 18446744073709551615), (7, u "insert"), (0, u "transfer"), (5, u "remove")] 3

def k2c0 : Code := { maxStack := 3, maxLocals := 3, code := prog_36_method_1_code, exceptionTable := #[], attributes := #[] }
def k2m0 : Method := { name := "<init>", desc := "(II)V", sig := { parameters := [.int, .int], returnType := none }, accessFlags := 0, code := some k2c0 }
def k2c1 : Code := { maxStack := 3, maxLocals := 1, code := prog_36_method_4_code, exceptionTable := #[], attributes := #[] }
def k2m1 : Method := { name := "size", desc := "()I", sig := { parameters := [], returnType := some .int }, accessFlags := 0, code := some k2c1 }
def k2c2 : Code := { maxStack := 6, maxLocals := 5, code := prog_36_method_7_code, exceptionTable := #[], attributes := #[] }
def k2m2 : Method := { name := "insert", desc := "(III)V", sig := { parameters := [.int, .int, .int], returnType := none }, accessFlags := 0, code := some k2c2 }
def k2c3 : Code := { maxStack := 6, maxLocals := 7, code := prog_36_method_8_code, exceptionTable := #[], attributes := #[] }
def k2m3 : Method := { name := "transfer", desc := "(III)V", sig := { parameters := [.int, .int, .int], returnType := none }, accessFlags := 0, code := some k2c3 }
def k2c4 : Code := { maxStack := 6, maxLocals := 7, code := prog_36_method_10_code, exceptionTable := #[], attributes := #[] }
def k2m4 : Method := { name := "remove", desc := "(III)V", sig := { parameters := [.int, .int, .int], returnType := none }, accessFlags := 0, code := some k2c4 }
def k2c5 : Code := { maxStack := 6, maxLocals := 3, code := prog_36_method_11_code, exceptionTable := #[], attributes := #[] }
def k2m5 : Method := { name := "hold", desc := "(II)V", sig := { parameters := [.int, .int], returnType := none }, accessFlags := 2, code := some k2c5 }
def k2c6 : Code := { maxStack := 8, maxLocals := 3, code := prog_36_method_12_code, exceptionTable := #[], attributes := #[] }
def k2m6 : Method := { name := "release", desc := "(II)V", sig := { parameters := [.int, .int], returnType := none }, accessFlags := 2, code := some k2c6 }
def k2c7 : Code := { maxStack := 5, maxLocals := 5, code := prog_36_method_13_code, exceptionTable := #[], attributes := #[] }
def k2m7 : Method := { name := "moveBorders", desc := "(III)V", sig := { parameters := [.int, .int, .int], returnType := none }, accessFlags := 2, code := some k2c7 }
/-- com/example/wildsuit/wildsuit/game/Row -/
def k2 : Class := { plain "com/example/wildsuit/wildsuit/game/Row" (some 0) with
  accessFlags := 48
  interfaces := #[]
  cf := some (fileOf pool2 8 #[] #[{ accessFlags := 0, nameIndex := 5, descriptorIndex := 41, attributes := #[] }, { accessFlags := 0, nameIndex := 26, descriptorIndex := 27, attributes := #[] }, { accessFlags := 0, nameIndex := 74, descriptorIndex := 37, attributes := #[] }, { accessFlags := 0, nameIndex := 75, descriptorIndex := 37, attributes := #[] }, { accessFlags := 0, nameIndex := 81, descriptorIndex := 37, attributes := #[] }, { accessFlags := 2, nameIndex := 40, descriptorIndex := 41, attributes := #[] }, { accessFlags := 2, nameIndex := 44, descriptorIndex := 41, attributes := #[] }, { accessFlags := 2, nameIndex := 36, descriptorIndex := 37, attributes := #[] }] 48 2 #[] #[{ accessFlags := 18, nameIndex := 11, descriptorIndex := 12, attributes := #[] }, { accessFlags := 18, nameIndex := 15, descriptorIndex := 16, attributes := #[] }, { accessFlags := 18, nameIndex := 19, descriptorIndex := 20, attributes := #[] }, { accessFlags := 18, nameIndex := 23, descriptorIndex := 20, attributes := #[] }])
  fields := #[{ name := "cards", type := (.array .byte), accessFlags := 18, slot := 0, constantValue := 0 }, { name := "borders", type := (.array .int), accessFlags := 18, slot := 1, constantValue := 0 }, { name := "held", type := (.array .long), accessFlags := 18, slot := 2, constantValue := 0 }, { name := "heldTwice", type := (.array .long), accessFlags := 18, slot := 3, constantValue := 0 }]
  methods := #[k2m0, k2m1, k2m2, k2m3, k2m4, k2m5, k2m6, k2m7]
  instanceTypes := #[(.array .byte), (.array .int), (.array .long), (.array .long)]
  staticTypes := #[]
  resolved := Array.replicate 85 none
  statics := none }

def pool3 : Array CpInfo := pool [(2, .class_ 4), (1, u "java/lang/Object"), (0, u "<init>"), (0, u "()V"), (1, .class_ 10), (1, u "java/lang/System"), (0, u "allowSecurityManager"), (0, u "I"), (16, u "cons"), (0, u "Ljava/io/Console;"), (77, .class_ 110), (1, u "java/lang/System$CallersHolder"), (43, u "initialErrStream"), (0, u "Ljava/io/PrintStream;"), (19, u "security"), (0, u "Ljava/lang/SecurityManager;"), (31, .class_ 209), (0, u "java/lang/System$1"), (7, u "props"), (0, u "Ljava/util/Properties;"), (2, u "lineSeparator"), (0, u "Ljava/lang/String;"), (96, .class_ 321), (1, u "java/lang/System$LoggerFinder"), (5, .class_ 328), (0, u "java/lang/System$Logger"), (67, u "err"), (2, u "out"), (91, u "notSupportedJnuEncoding"), (15, u "in"), (17, u "initialIn"), (0, u "Ljava/io/InputStream;"), (35, u "bootLayer"), (0, u "Ljava/lang/ModuleLayer;"), (99, .class_ 664), (0, u "java/lang/System$2"), (9, u "NEVER"), (2, u "MAYBE"), (49, u "arraycopy"), (0, u "(Ljava/lang/Object;ILjava/lang/Object;II)V"), (72, .class_ 802), (0, u "java/lang/System$Logger$Level")] 31

def k3m0 : Method := { name := "<init>", desc := "()V", sig := { parameters := [], returnType := none }, accessFlags := 2, code := none }
def k3m1 : Method := { name := "arraycopy", desc := "(Ljava/lang/Object;ILjava/lang/Object;II)V", sig := { parameters := [(.object "java/lang/Object"), .int, (.object "java/lang/Object"), .int, .int], returnType := none }, accessFlags := 265, code := none }
/-- java/lang/System -/
def k3 : Class := { plain "java/lang/System" (some 0) with
  accessFlags := 49
  interfaces := #[]
  cf := some (fileOf pool3 8 #[.nestMembers #[319, 327, 801, 108, 663, 208]] #[{ accessFlags := 2, nameIndex := 5, descriptorIndex := 6, attributes := #[] }, { accessFlags := 265, nameIndex := 727, descriptorIndex := 728, attributes := #[] }] 49 2 #[] #[{ accessFlags := 25, nameIndex := 507, descriptorIndex := 526, attributes := #[] }, { accessFlags := 25, nameIndex := 399, descriptorIndex := 155, attributes := #[] }, { accessFlags := 25, nameIndex := 396, descriptorIndex := 155, attributes := #[] }, { accessFlags := 10, nameIndex := 525, descriptorIndex := 526, attributes := #[] }, { accessFlags := 26, nameIndex := 674, descriptorIndex := 12, attributes := #[] }, { accessFlags := 26, nameIndex := 677, descriptorIndex := 12, attributes := #[] }, { accessFlags := 10, nameIndex := 11, descriptorIndex := 12, attributes := #[] }, { accessFlags := 74, nameIndex := 175, descriptorIndex := 176, attributes := #[] }, { accessFlags := 10, nameIndex := 491, descriptorIndex := 222, attributes := #[] }, { accessFlags := 74, nameIndex := 29, descriptorIndex := 30, attributes := #[] }, { accessFlags := 74, nameIndex := 154, descriptorIndex := 155, attributes := #[] }, { accessFlags := 10, nameIndex := 217, descriptorIndex := 218, attributes := #[] }, { accessFlags := 10, nameIndex := 221, descriptorIndex := 222, attributes := #[] }, { accessFlags := 8, nameIndex := 562, descriptorIndex := 563, attributes := #[] }])
  fields := #[{ name := "in", type := (.object "java/io/InputStream"), accessFlags := 25, slot := 0, constantValue := 0 }, { name := "out", type := (.object "java/io/PrintStream"), accessFlags := 25, slot := 1, constantValue := 0 }, { name := "err", type := (.object "java/io/PrintStream"), accessFlags := 25, slot := 2, constantValue := 0 }, { name := "initialIn", type := (.object "java/io/InputStream"), accessFlags := 10, slot := 3, constantValue := 0 }, { name := "NEVER", type := .int, accessFlags := 26, slot := 4, constantValue := 0 }, { name := "MAYBE", type := .int, accessFlags := 26, slot := 5, constantValue := 0 }, { name := "allowSecurityManager", type := .int, accessFlags := 10, slot := 6, constantValue := 0 }, { name := "security", type := (.object "java/lang/SecurityManager"), accessFlags := 74, slot := 7, constantValue := 0 }, { name := "notSupportedJnuEncoding", type := (.object "java/lang/String"), accessFlags := 10, slot := 8, constantValue := 0 }, { name := "cons", type := (.object "java/io/Console"), accessFlags := 74, slot := 9, constantValue := 0 }, { name := "initialErrStream", type := (.object "java/io/PrintStream"), accessFlags := 74, slot := 10, constantValue := 0 }, { name := "props", type := (.object "java/util/Properties"), accessFlags := 10, slot := 11, constantValue := 0 }, { name := "lineSeparator", type := (.object "java/lang/String"), accessFlags := 10, slot := 12, constantValue := 0 }, { name := "bootLayer", type := (.object "java/lang/ModuleLayer"), accessFlags := 8, slot := 13, constantValue := 0 }]
  methods := #[k3m0, k3m1]
  instanceTypes := #[]
  staticTypes := #[(.object "java/io/InputStream"), (.object "java/io/PrintStream"), (.object "java/io/PrintStream"), (.object "java/io/InputStream"), .int, .int, .int, (.object "java/lang/SecurityManager"), (.object "java/lang/String"), (.object "java/io/Console"), (.object "java/io/PrintStream"), (.object "java/util/Properties"), (.object "java/lang/String"), (.object "java/lang/ModuleLayer")]
  resolved := Array.replicate 834 none
  statics := none }

def pool4 : Array CpInfo := pool [(4, .class_ 6), (1, u "java/lang/Object"), (0, u "<init>"), (0, u "()V"), (0, .class_ 10), (0, u "com/example/wildsuit/wildsuit/game/CardSet"), (10, u "of"), (7, u "(I)J"), (5, u "NONE"), (0, u "J"), (3, u "EVERY_CARD"), (4, u "contains"), (0, u "(JI)Z")] 11

def k4m0 : Method := { name := "<init>", desc := "()V", sig := { parameters := [], returnType := none }, accessFlags := 2, code := none }
def k4c1 : Code := { maxStack := 3, maxLocals := 1, code := prog_7_method_2_code, exceptionTable := #[], attributes := #[] }
def k4m1 : Method := { name := "of", desc := "(I)J", sig := { parameters := [.int], returnType := some .long }, accessFlags := 8, code := some k4c1 }
def k4c2 : Code := { maxStack := 4, maxLocals := 3, code := prog_7_method_3_code, exceptionTable := #[], attributes := #[] }
def k4m2 : Method := { name := "contains", desc := "(JI)Z", sig := { parameters := [.long, .int], returnType := some .boolean }, accessFlags := 8, code := some k4c2 }
/-- com/example/wildsuit/wildsuit/game/CardSet -/
def k4 : Class := { plain "com/example/wildsuit/wildsuit/game/CardSet" (some 0) with
  accessFlags := 48
  interfaces := #[]
  cf := some (fileOf pool4 9 #[] #[{ accessFlags := 2, nameIndex := 7, descriptorIndex := 8, attributes := #[] }, { accessFlags := 8, nameIndex := 21, descriptorIndex := 29, attributes := #[] }, { accessFlags := 8, nameIndex := 45, descriptorIndex := 46, attributes := #[] }] 48 4 #[] #[{ accessFlags := 24, nameIndex := 35, descriptorIndex := 36, attributes := #[] }, { accessFlags := 24, nameIndex := 40, descriptorIndex := 36, attributes := #[] }])
  fields := #[{ name := "NONE", type := .long, accessFlags := 24, slot := 0, constantValue := 0 }, { name := "EVERY_CARD", type := .long, accessFlags := 24, slot := 1, constantValue := 0 }]
  methods := #[k4m0, k4m1, k4m2]
  instanceTypes := #[]
  staticTypes := #[.long, .long]
  resolved := Array.replicate 58 none
  statics := none }

def pool5 : Array CpInfo := pool [(1, u "java/lang/Cloneable"), (0, .class_ 1), (0, u "java/lang/Object"), (0, .class_ 3)] 3

/-- java/lang/Cloneable -/
def k5 : Class := { plain "java/lang/Cloneable" (some 0) with
  accessFlags := 1537
  interfaces := #[]
  cf := some (fileOf pool5 2 #[] #[] 1537 4 #[] #[])
  fields := #[]
  methods := #[]
  instanceTypes := #[]
  staticTypes := #[]
  resolved := Array.replicate 8 none
  statics := none }

def pool6 : Array CpInfo := pool [(1, u "java/io/Serializable"), (0, .class_ 1), (0, u "java/lang/Object"), (0, .class_ 3)] 3

/-- java/io/Serializable -/
def k6 : Class := { plain "java/io/Serializable" (some 0) with
  accessFlags := 1537
  interfaces := #[]
  cf := some (fileOf pool6 2 #[] #[] 1537 4 #[] #[])
  fields := #[]
  methods := #[]
  instanceTypes := #[]
  staticTypes := #[]
  resolved := Array.replicate 8 none
  statics := none }

/-- the primitive byte -/
def k7 : Class := { plain "byte" none with kind := .primitive 'B', accessFlags := 0x411 }
/-- [B -/
def k8 : Class := { plain "[B" (some 0) with kind := .array 7 .byte, interfaces := #[5, 6], accessFlags := 1041 }

/-- the primitive int -/
def k9 : Class := { plain "int" none with kind := .primitive 'I', accessFlags := 0x411 }
/-- [I -/
def k10 : Class := { plain "[I" (some 0) with kind := .array 9 .int, interfaces := #[5, 6], accessFlags := 1041 }

/-- the primitive long -/
def k11 : Class := { plain "long" none with kind := .primitive 'J', accessFlags := 0x411 }
/-- [J -/
def k12 : Class := { plain "[J" (some 0) with kind := .array 11 .long, interfaces := #[5, 6], accessFlags := 1041 }

def heap : Heap := #[]
def classes : Array Class := #[k0, k1, k2, k3, k4, k5, k6, k7, k8, k9, k10, k11, k12]
def interned : List (Array UInt16 × Addr) := []
def slotsUsed : Nat := 0
def theMethod : MethodId := ⟨1, 1⟩
def args0 : Array Value := #[.int 5, .int 7, .int 9, .int 11, .int 13, .int 15]
def aboutOver (below : List Frame) : State where
  vm := { classes := classes, interned := interned.toArray }
  heap := heap
  slotsUsed := slotsUsed
  threads := #[{ frames := .invoking theMethod args0 :: below }]
def below0 : List Frame := [.native { method := ⟨0, 0⟩, args := #[] }]
def about1 : State := aboutOver below0
def p0 : Program := .bare "" "" ""
def e0 : Env := launch0.env 0 0 0
theorem w_frames : about1.frames = Frame.invoking theMethod args0 :: below0 := rfl
set_option maxRecDepth 65536 in
theorem w_args : argsFit about1.vm theMethod args0 = true := by decide +kernel
set_option maxRecDepth 65536 in
theorem w_heap : heapFits about1 = true := by decide +kernel
set_option maxRecDepth 65536 in
theorem w_runnable : about1.curStatus? = some .runnable := by decide +kernel
set_option maxRecDepth 65536 in
theorem w_alone : about1.alone = true := by decide +kernel
set_option maxRecDepth 65536 in
theorem w_named : about1.methodNamed? x = some theMethod := by decide +kernel
set_option maxRecDepth 65536 in
theorem w_hears : about1.hears theMethod below0 = true := by decide +kernel
set_option maxRecDepth 65536 in
theorem w_ripe : about1.ripe theMethod args0 below0 = true := by decide +kernel
theorem w_running : about1.status = .running := rfl
set_option maxRecDepth 65536 in
theorem w_room : about1.hasRoom e0.platform room_1 = true :=
  launch0.hasRoom_least _ room_1 (by decide +kernel) (by decide +kernel) (by decide +kernel) (by decide +kernel) (by decide +kernel) (by decide +kernel)
theorem allAtoms_all (ts : List Jvm.Cond) (a : Array Jvm.Value) (st : Jvm.State) : (allAtoms ts).before a st = ts.all (fun c => c.before a st) := by
  induction ts with
  | nil => rfl
  | cons c t ih =>
    show (Jvm.Cond.and c (allAtoms t)).before a st = _
    rw [Jvm.Cond.before_and, ih, List.all_cons]
def words1 : List Jvm.Cond := Jvm.Cond.code x code maxLocals ret :: tables_1
/-- a 'code' word, met by the world's own term for the bytes: nothing is compared byte by byte -/
theorem code_word {y : MethodName} {bytes : ByteArray} {mx : Nat} {rt : Option FieldType} {a : Array Value} {s : State} {m : MethodId} {meth : Method} {c : Code} (h1 : s.methodNamed? y = some m) (h2 : s.vm.method? m = some meth) (h3 : meth.code = some c) (h4 : c.code = bytes)
    (h5 : (c.maxLocals == mx && c.exceptionTable.isEmpty && decide (c.maxStack ≤ mostOperands) && decide (meth.sig.returnType = rt) && !meth.locks && decide (parseMethodDescriptor y.desc = some meth.sig)) = true) : (Jvm.Cond.code y bytes mx rt).before a s = true := by
  simp only [Bool.and_eq_true, beq_iff_eq, Bool.not_eq_true', decide_eq_true_eq] at h5
  obtain ⟨⟨⟨⟨⟨g1, g2⟩, g3⟩, g4⟩, g5⟩, g6⟩ := h5
  simp [Cond.before, Cond.holds, Cond.value, h1, h2, h3, h4, g1, g2, g3, g4, g5, g6]
def isCode : Jvm.Cond → Bool
  | .code _ _ _ _ => true
  | _ => false
theorem all_split {L : List Jvm.Cond} {P : Jvm.Cond → Bool} (h1 : L.all (fun c => isCode c || P c) = true) (h2 : ∀ c ∈ L.filter isCode, P c = true) : L.all P = true := by
  refine List.all_eq_true.mpr fun c hc => ?_
  have h := List.all_eq_true.mp h1 c hc
  rcases Bool.eq_false_or_eq_true (isCode c) with hi | hi
  · exact h2 c (List.mem_filter.mpr ⟨hc, hi⟩)
  · simpa [hi] using h
set_option maxRecDepth 65536 in
theorem w_c0 : (Jvm.Cond.code x code maxLocals ret).before args0 about1 = true := code_word (m := ⟨1, 1⟩) (meth := k1m1) (c := k1c1) (by decide +kernel) rfl rfl rfl (by decide +kernel)
set_option maxRecDepth 65536 in
theorem w_c1 : (Jvm.Cond.code ({ cls := "com/example/wildsuit/wildsuit/game/Row", name := "<init>", desc := "(II)V" } : Jvm.MethodName) prog_36_method_1_code (3 : Nat) (Option.none : Option Jvm.ClassFile.FieldType)).before args0 about1 = true := code_word (m := ⟨2, 0⟩) (meth := k2m0) (c := k2c0) (by decide +kernel) rfl rfl rfl (by decide +kernel)
set_option maxRecDepth 65536 in
theorem w_c2 : (Jvm.Cond.code ({ cls := "java/lang/Object", name := "<init>", desc := "()V" } : Jvm.MethodName) object_method_1_code (1 : Nat) (Option.none : Option Jvm.ClassFile.FieldType)).before args0 about1 = true := code_word (m := ⟨0, 0⟩) (meth := k0m0) (c := k0c0) (by decide +kernel) rfl rfl rfl (by decide +kernel)
set_option maxRecDepth 65536 in
theorem w_c3 : (Jvm.Cond.code ({ cls := "com/example/wildsuit/wildsuit/game/Row", name := "size", desc := "()I" } : Jvm.MethodName) prog_36_method_4_code (1 : Nat) (Option.some Jvm.ClassFile.FieldType.int)).before args0 about1 = true := code_word (m := ⟨2, 1⟩) (meth := k2m1) (c := k2c1) (by decide +kernel) rfl rfl rfl (by decide +kernel)
set_option maxRecDepth 65536 in
theorem w_c4 : (Jvm.Cond.code ({ cls := "com/example/wildsuit/wildsuit/game/RowSizePinLaw", name := "put", desc := "(Lcom/example/wildsuit/wildsuit/game/Row;[III)I" } : Jvm.MethodName) method_3_code (7 : Nat) (Option.some Jvm.ClassFile.FieldType.int)).before args0 about1 = true := code_word (m := ⟨1, 2⟩) (meth := k1m2) (c := k1c2) (by decide +kernel) rfl rfl rfl (by decide +kernel)
set_option maxRecDepth 65536 in
theorem w_c5 : (Jvm.Cond.code ({ cls := "com/example/wildsuit/wildsuit/game/Row", name := "insert", desc := "(III)V" } : Jvm.MethodName) prog_36_method_7_code (5 : Nat) (Option.none : Option Jvm.ClassFile.FieldType)).before args0 about1 = true := code_word (m := ⟨2, 2⟩) (meth := k2m2) (c := k2c2) (by decide +kernel) rfl rfl rfl (by decide +kernel)
set_option maxRecDepth 65536 in
theorem w_c6 : (Jvm.Cond.code ({ cls := "com/example/wildsuit/wildsuit/game/Row", name := "moveBorders", desc := "(III)V" } : Jvm.MethodName) prog_36_method_13_code (5 : Nat) (Option.none : Option Jvm.ClassFile.FieldType)).before args0 about1 = true := code_word (m := ⟨2, 7⟩) (meth := k2m7) (c := k2c7) (by decide +kernel) rfl rfl rfl (by decide +kernel)
set_option maxRecDepth 65536 in
theorem w_c7 : (Jvm.Cond.code ({ cls := "com/example/wildsuit/wildsuit/game/Row", name := "hold", desc := "(II)V" } : Jvm.MethodName) prog_36_method_11_code (3 : Nat) (Option.none : Option Jvm.ClassFile.FieldType)).before args0 about1 = true := code_word (m := ⟨2, 5⟩) (meth := k2m5) (c := k2c5) (by decide +kernel) rfl rfl rfl (by decide +kernel)
set_option maxRecDepth 65536 in
theorem w_c8 : (Jvm.Cond.code ({ cls := "com/example/wildsuit/wildsuit/game/CardSet", name := "contains", desc := "(JI)Z" } : Jvm.MethodName) prog_7_method_3_code (3 : Nat) (Option.some Jvm.ClassFile.FieldType.boolean)).before args0 about1 = true := code_word (m := ⟨4, 2⟩) (meth := k4m2) (c := k4c2) (by decide +kernel) rfl rfl rfl (by decide +kernel)
set_option maxRecDepth 65536 in
theorem w_c9 : (Jvm.Cond.code ({ cls := "com/example/wildsuit/wildsuit/game/CardSet", name := "of", desc := "(I)J" } : Jvm.MethodName) prog_7_method_2_code (1 : Nat) (Option.some Jvm.ClassFile.FieldType.long)).before args0 about1 = true := code_word (m := ⟨4, 1⟩) (meth := k4m1) (c := k4c1) (by decide +kernel) rfl rfl rfl (by decide +kernel)
set_option maxRecDepth 65536 in
theorem w_c10 : (Jvm.Cond.code ({ cls := "com/example/wildsuit/wildsuit/game/Row", name := "remove", desc := "(III)V" } : Jvm.MethodName) prog_36_method_10_code (7 : Nat) (Option.none : Option Jvm.ClassFile.FieldType)).before args0 about1 = true := code_word (m := ⟨2, 4⟩) (meth := k2m4) (c := k2c4) (by decide +kernel) rfl rfl rfl (by decide +kernel)
set_option maxRecDepth 65536 in
theorem w_c11 : (Jvm.Cond.code ({ cls := "com/example/wildsuit/wildsuit/game/Row", name := "transfer", desc := "(III)V" } : Jvm.MethodName) prog_36_method_8_code (7 : Nat) (Option.none : Option Jvm.ClassFile.FieldType)).before args0 about1 = true := code_word (m := ⟨2, 3⟩) (meth := k2m3) (c := k2c3) (by decide +kernel) rfl rfl rfl (by decide +kernel)
set_option maxRecDepth 65536 in
theorem w_c12 : (Jvm.Cond.code ({ cls := "com/example/wildsuit/wildsuit/game/Row", name := "release", desc := "(II)V" } : Jvm.MethodName) prog_36_method_12_code (3 : Nat) (Option.none : Option Jvm.ClassFile.FieldType)).before args0 about1 = true := code_word (m := ⟨2, 6⟩) (meth := k2m6) (c := k2c6) (by decide +kernel) rfl rfl rfl (by decide +kernel)
def codes1 : List Jvm.Cond := [Jvm.Cond.code x code maxLocals ret, Jvm.Cond.code ({ cls := "com/example/wildsuit/wildsuit/game/Row", name := "<init>", desc := "(II)V" } : Jvm.MethodName) prog_36_method_1_code (3 : Nat) (Option.none : Option Jvm.ClassFile.FieldType), Jvm.Cond.code ({ cls := "java/lang/Object", name := "<init>", desc := "()V" } : Jvm.MethodName) object_method_1_code (1 : Nat) (Option.none : Option Jvm.ClassFile.FieldType), Jvm.Cond.code ({ cls := "com/example/wildsuit/wildsuit/game/Row", name := "size", desc := "()I" } : Jvm.MethodName) prog_36_method_4_code (1 : Nat) (Option.some Jvm.ClassFile.FieldType.int), Jvm.Cond.code ({ cls := "com/example/wildsuit/wildsuit/game/RowSizePinLaw", name := "put", desc := "(Lcom/example/wildsuit/wildsuit/game/Row;[III)I" } : Jvm.MethodName) method_3_code (7 : Nat) (Option.some Jvm.ClassFile.FieldType.int), Jvm.Cond.code ({ cls := "com/example/wildsuit/wildsuit/game/Row", name := "insert", desc := "(III)V" } : Jvm.MethodName) prog_36_method_7_code (5 : Nat) (Option.none : Option Jvm.ClassFile.FieldType), Jvm.Cond.code ({ cls := "com/example/wildsuit/wildsuit/game/Row", name := "moveBorders", desc := "(III)V" } : Jvm.MethodName) prog_36_method_13_code (5 : Nat) (Option.none : Option Jvm.ClassFile.FieldType), Jvm.Cond.code ({ cls := "com/example/wildsuit/wildsuit/game/Row", name := "hold", desc := "(II)V" } : Jvm.MethodName) prog_36_method_11_code (3 : Nat) (Option.none : Option Jvm.ClassFile.FieldType), Jvm.Cond.code ({ cls := "com/example/wildsuit/wildsuit/game/CardSet", name := "contains", desc := "(JI)Z" } : Jvm.MethodName) prog_7_method_3_code (3 : Nat) (Option.some Jvm.ClassFile.FieldType.boolean), Jvm.Cond.code ({ cls := "com/example/wildsuit/wildsuit/game/CardSet", name := "of", desc := "(I)J" } : Jvm.MethodName) prog_7_method_2_code (1 : Nat) (Option.some Jvm.ClassFile.FieldType.long), Jvm.Cond.code ({ cls := "com/example/wildsuit/wildsuit/game/Row", name := "remove", desc := "(III)V" } : Jvm.MethodName) prog_36_method_10_code (7 : Nat) (Option.none : Option Jvm.ClassFile.FieldType), Jvm.Cond.code ({ cls := "com/example/wildsuit/wildsuit/game/Row", name := "transfer", desc := "(III)V" } : Jvm.MethodName) prog_36_method_8_code (7 : Nat) (Option.none : Option Jvm.ClassFile.FieldType), Jvm.Cond.code ({ cls := "com/example/wildsuit/wildsuit/game/Row", name := "release", desc := "(II)V" } : Jvm.MethodName) prog_36_method_12_code (3 : Nat) (Option.none : Option Jvm.ClassFile.FieldType)]
set_option maxRecDepth 65536 in
theorem codes_eq : words1.filter isCode = codes1 := rfl
theorem w_codes : ∀ c ∈ words1.filter isCode, c.before args0 about1 = true := by
  rw [codes_eq]
  intro c hc
  simp only [codes1, List.mem_cons, List.not_mem_nil, or_false] at hc
  rcases hc with rfl | rfl | rfl | rfl | rfl | rfl | rfl | rfl | rfl | rfl | rfl | rfl | rfl
  · exact w_c0
  · exact w_c1
  · exact w_c2
  · exact w_c3
  · exact w_c4
  · exact w_c5
  · exact w_c6
  · exact w_c7
  · exact w_c8
  · exact w_c9
  · exact w_c10
  · exact w_c11
  · exact w_c12
set_option maxRecDepth 65536 in
theorem w_t1 : (words1.take 24).all (fun c => isCode c || c.before args0 about1) = true := by decide +kernel
set_option maxRecDepth 65536 in
theorem w_t2 : ((words1.drop 24).take 24).all (fun c => isCode c || c.before args0 about1) = true := by decide +kernel
set_option maxRecDepth 65536 in
theorem w_t3 : ((words1.drop 24).drop 24).all (fun c => isCode c || c.before args0 about1) = true := by decide +kernel
theorem w_tables : (allAtoms (Jvm.Cond.code x code maxLocals ret :: tables_1)).before args0 about1 = true := by
  rw [allAtoms_all]
  show words1.all (fun c => c.before args0 about1) = true
  refine all_split ?_ w_codes
  rw [← List.take_append_drop 24 words1, List.all_append, w_t1, ← List.take_append_drop 24 (words1.drop 24), List.all_append, w_t2, w_t3]
  rfl
set_option maxRecDepth 65536 in
theorem w_case : (Jvm.Cond.and given_1 narrow_1).before args0 about1 = true := by decide +kernel
theorem w_applies : (headSpec (Jvm.Cond.code x code maxLocals ret :: tables_1) room_1).applies x e0.platform about1 = true :=
  (Spec.applies_iff w_frames).mpr ⟨w_running, w_runnable, w_alone, w_named, w_hears, w_ripe, w_room, w_tables⟩
theorem atStart : AtStart classFile x code maxLocals ret World_1 tables_1 room_1 Calls_1 rest_1 Pre_1 launch0 p0 e0 about1 theMethod args0 below0 :=
  ⟨lists_1, trivial, launch0.admits_env _ _ _, launch0.least_env, fairChoices_fair.cas, fairChoices_fair.clock, w_frames, w_args, w_heap, w_applies, trivial, trivial, w_case⟩
end start1
theorem witness_1 : WitnessClaimed_1 := ⟨start1.p0, start1.e0, start1.about1, start1.theMethod, start1.args0, start1.below0, start1.atStart⟩
end Jvm.Pilot.@@N@@
