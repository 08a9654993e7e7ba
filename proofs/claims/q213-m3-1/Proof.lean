import JvmDerived
import JvmDerived.Pilot.@@N@@Statement
import JvmDerived.Pilot.@@N@@Code
set_option linter.unusedVariables false
set_option linter.unusedSimpArgs false
@@BLOCK:NumsL.lean.txt@@
namespace Jvm.Pilot.@@N@@
open Jvm Jvm.ClassFile Sem Op Lib Jvm.Free Jvm.Stand Jvm.LawKit Jvm.RoadKit Bundle Jvm.Pilot.@@N@@.Jvm.D
/-- from the state T with the frame g the run comes to an end that P speaks of -/
def own_Goes (tb : Tables) (e : Env) (below : List Frame) (P : Outcome → State → Prop) (T : State) (g : JFrame) : Prop :=
  ∃ s₂ o, Steps tb e below (T.setTop g) s₂ ∧ s₂.status = .running ∧ Ended s₂ below o ∧ P o s₂
theorem own_Goes.via {tb : Tables} {e : Env} {below : List Frame} {P : Outcome → State → Prop} {T T' : State} {g g' : JFrame} (h : ∀ t, Steps tb e below (T'.setTop g') t → Steps tb e below (T.setTop g) t) (k : own_Goes tb e below P T' g') : own_Goes tb e below P T g := by
  obtain ⟨s₂, o, a, b⟩ := k
  exact ⟨s₂, o, h _ a, b⟩
theorem own_Goes.fin {tb : Tables} {e : Env} {below : List Frame} {P : Outcome → State → Prop} {T s₂ : State} {g : JFrame} {o : Outcome} (h1 : Steps tb e below (T.setTop g) s₂) (h2 : s₂.status = .running) (h3 : Ended s₂ below o) (h4 : P o s₂) : own_Goes tb e below P T g := ⟨s₂, o, h1, h2, h3, h4⟩
theorem own_ltT {x y : Int64} (h : x < y) : ifCond.holds .lt (lcmpW x y) = true ∧ ifCond.holds .ge (lcmpW x y) = false := by
  have q : lcmpW x y < 0 := by rw [lcW]; exact (lc_lt x y).mpr h
  exact ⟨(if0 _ _).trans (tlt q).1, (if0 _ _).trans (tlt q).2.1⟩
theorem own_ltF {x y : Int64} (h : ¬ x < y) : ifCond.holds .lt (lcmpW x y) = false ∧ ifCond.holds .ge (lcmpW x y) = true := by
  have q : ¬ lcmpW x y < 0 := by rw [lcW]; exact fun z => h ((lc_lt x y).mp z)
  exact ⟨(if0 _ _).trans (flt q).1, (if0 _ _).trans (flt q).2.1⟩
theorem own_gtT {x y : Int64} (h : y < x) : ifCond.holds .gt (lcmpW x y) = true ∧ ifCond.holds .le (lcmpW x y) = false := by
  have q : 0 < lcmpW x y := by rw [lcW]; exact (lc_gt x y).mpr h
  exact ⟨(if0 _ _).trans (tlt q).2.2.1, (if0 _ _).trans (tlt q).2.2.2⟩
theorem own_gtF {x y : Int64} (h : ¬ y < x) : ifCond.holds .gt (lcmpW x y) = false ∧ ifCond.holds .le (lcmpW x y) = true := by
  have q : ¬ 0 < lcmpW x y := by rw [lcW]; exact fun z => h ((lc_gt x y).mp z)
  exact ⟨(if0 _ _).trans (flt q).2.2.1, (if0 _ _).trans (flt q).2.2.2⟩
theorem own_eqT {x y : Int64} (h : x = y) : ifCond.holds .eq (lcmpW x y) = true ∧ ifCond.holds .ne (lcmpW x y) = false := by
  have q : lcmpW x y = 0 := by rw [lcW]; exact (lc_eq x y).mpr h
  exact ⟨(if0 _ _).trans (teq q).1, (if0 _ _).trans (teq q).2⟩
theorem own_eqF {x y : Int64} (h : ¬ x = y) : ifCond.holds .eq (lcmpW x y) = false ∧ ifCond.holds .ne (lcmpW x y) = true := by
  have q : ¬ lcmpW x y = 0 := by rw [lcW]; exact fun z => h ((lc_eq x y).mp z)
  exact ⟨(if0 _ _).trans (feq q).1, (if0 _ _).trans (feq q).2⟩
theorem own_lrem (x y : Int64) : x - (x / y) * y = x % y := Int64.toInt_inj.mp (by rw [Jvm.Kit.i64_rem, Int64.toInt_mod])
theorem own_wS {Z : State} {a0 : Array Value} (hw : ∀ d ∈ tables_1, d.before a0 Z = true) : ∀ a ∈ Bundle.stringAtoms, a.before a0 Z = true := fun d hd => by
  simp only [Bundle.stringAtoms, List.mem_cons, List.not_mem_nil, or_false] at hd
  rcases hd with rfl | rfl | rfl | rfl | rfl | rfl | rfl
  · exact (hw _ (List.mem_of_getElem? (i := 38) rfl))
  · exact (hw _ (List.mem_of_getElem? (i := 37) rfl))
  · exact (hw _ (List.mem_of_getElem? (i := 0) rfl))
  · exact (hw _ (List.mem_of_getElem? (i := 64) rfl))
  · exact (hw _ (List.mem_of_getElem? (i := 65) rfl))
  · exact (hw _ (List.mem_of_getElem? (i := 66) rfl))
  · exact (hw _ (List.mem_of_getElem? (i := 67) rfl))
theorem own_eqRef {args : Array Value} {s : State} {t u : Term} {x : Addr} (h : (Cond.eq t u).value args s none s [] = some true) (hu : u.eval args s none [] s = some (.ref x)) : t.eval args s none [] s = some (.ref x) := by
  simp only [Cond.value, hu] at h
  cases ht : t.eval args s none [] s with
  | none => simp [ht] at h
  | some y => cases y <;> simp [ht] at h ⊢ <;> exact h
theorem own_len {args : Array Value} {s : State} {t : Term} {x : Addr} {cl : Cell} {ty : FieldType} {n : Int32} (ht : t.eval args s none [] s = some (.ref x)) (A : Arr s s.heap x cl ty) (h : (Term.length t).eval args s none [] s = some (.int n)) : cl.slots.size < 2 ^ 31 ∧ cl.slots.size.toInt32 = n := by
  have q := A.fin (Vm.Alike.refl _)
  simp only [Term.eval, ht, Option.bind_eq_bind, Option.bind_some, q] at h
  by_cases g : cl.slots.size < 2 ^ 31
  · simp [g] at h
    exact ⟨g, h⟩
  · simp [g] at h
theorem own_neg {x : Int32} (h : 0 ≤ x.toInt) : ¬ x < 0 := by
  rw [Int32.lt_iff_toInt_lt]
  have z : (0 : Int32).toInt = 0 := rfl
  omega
theorem own_cap {x : Int32} {n : Nat} (h : x.toInt ≤ n) : x.toNatClampNeg ≤ n := by
  show x.toInt.toNat ≤ n
  omega
theorem own_m31 (x : Int32) : 0 ≤ (x &&& (31 : Int32)).toInt ∧ (x &&& (31 : Int32)).toInt ≤ 31 := by
  have m := Jvm.Kit.i32_mask x (31 : Int32) (k := 5) (by decide) (by decide)
  rw [m]; omega
theorem own_m3 (x : Int32) : 0 ≤ (x &&& (3 : Int32)).toInt ∧ (x &&& (3 : Int32)).toInt ≤ 3 := by
  have m := Jvm.Kit.i32_mask x (3 : Int32) (k := 2) (by decide) (by decide)
  rw [m]; omega
def own_up (B : Nat → Int32) (i : Nat) (x : Int32) : Nat → Int32 := fun t => if t = i then x else B t
def own_sh (B : Nat → Int32) (k : Nat) : Nat → Int32 := fun i => B (k + i)
/-- an array of ints (bytes, ..) by a function of the place -/
def own_Gi (Z : State) (h : Heap) (a : Addr) (ty : FieldType) (n : Int32) (B : Nat → Int32) : Prop := ∃ c : Cell, Arr Z h a c ty ∧ c.slots.size = n.toNatClampNeg ∧ ¬ n < 0 ∧ ∀ i, i < c.slots.size → c.slots[i]? = some (.int (B i)) ∧ fits ty (.int (B i)) = true
/-- an array of whose components nothing is known but the type -/
def own_Un (Z : State) (h : Heap) (a : Addr) (ty : FieldType) (n : Int32) : Prop := ∃ c : Cell, Arr Z h a c ty ∧ c.slots.size = n.toNatClampNeg ∧ ¬ n < 0 ∧ ∀ i, i < c.slots.size → ∃ v, c.slots[i]? = some v ∧ fits ty v = true
def own_cp (sp dp nn zs zd : Int32) : Prop := ¬ sp < 0 ∧ ¬ dp < 0 ∧ ¬ nn < 0 ∧ sp.toNatClampNeg + nn.toNatClampNeg ≤ zs.toNatClampNeg ∧ dp.toNatClampNeg + nn.toNatClampNeg ≤ zd.toNatClampNeg
def own_zero : Nat → Int32 := fun _ => 0
section OwnArrays
variable {Z : State} {h h' : Heap} {a b : Addr} {n n' j x : Int32} {B B' : Nat → Int32} {ty : FieldType} {sl : Nat} {v dv : Value} {ws : List Addr} {k : ClassId} {vs : List Value}
theorem own_Gi.lt (F : own_Gi Z h a ty n B) : a < h.size := by obtain ⟨c, A, -⟩ := F; exact A.lt
theorem own_Gi.ext (F : own_Gi Z h a ty n B) (E : Ext h h') : own_Gi Z h' a ty n B := by obtain ⟨c, A, r⟩ := F; exact ⟨c, A.ext E, r⟩
theorem own_Gi.other (F : own_Gi Z h b ty n B) (W : Wr h h' a sl v) (q : b ≠ a) : own_Gi Z h' b ty n B := by obtain ⟨c, A, r⟩ := F; exact ⟨c, A.other W q, r⟩
theorem own_Gi.keep (F : own_Gi Z h a ty n B) (K : Keep h h' ws) (q : a ∉ ws) : own_Gi Z h' a ty n B := by obtain ⟨c, A, r⟩ := F; exact ⟨c, ⟨K.2.1 a c A.1 q, A.2⟩, r⟩
theorem own_Gi.of (F : Arv Z h a k ty n vs dv) (q : ∀ i, i < n.toNatClampNeg → vs.getD i dv = .int (B i)) : own_Gi Z h a ty n B := by
  obtain ⟨c, A, -, S, N, H, G⟩ := F
  exact ⟨c, A, S, N, fun i hi => by rw [← q i (S ▸ hi)]; exact ⟨H i hi, G i hi⟩⟩
theorem own_Gi.congr (F : own_Gi Z h a ty n B) (q : ∀ i, i < n.toNatClampNeg → B i = B' i) : own_Gi Z h a ty n B' := by
  obtain ⟨c, A, S, N, H⟩ := F
  exact ⟨c, A, S, N, fun i hi => by rw [← q i (S ▸ hi)]; exact H i hi⟩
theorem own_Gi.cast (F : own_Gi Z h a ty n B) (e : n = n') (q : ∀ i, i < n.toNatClampNeg → B i = B' i) : own_Gi Z h a ty n' B' := e ▸ F.congr q
theorem own_Gi.set (F : own_Gi Z h a ty n B) (W : Wr h h' a sl (.int x)) (hv : fits ty (.int x) = true) : own_Gi Z h' a ty n (own_up B sl x) := by
  obtain ⟨c, A, S, N, H⟩ := F
  refine ⟨_, A.same W, by rw [sz_set]; exact S, N, fun i hi => ?_⟩
  rw [sz_set] at hi
  by_cases u : sl = i
  · subst u; rw [own_up, if_pos rfl]; exact ⟨by simp [Cell.setSlot, hi], hv⟩
  · have := H i hi; rw [own_up, if_neg (fun z => u z.symm)]
    simp only [Cell.setSlot]; rw [Array.getElem?_setIfInBounds_ne u]; exact this
theorem own_Gi.rd (F : own_Gi Z h a ty n B) (q : ¬ j < 0 ∧ j < n) : ∃ c : Cell, Arr Z h a c ty ∧ c.slots.size = n.toNatClampNeg ∧ c.slots[j.toNatClampNeg]? = some (.int (B j.toNatClampNeg)) := by
  obtain ⟨c, A, S, N, H⟩ := F
  exact ⟨c, A, S, (H _ (Nat.lt_of_not_le fun y => inb_of S q (Or.inr y))).1⟩
theorem own_Gi.arv (F : own_Gi Z h a ty n B) : ∃ (k : ClassId) (vs : List Value), Arv Z h a k ty n vs (.int 0) ∧ vs.length = n.toNatClampNeg ∧ ∀ i, i < n.toNatClampNeg → vs.getD i (.int 0) = .int (B i) := by
  obtain ⟨c, A, S, N, H⟩ := F
  have q : ∀ i, i < c.slots.size → c.slots.toList.getD i (.int 0) = .int (B i) := fun i hi => by
    rw [List.getD_eq_getElem?_getD, Array.getElem?_toList, (H i hi).1]; rfl
  exact ⟨c.cls, c.slots.toList, ⟨c, A, rfl, S, N, fun i hi => by rw [q i hi]; exact (H i hi).1, fun i hi => by rw [q i hi]; exact (H i hi).2⟩, by simpa using S, fun i hi => q i (S ▸ hi)⟩
theorem own_Gi.new (A : Arr Z h a (newA k ty n) ty) (q : ¬ n < 0) (e : defaultValue ty = .int 0 := by rfl) : own_Gi Z h a ty n own_zero := own_Gi.of (Arv.new A q) fun i _ => e
/-- a whole new array filled by one copy -/
theorem own_Gi.copied {sp dp nn : Int32} {vs vd us : List Value} {dd : Value} {n1 : Int32} (F : Arv Z h b k ty n (vd.take dp.toNatClampNeg ++ us ++ vd.drop (dp.toNatClampNeg + nn.toNatClampNeg)) dd) (hus : us = (List.range nn.toNatClampNeg).map fun i => vs.getD (sp.toNatClampNeg + i) (.int 0)) (e : dp.toNatClampNeg = 0) (e1 : nn.toNatClampNeg = n.toNatClampNeg) (g : ∀ i, i < n1.toNatClampNeg → vs.getD i (.int 0) = .int (B i)) (e2 : sp.toNatClampNeg + nn.toNatClampNeg ≤ n1.toNatClampNeg) : own_Gi Z h b ty n (own_sh B sp.toNatClampNeg) := by
  refine own_Gi.of F fun i hi => ?_
  have l : i < ((List.range nn.toNatClampNeg).map fun i => vs.getD (sp.toNatClampNeg + i) (.int 0)).length := by simp; omega
  rw [e, hus, List.take_zero, List.nil_append, List.getD_eq_getElem?_getD, List.getElem?_append_left l, List.getElem?_map, List.getElem?_range (by omega)]
  show vs.getD (sp.toNatClampNeg + i) (.int 0) = _
  rw [g _ (by omega)]; rfl
theorem own_Un.lt (F : own_Un Z h a ty n) : a < h.size := by obtain ⟨c, A, -⟩ := F; exact A.lt
theorem own_Un.ext (F : own_Un Z h a ty n) (E : Ext h h') : own_Un Z h' a ty n := by obtain ⟨c, A, r⟩ := F; exact ⟨c, A.ext E, r⟩
theorem own_Un.other (F : own_Un Z h b ty n) (W : Wr h h' a sl v) (q : b ≠ a) : own_Un Z h' b ty n := by obtain ⟨c, A, r⟩ := F; exact ⟨c, A.other W q, r⟩
theorem own_Un.keep (F : own_Un Z h a ty n) (K : Keep h h' ws) (q : a ∉ ws) : own_Un Z h' a ty n := by obtain ⟨c, A, r⟩ := F; exact ⟨c, ⟨K.2.1 a c A.1 q, A.2⟩, r⟩
theorem own_Un.of (F : Arv Z h a k ty n vs dv) : own_Un Z h a ty n := by
  obtain ⟨c, A, -, S, N, H, G⟩ := F
  exact ⟨c, A, S, N, fun i hi => ⟨_, H i hi, G i hi⟩⟩
theorem own_Un.arv (F : own_Un Z h a ty n) : ∃ (k : ClassId) (vs : List Value), Arv Z h a k ty n vs (.int 0) ∧ vs.length = n.toNatClampNeg := by
  obtain ⟨c, A, S, N, H⟩ := F
  refine ⟨c.cls, c.slots.toList, ⟨c, A, rfl, S, N, fun i hi => ?_, fun i hi => ?_⟩, by simpa using S⟩
  · obtain ⟨v, e, -⟩ := H i hi
    rw [List.getD_eq_getElem?_getD, Array.getElem?_toList, e]; rfl
  · obtain ⟨v, e, f⟩ := H i hi
    rw [List.getD_eq_getElem?_getD, Array.getElem?_toList, e]; exact f
theorem own_Un.set (F : own_Un Z h a ty n) (W : Wr h h' a sl v) (hv : fits ty v = true) : own_Un Z h' a ty n := by
  obtain ⟨c, A, S, N, H⟩ := F
  refine ⟨_, A.same W, by rw [sz_set]; exact S, N, fun i hi => ?_⟩
  rw [sz_set] at hi
  by_cases u : sl = i
  · subst u; exact ⟨v, by simp [Cell.setSlot, hi], hv⟩
  · obtain ⟨w, e, f⟩ := H i hi
    exact ⟨w, by simp only [Cell.setSlot]; rw [Array.getElem?_setIfInBounds_ne u, e], f⟩
theorem own_Un.rdB (F : own_Un Z h a .byte n) (q : ¬ j < 0 ∧ j < n) : ∃ (c : Cell) (x : Int32), Arr Z h a c .byte ∧ c.slots.size = n.toNatClampNeg ∧ c.slots[j.toNatClampNeg]? = some (.int x) := by
  obtain ⟨c, A, S, N, H⟩ := F
  obtain ⟨v, e, f⟩ := H _ (Nat.lt_of_not_le fun y => inb_of S q (Or.inr y))
  obtain ⟨x, rfl⟩ := fit_I f (by simp)
  exact ⟨c, x, A, S, e⟩
theorem own_Un.rdJ (F : own_Un Z h a .long n) (q : ¬ j < 0 ∧ j < n) : ∃ (c : Cell) (x : Int64), Arr Z h a c .long ∧ c.slots.size = n.toNatClampNeg ∧ c.slots[j.toNatClampNeg]? = some (.long x) := by
  obtain ⟨c, A, S, N, H⟩ := F
  obtain ⟨v, e, f⟩ := H _ (Nat.lt_of_not_le fun y => inb_of S q (Or.inr y))
  cases v <;> simp [fits] at f
  exact ⟨c, _, A, S, e⟩
end OwnArrays
section OwnBack
variable {p : Program} {l : Launch} {e : Env} {R : Room} {s : State} {args : Array Value} {below : List Frame} {Z : State} {a0 : Array Value} {h : Heap}
/-- U's threads over V's heap and tables -/
def own_over (U V : State) : State := ({ U with heap := V.heap, slotsUsed := V.slotsUsed } : State).setVm V.vm
/-- where a callee has come back the caller's frame stands again, over the callee's heap and tables -/
theorem own_land {U V : State} {g : JFrame} {mk : MethodId} {a : Array Value} {v : Option Value} {L : List Loc} {k n : Nat} {c : Code} {ig : Instr} {len : Nat} (A : At U g.method c below) (hd : decode c.code g.pc = .ok (ig, len)) (hE : Ended V (U.setTop g).frames (.returned v)) (hR : ReturnedEndW (U.calling g mk a) (.returned v) V L k n) :
    V = (own_over U V).setTop { g with pc := g.pc + len, stack := v.toList ++ g.stack } ∧ U.Warmed39 V.vm ∧ U.sameButNew ({ U with heap := V.heap, slotsUsed := V.slotsUsed } : State) L k n := by
  obtain ⟨-, w, -, same⟩ := hR
  have w' : U.Warmed39 V.vm := w
  obtain ⟨g0, t0⟩ := Option.isSome_iff_exists.mp A.top
  obtain ⟨r, fr⟩ := State.topJava?_eq_some.mp t0
  rw [State.frames_setTop' g A.top, fr] at hE
  obtain ⟨c', i', len', hc, hd', hf⟩ := hE
  have sc : V.code? g.method = U.code? g.method := by simp only [State.code?_eq, w'.alike.method?]
  rw [sc, A.code] at hc
  cases hc
  rw [hd] at hd'
  cases hd'
  have lands : V = (own_over U V).setFrames V.frames := by
    have q := congrArg (fun t : State => t.setVm V.vm) same.1
    rw [State.calling_eq A.top, State.setFrames_setFrames] at q
    exact q
  refine ⟨?_, w', ?_, same.2⟩
  · rw [State.setTop_of_frames _ (show (own_over U V).frames = .java g0 :: r from fr)]
    exact lands.trans (congrArg (own_over U V).setFrames hf)
  · obtain ⟨th, hth, -⟩ := State.frames_cons fr
    show _ = ({ U.setFrames U.frames with heap := V.heap, slotsUsed := V.slotsUsed } : State)
    rw [State.setFrames_self hth]
/-- a callee that may intern, told by any head word w that knows its record, and that asks that nothing was interned since the case's start -/
theorem own_backI {y : MethodName} {w : Cond} {maxL : Nat} {rm : Room} {len W : Nat} {as' : Array Value} {Q : Option Value → Heap → List Loc → Prop} (hw : ∀ (a : Array Value) (U : State), Z.Warmed39 U.vm → w.before a U = true)
    (hrec : ∀ (a : Array Value) (U : State) (mk : MethodId), w.before a U = true → U.methodNamed? y = some mk → ∃ (meth : Method) (c : Code), U.vm.method? mk = some meth ∧ meth.code = some c ∧ c.maxLocals = maxL)
    (hM : MetFree l y (head1 [w] rm) (fun a U => a = as' ∧ Z.Warmed39 U.vm ∧ U.heap = h ∧ U.vm.interned = Z.vm.interned) (fun _ _ _ _ _ => True) (fun _ U o U' => ∃ v L, o = .returned v ∧ Q v U'.heap L ∧ ReturnedEndW U o U' L rm.cells rm.slots))
    (hZ : Z.Warmed39 s.vm) (hin : s.vm.interned = Z.vm.interned) (wz : (Cond.initialized y.cls).before a0 Z = true) (hf : rm.frames + 1 ≤ R.frames) (hl : W + (maxL + 11) + rm.locals ≤ R.locals) :
    BackS l R p e below s args y len W (fun A a => a = as' ∧ A.U.heap = h ∧ A.cells + rm.cells ≤ R.cells ∧ A.slots + rm.slots ≤ R.slots)
      (fun A _ v B => ∃ L, Q v B.U.heap L ∧ B.locs = A.locs ++ L ∧ B.cells = A.cells + rm.cells ∧ B.slots = A.slots + rm.slots) := by
  intro m meth c A g ig mk a X hg hsize hd hW hn hp
  have hU : Z.Warmed39 A.U.vm := wtrans hZ X.warmed
  obtain ⟨methY, cY, r1, r2, r3⟩ := hrec a A.U mk (hw a A.U hU) hn
  obtain ⟨kY, r4, -⟩ := className_of_methodNamed hn
  have here : At A.U g.method c below := by rw [hg]; exact X.here
  have app : (head1 [w] rm).appliesLoose y e.platform (A.U.calling g mk a) = true :=
    Spec.appliesLoose_calling (g := g) here hd hn r4 (Cond.initialized_spec (findClass_of_methodNamed hn) r4 (mv hU wz (args := a))) (X.room_calling (g := g) (R' := rm) hsize r1 r2 hf (by rw [r3]; omega) hp.2.2.1 hp.2.2.2)
      (by show (Cond.and w .tt).before a A.U = true; rw [Cond.before_and, hw a A.U hU]; rfl)
  obtain ⟨mid, hmid⟩ := here.above
  obtain ⟨o, V, steps, -, ended, v, L, ho, hQ, hR⟩ := Steps.callFree hM p X.admits X.cas X.clock (acts := []) (s := A.U.setTop g) (mid := .java g :: mid) (by rw [State.frames_setTop' g here.top, hmid]; rfl) app ⟨hp.1, hU, hp.2.1, X.warmed.interned_eq.trans hin⟩ trivial
  subst ho
  obtain ⟨land, warm, same⟩ := own_land here hd ended hR
  obtain ⟨X', since⟩ := X.movedW (T₂ := own_over A.U V) ((X.here.setHeapUsed V.heap V.slotsUsed).setVm warm.alike) X.tail rfl rfl warm hR.2.2.1 same
  exact ⟨v, ⟨own_over A.U V, A.locs ++ L, A.cells + rm.cells, A.slots + rm.slots⟩, X', since, same.2.1, ⟨L, hQ, rfl, rfl, rfl⟩, by rw [← land]; exact steps⟩
theorem own_backSI {y : MethodName} {bytes : ByteArray} {maxL : Nat} {ret : Option FieldType} {rm : Room} {len W : Nat} {as' : Array Value} {Q : Option Value → Heap → List Loc → Prop}
    (hM : MetFree l y (head1 [Cond.code y bytes maxL ret] rm) (fun a U => a = as' ∧ Z.Warmed39 U.vm ∧ U.heap = h ∧ U.vm.interned = Z.vm.interned) (fun _ _ _ _ _ => True) (fun _ U o U' => ∃ v L, o = .returned v ∧ Q v U'.heap L ∧ ReturnedEndW U o U' L rm.cells rm.slots))
    (hZ : Z.Warmed39 s.vm) (hin : s.vm.interned = Z.vm.interned) (wc : (Cond.code y bytes maxL ret).before a0 Z = true) (wz : (Cond.initialized y.cls).before a0 Z = true) (hf : rm.frames + 1 ≤ R.frames) (hl : W + (maxL + 11) + rm.locals ≤ R.locals) :
    BackS l R p e below s args y len W (fun A a => a = as' ∧ A.U.heap = h ∧ A.cells + rm.cells ≤ R.cells ∧ A.slots + rm.slots ≤ R.slots)
      (fun A _ v B => ∃ L, Q v B.U.heap L ∧ B.locs = A.locs ++ L ∧ B.cells = A.cells + rm.cells ∧ B.slots = A.slots + rm.slots) :=
  own_backI (fun a U q => mv q wc) (fun a U mk q hn => by obtain ⟨m1, c1, h1, h2, -, h3, -⟩ := Cond.code_spec hn q; exact ⟨m1, c1, h1, h2, h3⟩) hM hZ hin wz hf hl
theorem own_backSIW {y : MethodName} {bytes : ByteArray} {maxL : Nat} {ret : Option FieldType} {hs : List (Nat × Nat × Nat × Nat)} {rm : Room} {len W : Nat} {as' : Array Value} {Q : Option Value → Heap → List Loc → Prop}
    (hM : MetFree l y (head1 [Cond.codeWith y bytes maxL ret hs] rm) (fun a U => a = as' ∧ Z.Warmed39 U.vm ∧ U.heap = h ∧ U.vm.interned = Z.vm.interned) (fun _ _ _ _ _ => True) (fun _ U o U' => ∃ v L, o = .returned v ∧ Q v U'.heap L ∧ ReturnedEndW U o U' L rm.cells rm.slots))
    (hZ : Z.Warmed39 s.vm) (hin : s.vm.interned = Z.vm.interned) (wc : (Cond.codeWith y bytes maxL ret hs).before a0 Z = true) (wz : (Cond.initialized y.cls).before a0 Z = true) (hf : rm.frames + 1 ≤ R.frames) (hl : W + (maxL + 11) + rm.locals ≤ R.locals) :
    BackS l R p e below s args y len W (fun A a => a = as' ∧ A.U.heap = h ∧ A.cells + rm.cells ≤ R.cells ∧ A.slots + rm.slots ≤ R.slots)
      (fun A _ v B => ∃ L, Q v B.U.heap L ∧ B.locs = A.locs ++ L ∧ B.cells = A.cells + rm.cells ∧ B.slots = A.slots + rm.slots) :=
  own_backI (fun a U q => mv q wc) (fun a U mk q hn => by obtain ⟨mk', m1, c1, h0, h1, h2, -, h3, -⟩ := Cond.codeWith_spec q; cases hn.symm.trans h0; exact ⟨m1, c1, h1, h2, h3⟩) hM hZ hin wz hf hl
/-- a constructor with an exception table that may intern -/
theorem own_specialSH {m : MethodId} {meth : Method} {c : Code} {T : State} {locs : List Loc} {cells slots : Nat} (X : Stand p l e R s m args below meth c T locs cells slots) (hexec : p.tables.exec = Jvm.exec) {own : String} {index : Nat} {y : MethodName} (hy1 : y.name = "<init>")
    (hown : s.vm.findClass own = some m.cls) (hlink : (Cond.methodLink own index y).before args s = true) (hinst : (Cond.instanceMethod y).before args s = true)
    {bytes : ByteArray} {maxL : Nat} {hs : List (Nat × Nat × Nat × Nat)} (hcode : (Cond.codeWith y bytes maxL none hs).before args s = true)
    (hy : y.cls ≠ "java/lang/invoke/MethodHandle" ∧ y.cls ≠ "java/lang/invoke/VarHandle")
    {W : Nat} {Pre : Pt → Array Value → Prop} {Post : Pt → Array Value → Option Value → Pt → Prop} (hK : BackS l R p e below s args y 3 W Pre Post)
    {g : JFrame} (hg : g.method = m) (hsize : g.locals.size = c.maxLocals) {s₀ : State} (hcome : Steps p.tables e below s₀ (T.setTop g)) {a : Addr} {argsL rest : List Value}
    (hlen : ∀ sig, parseMethodDescriptor y.desc = some sig → argsL.length = sig.parameters.length) (hstack : g.stack = argsL.reverse ++ .ref a :: rest) (hW : 2 * g.monitorRoom + (rest.map fun v => v.category).sum ≤ W)
    (hdg : decode c.code g.pc = .ok (.invokespecial index, 3)) (hpre : ∀ vm₁, s.WarmedH vm₁ → Pre ⟨T.setVm vm₁, locs, cells, slots⟩ (.ref a :: argsL).toArray) :
    ∃ (v : Option Value) (vm₁ : Vm) (B : Pt), s.WarmedH vm₁ ∧ Stand p l e R (s.setVm B.U.vm) m args below meth c B.U B.locs B.cells B.slots ∧ s.Since B.U.vm B.U.heap.size ∧ T.heap.size ≤ B.U.heap.size ∧ Post ⟨T.setVm vm₁, locs, cells, slots⟩ (.ref a :: argsL).toArray v B ∧
      Steps p.tables e below s₀ (B.U.setTop { g with pc := g.pc + 3, stack := v.toList ++ rest }) := by
  have hpl : e.platform.magicAccessors = ({} : Platform).magicAccessors := by rw [X.admits.platform]
  obtain ⟨mk, methM, cM, kP, vm₁, hnamed, hmethM, -, -, -, -, hkP, -, hW₁, hstep₁⟩ := Steps.initColdArgsH (e := e) X.here hexec X.warmed hpl hown hy1 hy hlink hinst hcode (f := g) hg hlen hstack hdg
  have X₁ := X.noted hW₁
  obtain ⟨v, B, X', hS, hgr, hpost, hsteps⟩ := hK m meth c ⟨T.setVm vm₁, locs, cells, slots⟩ { g with stack := rest } (.invokespecial index) mk (.ref a :: argsL).toArray X₁ hg hsize hdg hW (X₁.named hnamed) (hpre vm₁ hW₁)
  exact ⟨v, vm₁, B, hW₁, X', hS, hgr, hpost, (hcome.trans (hstep₁ _ fun acts => by rw [doInvoke_state]; exact Steps.refl _)).trans hsteps⟩
theorem own_isRef {args : Array Value} {s : State} {t : Term} (h : (Cond.isRef t).value args s none s [] = some true) : ∃ v, t.eval args s none [] s = some v ∧ v.isRef = true := by
  simp only [Cond.value] at h
  cases ht : t.eval args s none [] s with
  | none => simp [ht] at h
  | some x => exact ⟨x, rfl, by cases x <;> first | rfl | (simp [ht] at h; done)⟩
end OwnBack
theorem own_z : (0 : Int32).toInt = 0 := rfl
theorem own_lt {x y : Int32} : x < y ↔ x.toInt < y.toInt := Int32.lt_iff_toInt_lt
theorem own_in {v n : Int32} (h1 : 0 ≤ v.toInt) (h2 : v.toInt < n.toInt) : ¬ v < 0 ∧ v < n := by
  rw [own_lt, own_lt, own_z]; omega
theorem own_inc {x n : Int32} (h : x < n) : (x + 1).toInt = x.toInt + 1 := by
  rw [own_lt] at h
  have e : (1 : Int32).toInt = 1 := rfl
  have := Int32.toInt_lt n
  have := Int32.le_toInt x
  rw [Jvm.Kit.i32_add (by omega) (by omega), e]
theorem own_clI {p : Int32} (h : 0 ≤ p.toInt) : (p.toNatClampNeg : Int) = p.toInt := by show ((p.toInt.toNat : Nat) : Int) = _; omega
/-- the window [o, o + l) lies within n, and n is at most 4 -/
def own_win (o l n : Int32) : Prop := 0 ≤ o.toInt ∧ 0 ≤ l.toInt ∧ o.toInt + l.toInt ≤ n.toInt ∧ n.toInt ≤ 4
/-- no negative byte in the window -/
def own_nn (B : Nat → Int32) (o l : Int32) : Prop := ∀ i : Nat, o.toInt ≤ i → (i : Int) < o.toInt + l.toInt → 0 ≤ (B i).toInt
theorem own_win.add {o l n : Int32} (h : own_win o l n) : (o + l).toInt = o.toInt + l.toInt := by
  obtain ⟨a, b, c, d⟩ := h
  exact Jvm.Kit.i32_add (by omega) (by omega)
theorem own_win.sub {o l n : Int32} (h : own_win o l n) : (n - o).toInt = n.toInt - o.toInt := by
  obtain ⟨a, b, c, d⟩ := h
  exact Jvm.Kit.i32_sub (by omega) (by omega)
theorem own_addsub {o l n : Int32} (h : own_win o l n) : ((o + l) - o) = l := by
  apply Int32.toInt_inj.mp
  have a := h.add
  obtain ⟨h1, h2, h3, h4⟩ := h
  rw [Jvm.Kit.i32_sub (by omega) (by omega), a]; omega
theorem own_shr0 (x : Int32) : x >>> ((0 : Int32) &&& 31) = x := by
  apply Int32.toInt_inj.mp
  rw [Jvm.Kit.i32_shr x ((0 : Int32) &&& 31) (k := 0) (by decide)]
  omega
theorem own_or {x y : Int32} (hx : 0 ≤ x.toInt) (hy : 0 ≤ y.toInt) : 0 ≤ (x ||| y).toInt := by
  have a : x.toBitVec.msb = false := by rw [BitVec.msb_eq_toInt]; exact decide_eq_false (fun q => by have q' : x.toInt < 0 := q; omega)
  have b : y.toBitVec.msb = false := by rw [BitVec.msb_eq_toInt]; exact decide_eq_false (fun q => by have q' : y.toInt < 0 := q; omega)
  have c : (x ||| y).toBitVec.msb = false := by rw [Int32.toBitVec_or, BitVec.msb_or, a, b]; rfl
  rw [BitVec.msb_eq_toInt] at c
  have d : ¬ (x ||| y).toInt < 0 := of_decide_eq_false c
  omega
def own_ch (x : Int32) : Int32 := ((x &&& (255 : Int32)).toUInt32.toUInt16.toUInt32.toInt32)
def own_c (x : Int32) : Int32 := (x.toUInt32.toUInt16.toUInt32.toInt32)
theorem own_narc (y : Int32) : nar .char (y.toUInt32.toUInt16.toUInt32.toInt32) = y.toUInt32.toUInt16.toUInt32.toInt32 := by
  have h : ∀ u : UInt16, u.toUInt32.toUInt16 = u := fun u => by simp
  show ((y.toUInt32.toUInt16.toUInt32).toUInt16.toUInt32.toInt32) = _
  rw [h]
theorem own_mask {x : Int32} (h : 0 ≤ x.toInt) (h' : x.toInt ≤ 127) : x &&& (255 : Int32) = x := by
  apply Int32.toInt_inj.mp
  rw [Jvm.Kit.i32_mask x (255 : Int32) (k := 8) (by decide) (by decide)]
  omega
theorem own_ch_c {x : Int32} (h : 0 ≤ x.toInt) (h' : x.toInt ≤ 127) : own_ch x = own_c x := by
  unfold own_ch own_c
  rw [own_mask h h']
def own_l4 (a b c d : Int32) : Nat → Int32 := fun i => if i = 0 then a else if i = 1 then b else if i = 2 then c else d
def own_l3 (a b c : Int32) : Nat → Int32 := fun i => if i = 0 then a else if i = 1 then b else c
theorem own_l4_ok (a b c d : Int32) (dv : Value) : ∀ i, i < (4 : Int32).toNatClampNeg → [Value.int a, .int b, .int c, .int d].getD i dv = .int (own_l4 a b c d i) := fun i hi => by
  have h : i < 4 := hi
  match i, h with
  | 0, _ => rfl
  | 1, _ => rfl
  | 2, _ => rfl
  | 3, _ => rfl
theorem own_l3_ok (a b c : Int32) (dv : Value) : ∀ i, i < (3 : Int32).toNatClampNeg → [Value.int a, .int b, .int c].getD i dv = .int (own_l3 a b c i) := fun i hi => by
  have h : i < 3 := hi
  match i, h with
  | 0, _ => rfl
  | 1, _ => rfl
  | 2, _ => rfl
/-- every byte is one -/
theorem own_byte (x : Int32) : -128 ≤ (nar .byte x).toInt ∧ (nar .byte x).toInt ≤ 127 := by
  show -128 ≤ (x.toInt8.toInt32).toInt ∧ (x.toInt8.toInt32).toInt ≤ 127
  have a := Int8.toInt_lt x.toInt8
  have b := Int8.le_toInt x.toInt8
  rw [Int8.toInt_toInt32]
  omega
theorem own_n127 (x : Int32) : 0 ≤ (nar .byte ((x &&& (127 : Int32)).toInt8.toInt32)).toInt := by
  have m := Jvm.Kit.i32_mask x (127 : Int32) (k := 7) (by decide) (by decide)
  show 0 ≤ (((x &&& (127 : Int32)).toInt8.toInt32).toInt8.toInt32).toInt
  have q : ∀ y : Int32, 0 ≤ y.toInt → y.toInt < 128 → (y.toInt8.toInt32).toInt = y.toInt := fun y h1 h2 => by
    rw [Int8.toInt_toInt32, Int32.toInt_toInt8, Int.bmod_eq_of_le (by omega) (by omega)]
  rw [q _ (by rw [q _ (by omega) (by omega)]; omega) (by rw [q _ (by omega) (by omega)]; omega), q _ (by omega) (by omega)]
  omega
theorem own_rem {x y : Int32} (h : 0 ≤ x.toInt) (hy : 1 ≤ y.toInt) : 0 ≤ (x % y).toInt ∧ (x % y).toInt < y.toInt := by
  rw [Jvm.Kit.i32_rem_nonneg h]
  exact ⟨Int.emod_nonneg _ (by omega), Int.emod_lt_of_pos _ (by omega)⟩
theorem own_andM (x : Int32) : 0 ≤ (x &&& (2147483647 : Int32)).toInt := by
  rw [Jvm.Kit.i32_mask x (2147483647 : Int32) (k := 31) (by decide) (by decide)]; omega
theorem own_ne0 {x : Int32} (h : 1 ≤ x.toInt) : x ≠ (0 : Int32) := fun q => by
  rw [q, own_z] at h; omega
theorem own_window {n1 n x y o l : Int32} (hn : n1.toInt = n.toInt + 1) (h0 : 0 ≤ n.toInt) (h4 : n.toInt ≤ 4) (ho : o = (x &&& (2147483647 : Int32)) % n1) (hl : l = (y &&& (2147483647 : Int32)) % (n1 - o)) : own_win o l n ∧ 1 ≤ (n1 - o).toInt := by
  have a := own_rem (x := x &&& (2147483647 : Int32)) (y := n1) (own_andM _) (by omega)
  rw [← ho] at a
  have b : (n1 - o).toInt = n1.toInt - o.toInt := Jvm.Kit.i32_sub (by omega) (by omega)
  have c := own_rem (x := y &&& (2147483647 : Int32)) (y := n1 - o) (own_andM _) (by omega)
  rw [← hl] at c
  unfold own_win
  omega
def own_ng (B : Nat → Int32) (o l i : Int32) : Int32 := (if i < l then (if (B (o + i).toNatClampNeg) < (0 : Int32) then (1 : Int32) else (0 : Int32)) else (0 : Int32))
theorem own_ng0 {B : Nat → Int32} {o l n i : Int32} (w : own_win o l n) (hi : 0 ≤ i.toInt) (h : i.toInt < l.toInt) : own_ng B o l i = 0 ↔ 0 ≤ (B (o.toInt + i.toInt).toNat).toInt := by
  obtain ⟨a, b, c, d⟩ := w
  have e : (o + i).toInt = o.toInt + i.toInt := Jvm.Kit.i32_add (by omega) (by omega)
  unfold own_ng
  rw [if_pos (own_lt.mpr h)]
  show (if (B (o + i).toInt.toNat) < (0 : Int32) then (1 : Int32) else (0 : Int32)) = 0 ↔ _
  rw [e]
  by_cases q : (B (o.toInt + i.toInt).toNat) < (0 : Int32)
  · rw [if_pos q]
    rw [own_lt, own_z] at q
    constructor
    · intro z; exact absurd z (by decide)
    · intro z; omega
  · rw [if_neg q]
    rw [own_lt, own_z] at q
    constructor
    · intro _; omega
    · intro _; rfl
theorem own_ngE {B : Nat → Int32} {o l i : Int32} (h : ¬ i < l) : own_ng B o l i = 0 := by unfold own_ng; rw [if_neg h]
theorem own_nn_iff {B : Nat → Int32} {o l n : Int32} (w : own_win o l n) : own_nn B o l ↔ (own_ng B o l 0 = 0 ∧ own_ng B o l 1 = 0 ∧ own_ng B o l 2 = 0 ∧ own_ng B o l 3 = 0) := by
  obtain ⟨a, b, c, d⟩ := id w
  have t0 : (0 : Int32).toInt = 0 := rfl
  have t1 : (1 : Int32).toInt = 1 := rfl
  have t2 : (2 : Int32).toInt = 2 := rfl
  have t3 : (3 : Int32).toInt = 3 := rfl
  have key : ∀ i : Int32, 0 ≤ i.toInt → (own_ng B o l i = 0 ↔ (i.toInt < l.toInt → 0 ≤ (B (o.toInt + i.toInt).toNat).toInt)) := fun i hi => by
    by_cases q : i.toInt < l.toInt
    · rw [own_ng0 w hi q]; exact ⟨fun z _ => z, fun z => z q⟩
    · exact ⟨fun _ z => absurd z q, fun _ => own_ngE (fun z => q (own_lt.mp z))⟩
  rw [key 0 (by omega), key 1 (by omega), key 2 (by omega), key 3 (by omega), t0, t1, t2, t3]
  constructor
  · intro H
    exact ⟨fun z => H _ (by omega) (by omega), fun z => H _ (by omega) (by omega), fun z => H _ (by omega) (by omega), fun z => H _ (by omega) (by omega)⟩
  · rintro ⟨h0, h1, h2, h3⟩ i hi1 hi2
    have s : i = (o.toInt + 0).toNat ∨ i = (o.toInt + 1).toNat ∨ i = (o.toInt + 2).toNat ∨ i = (o.toInt + 3).toNat := by omega
    rcases s with rfl | rfl | rfl | rfl
    · exact h0 (by omega)
    · exact h1 (by omega)
    · exact h2 (by omega)
    · exact h3 (by omega)
theorem own_asc1 {B : Nat → Int32} {o l n v : Int32} (w : own_win o l n) (h : own_nn B o l) (e : v = (if own_ng B o l 0 = 0 then (if own_ng B o l 1 = 0 then (if own_ng B o l 2 = 0 then (if own_ng B o l 3 = 0 then (1 : Int32) else (0 : Int32)) else (0 : Int32)) else (0 : Int32)) else (0 : Int32))) : v = 1 := by
  obtain ⟨a, b, c, d⟩ := (own_nn_iff w).mp h
  rw [e, if_pos a, if_pos b, if_pos c, if_pos d]
theorem own_asc0 {B : Nat → Int32} {o l n v : Int32} (w : own_win o l n) (h : ¬ own_nn B o l) (e : v = (if own_ng B o l 0 = 0 then (if own_ng B o l 1 = 0 then (if own_ng B o l 2 = 0 then (if own_ng B o l 3 = 0 then (1 : Int32) else (0 : Int32)) else (0 : Int32)) else (0 : Int32)) else (0 : Int32))) : v = 0 := by
  rw [own_nn_iff w] at h
  rw [e]
  by_cases a : own_ng B o l 0 = 0
  · rw [if_pos a]
    by_cases b : own_ng B o l 1 = 0
    · rw [if_pos b]
      by_cases c : own_ng B o l 2 = 0
      · rw [if_pos c]
        rw [if_neg (fun d => h ⟨a, b, c, d⟩)]
      · rw [if_neg c]
    · rw [if_neg b]
  · rw [if_neg a]
theorem d1_0 : decode method_3_code 0 = .ok (.iload_n 3, 1) := by decide +kernel
theorem d1_1 : decode method_3_code 1 = .ok (.iload_n 2, 1) := by decide +kernel
theorem d1_2 : decode method_3_code 2 = .ok (.if_icmp .ge 15, 3) := by decide +kernel
theorem d1_5 : decode method_3_code 5 = .ok (.aload_n 0, 1) := by decide +kernel
theorem d1_6 : decode method_3_code 6 = .ok (.iload_n 1, 1) := by decide +kernel
theorem d1_7 : decode method_3_code 7 = .ok (.iload_n 3, 1) := by decide +kernel
theorem d1_8 : decode method_3_code 8 = .ok (.iadd, 1) := by decide +kernel
theorem d1_9 : decode method_3_code 9 = .ok (.baload, 1) := by decide +kernel
theorem d1_10 : decode method_3_code 10 = .ok (.ifCond .ge 7, 3) := by decide +kernel
theorem d1_13 : decode method_3_code 13 = .ok (.iconst 1, 1) := by decide +kernel
theorem d1_14 : decode method_3_code 14 = .ok (.goto 4, 3) := by decide +kernel
theorem d1_17 : decode method_3_code 17 = .ok (.iconst 0, 1) := by decide +kernel
theorem d1_18 : decode method_3_code 18 = .ok (.ireturn, 1) := by decide +kernel
theorem pn_1 : plainName "com/example/sluice/sluice/engine/source/file/AsciiLineReadInPinLaw" = true := by first | (simp [plainName, overriddenIn]; done) | decide +kernel
theorem ef_1 (m : MethodId) (ab : Addr) (xo : Int32) (xl : Int32) (xi : Int32) : entryFrame m #[(.ref ab), (.int xo), (.int xl), (.int xi)] 4 = mkF m 0 #[.val (.ref ab), .val (.int xo), .val (.int xl), .val (.int xi)] [] := by first | (simp [entryFrame, mkF, argsToLocals, Value.category]; done) | rfl
def Q1 (Z : State) (ab : Addr) (xo : Int32) (xl : Int32) (xi : Int32) (xn : Int32) (B : Nat → Int32) (h0 : Heap) (n0 : Nat) (v : Option Value) (h : Heap) (L : List Loc) : Prop := v = some (.int (own_ng B xo xl xi)) ∧ Fr n0 L ∧ h = h0
set_option maxRecDepth 65536 in
theorem own_pl1_0 {xo : Int32} {xl : Int32} {xi : Int32} {xn : Int32} (hc2_1 : xi < xl) (hWn : own_win xo xl xn) (hi : 0 ≤ xi.toInt) : ¬ (xo + xi) < 0 ∧ (xo + xi) < xn := by
  obtain ⟨a, b, c, d⟩ := hWn
  have q := own_lt.mp hc2_1
  have e : (xo + xi).toInt = xo.toInt + xi.toInt := Jvm.Kit.i32_add (by omega) (by omega)
  exact own_in (by omega) (by omega)
set_option maxRecDepth 65536 in
set_option maxHeartbeats 40000000 in
theorem rm1 (l : Launch) (Z : State) (a0 : Array Value) (hw : ∀ d ∈ tables_1, d.before a0 Z = true) (ws : List Jvm.Cond) (ab : Addr) (xo : Int32) (xl : Int32) (xi : Int32) (xn : Int32) (B : Nat → Int32) (h0 : Heap) (n0 : Nat) (Z0 : n0 ≤ h0.size) (PF0 : own_Gi Z h0 ab .byte xn B) (hWn : own_win xo xl xn) (hi : 0 ≤ xi.toInt) :
    MetFree l (⟨"com/example/sluice/sluice/engine/source/file/AsciiLineReadInPinLaw", "neg", "([BIII)Z"⟩ : MethodName) (head1 (Jvm.Cond.code (⟨"com/example/sluice/sluice/engine/source/file/AsciiLineReadInPinLaw", "neg", "([BIII)Z"⟩ : MethodName) method_3_code 4 (some .boolean) :: ws) ({ frames := 0, cells := 0, slots := 0, locals := 0 } : Room)) (fun a U => a = #[(.ref ab), (.int xo), (.int xl), (.int xi)] ∧ Z.Warmed39 U.vm ∧ U.heap = h0) (fun _ _ _ _ _ => True) (fun _ U o U' => ∃ v L, o = .returned v ∧ Q1 Z ab xo xl xi xn B h0 n0 v U'.heap L ∧ FrameEnd U o U' L ({ frames := 0, cells := 0, slots := 0, locals := 0 } : Room).cells ({ frames := 0, cells := 0, slots := 0, locals := 0 } : Room).slots) := by
  refine MetFree.of_bodySF (plainFor_of_name pn_1) hisR ?_
  intro p e s m args below meth c s₁ Bd hml0 hP hK
  obtain ⟨rfl, hZ, hh⟩ := hP
  have hx := Bd.exec
  have hby := Bd.bytes
  have hml : c.maxLocals = 4 := hml0
  have hown : s.vm.findClass "com/example/sluice/sluice/engine/source/file/AsciiLineReadInPinLaw" = some m.cls := findClass_of_methodNamed Bd.named
  have hnm := (name_of_methodNamed Bd.named Bd.method).1
  have X0 : Stand p l e ({ frames := 0, cells := 0, slots := 0, locals := 0 } : Room) s m #[(.ref ab), (.int xo), (.int xl), (.int xi)] below meth c s₁ [] 0 0 := Stand.of_body Bd
  have e0 : s₁.heap = h0 := by rw [← hh, Bd.state]; rfl
  have N0 := Fr.nil n0
  suffices G : own_Goes p.tables e below (fun o U' => ∃ v L, o = .returned v ∧ Q1 Z ab xo xl xi xn B h0 n0 v U'.heap L ∧ FrameEnd s o U' L ({ frames := 0, cells := 0, slots := 0, locals := 0 } : Room).cells ({ frames := 0, cells := 0, slots := 0, locals := 0 } : Room).slots) s₁ (mkF m 0 #[.val (.ref ab), .val (.int xo), .val (.int xl), .val (.int xi)] []) by
    obtain ⟨t2_, o2_, z1_, z2_, z3_, z4_⟩ := G
    exact ⟨t2_, o2_, castTop (ef_1 m ab xo xl xi) z1_, z2_, z3_, z4_⟩
  generalize hPd : (fun (o : Outcome) (U' : State) => ∃ v L, o = .returned v ∧ Q1 Z ab xo xl xi xn B h0 n0 v U'.heap L ∧ FrameEnd s o U' L ({ frames := 0, cells := 0, slots := 0, locals := 0 } : Room).cells ({ frames := 0, cells := 0, slots := 0, locals := 0 } : Room).slots) = P
  refine own_Goes.via (T' := s₁) (g' := (mkF m 1 #[.val (.ref ab), .val (.int xo), .val (.int xl), .val (.int xi)] [(.int xi)])) (fun t_ k_ => XS.iloadN X0.here hx rfl (hb hby d1_0) rfl k_) ?_
  refine own_Goes.via (T' := s₁) (g' := (mkF m 2 #[.val (.ref ab), .val (.int xo), .val (.int xl), .val (.int xi)] [(.int xl), (.int xi)])) (fun t_ k_ => XS.iloadN X0.here hx rfl (hb hby d1_1) rfl k_) ?_
  suffices J18_4 : ∀ (v18_2 : Int32) (hv18_2 : v18_2 = (if xi < xl then (if (B (xo + xi).toNatClampNeg) < (0 : Int32) then (1 : Int32) else (0 : Int32)) else (0 : Int32))), own_Goes p.tables e below P s₁ (mkF m 18 #[.val (.ref ab), .val (.int xo), .val (.int xl), .val (.int xi)] [(.int v18_2)]) by
    by_cases hc2_1 : xi < xl
    · refine own_Goes.via (T' := s₁) (g' := (mkF m 5 #[.val (.ref ab), .val (.int xo), .val (.int xl), .val (.int xi)] [])) (fun t_ k_ => XS.icmpNo X0.here hx rfl (hb hby d1_2) rfl (tlt hc2_1).2.1 k_) ?_
      refine own_Goes.via (T' := s₁) (g' := (mkF m 6 #[.val (.ref ab), .val (.int xo), .val (.int xl), .val (.int xi)] [(.ref ab)])) (fun t_ k_ => XS.aloadN X0.here hx rfl (hb hby d1_5) rfl rfl k_) ?_
      refine own_Goes.via (T' := s₁) (g' := (mkF m 7 #[.val (.ref ab), .val (.int xo), .val (.int xl), .val (.int xi)] [(.int xo), (.ref ab)])) (fun t_ k_ => XS.iloadN X0.here hx rfl (hb hby d1_6) rfl k_) ?_
      refine own_Goes.via (T' := s₁) (g' := (mkF m 8 #[.val (.ref ab), .val (.int xo), .val (.int xl), .val (.int xi)] [(.int xi), (.int xo), (.ref ab)])) (fun t_ k_ => XS.iloadN X0.here hx rfl (hb hby d1_7) rfl k_) ?_
      refine own_Goes.via (T' := s₁) (g' := (mkF m 9 #[.val (.ref ab), .val (.int xo), .val (.int xl), .val (.int xi)] [(.int (xo + xi)), (.ref ab)])) (fun t_ k_ => XS.iadd X0.here hx rfl (hb hby d1_8) rfl k_) ?_
      have in9_6 : ¬ (xo + xi) < 0 ∧ (xo + xi) < xn := own_pl1_0 hc2_1 hWn hi
      obtain ⟨cl5, Ar5, Sl5, at5⟩ := PF0.rd in9_6
      refine own_Goes.via (T' := s₁) (g' := (mkF m 10 #[.val (.ref ab), .val (.int xo), .val (.int xl), .val (.int xi)] [(.int (B (xo + xi).toNatClampNeg))])) (fun t_ k_ => X0.baloadBytes hx (j := (xo + xi)) (v := (.int (B (xo + xi).toNatClampNeg))) (by rw [e0]; exact Ar5.1) (State.isArrayOf_alike hZ.alike Ar5.2.1) Ar5.2.2 (inb_of Sl5 in9_6) at5 (g := (mkF m 9 #[.val (.ref ab), .val (.int xo), .val (.int xl), .val (.int xi)] [(.int (xo + xi)), (.ref ab)])) rfl rfl (hb hby d1_9) _ k_) ?_
      by_cases hc10_7 : (B (xo + xi).toNatClampNeg) < (0 : Int32)
      · refine own_Goes.via (T' := s₁) (g' := (mkF m 13 #[.val (.ref ab), .val (.int xo), .val (.int xl), .val (.int xi)] [])) (fun t_ k_ => XS.ifNo X0.here hx rfl (hb hby d1_10) rfl ((if0 _ _).trans (tlt hc10_7).2.1) k_) ?_
        refine own_Goes.via (T' := s₁) (g' := (mkF m 14 #[.val (.ref ab), .val (.int xo), .val (.int xl), .val (.int xi)] [(.int (1 : Int32))])) (fun t_ k_ => XS.iconst X0.here hx rfl (hb hby d1_13) k_) ?_
        refine own_Goes.via (T' := s₁) (g' := (mkF m 18 #[.val (.ref ab), .val (.int xo), .val (.int xl), .val (.int xi)] [(.int (1 : Int32))])) (fun t_ k_ => XS.goto X0.here hx rfl (pc0 := 14) (pc' := 18) rfl (hb hby d1_14) (by decide) (by decide) k_) ?_
        exact J18_4 (1 : Int32) (((if_pos hc2_1).trans (if_pos hc10_7))).symm
      · refine own_Goes.via (T' := s₁) (g' := (mkF m 17 #[.val (.ref ab), .val (.int xo), .val (.int xl), .val (.int xi)] [])) (fun t_ k_ => XS.ifYes X0.here hx rfl (pc0 := 10) (pc' := 17) rfl (hb hby d1_10) rfl ((if0 _ _).trans (flt hc10_7).2.1) (by decide) (by decide) k_) ?_
        refine own_Goes.via (T' := s₁) (g' := (mkF m 18 #[.val (.ref ab), .val (.int xo), .val (.int xl), .val (.int xi)] [(.int (0 : Int32))])) (fun t_ k_ => XS.iconst X0.here hx rfl (hb hby d1_17) k_) ?_
        exact J18_4 (0 : Int32) (((if_pos hc2_1).trans (if_neg hc10_7))).symm
    · refine own_Goes.via (T' := s₁) (g' := (mkF m 17 #[.val (.ref ab), .val (.int xo), .val (.int xl), .val (.int xi)] [])) (fun t_ k_ => XS.icmpYes X0.here hx rfl (pc0 := 2) (pc' := 17) rfl (hb hby d1_2) rfl (flt hc2_1).2.1 (by decide) (by decide) k_) ?_
      refine own_Goes.via (T' := s₁) (g' := (mkF m 18 #[.val (.ref ab), .val (.int xo), .val (.int xl), .val (.int xi)] [(.int (0 : Int32))])) (fun t_ k_ => XS.iconst X0.here hx rfl (hb hby d1_17) k_) ?_
      exact J18_4 (0 : Int32) ((if_neg hc2_1)).symm
  intro v18_2 hv18_2
  have hnar8 : nar .boolean v18_2 = v18_2 := by rw [hv18_2]; (repeat' split) <;> rfl
  obtain ⟨fs, hr, hrun, hended, hW, hsame⟩ := X0.leave (v := some (.int v18_2)) (fun h => by rw [Bd.returns] at h; cases h)
  refine own_Goes.fin (retN X0 hx (t := .boolean) Bd.returns (by simp) (hb hby d1_18) (by rw [hnar8]; exact hr)) hrun hended ?_
  subst hPd
  refine ⟨_, _, rfl, ?_, ⟨_, rfl⟩, hW, hsame.mono (by decide) (by decide)⟩
  show Q1 Z ab xo xl xi xn B h0 n0 _ s₁.heap _
  rw [e0]
  exact ⟨(by subst hv18_2; first | rfl | (simp only [own_ng])), N0, rfl⟩
theorem d2_0 : decode prog_128_method_1_code 0 = .ok (.aload_n 0, 1) := by decide +kernel
theorem d2_1 : decode prog_128_method_1_code 1 = .ok (.invokespecial 1, 3) := by decide +kernel
theorem d2_4 : decode prog_128_method_1_code 4 = .ok (.aload_n 0, 1) := by decide +kernel
theorem d2_5 : decode prog_128_method_1_code 5 = .ok (.iconst 0, 1) := by decide +kernel
theorem d2_6 : decode prog_128_method_1_code 6 = .ok (.newarray .byte, 2) := by decide +kernel
theorem d2_8 : decode prog_128_method_1_code 8 = .ok (.putfield 7, 3) := by decide +kernel
theorem d2_11 : decode prog_128_method_1_code 11 = .ok (.return_, 1) := by decide +kernel
theorem pn_2 : plainName "com/example/sluice/sluice/engine/source/file/AsciiLine" = true := by first | (simp [plainName, overriddenIn]; done) | decide +kernel
theorem ef_2 (m : MethodId) (ao : Addr) : entryFrame m #[(.ref ao)] 1 = mkF m 0 #[.val (.ref ao)] [] := by first | (simp [entryFrame, mkF, argsToLocals, Value.category]; done) | rfl
def Q2 (Z : State) (ao : Addr) (h0 : Heap) (n0 : Nat) (v : Option Value) (h : Heap) (L : List Loc) : Prop := ∃ (bz : Addr), v = none ∧ Fr n0 L ∧ Keep h0 h [ao] ∧ Fld Z h ao "com/example/sluice/sluice/engine/source/file/AsciiLine" "bytes" "[B" (.ref bz) ∧ Fld Z h ao "com/example/sluice/sluice/engine/source/file/AsciiLine" "offset" "I" (.int (0 : Int32)) ∧ Fld Z h ao "com/example/sluice/sluice/engine/source/file/AsciiLine" "length" "I" (.int (0 : Int32))
set_option maxRecDepth 65536 in
set_option maxHeartbeats 40000000 in
theorem rm2 (l : Launch) (Z : State) (a0 : Array Value) (hw : ∀ d ∈ tables_1, d.before a0 Z = true) (ws : List Jvm.Cond) (ao : Addr) (h0 : Heap) (n0 : Nat) (Z0 : n0 ≤ h0.size) (PF0 : Exa Z h0 ao "com/example/sluice/sluice/engine/source/file/AsciiLine") (PF1 : Fld Z h0 ao "com/example/sluice/sluice/engine/source/file/AsciiLine" "bytes" "[B" .null) (PF2 : Fld Z h0 ao "com/example/sluice/sluice/engine/source/file/AsciiLine" "offset" "I" (.int (0 : Int32))) (PF3 : Fld Z h0 ao "com/example/sluice/sluice/engine/source/file/AsciiLine" "length" "I" (.int (0 : Int32))) (ge_ao : n0 ≤ ao) :
    MetFree l (⟨"com/example/sluice/sluice/engine/source/file/AsciiLine", "<init>", "()V"⟩ : MethodName) (head1 (Jvm.Cond.code (⟨"com/example/sluice/sluice/engine/source/file/AsciiLine", "<init>", "()V"⟩ : MethodName) prog_128_method_1_code 1 none :: ws) ({ frames := 1, cells := 1, slots := 0, locals := 12 } : Room)) (fun a U => a = #[(.ref ao)] ∧ Z.Warmed39 U.vm ∧ U.heap = h0) (fun _ _ _ _ _ => True) (fun _ U o U' => ∃ v L, o = .returned v ∧ Q2 Z ao h0 n0 v U'.heap L ∧ FrameEnd U o U' L ({ frames := 1, cells := 1, slots := 0, locals := 12 } : Room).cells ({ frames := 1, cells := 1, slots := 0, locals := 12 } : Room).slots) := by
  refine MetFree.of_bodySF (plainFor_of_name pn_2) hisR ?_
  intro p e s m args below meth c s₁ Bd hml0 hP hK
  obtain ⟨rfl, hZ, hh⟩ := hP
  have hx := Bd.exec
  have hby := Bd.bytes
  have hml : c.maxLocals = 1 := hml0
  have hown : s.vm.findClass "com/example/sluice/sluice/engine/source/file/AsciiLine" = some m.cls := findClass_of_methodNamed Bd.named
  have hnm := (name_of_methodNamed Bd.named Bd.method).1
  have X0 : Stand p l e ({ frames := 1, cells := 1, slots := 0, locals := 12 } : Room) s m #[(.ref ao)] below meth c s₁ [] 0 0 := Stand.of_body Bd
  have e0 : s₁.heap = h0 := by rw [← hh, Bd.state]; rfl
  have N0 := Fr.nil n0
  suffices G : own_Goes p.tables e below (fun o U' => ∃ v L, o = .returned v ∧ Q2 Z ao h0 n0 v U'.heap L ∧ FrameEnd s o U' L ({ frames := 1, cells := 1, slots := 0, locals := 12 } : Room).cells ({ frames := 1, cells := 1, slots := 0, locals := 12 } : Room).slots) s₁ (mkF m 0 #[.val (.ref ao)] []) by
    obtain ⟨t2_, o2_, z1_, z2_, z3_, z4_⟩ := G
    exact ⟨t2_, o2_, castTop (ef_2 m ao) z1_, z2_, z3_, z4_⟩
  generalize hPd : (fun (o : Outcome) (U' : State) => ∃ v L, o = .returned v ∧ Q2 Z ao h0 n0 v U'.heap L ∧ FrameEnd s o U' L ({ frames := 1, cells := 1, slots := 0, locals := 12 } : Room).cells ({ frames := 1, cells := 1, slots := 0, locals := 12 } : Room).slots) = P
  refine own_Goes.via (T' := s₁) (g' := (mkF m 1 #[.val (.ref ao)] [(.ref ao)])) (fun t_ k_ => XS.aloadN X0.here hx rfl (hb hby d2_0) rfl rfl k_) ?_
  obtain ⟨T1, X1, e1, st1⟩ := initO X0 hx hZ hown (hw _ (List.mem_of_getElem? (i := 12) rfl)) (hw _ (List.mem_of_getElem? (i := 13) rfl)) (hw _ (List.mem_of_getElem? (i := 14) rfl)) e0 (g := (mkF m 1 #[.val (.ref ao)] [(.ref ao)])) rfl (by rw [hml]; rfl) rfl (hb hby d2_1) (by decide) (W := 0) (by show 2 * 0 + _ ≤ _; exact Nat.le_of_eq rfl) (by decide)
  refine own_Goes.via (T' := T1) (g' := (mkF m 4 #[.val (.ref ao)] [])) (st1) ?_
  refine own_Goes.via (T' := T1) (g' := (mkF m 5 #[.val (.ref ao)] [(.ref ao)])) (fun t_ k_ => XS.aloadN X1.here hx rfl (hb hby d2_4) rfl rfl k_) ?_
  refine own_Goes.via (T' := T1) (g' := (mkF m 6 #[.val (.ref ao)] [(.int (0 : Int32)), (.ref ao)])) (fun t_ k_ => XS.iconst X1.here hx rfl (hb hby d2_5) k_) ?_
  obtain ⟨T2, h2, k2, X2, e2, E2, A2, Ea2, st2⟩ := newPE X1 hx hZ (hw _ (List.mem_of_getElem? (i := 0) rfl)) e1 (g := (mkF m 6 #[.val (.ref ao)] [(.int (0 : Int32)), (.ref ao)])) rfl (hb hby d2_6) rfl (by decide) (cap := 0) (by decide) (by decide) (by decide) (by decide) (ad := "[B") (by decide)
  obtain ⟨b2, g2⟩ : ∃ z, z = h0.size := ⟨_, rfl⟩
  rw [← g2] at A2 Ea2 st2
  have ne_ao_b2 : ao ≠ b2 := Nat.ne_of_lt (Nat.lt_of_lt_of_le PF0.lt (Nat.le_of_eq g2.symm))
  have E3 : Exa Z h2 ao "com/example/sluice/sluice/engine/source/file/AsciiLine" := PF0.ext E2
  have F4 : Fld Z h2 ao "com/example/sluice/sluice/engine/source/file/AsciiLine" "bytes" "[B" .null := PF1.ext E2
  have F5 : Fld Z h2 ao "com/example/sluice/sluice/engine/source/file/AsciiLine" "offset" "I" (.int (0 : Int32)) := PF2.ext E2
  have F6 : Fld Z h2 ao "com/example/sluice/sluice/engine/source/file/AsciiLine" "length" "I" (.int (0 : Int32)) := PF3.ext E2
  have ge_b2 : n0 ≤ b2 := Nat.le_trans Z0 (Nat.le_of_eq g2.symm)
  have sz_b2 : h0.size ≤ b2 := Nat.le_trans ((Keep.refl h0 [ao])).1 (Nat.le_of_eq g2.symm)
  have sz2 : n0 ≤ h2.size := Nat.le_trans Z0 E2.1
  have K2 : Keep h0 h2 [ao] := ((Keep.refl h0 [ao])).ext E2
  have E7 : Exa Z h2 b2 "[B" := Ea2
  have V8 : Arv Z h2 b2 k2 .byte (0 : Int32) [] (.int (0 : Int32)) := Arv.new A2 (by decide)
  refine own_Goes.via (T' := T2) (g' := (mkF m 8 #[.val (.ref ao)] [(.ref b2), (.ref ao)])) (st2) ?_
  obtain ⟨T9, h9, X9, e9, W9, st9⟩ := putF X2 hx hZ hown (host := "") (Or.inl (hw _ (List.mem_of_getElem? (i := 15) rfl))) Via.refl e2 F4 E3 (Or.inl (hw _ (List.mem_of_getElem? (i := 16) rfl))) (hw _ (List.mem_of_getElem? (i := 7) rfl)) (ty := (.array .byte)) (by decide) rfl rfl (g := (mkF m 8 #[.val (.ref ao)] [(.ref b2), (.ref ao)])) rfl rfl (hb hby d2_8)
  have E10 : Exa Z h9 ao "com/example/sluice/sluice/engine/source/file/AsciiLine" := E3.wr W9
  have E11 : Exa Z h9 b2 "[B" := E7.wr W9
  have F12 : Fld Z h9 ao "com/example/sluice/sluice/engine/source/file/AsciiLine" "offset" "I" (.int (0 : Int32)) := F5.other W9 (Or.inr (slot_ne (Or.inl (hw _ (List.mem_of_getElem? (i := 23) rfl))) (Or.inl (hw _ (List.mem_of_getElem? (i := 16) rfl))) (by decide) (t := .int) (t' := (.array .byte)) (by decide) (by decide)))
  have F13 : Fld Z h9 ao "com/example/sluice/sluice/engine/source/file/AsciiLine" "length" "I" (.int (0 : Int32)) := F6.other W9 (Or.inr (slot_ne (Or.inl (hw _ (List.mem_of_getElem? (i := 25) rfl))) (Or.inl (hw _ (List.mem_of_getElem? (i := 16) rfl))) (by decide) (t := .int) (t' := (.array .byte)) (by decide) (by decide)))
  have V14 : Arv Z h9 b2 k2 .byte (0 : Int32) [] (.int (0 : Int32)) := V8.other W9 (Ne.symm ne_ao_b2)
  have F15 : Fld Z h9 ao "com/example/sluice/sluice/engine/source/file/AsciiLine" "bytes" "[B" (.ref b2) := F4.same W9
  have N9 := Fr.snoc X9 N0 ge_ao
  have sz9 : n0 ≤ h9.size := Nat.le_trans sz2 (Keep.of_wr W9).1
  have K9 : Keep h0 h9 [ao] := (K2).wr W9 (Or.inl (List.mem_of_getElem? (i := 0) rfl))
  refine own_Goes.via (T' := T9) (g' := (mkF m 11 #[.val (.ref ao)] [])) (st9) ?_
  obtain ⟨fs, hr, hrun, hended, hW, hsame⟩ := X9.leave (v := none) (fun _ => rfl)
  refine own_Goes.fin (X9.returnOut hx Bd.returns (hb hby d2_11) hr) hrun hended ?_
  subst hPd
  refine ⟨_, _, rfl, ?_, ⟨_, rfl⟩, hW, hsame.mono (by decide) (by decide)⟩
  show Q2 Z ao h0 n0 _ T9.heap _
  rw [e9]
  exact ⟨b2, rfl, N9, K9, F15, F12, F13⟩
theorem d4_0 : decode prog_128_method_2_code 0 = .ok (.iload_n 2, 1) := by decide +kernel
theorem d4_1 : decode prog_128_method_2_code 1 = .ok (.istore 4, 2) := by decide +kernel
theorem d4_3 : decode prog_128_method_2_code 3 = .ok (.iload 4, 2) := by decide +kernel
theorem d4_5 : decode prog_128_method_2_code 5 = .ok (.iload_n 2, 1) := by decide +kernel
theorem d4_6 : decode prog_128_method_2_code 6 = .ok (.iload_n 3, 1) := by decide +kernel
theorem d4_7 : decode prog_128_method_2_code 7 = .ok (.iadd, 1) := by decide +kernel
theorem d4_8 : decode prog_128_method_2_code 8 = .ok (.if_icmp .ge 18, 3) := by decide +kernel
theorem d4_11 : decode prog_128_method_2_code 11 = .ok (.aload_n 1, 1) := by decide +kernel
theorem d4_12 : decode prog_128_method_2_code 12 = .ok (.iload 4, 2) := by decide +kernel
theorem d4_14 : decode prog_128_method_2_code 14 = .ok (.baload, 1) := by decide +kernel
theorem d4_15 : decode prog_128_method_2_code 15 = .ok (.ifCond .ge 5, 3) := by decide +kernel
theorem d4_20 : decode prog_128_method_2_code 20 = .ok (.iinc 4 1, 3) := by decide +kernel
theorem d4_23 : decode prog_128_method_2_code 23 = .ok (.goto (-20), 3) := by decide +kernel
theorem d4_26 : decode prog_128_method_2_code 26 = .ok (.aload_n 0, 1) := by decide +kernel
theorem d4_27 : decode prog_128_method_2_code 27 = .ok (.aload_n 1, 1) := by decide +kernel
theorem d4_28 : decode prog_128_method_2_code 28 = .ok (.putfield 7, 3) := by decide +kernel
theorem d4_31 : decode prog_128_method_2_code 31 = .ok (.aload_n 0, 1) := by decide +kernel
theorem d4_32 : decode prog_128_method_2_code 32 = .ok (.iload_n 2, 1) := by decide +kernel
theorem d4_33 : decode prog_128_method_2_code 33 = .ok (.putfield 13, 3) := by decide +kernel
theorem d4_36 : decode prog_128_method_2_code 36 = .ok (.aload_n 0, 1) := by decide +kernel
theorem d4_37 : decode prog_128_method_2_code 37 = .ok (.iload_n 3, 1) := by decide +kernel
theorem d4_38 : decode prog_128_method_2_code 38 = .ok (.putfield 17, 3) := by decide +kernel
theorem d4_41 : decode prog_128_method_2_code 41 = .ok (.iconst 1, 1) := by decide +kernel
theorem d4_42 : decode prog_128_method_2_code 42 = .ok (.ireturn, 1) := by decide +kernel
theorem pn_4 : plainName "com/example/sluice/sluice/engine/source/file/AsciiLine" = true := by first | (simp [plainName, overriddenIn]; done) | decide +kernel
theorem ef_4a (m : MethodId) (ao : Addr) (ab : Addr) (xo : Int32) (xl : Int32) : entryFrame m #[(.ref ao), (.ref ab), (.int xo), (.int xl)] 5 = mkF m 0 #[.val (.ref ao), .val (.ref ab), .val (.int xo), .val (.int xl), .unset] [] := by first | (simp [entryFrame, mkF, argsToLocals, Value.category]; done) | rfl
def Q4a (Z : State) (ao : Addr) (ab : Addr) (xo : Int32) (xl : Int32) (ob : Addr) (xq1 : Int32) (xq2 : Int32) (xn : Int32) (B : Nat → Int32) (h0 : Heap) (n0 : Nat) (v : Option Value) (h : Heap) (L : List Loc) : Prop := v = some (.int (1 : Int32)) ∧ Fr n0 L ∧ Keep h0 h [ao] ∧ Fld Z h ao "com/example/sluice/sluice/engine/source/file/AsciiLine" "bytes" "[B" (.ref ab) ∧ Fld Z h ao "com/example/sluice/sluice/engine/source/file/AsciiLine" "offset" "I" (.int xo) ∧ Fld Z h ao "com/example/sluice/sluice/engine/source/file/AsciiLine" "length" "I" (.int xl)
set_option maxRecDepth 65536 in
theorem own_pl4a_0 {xo : Int32} {xl : Int32} {xn : Int32} {B : Nat → Int32} (hWn : own_win xo xl xn) (hP : own_nn B xo xl) : xo.toInt ≤ xo.toInt ∧ xo.toInt ≤ xo.toInt + xl.toInt := by
  obtain ⟨a, b, c, d⟩ := hWn
  omega
set_option maxRecDepth 65536 in
theorem own_pl4a_1 {xo : Int32} {xl : Int32} {xn : Int32} {B : Nat → Int32} {xi : Int32} (hWn : own_win xo xl xn) (hP : own_nn B xo xl) (hiL3 : xo.toInt ≤ xi.toInt ∧ xi.toInt ≤ xo.toInt + xl.toInt) : ¬ ((xo.toInt + xl.toInt - xi.toInt).toNat + 1 ≤ 0) := by
  omega
set_option maxRecDepth 65536 in
theorem own_pl4a_2 {xo : Int32} {xl : Int32} {xn : Int32} {B : Nat → Int32} {xi : Int32} {f1 : Nat} (hc8_2 : xi < (xo + xl)) (hWn : own_win xo xl xn) (hP : own_nn B xo xl) (hmL3 : (xo.toInt + xl.toInt - xi.toInt).toNat + 1 ≤ f1 + 1) (hiL3 : xo.toInt ≤ xi.toInt ∧ xi.toInt ≤ xo.toInt + xl.toInt) : ¬ xi < 0 ∧ xi < xn := by
  obtain ⟨a, b, c, d⟩ := id hWn
  have q := own_lt.mp hc8_2
  rw [hWn.add] at q
  exact own_in (by omega) (by omega)
set_option maxRecDepth 65536 in
theorem own_pl4a_3 {xo : Int32} {xl : Int32} {xn : Int32} {B : Nat → Int32} {xi : Int32} {f1 : Nat} (hc8_2 : xi < (xo + xl)) (hWn : own_win xo xl xn) (hP : own_nn B xo xl) (hmL3 : (xo.toInt + xl.toInt - xi.toInt).toNat + 1 ≤ f1 + 1) (hiL3 : xo.toInt ≤ xi.toInt ∧ xi.toInt ≤ xo.toInt + xl.toInt) (in14_4 : ¬ xi < 0 ∧ xi < xn) : ¬ ((B xi.toNatClampNeg) < (0 : Int32)) := by
  obtain ⟨a, b, c, d⟩ := id hWn
  have q := own_lt.mp hc8_2
  rw [hWn.add] at q
  rw [own_lt, own_z]
  have y := own_clI (p := xi) (by omega)
  have z := hP xi.toNatClampNeg (by omega) (by omega)
  omega
set_option maxRecDepth 65536 in
theorem own_pl4a_4 {xo : Int32} {xl : Int32} {xn : Int32} {B : Nat → Int32} {xi : Int32} {f1 : Nat} {v6 : Int32} (hv6 : v6 = (xi + (1 : Int32))) (hc8_2 : xi < (xo + xl)) (hWn : own_win xo xl xn) (hP : own_nn B xo xl) (hmL3 : (xo.toInt + xl.toInt - xi.toInt).toNat + 1 ≤ f1 + 1) (hiL3 : xo.toInt ≤ xi.toInt ∧ xi.toInt ≤ xo.toInt + xl.toInt) (in14_4 : ¬ xi < 0 ∧ xi < xn) : (xo.toInt + xl.toInt - v6.toInt).toNat + 1 ≤ f1 := by
  have e := own_inc hc8_2
  rw [← hv6] at e
  have q := own_lt.mp hc8_2
  rw [hWn.add] at q
  omega
set_option maxRecDepth 65536 in
theorem own_pl4a_5 {xo : Int32} {xl : Int32} {xn : Int32} {B : Nat → Int32} {xi : Int32} {f1 : Nat} {v6 : Int32} (hv6 : v6 = (xi + (1 : Int32))) (hc8_2 : xi < (xo + xl)) (hWn : own_win xo xl xn) (hP : own_nn B xo xl) (hmL3 : (xo.toInt + xl.toInt - xi.toInt).toNat + 1 ≤ f1 + 1) (hiL3 : xo.toInt ≤ xi.toInt ∧ xi.toInt ≤ xo.toInt + xl.toInt) (in14_4 : ¬ xi < 0 ∧ xi < xn) : xo.toInt ≤ v6.toInt ∧ v6.toInt ≤ xo.toInt + xl.toInt := by
  have e := own_inc hc8_2
  rw [← hv6] at e
  have q := own_lt.mp hc8_2
  rw [hWn.add] at q
  omega
set_option maxRecDepth 65536 in
set_option maxHeartbeats 40000000 in
theorem rm4a (l : Launch) (Z : State) (a0 : Array Value) (hw : ∀ d ∈ tables_1, d.before a0 Z = true) (ws : List Jvm.Cond) (ao : Addr) (ab : Addr) (xo : Int32) (xl : Int32) (ob : Addr) (xq1 : Int32) (xq2 : Int32) (xn : Int32) (B : Nat → Int32) (h0 : Heap) (n0 : Nat) (Z0 : n0 ≤ h0.size) (PF0 : Exa Z h0 ao "com/example/sluice/sluice/engine/source/file/AsciiLine") (PF1 : Exa Z h0 ab "[B") (PF2 : Fld Z h0 ao "com/example/sluice/sluice/engine/source/file/AsciiLine" "bytes" "[B" (.ref ob)) (PF3 : Fld Z h0 ao "com/example/sluice/sluice/engine/source/file/AsciiLine" "offset" "I" (.int xq1)) (PF4 : Fld Z h0 ao "com/example/sluice/sluice/engine/source/file/AsciiLine" "length" "I" (.int xq2)) (PF5 : own_Gi Z h0 ab .byte xn B) (ge_ao : n0 ≤ ao) (hWn : own_win xo xl xn) (hP : own_nn B xo xl) :
    MetFree l (⟨"com/example/sluice/sluice/engine/source/file/AsciiLine", "readIn", "([BII)Z"⟩ : MethodName) (head1 (Jvm.Cond.code (⟨"com/example/sluice/sluice/engine/source/file/AsciiLine", "readIn", "([BII)Z"⟩ : MethodName) prog_128_method_2_code 5 (some .boolean) :: ws) ({ frames := 0, cells := 0, slots := 0, locals := 0 } : Room)) (fun a U => a = #[(.ref ao), (.ref ab), (.int xo), (.int xl)] ∧ Z.Warmed39 U.vm ∧ U.heap = h0) (fun _ _ _ _ _ => True) (fun _ U o U' => ∃ v L, o = .returned v ∧ Q4a Z ao ab xo xl ob xq1 xq2 xn B h0 n0 v U'.heap L ∧ FrameEnd U o U' L ({ frames := 0, cells := 0, slots := 0, locals := 0 } : Room).cells ({ frames := 0, cells := 0, slots := 0, locals := 0 } : Room).slots) := by
  refine MetFree.of_bodySF (plainFor_of_name pn_4) hisR ?_
  intro p e s m args below meth c s₁ Bd hml0 hP hK
  obtain ⟨rfl, hZ, hh⟩ := hP
  have hx := Bd.exec
  have hby := Bd.bytes
  have hml : c.maxLocals = 5 := hml0
  have hown : s.vm.findClass "com/example/sluice/sluice/engine/source/file/AsciiLine" = some m.cls := findClass_of_methodNamed Bd.named
  have hnm := (name_of_methodNamed Bd.named Bd.method).1
  have X0 : Stand p l e ({ frames := 0, cells := 0, slots := 0, locals := 0 } : Room) s m #[(.ref ao), (.ref ab), (.int xo), (.int xl)] below meth c s₁ [] 0 0 := Stand.of_body Bd
  have e0 : s₁.heap = h0 := by rw [← hh, Bd.state]; rfl
  have N0 := Fr.nil n0
  suffices G : own_Goes p.tables e below (fun o U' => ∃ v L, o = .returned v ∧ Q4a Z ao ab xo xl ob xq1 xq2 xn B h0 n0 v U'.heap L ∧ FrameEnd s o U' L ({ frames := 0, cells := 0, slots := 0, locals := 0 } : Room).cells ({ frames := 0, cells := 0, slots := 0, locals := 0 } : Room).slots) s₁ (mkF m 0 #[.val (.ref ao), .val (.ref ab), .val (.int xo), .val (.int xl), .unset] []) by
    obtain ⟨t2_, o2_, z1_, z2_, z3_, z4_⟩ := G
    exact ⟨t2_, o2_, castTop (ef_4a m ao ab xo xl) z1_, z2_, z3_, z4_⟩
  generalize hPd : (fun (o : Outcome) (U' : State) => ∃ v L, o = .returned v ∧ Q4a Z ao ab xo xl ob xq1 xq2 xn B h0 n0 v U'.heap L ∧ FrameEnd s o U' L ({ frames := 0, cells := 0, slots := 0, locals := 0 } : Room).cells ({ frames := 0, cells := 0, slots := 0, locals := 0 } : Room).slots) = P
  refine own_Goes.via (T' := s₁) (g' := (mkF m 1 #[.val (.ref ao), .val (.ref ab), .val (.int xo), .val (.int xl), .unset] [(.int xo)])) (fun t_ k_ => XS.iloadN X0.here hx rfl (hb hby d4_0) rfl k_) ?_
  refine own_Goes.via (T' := s₁) (g' := (mkF m 3 #[.val (.ref ao), .val (.ref ab), .val (.int xo), .val (.int xl), .val (.int xo)] [])) (fun t_ k_ => XS.istore X0.here hx rfl (hb hby d4_1) rfl (l' := #[.val (.ref ao), .val (.ref ab), .val (.int xo), .val (.int xl), .val (.int xo)]) rfl k_) ?_
  suffices LP3 : ∀ (f1 : Nat) (xi : Int32) (T1 : State) (L1 : List Loc) (X1 : Stand p l e ({ frames := 0, cells := 0, slots := 0, locals := 0 } : Room) s m #[(.ref ao), (.ref ab), (.int xo), (.int xl)] below meth c T1 L1 0 0) (e1 : T1.heap = h0) (N1 : Fr n0 L1) (hmL3 : (xo.toInt + xl.toInt - xi.toInt).toNat + 1 ≤ f1) (hiL3 : xo.toInt ≤ xi.toInt ∧ xi.toInt ≤ xo.toInt + xl.toInt), own_Goes p.tables e below P T1 (mkF m 3 #[.val (.ref ao), .val (.ref ab), .val (.int xo), .val (.int xl), .val (.int xi)] []) by
    exact LP3 _ xo s₁ _ X0 e0 N0 (Nat.le_refl _) (own_pl4a_0 hWn hP)
  intro f1
  induction f1 with
  | zero =>
    intro xi T1 L1 X1 e1 N1 hmL3 hiL3
    exact absurd hmL3 (own_pl4a_1 hWn hP hiL3)
  | succ f1 IH3 =>
    intro xi T1 L1 X1 e1 N1 hmL3 hiL3
    refine own_Goes.via (T' := T1) (g' := (mkF m 5 #[.val (.ref ao), .val (.ref ab), .val (.int xo), .val (.int xl), .val (.int xi)] [(.int xi)])) (fun t_ k_ => XS.iload X1.here hx rfl (hb hby d4_3) rfl k_) ?_
    refine own_Goes.via (T' := T1) (g' := (mkF m 6 #[.val (.ref ao), .val (.ref ab), .val (.int xo), .val (.int xl), .val (.int xi)] [(.int xo), (.int xi)])) (fun t_ k_ => XS.iloadN X1.here hx rfl (hb hby d4_5) rfl k_) ?_
    refine own_Goes.via (T' := T1) (g' := (mkF m 7 #[.val (.ref ao), .val (.ref ab), .val (.int xo), .val (.int xl), .val (.int xi)] [(.int xl), (.int xo), (.int xi)])) (fun t_ k_ => XS.iloadN X1.here hx rfl (hb hby d4_6) rfl k_) ?_
    refine own_Goes.via (T' := T1) (g' := (mkF m 8 #[.val (.ref ao), .val (.ref ab), .val (.int xo), .val (.int xl), .val (.int xi)] [(.int (xo + xl)), (.int xi)])) (fun t_ k_ => XS.iadd X1.here hx rfl (hb hby d4_7) rfl k_) ?_
    by_cases hc8_2 : xi < (xo + xl)
    · refine own_Goes.via (T' := T1) (g' := (mkF m 11 #[.val (.ref ao), .val (.ref ab), .val (.int xo), .val (.int xl), .val (.int xi)] [])) (fun t_ k_ => XS.icmpNo X1.here hx rfl (hb hby d4_8) rfl (tlt hc8_2).2.1 k_) ?_
      refine own_Goes.via (T' := T1) (g' := (mkF m 12 #[.val (.ref ao), .val (.ref ab), .val (.int xo), .val (.int xl), .val (.int xi)] [(.ref ab)])) (fun t_ k_ => XS.aloadN X1.here hx rfl (hb hby d4_11) rfl rfl k_) ?_
      refine own_Goes.via (T' := T1) (g' := (mkF m 14 #[.val (.ref ao), .val (.ref ab), .val (.int xo), .val (.int xl), .val (.int xi)] [(.int xi), (.ref ab)])) (fun t_ k_ => XS.iload X1.here hx rfl (hb hby d4_12) rfl k_) ?_
      have in14_4 : ¬ xi < 0 ∧ xi < xn := own_pl4a_2 hc8_2 hWn hP hmL3 hiL3
      obtain ⟨cl3, Ar3, Sl3, at3⟩ := PF5.rd in14_4
      refine own_Goes.via (T' := T1) (g' := (mkF m 15 #[.val (.ref ao), .val (.ref ab), .val (.int xo), .val (.int xl), .val (.int xi)] [(.int (B xi.toNatClampNeg))])) (fun t_ k_ => X1.baloadBytes hx (j := xi) (v := (.int (B xi.toNatClampNeg))) (by rw [e1]; exact Ar3.1) (State.isArrayOf_alike hZ.alike Ar3.2.1) Ar3.2.2 (inb_of Sl3 in14_4) at3 (g := (mkF m 14 #[.val (.ref ao), .val (.ref ab), .val (.int xo), .val (.int xl), .val (.int xi)] [(.int xi), (.ref ab)])) rfl rfl (hb hby d4_14) _ k_) ?_
      have hd15_5 : ¬ ((B xi.toNatClampNeg) < (0 : Int32)) := own_pl4a_3 hc8_2 hWn hP hmL3 hiL3 in14_4
      refine own_Goes.via (T' := T1) (g' := (mkF m 20 #[.val (.ref ao), .val (.ref ab), .val (.int xo), .val (.int xl), .val (.int xi)] [])) (fun t_ k_ => XS.ifYes X1.here hx rfl (pc0 := 15) (pc' := 20) rfl (hb hby d4_15) rfl ((if0 _ _).trans (flt hd15_5).2.1) (by decide) (by decide) k_) ?_
      refine own_Goes.via (T' := T1) (g' := (mkF m 23 #[.val (.ref ao), .val (.ref ab), .val (.int xo), .val (.int xl), .val (.int (xi + (1 : Int32)))] [])) (fun t_ k_ => XS.iinc X1.here hx rfl (hb hby d4_20) rfl (l' := #[.val (.ref ao), .val (.ref ab), .val (.int xo), .val (.int xl), .val (.int (xi + (1 : Int32)))]) rfl k_) ?_
      obtain ⟨v6, hv6⟩ : ∃ z : Int32, z = (xi + (1 : Int32)) := ⟨_, rfl⟩
      rw [← hv6]
      refine own_Goes.via (T' := T1) (g' := (mkF m 3 #[.val (.ref ao), .val (.ref ab), .val (.int xo), .val (.int xl), .val (.int v6)] [])) (fun t_ k_ => XS.goto X1.here hx rfl (pc0 := 23) (pc' := 3) rfl (hb hby d4_23) (by decide) (by decide) k_) ?_
      exact IH3 v6 T1 _ X1 e1 N1 (own_pl4a_4 hv6 hc8_2 hWn hP hmL3 hiL3 in14_4) (own_pl4a_5 hv6 hc8_2 hWn hP hmL3 hiL3 in14_4)
    · refine own_Goes.via (T' := T1) (g' := (mkF m 26 #[.val (.ref ao), .val (.ref ab), .val (.int xo), .val (.int xl), .val (.int xi)] [])) (fun t_ k_ => XS.icmpYes X1.here hx rfl (pc0 := 8) (pc' := 26) rfl (hb hby d4_8) rfl (flt hc8_2).2.1 (by decide) (by decide) k_) ?_
      refine own_Goes.via (T' := T1) (g' := (mkF m 27 #[.val (.ref ao), .val (.ref ab), .val (.int xo), .val (.int xl), .val (.int xi)] [(.ref ao)])) (fun t_ k_ => XS.aloadN X1.here hx rfl (hb hby d4_26) rfl rfl k_) ?_
      refine own_Goes.via (T' := T1) (g' := (mkF m 28 #[.val (.ref ao), .val (.ref ab), .val (.int xo), .val (.int xl), .val (.int xi)] [(.ref ab), (.ref ao)])) (fun t_ k_ => XS.aloadN X1.here hx rfl (hb hby d4_27) rfl rfl k_) ?_
      obtain ⟨T7, h7, X7, e7, W7, st7⟩ := putF X1 hx hZ hown (host := "") (Or.inl (hw _ (List.mem_of_getElem? (i := 15) rfl))) Via.refl e1 PF2 PF0 (Or.inl (hw _ (List.mem_of_getElem? (i := 16) rfl))) (hw _ (List.mem_of_getElem? (i := 7) rfl)) (ty := (.array .byte)) (by decide) rfl rfl (g := (mkF m 28 #[.val (.ref ao), .val (.ref ab), .val (.int xo), .val (.int xl), .val (.int xi)] [(.ref ab), (.ref ao)])) rfl rfl (hb hby d4_28)
      have E8 : Exa Z h7 ao "com/example/sluice/sluice/engine/source/file/AsciiLine" := PF0.wr W7
      have E9 : Exa Z h7 ab "[B" := PF1.wr W7
      have F10 : Fld Z h7 ao "com/example/sluice/sluice/engine/source/file/AsciiLine" "offset" "I" (.int xq1) := PF3.other W7 (Or.inr (slot_ne (Or.inl (hw _ (List.mem_of_getElem? (i := 23) rfl))) (Or.inl (hw _ (List.mem_of_getElem? (i := 16) rfl))) (by decide) (t := .int) (t' := (.array .byte)) (by decide) (by decide)))
      have F11 : Fld Z h7 ao "com/example/sluice/sluice/engine/source/file/AsciiLine" "length" "I" (.int xq2) := PF4.other W7 (Or.inr (slot_ne (Or.inl (hw _ (List.mem_of_getElem? (i := 25) rfl))) (Or.inl (hw _ (List.mem_of_getElem? (i := 16) rfl))) (by decide) (t := .int) (t' := (.array .byte)) (by decide) (by decide)))
      have G12 : own_Gi Z h7 ab .byte xn B := PF5.other W7 (Exa.ne E9 E8 (by decide))
      have F13 : Fld Z h7 ao "com/example/sluice/sluice/engine/source/file/AsciiLine" "bytes" "[B" (.ref ab) := PF2.same W7
      have N7 := Fr.snoc X7 N1 ge_ao
      have sz7 : n0 ≤ h7.size := Nat.le_trans Z0 (Keep.of_wr W7).1
      have K7 : Keep h0 h7 [ao] := ((Keep.refl h0 [ao])).wr W7 (Or.inl (List.mem_of_getElem? (i := 0) rfl))
      refine own_Goes.via (T' := T7) (g' := (mkF m 31 #[.val (.ref ao), .val (.ref ab), .val (.int xo), .val (.int xl), .val (.int xi)] [])) (st7) ?_
      refine own_Goes.via (T' := T7) (g' := (mkF m 32 #[.val (.ref ao), .val (.ref ab), .val (.int xo), .val (.int xl), .val (.int xi)] [(.ref ao)])) (fun t_ k_ => XS.aloadN X7.here hx rfl (hb hby d4_31) rfl rfl k_) ?_
      refine own_Goes.via (T' := T7) (g' := (mkF m 33 #[.val (.ref ao), .val (.ref ab), .val (.int xo), .val (.int xl), .val (.int xi)] [(.int xo), (.ref ao)])) (fun t_ k_ => XS.iloadN X7.here hx rfl (hb hby d4_32) rfl k_) ?_
      obtain ⟨T14, h14, X14, e14, W14, st14⟩ := putF X7 hx hZ hown (host := "") (Or.inl (hw _ (List.mem_of_getElem? (i := 22) rfl))) Via.refl e7 F10 E8 (Or.inl (hw _ (List.mem_of_getElem? (i := 23) rfl))) (hw _ (List.mem_of_getElem? (i := 7) rfl)) (ty := .int) (by decide) rfl rfl (g := (mkF m 33 #[.val (.ref ao), .val (.ref ab), .val (.int xo), .val (.int xl), .val (.int xi)] [(.int xo), (.ref ao)])) rfl rfl (hb hby d4_33)
      have E15 : Exa Z h14 ao "com/example/sluice/sluice/engine/source/file/AsciiLine" := E8.wr W14
      have E16 : Exa Z h14 ab "[B" := E9.wr W14
      have F17 : Fld Z h14 ao "com/example/sluice/sluice/engine/source/file/AsciiLine" "length" "I" (.int xq2) := F11.other W14 (Or.inr (slot_ne (Or.inl (hw _ (List.mem_of_getElem? (i := 25) rfl))) (Or.inl (hw _ (List.mem_of_getElem? (i := 23) rfl))) (by decide) (t := .int) (t' := .int) (by decide) (by decide)))
      have G18 : own_Gi Z h14 ab .byte xn B := G12.other W14 (Exa.ne E16 E15 (by decide))
      have F19 : Fld Z h14 ao "com/example/sluice/sluice/engine/source/file/AsciiLine" "bytes" "[B" (.ref ab) := F13.other W14 (Or.inr (slot_ne (Or.inl (hw _ (List.mem_of_getElem? (i := 16) rfl))) (Or.inl (hw _ (List.mem_of_getElem? (i := 23) rfl))) (by decide) (t := (.array .byte)) (t' := .int) (by decide) (by decide)))
      have F20 : Fld Z h14 ao "com/example/sluice/sluice/engine/source/file/AsciiLine" "offset" "I" (.int xo) := F10.same W14
      have N14 := Fr.snoc X14 N7 ge_ao
      have sz14 : n0 ≤ h14.size := Nat.le_trans sz7 (Keep.of_wr W14).1
      have K14 : Keep h0 h14 [ao] := (K7).wr W14 (Or.inl (List.mem_of_getElem? (i := 0) rfl))
      refine own_Goes.via (T' := T14) (g' := (mkF m 36 #[.val (.ref ao), .val (.ref ab), .val (.int xo), .val (.int xl), .val (.int xi)] [])) (st14) ?_
      refine own_Goes.via (T' := T14) (g' := (mkF m 37 #[.val (.ref ao), .val (.ref ab), .val (.int xo), .val (.int xl), .val (.int xi)] [(.ref ao)])) (fun t_ k_ => XS.aloadN X14.here hx rfl (hb hby d4_36) rfl rfl k_) ?_
      refine own_Goes.via (T' := T14) (g' := (mkF m 38 #[.val (.ref ao), .val (.ref ab), .val (.int xo), .val (.int xl), .val (.int xi)] [(.int xl), (.ref ao)])) (fun t_ k_ => XS.iloadN X14.here hx rfl (hb hby d4_37) rfl k_) ?_
      obtain ⟨T21, h21, X21, e21, W21, st21⟩ := putF X14 hx hZ hown (host := "") (Or.inl (hw _ (List.mem_of_getElem? (i := 24) rfl))) Via.refl e14 F17 E15 (Or.inl (hw _ (List.mem_of_getElem? (i := 25) rfl))) (hw _ (List.mem_of_getElem? (i := 7) rfl)) (ty := .int) (by decide) rfl rfl (g := (mkF m 38 #[.val (.ref ao), .val (.ref ab), .val (.int xo), .val (.int xl), .val (.int xi)] [(.int xl), (.ref ao)])) rfl rfl (hb hby d4_38)
      have E22 : Exa Z h21 ao "com/example/sluice/sluice/engine/source/file/AsciiLine" := E15.wr W21
      have E23 : Exa Z h21 ab "[B" := E16.wr W21
      have G24 : own_Gi Z h21 ab .byte xn B := G18.other W21 (Exa.ne E23 E22 (by decide))
      have F25 : Fld Z h21 ao "com/example/sluice/sluice/engine/source/file/AsciiLine" "bytes" "[B" (.ref ab) := F19.other W21 (Or.inr (slot_ne (Or.inl (hw _ (List.mem_of_getElem? (i := 16) rfl))) (Or.inl (hw _ (List.mem_of_getElem? (i := 25) rfl))) (by decide) (t := (.array .byte)) (t' := .int) (by decide) (by decide)))
      have F26 : Fld Z h21 ao "com/example/sluice/sluice/engine/source/file/AsciiLine" "offset" "I" (.int xo) := F20.other W21 (Or.inr (slot_ne (Or.inl (hw _ (List.mem_of_getElem? (i := 23) rfl))) (Or.inl (hw _ (List.mem_of_getElem? (i := 25) rfl))) (by decide) (t := .int) (t' := .int) (by decide) (by decide)))
      have F27 : Fld Z h21 ao "com/example/sluice/sluice/engine/source/file/AsciiLine" "length" "I" (.int xl) := F17.same W21
      have N21 := Fr.snoc X21 N14 ge_ao
      have sz21 : n0 ≤ h21.size := Nat.le_trans sz14 (Keep.of_wr W21).1
      have K21 : Keep h0 h21 [ao] := (K14).wr W21 (Or.inl (List.mem_of_getElem? (i := 0) rfl))
      refine own_Goes.via (T' := T21) (g' := (mkF m 41 #[.val (.ref ao), .val (.ref ab), .val (.int xo), .val (.int xl), .val (.int xi)] [])) (st21) ?_
      refine own_Goes.via (T' := T21) (g' := (mkF m 42 #[.val (.ref ao), .val (.ref ab), .val (.int xo), .val (.int xl), .val (.int xi)] [(.int (1 : Int32))])) (fun t_ k_ => XS.iconst X21.here hx rfl (hb hby d4_41) k_) ?_
      obtain ⟨fs, hr, hrun, hended, hW, hsame⟩ := X21.leave (v := some (.int (1 : Int32))) (fun h => by rw [Bd.returns] at h; cases h)
      refine own_Goes.fin (retN X21 hx (t := .boolean) Bd.returns (by simp) (hb hby d4_42) hr) hrun hended ?_
      subst hPd
      refine ⟨_, _, rfl, ?_, ⟨_, rfl⟩, hW, hsame.mono (by decide) (by decide)⟩
      show Q4a Z ao ab xo xl ob xq1 xq2 xn B h0 n0 _ T21.heap _
      rw [e21]
      exact ⟨(by first | rfl | (simp only [if_neg hc8_2])), N21, K21, F25, F26, F27⟩
theorem d4_18 : decode prog_128_method_2_code 18 = .ok (.iconst 0, 1) := by decide +kernel
theorem d4_19 : decode prog_128_method_2_code 19 = .ok (.ireturn, 1) := by decide +kernel
theorem ef_4b (m : MethodId) (ao : Addr) (ab : Addr) (xo : Int32) (xl : Int32) : entryFrame m #[(.ref ao), (.ref ab), (.int xo), (.int xl)] 5 = mkF m 0 #[.val (.ref ao), .val (.ref ab), .val (.int xo), .val (.int xl), .unset] [] := by first | (simp [entryFrame, mkF, argsToLocals, Value.category]; done) | rfl
def Q4b (Z : State) (ao : Addr) (ab : Addr) (xo : Int32) (xl : Int32) (xn : Int32) (B : Nat → Int32) (h0 : Heap) (n0 : Nat) (v : Option Value) (h : Heap) (L : List Loc) : Prop := v = some (.int (0 : Int32)) ∧ Fr n0 L ∧ h = h0
set_option maxRecDepth 65536 in
theorem own_pl4b_0 {xo : Int32} {xl : Int32} {xn : Int32} {B : Nat → Int32} (hWn : own_win xo xl xn) (hN : ¬ own_nn B xo xl) : (xo.toInt ≤ xo.toInt ∧ xo.toInt ≤ xo.toInt + xl.toInt) ∧ (∀ i : Nat, xo.toInt ≤ i → (i : Int) < xo.toInt → 0 ≤ (B i).toInt) := by
  obtain ⟨a, b, c, d⟩ := hWn
  exact ⟨by omega, fun i h1 h2 => by omega⟩
set_option maxRecDepth 65536 in
theorem own_pl4b_1 {xo : Int32} {xl : Int32} {xn : Int32} {B : Nat → Int32} {xi : Int32} (hWn : own_win xo xl xn) (hN : ¬ own_nn B xo xl) (hiL3 : (xo.toInt ≤ xi.toInt ∧ xi.toInt ≤ xo.toInt + xl.toInt) ∧ (∀ i : Nat, xo.toInt ≤ i → (i : Int) < xi.toInt → 0 ≤ (B i).toInt)) : ¬ ((xo.toInt + xl.toInt - xi.toInt).toNat + 1 ≤ 0) := by
  omega
set_option maxRecDepth 65536 in
theorem own_pl4b_2 {xo : Int32} {xl : Int32} {xn : Int32} {B : Nat → Int32} {xi : Int32} {f1 : Nat} (hc8_2 : xi < (xo + xl)) (hWn : own_win xo xl xn) (hN : ¬ own_nn B xo xl) (hmL3 : (xo.toInt + xl.toInt - xi.toInt).toNat + 1 ≤ f1 + 1) (hiL3 : (xo.toInt ≤ xi.toInt ∧ xi.toInt ≤ xo.toInt + xl.toInt) ∧ (∀ i : Nat, xo.toInt ≤ i → (i : Int) < xi.toInt → 0 ≤ (B i).toInt)) : ¬ xi < 0 ∧ xi < xn := by
  obtain ⟨a, b, c, d⟩ := id hWn
  have q := own_lt.mp hc8_2
  rw [hWn.add] at q
  exact own_in (by omega) (by omega)
set_option maxRecDepth 65536 in
theorem own_pl4b_3 {xo : Int32} {xl : Int32} {xn : Int32} {B : Nat → Int32} {xi : Int32} {f1 : Nat} {v6 : Int32} (hv6 : v6 = (xi + (1 : Int32))) (hc8_2 : xi < (xo + xl)) (hc15_5 : ¬ ((B xi.toNatClampNeg) < (0 : Int32))) (hWn : own_win xo xl xn) (hN : ¬ own_nn B xo xl) (hmL3 : (xo.toInt + xl.toInt - xi.toInt).toNat + 1 ≤ f1 + 1) (hiL3 : (xo.toInt ≤ xi.toInt ∧ xi.toInt ≤ xo.toInt + xl.toInt) ∧ (∀ i : Nat, xo.toInt ≤ i → (i : Int) < xi.toInt → 0 ≤ (B i).toInt)) (in14_4 : ¬ xi < 0 ∧ xi < xn) : (xo.toInt + xl.toInt - v6.toInt).toNat + 1 ≤ f1 := by
  have e := own_inc hc8_2
  rw [← hv6] at e
  have q := own_lt.mp hc8_2
  rw [hWn.add] at q
  omega
set_option maxRecDepth 65536 in
theorem own_pl4b_4 {xo : Int32} {xl : Int32} {xn : Int32} {B : Nat → Int32} {xi : Int32} {f1 : Nat} {v6 : Int32} (hv6 : v6 = (xi + (1 : Int32))) (hc8_2 : xi < (xo + xl)) (hc15_5 : ¬ ((B xi.toNatClampNeg) < (0 : Int32))) (hWn : own_win xo xl xn) (hN : ¬ own_nn B xo xl) (hmL3 : (xo.toInt + xl.toInt - xi.toInt).toNat + 1 ≤ f1 + 1) (hiL3 : (xo.toInt ≤ xi.toInt ∧ xi.toInt ≤ xo.toInt + xl.toInt) ∧ (∀ i : Nat, xo.toInt ≤ i → (i : Int) < xi.toInt → 0 ≤ (B i).toInt)) (in14_4 : ¬ xi < 0 ∧ xi < xn) : (xo.toInt ≤ v6.toInt ∧ v6.toInt ≤ xo.toInt + xl.toInt) ∧ (∀ i : Nat, xo.toInt ≤ i → (i : Int) < v6.toInt → 0 ≤ (B i).toInt) := by
  have e := own_inc hc8_2
  rw [← hv6] at e
  have q := own_lt.mp hc8_2
  rw [hWn.add] at q
  obtain ⟨a, b, c, d⟩ := id hWn
  refine ⟨by omega, fun i h1 h2 => ?_⟩
  by_cases z : (i : Int) < xi.toInt
  · exact hiL3.2 i h1 z
  · have y : xi.toNatClampNeg = i := by show xi.toInt.toNat = i; omega
    have x := hc15_5
    rw [own_lt, own_z, y] at x
    omega
set_option maxRecDepth 65536 in
theorem own_pl4b_5 {xo : Int32} {xl : Int32} {xn : Int32} {B : Nat → Int32} {xi : Int32} {f1 : Nat} (hc8_2 : ¬ (xi < (xo + xl))) (hWn : own_win xo xl xn) (hN : ¬ own_nn B xo xl) (hmL3 : (xo.toInt + xl.toInt - xi.toInt).toNat + 1 ≤ f1 + 1) (hiL3 : (xo.toInt ≤ xi.toInt ∧ xi.toInt ≤ xo.toInt + xl.toInt) ∧ (∀ i : Nat, xo.toInt ≤ i → (i : Int) < xi.toInt → 0 ≤ (B i).toInt)) : own_nn B xo xl := by
  rw [own_lt, hWn.add] at hc8_2
  obtain ⟨a, b, c, d⟩ := id hWn
  exact fun i h1 h2 => hiL3.2 i h1 (by omega)
set_option maxRecDepth 65536 in
set_option maxHeartbeats 40000000 in
theorem rm4b (l : Launch) (Z : State) (a0 : Array Value) (hw : ∀ d ∈ tables_1, d.before a0 Z = true) (ws : List Jvm.Cond) (ao : Addr) (ab : Addr) (xo : Int32) (xl : Int32) (xn : Int32) (B : Nat → Int32) (h0 : Heap) (n0 : Nat) (Z0 : n0 ≤ h0.size) (PF0 : own_Gi Z h0 ab .byte xn B) (hWn : own_win xo xl xn) (hN : ¬ own_nn B xo xl) :
    MetFree l (⟨"com/example/sluice/sluice/engine/source/file/AsciiLine", "readIn", "([BII)Z"⟩ : MethodName) (head1 (Jvm.Cond.code (⟨"com/example/sluice/sluice/engine/source/file/AsciiLine", "readIn", "([BII)Z"⟩ : MethodName) prog_128_method_2_code 5 (some .boolean) :: ws) ({ frames := 0, cells := 0, slots := 0, locals := 0 } : Room)) (fun a U => a = #[(.ref ao), (.ref ab), (.int xo), (.int xl)] ∧ Z.Warmed39 U.vm ∧ U.heap = h0) (fun _ _ _ _ _ => True) (fun _ U o U' => ∃ v L, o = .returned v ∧ Q4b Z ao ab xo xl xn B h0 n0 v U'.heap L ∧ FrameEnd U o U' L ({ frames := 0, cells := 0, slots := 0, locals := 0 } : Room).cells ({ frames := 0, cells := 0, slots := 0, locals := 0 } : Room).slots) := by
  refine MetFree.of_bodySF (plainFor_of_name pn_4) hisR ?_
  intro p e s m args below meth c s₁ Bd hml0 hP hK
  obtain ⟨rfl, hZ, hh⟩ := hP
  have hx := Bd.exec
  have hby := Bd.bytes
  have hml : c.maxLocals = 5 := hml0
  have hown : s.vm.findClass "com/example/sluice/sluice/engine/source/file/AsciiLine" = some m.cls := findClass_of_methodNamed Bd.named
  have hnm := (name_of_methodNamed Bd.named Bd.method).1
  have X0 : Stand p l e ({ frames := 0, cells := 0, slots := 0, locals := 0 } : Room) s m #[(.ref ao), (.ref ab), (.int xo), (.int xl)] below meth c s₁ [] 0 0 := Stand.of_body Bd
  have e0 : s₁.heap = h0 := by rw [← hh, Bd.state]; rfl
  have N0 := Fr.nil n0
  suffices G : own_Goes p.tables e below (fun o U' => ∃ v L, o = .returned v ∧ Q4b Z ao ab xo xl xn B h0 n0 v U'.heap L ∧ FrameEnd s o U' L ({ frames := 0, cells := 0, slots := 0, locals := 0 } : Room).cells ({ frames := 0, cells := 0, slots := 0, locals := 0 } : Room).slots) s₁ (mkF m 0 #[.val (.ref ao), .val (.ref ab), .val (.int xo), .val (.int xl), .unset] []) by
    obtain ⟨t2_, o2_, z1_, z2_, z3_, z4_⟩ := G
    exact ⟨t2_, o2_, castTop (ef_4b m ao ab xo xl) z1_, z2_, z3_, z4_⟩
  generalize hPd : (fun (o : Outcome) (U' : State) => ∃ v L, o = .returned v ∧ Q4b Z ao ab xo xl xn B h0 n0 v U'.heap L ∧ FrameEnd s o U' L ({ frames := 0, cells := 0, slots := 0, locals := 0 } : Room).cells ({ frames := 0, cells := 0, slots := 0, locals := 0 } : Room).slots) = P
  refine own_Goes.via (T' := s₁) (g' := (mkF m 1 #[.val (.ref ao), .val (.ref ab), .val (.int xo), .val (.int xl), .unset] [(.int xo)])) (fun t_ k_ => XS.iloadN X0.here hx rfl (hb hby d4_0) rfl k_) ?_
  refine own_Goes.via (T' := s₁) (g' := (mkF m 3 #[.val (.ref ao), .val (.ref ab), .val (.int xo), .val (.int xl), .val (.int xo)] [])) (fun t_ k_ => XS.istore X0.here hx rfl (hb hby d4_1) rfl (l' := #[.val (.ref ao), .val (.ref ab), .val (.int xo), .val (.int xl), .val (.int xo)]) rfl k_) ?_
  suffices LP3 : ∀ (f1 : Nat) (xi : Int32) (T1 : State) (L1 : List Loc) (X1 : Stand p l e ({ frames := 0, cells := 0, slots := 0, locals := 0 } : Room) s m #[(.ref ao), (.ref ab), (.int xo), (.int xl)] below meth c T1 L1 0 0) (e1 : T1.heap = h0) (N1 : Fr n0 L1) (hmL3 : (xo.toInt + xl.toInt - xi.toInt).toNat + 1 ≤ f1) (hiL3 : (xo.toInt ≤ xi.toInt ∧ xi.toInt ≤ xo.toInt + xl.toInt) ∧ (∀ i : Nat, xo.toInt ≤ i → (i : Int) < xi.toInt → 0 ≤ (B i).toInt)), own_Goes p.tables e below P T1 (mkF m 3 #[.val (.ref ao), .val (.ref ab), .val (.int xo), .val (.int xl), .val (.int xi)] []) by
    exact LP3 _ xo s₁ _ X0 e0 N0 (Nat.le_refl _) (own_pl4b_0 hWn hN)
  intro f1
  induction f1 with
  | zero =>
    intro xi T1 L1 X1 e1 N1 hmL3 hiL3
    exact absurd hmL3 (own_pl4b_1 hWn hN hiL3)
  | succ f1 IH3 =>
    intro xi T1 L1 X1 e1 N1 hmL3 hiL3
    refine own_Goes.via (T' := T1) (g' := (mkF m 5 #[.val (.ref ao), .val (.ref ab), .val (.int xo), .val (.int xl), .val (.int xi)] [(.int xi)])) (fun t_ k_ => XS.iload X1.here hx rfl (hb hby d4_3) rfl k_) ?_
    refine own_Goes.via (T' := T1) (g' := (mkF m 6 #[.val (.ref ao), .val (.ref ab), .val (.int xo), .val (.int xl), .val (.int xi)] [(.int xo), (.int xi)])) (fun t_ k_ => XS.iloadN X1.here hx rfl (hb hby d4_5) rfl k_) ?_
    refine own_Goes.via (T' := T1) (g' := (mkF m 7 #[.val (.ref ao), .val (.ref ab), .val (.int xo), .val (.int xl), .val (.int xi)] [(.int xl), (.int xo), (.int xi)])) (fun t_ k_ => XS.iloadN X1.here hx rfl (hb hby d4_6) rfl k_) ?_
    refine own_Goes.via (T' := T1) (g' := (mkF m 8 #[.val (.ref ao), .val (.ref ab), .val (.int xo), .val (.int xl), .val (.int xi)] [(.int (xo + xl)), (.int xi)])) (fun t_ k_ => XS.iadd X1.here hx rfl (hb hby d4_7) rfl k_) ?_
    by_cases hc8_2 : xi < (xo + xl)
    · refine own_Goes.via (T' := T1) (g' := (mkF m 11 #[.val (.ref ao), .val (.ref ab), .val (.int xo), .val (.int xl), .val (.int xi)] [])) (fun t_ k_ => XS.icmpNo X1.here hx rfl (hb hby d4_8) rfl (tlt hc8_2).2.1 k_) ?_
      refine own_Goes.via (T' := T1) (g' := (mkF m 12 #[.val (.ref ao), .val (.ref ab), .val (.int xo), .val (.int xl), .val (.int xi)] [(.ref ab)])) (fun t_ k_ => XS.aloadN X1.here hx rfl (hb hby d4_11) rfl rfl k_) ?_
      refine own_Goes.via (T' := T1) (g' := (mkF m 14 #[.val (.ref ao), .val (.ref ab), .val (.int xo), .val (.int xl), .val (.int xi)] [(.int xi), (.ref ab)])) (fun t_ k_ => XS.iload X1.here hx rfl (hb hby d4_12) rfl k_) ?_
      have in14_4 : ¬ xi < 0 ∧ xi < xn := own_pl4b_2 hc8_2 hWn hN hmL3 hiL3
      obtain ⟨cl3, Ar3, Sl3, at3⟩ := PF0.rd in14_4
      refine own_Goes.via (T' := T1) (g' := (mkF m 15 #[.val (.ref ao), .val (.ref ab), .val (.int xo), .val (.int xl), .val (.int xi)] [(.int (B xi.toNatClampNeg))])) (fun t_ k_ => X1.baloadBytes hx (j := xi) (v := (.int (B xi.toNatClampNeg))) (by rw [e1]; exact Ar3.1) (State.isArrayOf_alike hZ.alike Ar3.2.1) Ar3.2.2 (inb_of Sl3 in14_4) at3 (g := (mkF m 14 #[.val (.ref ao), .val (.ref ab), .val (.int xo), .val (.int xl), .val (.int xi)] [(.int xi), (.ref ab)])) rfl rfl (hb hby d4_14) _ k_) ?_
      by_cases hc15_5 : (B xi.toNatClampNeg) < (0 : Int32)
      · refine own_Goes.via (T' := T1) (g' := (mkF m 18 #[.val (.ref ao), .val (.ref ab), .val (.int xo), .val (.int xl), .val (.int xi)] [])) (fun t_ k_ => XS.ifNo X1.here hx rfl (hb hby d4_15) rfl ((if0 _ _).trans (tlt hc15_5).2.1) k_) ?_
        refine own_Goes.via (T' := T1) (g' := (mkF m 19 #[.val (.ref ao), .val (.ref ab), .val (.int xo), .val (.int xl), .val (.int xi)] [(.int (0 : Int32))])) (fun t_ k_ => XS.iconst X1.here hx rfl (hb hby d4_18) k_) ?_
        obtain ⟨fs, hr, hrun, hended, hW, hsame⟩ := X1.leave (v := some (.int (0 : Int32))) (fun h => by rw [Bd.returns] at h; cases h)
        refine own_Goes.fin (retN X1 hx (t := .boolean) Bd.returns (by simp) (hb hby d4_19) hr) hrun hended ?_
        subst hPd
        refine ⟨_, _, rfl, ?_, ⟨_, rfl⟩, hW, hsame.mono (by decide) (by decide)⟩
        show Q4b Z ao ab xo xl xn B h0 n0 _ T1.heap _
        rw [e1]
        exact ⟨(by first | rfl | (simp only [if_pos hc8_2, if_pos hc15_5])), N1, rfl⟩
      · refine own_Goes.via (T' := T1) (g' := (mkF m 20 #[.val (.ref ao), .val (.ref ab), .val (.int xo), .val (.int xl), .val (.int xi)] [])) (fun t_ k_ => XS.ifYes X1.here hx rfl (pc0 := 15) (pc' := 20) rfl (hb hby d4_15) rfl ((if0 _ _).trans (flt hc15_5).2.1) (by decide) (by decide) k_) ?_
        refine own_Goes.via (T' := T1) (g' := (mkF m 23 #[.val (.ref ao), .val (.ref ab), .val (.int xo), .val (.int xl), .val (.int (xi + (1 : Int32)))] [])) (fun t_ k_ => XS.iinc X1.here hx rfl (hb hby d4_20) rfl (l' := #[.val (.ref ao), .val (.ref ab), .val (.int xo), .val (.int xl), .val (.int (xi + (1 : Int32)))]) rfl k_) ?_
        obtain ⟨v6, hv6⟩ : ∃ z : Int32, z = (xi + (1 : Int32)) := ⟨_, rfl⟩
        rw [← hv6]
        refine own_Goes.via (T' := T1) (g' := (mkF m 3 #[.val (.ref ao), .val (.ref ab), .val (.int xo), .val (.int xl), .val (.int v6)] [])) (fun t_ k_ => XS.goto X1.here hx rfl (pc0 := 23) (pc' := 3) rfl (hb hby d4_23) (by decide) (by decide) k_) ?_
        exact IH3 v6 T1 _ X1 e1 N1 (own_pl4b_3 hv6 hc8_2 hc15_5 hWn hN hmL3 hiL3 in14_4) (own_pl4b_4 hv6 hc8_2 hc15_5 hWn hN hmL3 hiL3 in14_4)
    · exfalso
      exact hN (own_pl4b_5 hc8_2 hWn hN hmL3 hiL3)
theorem d5_0 : decode prog_128_method_3_code 0 = .ok (.aload_n 0, 1) := by decide +kernel
theorem d5_1 : decode prog_128_method_3_code 1 = .ok (.getfield 17, 3) := by decide +kernel
theorem d5_4 : decode prog_128_method_3_code 4 = .ok (.ireturn, 1) := by decide +kernel
theorem pn_5 : plainName "com/example/sluice/sluice/engine/source/file/AsciiLine" = true := by first | (simp [plainName, overriddenIn]; done) | decide +kernel
theorem ef_5 (m : MethodId) (ao : Addr) : entryFrame m #[(.ref ao)] 1 = mkF m 0 #[.val (.ref ao)] [] := by first | (simp [entryFrame, mkF, argsToLocals, Value.category]; done) | rfl
def Q5 (Z : State) (ao : Addr) (xl : Int32) (h0 : Heap) (n0 : Nat) (v : Option Value) (h : Heap) (L : List Loc) : Prop := v = some (.int xl) ∧ Fr n0 L ∧ h = h0
set_option maxRecDepth 65536 in
set_option maxHeartbeats 40000000 in
theorem rm5 (l : Launch) (Z : State) (a0 : Array Value) (hw : ∀ d ∈ tables_1, d.before a0 Z = true) (ws : List Jvm.Cond) (ao : Addr) (xl : Int32) (h0 : Heap) (n0 : Nat) (Z0 : n0 ≤ h0.size) (PF0 : Fld Z h0 ao "com/example/sluice/sluice/engine/source/file/AsciiLine" "length" "I" (.int xl)) :
    MetFree l (⟨"com/example/sluice/sluice/engine/source/file/AsciiLine", "length", "()I"⟩ : MethodName) (head1 (Jvm.Cond.code (⟨"com/example/sluice/sluice/engine/source/file/AsciiLine", "length", "()I"⟩ : MethodName) prog_128_method_3_code 1 (some .int) :: ws) ({ frames := 0, cells := 0, slots := 0, locals := 0 } : Room)) (fun a U => a = #[(.ref ao)] ∧ Z.Warmed39 U.vm ∧ U.heap = h0) (fun _ _ _ _ _ => True) (fun _ U o U' => ∃ v L, o = .returned v ∧ Q5 Z ao xl h0 n0 v U'.heap L ∧ FrameEnd U o U' L ({ frames := 0, cells := 0, slots := 0, locals := 0 } : Room).cells ({ frames := 0, cells := 0, slots := 0, locals := 0 } : Room).slots) := by
  refine MetFree.of_bodySF (plainFor_of_name pn_5) hisR ?_
  intro p e s m args below meth c s₁ Bd hml0 hP hK
  obtain ⟨rfl, hZ, hh⟩ := hP
  have hx := Bd.exec
  have hby := Bd.bytes
  have hml : c.maxLocals = 1 := hml0
  have hown : s.vm.findClass "com/example/sluice/sluice/engine/source/file/AsciiLine" = some m.cls := findClass_of_methodNamed Bd.named
  have hnm := (name_of_methodNamed Bd.named Bd.method).1
  have X0 : Stand p l e ({ frames := 0, cells := 0, slots := 0, locals := 0 } : Room) s m #[(.ref ao)] below meth c s₁ [] 0 0 := Stand.of_body Bd
  have e0 : s₁.heap = h0 := by rw [← hh, Bd.state]; rfl
  have N0 := Fr.nil n0
  suffices G : own_Goes p.tables e below (fun o U' => ∃ v L, o = .returned v ∧ Q5 Z ao xl h0 n0 v U'.heap L ∧ FrameEnd s o U' L ({ frames := 0, cells := 0, slots := 0, locals := 0 } : Room).cells ({ frames := 0, cells := 0, slots := 0, locals := 0 } : Room).slots) s₁ (mkF m 0 #[.val (.ref ao)] []) by
    obtain ⟨t2_, o2_, z1_, z2_, z3_, z4_⟩ := G
    exact ⟨t2_, o2_, castTop (ef_5 m ao) z1_, z2_, z3_, z4_⟩
  generalize hPd : (fun (o : Outcome) (U' : State) => ∃ v L, o = .returned v ∧ Q5 Z ao xl h0 n0 v U'.heap L ∧ FrameEnd s o U' L ({ frames := 0, cells := 0, slots := 0, locals := 0 } : Room).cells ({ frames := 0, cells := 0, slots := 0, locals := 0 } : Room).slots) = P
  refine own_Goes.via (T' := s₁) (g' := (mkF m 1 #[.val (.ref ao)] [(.ref ao)])) (fun t_ k_ => XS.aloadN X0.here hx rfl (hb hby d5_0) rfl rfl k_) ?_
  obtain ⟨T1, X1, e1, st1⟩ := getF X0 hx hZ hown (host := "") (Or.inl (hw _ (List.mem_of_getElem? (i := 24) rfl))) Via.refl e0 PF0 (g := (mkF m 1 #[.val (.ref ao)] [(.ref ao)])) rfl rfl (hb hby d5_1)
  refine own_Goes.via (T' := T1) (g' := (mkF m 4 #[.val (.ref ao)] [(.int xl)])) (st1) ?_
  obtain ⟨fs, hr, hrun, hended, hW, hsame⟩ := X1.leave (v := some (.int xl)) (fun h => by rw [Bd.returns] at h; cases h)
  refine own_Goes.fin (retOut X1 hx Bd.returns rfl (Or.inl ⟨rfl, Or.inl rfl, _, rfl⟩) (hb hby d5_4) hr) hrun hended ?_
  subst hPd
  refine ⟨_, _, rfl, ?_, ⟨_, rfl⟩, hW, hsame.mono (by decide) (by decide)⟩
  show Q5 Z ao xl h0 n0 _ T1.heap _
  rw [e1]
  exact ⟨(by first | rfl | (simp only [])), N0, rfl⟩
theorem d8_0 : decode jdk_31_method_10_code 0 = .ok (.aload_n 0, 1) := by decide +kernel
theorem d8_1 : decode jdk_31_method_10_code 1 = .ok (.ifnonnull 11, 3) := by decide +kernel
theorem d8_12 : decode jdk_31_method_10_code 12 = .ok (.aload_n 0, 1) := by decide +kernel
theorem d8_13 : decode jdk_31_method_10_code 13 = .ok (.areturn, 1) := by decide +kernel
theorem pn_8 : plainName "java/util/Objects" = true := by first | (simp [plainName, overriddenIn]; done) | decide +kernel
theorem ef_8 (m : MethodId) (ao : Addr) : entryFrame m #[(.ref ao)] 1 = mkF m 0 #[.val (.ref ao)] [] := by first | (simp [entryFrame, mkF, argsToLocals, Value.category]; done) | rfl
def Q8 (Z : State) (ao : Addr) (h0 : Heap) (n0 : Nat) (v : Option Value) (h : Heap) (L : List Loc) : Prop := v = some (.ref ao) ∧ Fr n0 L ∧ h = h0
set_option maxRecDepth 65536 in
set_option maxHeartbeats 40000000 in
theorem rm8 (l : Launch) (Z : State) (a0 : Array Value) (hw : ∀ d ∈ tables_1, d.before a0 Z = true) (ws : List Jvm.Cond) (ao : Addr) (h0 : Heap) (n0 : Nat) (Z0 : n0 ≤ h0.size) :
    MetFree l (⟨"java/util/Objects", "requireNonNull", "(Ljava/lang/Object;)Ljava/lang/Object;"⟩ : MethodName) (head1 (Jvm.Cond.code (⟨"java/util/Objects", "requireNonNull", "(Ljava/lang/Object;)Ljava/lang/Object;"⟩ : MethodName) jdk_31_method_10_code 1 (some (.object "java/lang/Object")) :: ws) ({ frames := 0, cells := 0, slots := 0, locals := 0 } : Room)) (fun a U => a = #[(.ref ao)] ∧ Z.Warmed39 U.vm ∧ U.heap = h0) (fun _ _ _ _ _ => True) (fun _ U o U' => ∃ v L, o = .returned v ∧ Q8 Z ao h0 n0 v U'.heap L ∧ FrameEnd U o U' L ({ frames := 0, cells := 0, slots := 0, locals := 0 } : Room).cells ({ frames := 0, cells := 0, slots := 0, locals := 0 } : Room).slots) := by
  refine MetFree.of_bodySF (plainFor_of_name pn_8) hisR ?_
  intro p e s m args below meth c s₁ Bd hml0 hP hK
  obtain ⟨rfl, hZ, hh⟩ := hP
  have hx := Bd.exec
  have hby := Bd.bytes
  have hml : c.maxLocals = 1 := hml0
  have hown : s.vm.findClass "java/util/Objects" = some m.cls := findClass_of_methodNamed Bd.named
  have hnm := (name_of_methodNamed Bd.named Bd.method).1
  have X0 : Stand p l e ({ frames := 0, cells := 0, slots := 0, locals := 0 } : Room) s m #[(.ref ao)] below meth c s₁ [] 0 0 := Stand.of_body Bd
  have e0 : s₁.heap = h0 := by rw [← hh, Bd.state]; rfl
  have N0 := Fr.nil n0
  suffices G : own_Goes p.tables e below (fun o U' => ∃ v L, o = .returned v ∧ Q8 Z ao h0 n0 v U'.heap L ∧ FrameEnd s o U' L ({ frames := 0, cells := 0, slots := 0, locals := 0 } : Room).cells ({ frames := 0, cells := 0, slots := 0, locals := 0 } : Room).slots) s₁ (mkF m 0 #[.val (.ref ao)] []) by
    obtain ⟨t2_, o2_, z1_, z2_, z3_, z4_⟩ := G
    exact ⟨t2_, o2_, castTop (ef_8 m ao) z1_, z2_, z3_, z4_⟩
  generalize hPd : (fun (o : Outcome) (U' : State) => ∃ v L, o = .returned v ∧ Q8 Z ao h0 n0 v U'.heap L ∧ FrameEnd s o U' L ({ frames := 0, cells := 0, slots := 0, locals := 0 } : Room).cells ({ frames := 0, cells := 0, slots := 0, locals := 0 } : Room).slots) = P
  refine own_Goes.via (T' := s₁) (g' := (mkF m 1 #[.val (.ref ao)] [(.ref ao)])) (fun t_ k_ => XS.aloadN X0.here hx rfl (hb hby d8_0) rfl rfl k_) ?_
  refine own_Goes.via (T' := s₁) (g' := (mkF m 12 #[.val (.ref ao)] [])) (fun t_ k_ => XS.ifnonnullYes X0.here hx rfl (pc0 := 1) (pc' := 12) rfl (hb hby d8_1) rfl (by decide) (by decide) k_) ?_
  refine own_Goes.via (T' := s₁) (g' := (mkF m 13 #[.val (.ref ao)] [(.ref ao)])) (fun t_ k_ => XS.aloadN X0.here hx rfl (hb hby d8_12) rfl rfl k_) ?_
  obtain ⟨fs, hr, hrun, hended, hW, hsame⟩ := X0.leave (v := some (.ref ao)) (fun h => by rw [Bd.returns] at h; cases h)
  refine own_Goes.fin (retOut X0 hx Bd.returns rfl (Or.inr (Or.inr (Or.inr (Or.inr ⟨rfl, rfl, rfl⟩)))) (hb hby d8_13) hr) hrun hended ?_
  subst hPd
  refine ⟨_, _, rfl, ?_, ⟨_, rfl⟩, hW, hsame.mono (by decide) (by decide)⟩
  show Q8 Z ao h0 n0 _ s₁.heap _
  rw [e0]
  exact ⟨(by first | rfl | (simp only [])), N0, rfl⟩
theorem d10_0 : decode jdk_41_method_13_code 0 = .ok (.iload_n 2, 1) := by decide +kernel
theorem d10_1 : decode jdk_41_method_13_code 1 = .ok (.iload_n 0, 1) := by decide +kernel
theorem d10_2 : decode jdk_41_method_13_code 2 = .ok (.ior, 1) := by decide +kernel
theorem d10_3 : decode jdk_41_method_13_code 3 = .ok (.iload_n 1, 1) := by decide +kernel
theorem d10_4 : decode jdk_41_method_13_code 4 = .ok (.ior, 1) := by decide +kernel
theorem d10_5 : decode jdk_41_method_13_code 5 = .ok (.ifCond .lt 10, 3) := by decide +kernel
theorem d10_8 : decode jdk_41_method_13_code 8 = .ok (.iload_n 1, 1) := by decide +kernel
theorem d10_9 : decode jdk_41_method_13_code 9 = .ok (.iload_n 2, 1) := by decide +kernel
theorem d10_10 : decode jdk_41_method_13_code 10 = .ok (.iload_n 0, 1) := by decide +kernel
theorem d10_11 : decode jdk_41_method_13_code 11 = .ok (.isub, 1) := by decide +kernel
theorem d10_12 : decode jdk_41_method_13_code 12 = .ok (.if_icmp .le 11, 3) := by decide +kernel
theorem d10_23 : decode jdk_41_method_13_code 23 = .ok (.iload_n 0, 1) := by decide +kernel
theorem d10_24 : decode jdk_41_method_13_code 24 = .ok (.ireturn, 1) := by decide +kernel
theorem pn_10 : plainName "jdk/internal/util/Preconditions" = true := by first | (simp [plainName, overriddenIn]; done) | decide +kernel
theorem ef_10 (m : MethodId) (xo : Int32) (xl : Int32) (xn : Int32) (wf : Value) (isr_wf : wf.isRef = true) : entryFrame m #[(.int xo), (.int xl), (.int xn), wf] 4 = mkF m 0 #[.val (.int xo), .val (.int xl), .val (.int xn), .val wf] [] := by (cases wf <;> first | (simp [Value.isRef] at isr_wf; done) | first | (simp [entryFrame, mkF, argsToLocals, Value.category]; done) | rfl)
def Q10 (Z : State) (xo : Int32) (xl : Int32) (xn : Int32) (wf : Value) (h0 : Heap) (n0 : Nat) (v : Option Value) (h : Heap) (L : List Loc) : Prop := v = some (.int xo) ∧ Fr n0 L ∧ h = h0
set_option maxRecDepth 65536 in
theorem own_pl10_0 {xo : Int32} {xl : Int32} {xn : Int32} (hWn : own_win xo xl xn) : ¬ (((xn ||| xo) ||| xl) < (0 : Int32)) := by
  obtain ⟨a, b, c, d⟩ := hWn
  rw [own_lt, own_z]
  have q := own_or (own_or (x := xn) (y := xo) (by omega) (by omega)) (y := xl) (by omega)
  omega
set_option maxRecDepth 65536 in
theorem own_pl10_1 {xo : Int32} {xl : Int32} {xn : Int32} (hWn : own_win xo xl xn) : ¬ ((xn - xo) < xl) := by
  rw [own_lt, hWn.sub]
  obtain ⟨a, b, c, d⟩ := hWn
  omega
set_option maxRecDepth 65536 in
set_option maxHeartbeats 40000000 in
theorem rm10 (l : Launch) (Z : State) (a0 : Array Value) (hw : ∀ d ∈ tables_1, d.before a0 Z = true) (ws : List Jvm.Cond) (xo : Int32) (xl : Int32) (xn : Int32) (wf : Value) (h0 : Heap) (n0 : Nat) (Z0 : n0 ≤ h0.size) (hWn : own_win xo xl xn) (isr_wf : wf.isRef = true) :
    MetFree l (⟨"jdk/internal/util/Preconditions", "checkFromIndexSize", "(IIILjava/util/function/BiFunction;)I"⟩ : MethodName) (head1 (Jvm.Cond.code (⟨"jdk/internal/util/Preconditions", "checkFromIndexSize", "(IIILjava/util/function/BiFunction;)I"⟩ : MethodName) jdk_41_method_13_code 4 (some .int) :: ws) ({ frames := 0, cells := 0, slots := 0, locals := 0 } : Room)) (fun a U => a = #[(.int xo), (.int xl), (.int xn), wf] ∧ Z.Warmed39 U.vm ∧ U.heap = h0) (fun _ _ _ _ _ => True) (fun _ U o U' => ∃ v L, o = .returned v ∧ Q10 Z xo xl xn wf h0 n0 v U'.heap L ∧ FrameEnd U o U' L ({ frames := 0, cells := 0, slots := 0, locals := 0 } : Room).cells ({ frames := 0, cells := 0, slots := 0, locals := 0 } : Room).slots) := by
  refine MetFree.of_bodySF (plainFor_of_name pn_10) hisR ?_
  intro p e s m args below meth c s₁ Bd hml0 hP hK
  obtain ⟨rfl, hZ, hh⟩ := hP
  have hx := Bd.exec
  have hby := Bd.bytes
  have hml : c.maxLocals = 4 := hml0
  have hown : s.vm.findClass "jdk/internal/util/Preconditions" = some m.cls := findClass_of_methodNamed Bd.named
  have hnm := (name_of_methodNamed Bd.named Bd.method).1
  have X0 : Stand p l e ({ frames := 0, cells := 0, slots := 0, locals := 0 } : Room) s m #[(.int xo), (.int xl), (.int xn), wf] below meth c s₁ [] 0 0 := Stand.of_body Bd
  have e0 : s₁.heap = h0 := by rw [← hh, Bd.state]; rfl
  have N0 := Fr.nil n0
  suffices G : own_Goes p.tables e below (fun o U' => ∃ v L, o = .returned v ∧ Q10 Z xo xl xn wf h0 n0 v U'.heap L ∧ FrameEnd s o U' L ({ frames := 0, cells := 0, slots := 0, locals := 0 } : Room).cells ({ frames := 0, cells := 0, slots := 0, locals := 0 } : Room).slots) s₁ (mkF m 0 #[.val (.int xo), .val (.int xl), .val (.int xn), .val wf] []) by
    obtain ⟨t2_, o2_, z1_, z2_, z3_, z4_⟩ := G
    exact ⟨t2_, o2_, castTop (ef_10 m xo xl xn wf isr_wf) z1_, z2_, z3_, z4_⟩
  generalize hPd : (fun (o : Outcome) (U' : State) => ∃ v L, o = .returned v ∧ Q10 Z xo xl xn wf h0 n0 v U'.heap L ∧ FrameEnd s o U' L ({ frames := 0, cells := 0, slots := 0, locals := 0 } : Room).cells ({ frames := 0, cells := 0, slots := 0, locals := 0 } : Room).slots) = P
  refine own_Goes.via (T' := s₁) (g' := (mkF m 1 #[.val (.int xo), .val (.int xl), .val (.int xn), .val wf] [(.int xn)])) (fun t_ k_ => XS.iloadN X0.here hx rfl (hb hby d10_0) rfl k_) ?_
  refine own_Goes.via (T' := s₁) (g' := (mkF m 2 #[.val (.int xo), .val (.int xl), .val (.int xn), .val wf] [(.int xo), (.int xn)])) (fun t_ k_ => XS.iloadN X0.here hx rfl (hb hby d10_1) rfl k_) ?_
  refine own_Goes.via (T' := s₁) (g' := (mkF m 3 #[.val (.int xo), .val (.int xl), .val (.int xn), .val wf] [(.int (xn ||| xo))])) (fun t_ k_ => XS.ior X0.here hx rfl (hb hby d10_2) rfl k_) ?_
  refine own_Goes.via (T' := s₁) (g' := (mkF m 4 #[.val (.int xo), .val (.int xl), .val (.int xn), .val wf] [(.int xl), (.int (xn ||| xo))])) (fun t_ k_ => XS.iloadN X0.here hx rfl (hb hby d10_3) rfl k_) ?_
  refine own_Goes.via (T' := s₁) (g' := (mkF m 5 #[.val (.int xo), .val (.int xl), .val (.int xn), .val wf] [(.int ((xn ||| xo) ||| xl))])) (fun t_ k_ => XS.ior X0.here hx rfl (hb hby d10_4) rfl k_) ?_
  have hd5_1 : ¬ (((xn ||| xo) ||| xl) < (0 : Int32)) := own_pl10_0 hWn
  refine own_Goes.via (T' := s₁) (g' := (mkF m 8 #[.val (.int xo), .val (.int xl), .val (.int xn), .val wf] [])) (fun t_ k_ => XS.ifNo X0.here hx rfl (hb hby d10_5) rfl ((if0 _ _).trans (flt hd5_1).1) k_) ?_
  refine own_Goes.via (T' := s₁) (g' := (mkF m 9 #[.val (.int xo), .val (.int xl), .val (.int xn), .val wf] [(.int xl)])) (fun t_ k_ => XS.iloadN X0.here hx rfl (hb hby d10_8) rfl k_) ?_
  refine own_Goes.via (T' := s₁) (g' := (mkF m 10 #[.val (.int xo), .val (.int xl), .val (.int xn), .val wf] [(.int xn), (.int xl)])) (fun t_ k_ => XS.iloadN X0.here hx rfl (hb hby d10_9) rfl k_) ?_
  refine own_Goes.via (T' := s₁) (g' := (mkF m 11 #[.val (.int xo), .val (.int xl), .val (.int xn), .val wf] [(.int xo), (.int xn), (.int xl)])) (fun t_ k_ => XS.iloadN X0.here hx rfl (hb hby d10_10) rfl k_) ?_
  refine own_Goes.via (T' := s₁) (g' := (mkF m 12 #[.val (.int xo), .val (.int xl), .val (.int xn), .val wf] [(.int (xn - xo)), (.int xl)])) (fun t_ k_ => XS.isub X0.here hx rfl (hb hby d10_11) rfl k_) ?_
  have hd12_2 : ¬ ((xn - xo) < xl) := own_pl10_1 hWn
  refine own_Goes.via (T' := s₁) (g' := (mkF m 23 #[.val (.int xo), .val (.int xl), .val (.int xn), .val wf] [])) (fun t_ k_ => XS.icmpYes X0.here hx rfl (pc0 := 12) (pc' := 23) rfl (hb hby d10_12) rfl (flt hd12_2).2.2.2 (by decide) (by decide) k_) ?_
  refine own_Goes.via (T' := s₁) (g' := (mkF m 24 #[.val (.int xo), .val (.int xl), .val (.int xn), .val wf] [(.int xo)])) (fun t_ k_ => XS.iloadN X0.here hx rfl (hb hby d10_23) rfl k_) ?_
  obtain ⟨fs, hr, hrun, hended, hW, hsame⟩ := X0.leave (v := some (.int xo)) (fun h => by rw [Bd.returns] at h; cases h)
  refine own_Goes.fin (retOut X0 hx Bd.returns rfl (Or.inl ⟨rfl, Or.inl rfl, _, rfl⟩) (hb hby d10_24) hr) hrun hended ?_
  subst hPd
  refine ⟨_, _, rfl, ?_, ⟨_, rfl⟩, hW, hsame.mono (by decide) (by decide)⟩
  show Q10 Z xo xl xn wf h0 n0 _ s₁.heap _
  rw [e0]
  exact ⟨(by first | rfl | (simp only [])), N0, rfl⟩
theorem d9_0 : decode jdk_42_method_157_code 0 = .ok (.iload_n 0, 1) := by decide +kernel
theorem d9_1 : decode jdk_42_method_157_code 1 = .ok (.iload_n 1, 1) := by decide +kernel
theorem d9_2 : decode jdk_42_method_157_code 2 = .ok (.iload_n 2, 1) := by decide +kernel
theorem d9_3 : decode jdk_42_method_157_code 3 = .ok (.getstatic 1053, 3) := by decide +kernel
theorem d9_6 : decode jdk_42_method_157_code 6 = .ok (.invokestatic 1065, 3) := by decide +kernel
theorem d9_9 : decode jdk_42_method_157_code 9 = .ok (.ireturn, 1) := by decide +kernel
theorem pn_9 : plainName "java/lang/String" = true := by first | (simp [plainName, overriddenIn]; done) | decide +kernel
theorem pd_9_0 : parseMethodDescriptor "(IIILjava/util/function/BiFunction;)I" = some ⟨[.int, .int, .int, (.object "java/util/function/BiFunction")], some .int⟩ := by decide +kernel
theorem ef_9 (m : MethodId) (xo : Int32) (xl : Int32) (xn : Int32) : entryFrame m #[(.int xo), (.int xl), (.int xn)] 3 = mkF m 0 #[.val (.int xo), .val (.int xl), .val (.int xn)] [] := by first | (simp [entryFrame, mkF, argsToLocals, Value.category]; done) | rfl
def Q9 (Z : State) (xo : Int32) (xl : Int32) (xn : Int32) (wsf : Value) (h0 : Heap) (n0 : Nat) (v : Option Value) (h : Heap) (L : List Loc) : Prop := v = some (.int xo) ∧ Fr n0 L ∧ h = h0
set_option maxRecDepth 65536 in
set_option maxHeartbeats 40000000 in
theorem rm9 (l : Launch) (Z : State) (a0 : Array Value) (hw : ∀ d ∈ tables_1, d.before a0 Z = true) (ws : List Jvm.Cond) (xo : Int32) (xl : Int32) (xn : Int32) (wsf : Value) (h0 : Heap) (n0 : Nat) (Z0 : n0 ≤ h0.size) (OL : Old Z n0 h0) (hWn : own_win xo xl xn) (S_sf : Sta Z Z.heap "jdk/internal/util/Preconditions" "SIOOBE_FORMATTER" "Ljava/util/function/BiFunction;" wsf) (isr_wsf : wsf.isRef = true) :
    MetFree l (⟨"java/lang/String", "checkBoundsOffCount", "(III)I"⟩ : MethodName) (head1 (Jvm.Cond.code (⟨"java/lang/String", "checkBoundsOffCount", "(III)I"⟩ : MethodName) jdk_42_method_157_code 3 (some .int) :: ws) ({ frames := 1, cells := 0, slots := 0, locals := 15 } : Room)) (fun a U => a = #[(.int xo), (.int xl), (.int xn)] ∧ Z.Warmed39 U.vm ∧ U.heap = h0) (fun _ _ _ _ _ => True) (fun _ U o U' => ∃ v L, o = .returned v ∧ Q9 Z xo xl xn wsf h0 n0 v U'.heap L ∧ FrameEnd U o U' L ({ frames := 1, cells := 0, slots := 0, locals := 15 } : Room).cells ({ frames := 1, cells := 0, slots := 0, locals := 15 } : Room).slots) := by
  refine MetFree.of_bodySF (plainFor_of_name pn_9) hisR ?_
  intro p e s m args below meth c s₁ Bd hml0 hP hK
  obtain ⟨rfl, hZ, hh⟩ := hP
  have hx := Bd.exec
  have hby := Bd.bytes
  have hml : c.maxLocals = 3 := hml0
  have hown : s.vm.findClass "java/lang/String" = some m.cls := findClass_of_methodNamed Bd.named
  have hnm := (name_of_methodNamed Bd.named Bd.method).1
  have X0 : Stand p l e ({ frames := 1, cells := 0, slots := 0, locals := 15 } : Room) s m #[(.int xo), (.int xl), (.int xn)] below meth c s₁ [] 0 0 := Stand.of_body Bd
  have e0 : s₁.heap = h0 := by rw [← hh, Bd.state]; rfl
  have N0 := Fr.nil n0
  suffices G : own_Goes p.tables e below (fun o U' => ∃ v L, o = .returned v ∧ Q9 Z xo xl xn wsf h0 n0 v U'.heap L ∧ FrameEnd s o U' L ({ frames := 1, cells := 0, slots := 0, locals := 15 } : Room).cells ({ frames := 1, cells := 0, slots := 0, locals := 15 } : Room).slots) s₁ (mkF m 0 #[.val (.int xo), .val (.int xl), .val (.int xn)] []) by
    obtain ⟨t2_, o2_, z1_, z2_, z3_, z4_⟩ := G
    exact ⟨t2_, o2_, castTop (ef_9 m xo xl xn) z1_, z2_, z3_, z4_⟩
  generalize hPd : (fun (o : Outcome) (U' : State) => ∃ v L, o = .returned v ∧ Q9 Z xo xl xn wsf h0 n0 v U'.heap L ∧ FrameEnd s o U' L ({ frames := 1, cells := 0, slots := 0, locals := 15 } : Room).cells ({ frames := 1, cells := 0, slots := 0, locals := 15 } : Room).slots) = P
  refine own_Goes.via (T' := s₁) (g' := (mkF m 1 #[.val (.int xo), .val (.int xl), .val (.int xn)] [(.int xo)])) (fun t_ k_ => XS.iloadN X0.here hx rfl (hb hby d9_0) rfl k_) ?_
  refine own_Goes.via (T' := s₁) (g' := (mkF m 2 #[.val (.int xo), .val (.int xl), .val (.int xn)] [(.int xl), (.int xo)])) (fun t_ k_ => XS.iloadN X0.here hx rfl (hb hby d9_1) rfl k_) ?_
  refine own_Goes.via (T' := s₁) (g' := (mkF m 3 #[.val (.int xo), .val (.int xl), .val (.int xn)] [(.int xn), (.int xl), (.int xo)])) (fun t_ k_ => XS.iloadN X0.here hx rfl (hb hby d9_2) rfl k_) ?_
  obtain ⟨T1, X1, e1, st1⟩ := getS2 X0 hx hZ hown (host := "") (Or.inl (hw _ (List.mem_of_getElem? (i := 53) rfl))) Via.refl e0 (S_sf.ext OL.2) (g := (mkF m 3 #[.val (.int xo), .val (.int xl), .val (.int xn)] [(.int xn), (.int xl), (.int xo)])) rfl (hb hby d9_3)
  refine own_Goes.via (T' := T1) (g' := (mkF m 6 #[.val (.int xo), .val (.int xl), .val (.int xn)] [wsf, (.int xn), (.int xl), (.int xo)])) (st1) ?_
  have cd6_3 : own_win xo xl xn := by first | assumption | decide
  obtain ⟨_, _, ⟨T2, L2, k2, n2⟩, -, X2, ⟨Lc2, hQ2, l2, y2, z2⟩, st2⟩ := Jvm.LawKit.callS X1 hx (y := (⟨"jdk/internal/util/Preconditions", "checkFromIndexSize", "(IIILjava/util/function/BiFunction;)I"⟩ : MethodName)) hown (mvT hZ (hw _ (List.mem_of_getElem? (i := 55) rfl))) (mvT hZ (hw _ (List.mem_of_getElem? (i := 56) rfl))) (mvT hZ (hw _ (List.mem_of_getElem? (i := 54) rfl))) (mvT hZ (hw _ (List.mem_of_getElem? (i := 57) rfl))) (by decide) (backOf (W := 0) (rm10 l Z a0 hw [] xo xl xn wsf h0 n0 Z0 cd6_3 isr_wsf) hZ (hw _ (List.mem_of_getElem? (i := 57) rfl)) (hw _ (List.mem_of_getElem? (i := 54) rfl)) (by decide) (by decide)) (g := (mkF m 6 #[.val (.int xo), .val (.int xl), .val (.int xn)] [wsf, (.int xn), (.int xl), (.int xo)])) rfl (by rw [hml]; rfl) (argsL := [(.int xo), (.int xl), (.int xn), wsf]) (rest := []) (lenOf pd_9_0 rfl) rfl (by show 2 * 0 + _ ≤ _; exact Nat.le_of_eq rfl) (hb hby d9_6) (fun _ _ => ⟨rfl, e1, (by decide : 0 + 0 ≤ _), (by decide : 0 + 0 ≤ _)⟩)
  dsimp only [Pt.U, Pt.locs, Pt.cells, Pt.slots] at X2 l2 y2 z2 st2 hQ2
  subst l2 y2 z2
  obtain ⟨rfl, Nq2, hh2⟩ := hQ2
  have N2 := Fr.app N0 Nq2
  refine own_Goes.via (T' := T2) (g' := (mkF m 9 #[.val (.int xo), .val (.int xl), .val (.int xn)] [(.int xo)])) (st2) ?_
  obtain ⟨fs, hr, hrun, hended, hW, hsame⟩ := X2.leave (v := some (.int xo)) (fun h => by rw [Bd.returns] at h; cases h)
  refine own_Goes.fin (retOut X2 hx Bd.returns rfl (Or.inl ⟨rfl, Or.inl rfl, _, rfl⟩) (hb hby d9_9) hr) hrun hended ?_
  subst hPd
  refine ⟨_, _, rfl, ?_, ⟨_, rfl⟩, hW, hsame.mono (by decide) (by decide)⟩
  show Q9 Z xo xl xn wsf h0 n0 _ T2.heap _
  rw [hh2]
  exact ⟨(by first | rfl | (simp only [])), N2, rfl⟩
theorem d25_0 : decode jdk_41_method_11_code 0 = .ok (.iload_n 0, 1) := by decide +kernel
theorem d25_1 : decode jdk_41_method_11_code 1 = .ok (.ifCond .lt 8, 3) := by decide +kernel
theorem d25_4 : decode jdk_41_method_11_code 4 = .ok (.iload_n 0, 1) := by decide +kernel
theorem d25_5 : decode jdk_41_method_11_code 5 = .ok (.iload_n 1, 1) := by decide +kernel
theorem d25_6 : decode jdk_41_method_11_code 6 = .ok (.if_icmp .lt 10, 3) := by decide +kernel
theorem d25_16 : decode jdk_41_method_11_code 16 = .ok (.iload_n 0, 1) := by decide +kernel
theorem d25_17 : decode jdk_41_method_11_code 17 = .ok (.ireturn, 1) := by decide +kernel
theorem pn_25 : plainName "jdk/internal/util/Preconditions" = true := by first | (simp [plainName, overriddenIn]; done) | decide +kernel
theorem ef_25 (m : MethodId) (xi : Int32) (xl : Int32) (wf : Value) (isr_wf : wf.isRef = true) : entryFrame m #[(.int xi), (.int xl), wf] 3 = mkF m 0 #[.val (.int xi), .val (.int xl), .val wf] [] := by (cases wf <;> first | (simp [Value.isRef] at isr_wf; done) | first | (simp [entryFrame, mkF, argsToLocals, Value.category]; done) | rfl)
def Q25 (Z : State) (xi : Int32) (xl : Int32) (wf : Value) (h0 : Heap) (n0 : Nat) (v : Option Value) (h : Heap) (L : List Loc) : Prop := v = some (.int xi) ∧ Fr n0 L ∧ h = h0
set_option maxRecDepth 65536 in
set_option maxHeartbeats 40000000 in
theorem rm25 (l : Launch) (Z : State) (a0 : Array Value) (hw : ∀ d ∈ tables_1, d.before a0 Z = true) (ws : List Jvm.Cond) (xi : Int32) (xl : Int32) (wf : Value) (h0 : Heap) (n0 : Nat) (Z0 : n0 ≤ h0.size) (hi : ¬ xi < 0 ∧ xi < xl) (isr_wf : wf.isRef = true) :
    MetFree l (⟨"jdk/internal/util/Preconditions", "checkIndex", "(IILjava/util/function/BiFunction;)I"⟩ : MethodName) (head1 (Jvm.Cond.code (⟨"jdk/internal/util/Preconditions", "checkIndex", "(IILjava/util/function/BiFunction;)I"⟩ : MethodName) jdk_41_method_11_code 3 (some .int) :: ws) ({ frames := 0, cells := 0, slots := 0, locals := 0 } : Room)) (fun a U => a = #[(.int xi), (.int xl), wf] ∧ Z.Warmed39 U.vm ∧ U.heap = h0) (fun _ _ _ _ _ => True) (fun _ U o U' => ∃ v L, o = .returned v ∧ Q25 Z xi xl wf h0 n0 v U'.heap L ∧ FrameEnd U o U' L ({ frames := 0, cells := 0, slots := 0, locals := 0 } : Room).cells ({ frames := 0, cells := 0, slots := 0, locals := 0 } : Room).slots) := by
  refine MetFree.of_bodySF (plainFor_of_name pn_25) hisR ?_
  intro p e s m args below meth c s₁ Bd hml0 hP hK
  obtain ⟨rfl, hZ, hh⟩ := hP
  have hx := Bd.exec
  have hby := Bd.bytes
  have hml : c.maxLocals = 3 := hml0
  have hown : s.vm.findClass "jdk/internal/util/Preconditions" = some m.cls := findClass_of_methodNamed Bd.named
  have hnm := (name_of_methodNamed Bd.named Bd.method).1
  have X0 : Stand p l e ({ frames := 0, cells := 0, slots := 0, locals := 0 } : Room) s m #[(.int xi), (.int xl), wf] below meth c s₁ [] 0 0 := Stand.of_body Bd
  have e0 : s₁.heap = h0 := by rw [← hh, Bd.state]; rfl
  have N0 := Fr.nil n0
  suffices G : own_Goes p.tables e below (fun o U' => ∃ v L, o = .returned v ∧ Q25 Z xi xl wf h0 n0 v U'.heap L ∧ FrameEnd s o U' L ({ frames := 0, cells := 0, slots := 0, locals := 0 } : Room).cells ({ frames := 0, cells := 0, slots := 0, locals := 0 } : Room).slots) s₁ (mkF m 0 #[.val (.int xi), .val (.int xl), .val wf] []) by
    obtain ⟨t2_, o2_, z1_, z2_, z3_, z4_⟩ := G
    exact ⟨t2_, o2_, castTop (ef_25 m xi xl wf isr_wf) z1_, z2_, z3_, z4_⟩
  generalize hPd : (fun (o : Outcome) (U' : State) => ∃ v L, o = .returned v ∧ Q25 Z xi xl wf h0 n0 v U'.heap L ∧ FrameEnd s o U' L ({ frames := 0, cells := 0, slots := 0, locals := 0 } : Room).cells ({ frames := 0, cells := 0, slots := 0, locals := 0 } : Room).slots) = P
  refine own_Goes.via (T' := s₁) (g' := (mkF m 1 #[.val (.int xi), .val (.int xl), .val wf] [(.int xi)])) (fun t_ k_ => XS.iloadN X0.here hx rfl (hb hby d25_0) rfl k_) ?_
  have hd1_1 : ¬ (xi < (0 : Int32)) := hi.1
  refine own_Goes.via (T' := s₁) (g' := (mkF m 4 #[.val (.int xi), .val (.int xl), .val wf] [])) (fun t_ k_ => XS.ifNo X0.here hx rfl (hb hby d25_1) rfl ((if0 _ _).trans (flt hd1_1).1) k_) ?_
  refine own_Goes.via (T' := s₁) (g' := (mkF m 5 #[.val (.int xi), .val (.int xl), .val wf] [(.int xi)])) (fun t_ k_ => XS.iloadN X0.here hx rfl (hb hby d25_4) rfl k_) ?_
  refine own_Goes.via (T' := s₁) (g' := (mkF m 6 #[.val (.int xi), .val (.int xl), .val wf] [(.int xl), (.int xi)])) (fun t_ k_ => XS.iloadN X0.here hx rfl (hb hby d25_5) rfl k_) ?_
  have hd6_2 : xi < xl := hi.2
  refine own_Goes.via (T' := s₁) (g' := (mkF m 16 #[.val (.int xi), .val (.int xl), .val wf] [])) (fun t_ k_ => XS.icmpYes X0.here hx rfl (pc0 := 6) (pc' := 16) rfl (hb hby d25_6) rfl (tlt hd6_2).1 (by decide) (by decide) k_) ?_
  refine own_Goes.via (T' := s₁) (g' := (mkF m 17 #[.val (.int xi), .val (.int xl), .val wf] [(.int xi)])) (fun t_ k_ => XS.iloadN X0.here hx rfl (hb hby d25_16) rfl k_) ?_
  obtain ⟨fs, hr, hrun, hended, hW, hsame⟩ := X0.leave (v := some (.int xi)) (fun h => by rw [Bd.returns] at h; cases h)
  refine own_Goes.fin (retOut X0 hx Bd.returns rfl (Or.inl ⟨rfl, Or.inl rfl, _, rfl⟩) (hb hby d25_17) hr) hrun hended ?_
  subst hPd
  refine ⟨_, _, rfl, ?_, ⟨_, rfl⟩, hW, hsame.mono (by decide) (by decide)⟩
  show Q25 Z xi xl wf h0 n0 _ s₁.heap _
  rw [e0]
  exact ⟨(by first | rfl | (simp only [])), N0, rfl⟩
theorem d24_0 : decode jdk_42_method_155_code 0 = .ok (.iload_n 0, 1) := by decide +kernel
theorem d24_1 : decode jdk_42_method_155_code 1 = .ok (.iload_n 1, 1) := by decide +kernel
theorem d24_2 : decode jdk_42_method_155_code 2 = .ok (.getstatic 1053, 3) := by decide +kernel
theorem d24_5 : decode jdk_42_method_155_code 5 = .ok (.invokestatic 1059, 3) := by decide +kernel
theorem d24_8 : decode jdk_42_method_155_code 8 = .ok (.pop, 1) := by decide +kernel
theorem d24_9 : decode jdk_42_method_155_code 9 = .ok (.return_, 1) := by decide +kernel
theorem pn_24 : plainName "java/lang/String" = true := by first | (simp [plainName, overriddenIn]; done) | decide +kernel
theorem pd_24_0 : parseMethodDescriptor "(IILjava/util/function/BiFunction;)I" = some ⟨[.int, .int, (.object "java/util/function/BiFunction")], some .int⟩ := by decide +kernel
theorem ef_24 (m : MethodId) (xi : Int32) (xl : Int32) : entryFrame m #[(.int xi), (.int xl)] 2 = mkF m 0 #[.val (.int xi), .val (.int xl)] [] := by first | (simp [entryFrame, mkF, argsToLocals, Value.category]; done) | rfl
def Q24 (Z : State) (xi : Int32) (xl : Int32) (wsf : Value) (h0 : Heap) (n0 : Nat) (v : Option Value) (h : Heap) (L : List Loc) : Prop := v = none ∧ Fr n0 L ∧ h = h0
set_option maxRecDepth 65536 in
set_option maxHeartbeats 40000000 in
theorem rm24 (l : Launch) (Z : State) (a0 : Array Value) (hw : ∀ d ∈ tables_1, d.before a0 Z = true) (ws : List Jvm.Cond) (xi : Int32) (xl : Int32) (wsf : Value) (h0 : Heap) (n0 : Nat) (Z0 : n0 ≤ h0.size) (OL : Old Z n0 h0) (hi : ¬ xi < 0 ∧ xi < xl) (S_sf : Sta Z Z.heap "jdk/internal/util/Preconditions" "SIOOBE_FORMATTER" "Ljava/util/function/BiFunction;" wsf) (isr_wsf : wsf.isRef = true) :
    MetFree l (⟨"java/lang/String", "checkIndex", "(II)V"⟩ : MethodName) (head1 (Jvm.Cond.code (⟨"java/lang/String", "checkIndex", "(II)V"⟩ : MethodName) jdk_42_method_155_code 2 none :: ws) ({ frames := 1, cells := 0, slots := 0, locals := 14 } : Room)) (fun a U => a = #[(.int xi), (.int xl)] ∧ Z.Warmed39 U.vm ∧ U.heap = h0) (fun _ _ _ _ _ => True) (fun _ U o U' => ∃ v L, o = .returned v ∧ Q24 Z xi xl wsf h0 n0 v U'.heap L ∧ FrameEnd U o U' L ({ frames := 1, cells := 0, slots := 0, locals := 14 } : Room).cells ({ frames := 1, cells := 0, slots := 0, locals := 14 } : Room).slots) := by
  refine MetFree.of_bodySF (plainFor_of_name pn_24) hisR ?_
  intro p e s m args below meth c s₁ Bd hml0 hP hK
  obtain ⟨rfl, hZ, hh⟩ := hP
  have hx := Bd.exec
  have hby := Bd.bytes
  have hml : c.maxLocals = 2 := hml0
  have hown : s.vm.findClass "java/lang/String" = some m.cls := findClass_of_methodNamed Bd.named
  have hnm := (name_of_methodNamed Bd.named Bd.method).1
  have X0 : Stand p l e ({ frames := 1, cells := 0, slots := 0, locals := 14 } : Room) s m #[(.int xi), (.int xl)] below meth c s₁ [] 0 0 := Stand.of_body Bd
  have e0 : s₁.heap = h0 := by rw [← hh, Bd.state]; rfl
  have N0 := Fr.nil n0
  suffices G : own_Goes p.tables e below (fun o U' => ∃ v L, o = .returned v ∧ Q24 Z xi xl wsf h0 n0 v U'.heap L ∧ FrameEnd s o U' L ({ frames := 1, cells := 0, slots := 0, locals := 14 } : Room).cells ({ frames := 1, cells := 0, slots := 0, locals := 14 } : Room).slots) s₁ (mkF m 0 #[.val (.int xi), .val (.int xl)] []) by
    obtain ⟨t2_, o2_, z1_, z2_, z3_, z4_⟩ := G
    exact ⟨t2_, o2_, castTop (ef_24 m xi xl) z1_, z2_, z3_, z4_⟩
  generalize hPd : (fun (o : Outcome) (U' : State) => ∃ v L, o = .returned v ∧ Q24 Z xi xl wsf h0 n0 v U'.heap L ∧ FrameEnd s o U' L ({ frames := 1, cells := 0, slots := 0, locals := 14 } : Room).cells ({ frames := 1, cells := 0, slots := 0, locals := 14 } : Room).slots) = P
  refine own_Goes.via (T' := s₁) (g' := (mkF m 1 #[.val (.int xi), .val (.int xl)] [(.int xi)])) (fun t_ k_ => XS.iloadN X0.here hx rfl (hb hby d24_0) rfl k_) ?_
  refine own_Goes.via (T' := s₁) (g' := (mkF m 2 #[.val (.int xi), .val (.int xl)] [(.int xl), (.int xi)])) (fun t_ k_ => XS.iloadN X0.here hx rfl (hb hby d24_1) rfl k_) ?_
  obtain ⟨T1, X1, e1, st1⟩ := getS2 X0 hx hZ hown (host := "") (Or.inl (hw _ (List.mem_of_getElem? (i := 53) rfl))) Via.refl e0 (S_sf.ext OL.2) (g := (mkF m 2 #[.val (.int xi), .val (.int xl)] [(.int xl), (.int xi)])) rfl (hb hby d24_2)
  refine own_Goes.via (T' := T1) (g' := (mkF m 5 #[.val (.int xi), .val (.int xl)] [wsf, (.int xl), (.int xi)])) (st1) ?_
  have cd5_3 : ¬ xi < 0 ∧ xi < xl := by first | assumption | decide
  obtain ⟨_, _, ⟨T2, L2, k2, n2⟩, -, X2, ⟨Lc2, hQ2, l2, y2, z2⟩, st2⟩ := Jvm.LawKit.callS X1 hx (y := (⟨"jdk/internal/util/Preconditions", "checkIndex", "(IILjava/util/function/BiFunction;)I"⟩ : MethodName)) hown (mvT hZ (hw _ (List.mem_of_getElem? (i := 132) rfl))) (mvT hZ (hw _ (List.mem_of_getElem? (i := 133) rfl))) (mvT hZ (hw _ (List.mem_of_getElem? (i := 54) rfl))) (mvT hZ (hw _ (List.mem_of_getElem? (i := 134) rfl))) (by decide) (backOf (W := 0) (rm25 l Z a0 hw [] xi xl wsf h0 n0 Z0 cd5_3 isr_wsf) hZ (hw _ (List.mem_of_getElem? (i := 134) rfl)) (hw _ (List.mem_of_getElem? (i := 54) rfl)) (by decide) (by decide)) (g := (mkF m 5 #[.val (.int xi), .val (.int xl)] [wsf, (.int xl), (.int xi)])) rfl (by rw [hml]; rfl) (argsL := [(.int xi), (.int xl), wsf]) (rest := []) (lenOf pd_24_0 rfl) rfl (by show 2 * 0 + _ ≤ _; exact Nat.le_of_eq rfl) (hb hby d24_5) (fun _ _ => ⟨rfl, e1, (by decide : 0 + 0 ≤ _), (by decide : 0 + 0 ≤ _)⟩)
  dsimp only [Pt.U, Pt.locs, Pt.cells, Pt.slots] at X2 l2 y2 z2 st2 hQ2
  subst l2 y2 z2
  obtain ⟨rfl, Nq2, hh2⟩ := hQ2
  have N2 := Fr.app N0 Nq2
  refine own_Goes.via (T' := T2) (g' := (mkF m 8 #[.val (.int xi), .val (.int xl)] [(.int xi)])) (st2) ?_
  refine own_Goes.via (T' := T2) (g' := (mkF m 9 #[.val (.int xi), .val (.int xl)] [])) (fun t_ k_ => XS.pop X2.here hx rfl (hb hby d24_8) rfl rfl k_) ?_
  obtain ⟨fs, hr, hrun, hended, hW, hsame⟩ := X2.leave (v := none) (fun _ => rfl)
  refine own_Goes.fin (X2.returnOut hx Bd.returns (hb hby d24_9) hr) hrun hended ?_
  subst hPd
  refine ⟨_, _, rfl, ?_, ⟨_, rfl⟩, hW, hsame.mono (by decide) (by decide)⟩
  show Q24 Z xi xl wsf h0 n0 _ T2.heap _
  rw [hh2]
  exact ⟨rfl, N2, rfl⟩
theorem d27_0 : decode jdk_31_method_17_code 0 = .ok (.iload_n 0, 1) := by decide +kernel
theorem d27_1 : decode jdk_31_method_17_code 1 = .ok (.iload_n 1, 1) := by decide +kernel
theorem d27_2 : decode jdk_31_method_17_code 2 = .ok (.aconst_null, 1) := by decide +kernel
theorem d27_3 : decode jdk_31_method_17_code 3 = .ok (.invokestatic 105, 3) := by decide +kernel
theorem d27_6 : decode jdk_31_method_17_code 6 = .ok (.ireturn, 1) := by decide +kernel
theorem pn_27 : plainName "java/util/Objects" = true := by first | (simp [plainName, overriddenIn]; done) | decide +kernel
theorem pd_27_0 : parseMethodDescriptor "(IILjava/util/function/BiFunction;)I" = some ⟨[.int, .int, (.object "java/util/function/BiFunction")], some .int⟩ := by decide +kernel
theorem ef_27 (m : MethodId) (xi : Int32) (xl : Int32) : entryFrame m #[(.int xi), (.int xl)] 2 = mkF m 0 #[.val (.int xi), .val (.int xl)] [] := by first | (simp [entryFrame, mkF, argsToLocals, Value.category]; done) | rfl
def Q27 (Z : State) (xi : Int32) (xl : Int32) (h0 : Heap) (n0 : Nat) (v : Option Value) (h : Heap) (L : List Loc) : Prop := v = some (.int xi) ∧ Fr n0 L ∧ h = h0
set_option maxRecDepth 65536 in
set_option maxHeartbeats 40000000 in
theorem rm27 (l : Launch) (Z : State) (a0 : Array Value) (hw : ∀ d ∈ tables_1, d.before a0 Z = true) (ws : List Jvm.Cond) (xi : Int32) (xl : Int32) (h0 : Heap) (n0 : Nat) (Z0 : n0 ≤ h0.size) (hi : ¬ xi < 0 ∧ xi < xl) :
    MetFree l (⟨"java/util/Objects", "checkIndex", "(II)I"⟩ : MethodName) (head1 (Jvm.Cond.code (⟨"java/util/Objects", "checkIndex", "(II)I"⟩ : MethodName) jdk_31_method_17_code 2 (some .int) :: ws) ({ frames := 1, cells := 0, slots := 0, locals := 14 } : Room)) (fun a U => a = #[(.int xi), (.int xl)] ∧ Z.Warmed39 U.vm ∧ U.heap = h0) (fun _ _ _ _ _ => True) (fun _ U o U' => ∃ v L, o = .returned v ∧ Q27 Z xi xl h0 n0 v U'.heap L ∧ FrameEnd U o U' L ({ frames := 1, cells := 0, slots := 0, locals := 14 } : Room).cells ({ frames := 1, cells := 0, slots := 0, locals := 14 } : Room).slots) := by
  refine MetFree.of_bodySF (plainFor_of_name pn_27) hisR ?_
  intro p e s m args below meth c s₁ Bd hml0 hP hK
  obtain ⟨rfl, hZ, hh⟩ := hP
  have hx := Bd.exec
  have hby := Bd.bytes
  have hml : c.maxLocals = 2 := hml0
  have hown : s.vm.findClass "java/util/Objects" = some m.cls := findClass_of_methodNamed Bd.named
  have hnm := (name_of_methodNamed Bd.named Bd.method).1
  have X0 : Stand p l e ({ frames := 1, cells := 0, slots := 0, locals := 14 } : Room) s m #[(.int xi), (.int xl)] below meth c s₁ [] 0 0 := Stand.of_body Bd
  have e0 : s₁.heap = h0 := by rw [← hh, Bd.state]; rfl
  have N0 := Fr.nil n0
  suffices G : own_Goes p.tables e below (fun o U' => ∃ v L, o = .returned v ∧ Q27 Z xi xl h0 n0 v U'.heap L ∧ FrameEnd s o U' L ({ frames := 1, cells := 0, slots := 0, locals := 14 } : Room).cells ({ frames := 1, cells := 0, slots := 0, locals := 14 } : Room).slots) s₁ (mkF m 0 #[.val (.int xi), .val (.int xl)] []) by
    obtain ⟨t2_, o2_, z1_, z2_, z3_, z4_⟩ := G
    exact ⟨t2_, o2_, castTop (ef_27 m xi xl) z1_, z2_, z3_, z4_⟩
  generalize hPd : (fun (o : Outcome) (U' : State) => ∃ v L, o = .returned v ∧ Q27 Z xi xl h0 n0 v U'.heap L ∧ FrameEnd s o U' L ({ frames := 1, cells := 0, slots := 0, locals := 14 } : Room).cells ({ frames := 1, cells := 0, slots := 0, locals := 14 } : Room).slots) = P
  refine own_Goes.via (T' := s₁) (g' := (mkF m 1 #[.val (.int xi), .val (.int xl)] [(.int xi)])) (fun t_ k_ => XS.iloadN X0.here hx rfl (hb hby d27_0) rfl k_) ?_
  refine own_Goes.via (T' := s₁) (g' := (mkF m 2 #[.val (.int xi), .val (.int xl)] [(.int xl), (.int xi)])) (fun t_ k_ => XS.iloadN X0.here hx rfl (hb hby d27_1) rfl k_) ?_
  refine own_Goes.via (T' := s₁) (g' := (mkF m 3 #[.val (.int xi), .val (.int xl)] [.null, (.int xl), (.int xi)])) (fun t_ k_ => XS.aconstNull X0.here hx rfl (hb hby d27_2) k_) ?_
  have cd3_2 : ¬ xi < 0 ∧ xi < xl := by first | assumption | decide
  obtain ⟨_, _, ⟨T1, L1, k1, n1⟩, -, X1, ⟨Lc1, hQ1, l1, y1, z1⟩, st1⟩ := Jvm.LawKit.callS X0 hx (y := (⟨"jdk/internal/util/Preconditions", "checkIndex", "(IILjava/util/function/BiFunction;)I"⟩ : MethodName)) hown (mvT hZ (hw _ (List.mem_of_getElem? (i := 143) rfl))) (mvT hZ (hw _ (List.mem_of_getElem? (i := 133) rfl))) (mvT hZ (hw _ (List.mem_of_getElem? (i := 54) rfl))) (mvT hZ (hw _ (List.mem_of_getElem? (i := 134) rfl))) (by decide) (backOf (W := 0) (rm25 l Z a0 hw [] xi xl .null h0 n0 Z0 cd3_2 rfl) hZ (hw _ (List.mem_of_getElem? (i := 134) rfl)) (hw _ (List.mem_of_getElem? (i := 54) rfl)) (by decide) (by decide)) (g := (mkF m 3 #[.val (.int xi), .val (.int xl)] [.null, (.int xl), (.int xi)])) rfl (by rw [hml]; rfl) (argsL := [(.int xi), (.int xl), .null]) (rest := []) (lenOf pd_27_0 rfl) rfl (by show 2 * 0 + _ ≤ _; exact Nat.le_of_eq rfl) (hb hby d27_3) (fun _ _ => ⟨rfl, e0, (by decide : 0 + 0 ≤ _), (by decide : 0 + 0 ≤ _)⟩)
  dsimp only [Pt.U, Pt.locs, Pt.cells, Pt.slots] at X1 l1 y1 z1 st1 hQ1
  subst l1 y1 z1
  obtain ⟨rfl, Nq1, hh1⟩ := hQ1
  have N1 := Fr.app N0 Nq1
  refine own_Goes.via (T' := T1) (g' := (mkF m 6 #[.val (.int xi), .val (.int xl)] [(.int xi)])) (st1) ?_
  obtain ⟨fs, hr, hrun, hended, hW, hsame⟩ := X1.leave (v := some (.int xi)) (fun h => by rw [Bd.returns] at h; cases h)
  refine own_Goes.fin (retOut X1 hx Bd.returns rfl (Or.inl ⟨rfl, Or.inl rfl, _, rfl⟩) (hb hby d27_6) hr) hrun hended ?_
  subst hPd
  refine ⟨_, _, rfl, ?_, ⟨_, rfl⟩, hW, hsame.mono (by decide) (by decide)⟩
  show Q27 Z xi xl h0 n0 _ T1.heap _
  rw [hh1]
  exact ⟨(by first | rfl | (simp only [])), N1, rfl⟩
theorem d13_0 : decode jdk_42_method_152_code 0 = .ok (.getstatic 38, 3) := by decide +kernel
theorem d13_3 : decode jdk_42_method_152_code 3 = .ok (.ifCond .eq 10, 3) := by decide +kernel
theorem d13_6 : decode jdk_42_method_152_code 6 = .ok (.aload_n 0, 1) := by decide +kernel
theorem d13_7 : decode jdk_42_method_152_code 7 = .ok (.getfield 15, 3) := by decide +kernel
theorem d13_10 : decode jdk_42_method_152_code 10 = .ok (.goto 4, 3) := by decide +kernel
theorem d13_14 : decode jdk_42_method_152_code 14 = .ok (.ireturn, 1) := by decide +kernel
theorem pn_13 : plainName "java/lang/String" = true := by first | (simp [plainName, overriddenIn]; done) | decide +kernel
theorem ef_13 (m : MethodId) (ao : Addr) : entryFrame m #[(.ref ao)] 1 = mkF m 0 #[.val (.ref ao)] [] := by first | (simp [entryFrame, mkF, argsToLocals, Value.category]; done) | rfl
def Q13 (Z : State) (ao : Addr) (xcs : Int32) (h0 : Heap) (n0 : Nat) (v : Option Value) (h : Heap) (L : List Loc) : Prop := v = some (.int (0 : Int32)) ∧ Fr n0 L ∧ h = h0
set_option maxRecDepth 65536 in
set_option maxHeartbeats 40000000 in
theorem rm13 (l : Launch) (Z : State) (a0 : Array Value) (hw : ∀ d ∈ tables_1, d.before a0 Z = true) (ws : List Jvm.Cond) (ao : Addr) (xcs : Int32) (h0 : Heap) (n0 : Nat) (Z0 : n0 ≤ h0.size) (PF0 : Fld Z h0 ao "java/lang/String" "coder" "B" (.int (0 : Int32))) (OL : Old Z n0 h0) (S_cs : Sta Z Z.heap "java/lang/String" "COMPACT_STRINGS" "Z" (.int xcs)) (hcs : ¬ (xcs = (0 : Int32))) :
    MetFree l (⟨"java/lang/String", "coder", "()B"⟩ : MethodName) (head1 (Jvm.Cond.code (⟨"java/lang/String", "coder", "()B"⟩ : MethodName) jdk_42_method_152_code 1 (some .byte) :: ws) ({ frames := 0, cells := 0, slots := 0, locals := 0 } : Room)) (fun a U => a = #[(.ref ao)] ∧ Z.Warmed39 U.vm ∧ U.heap = h0) (fun _ _ _ _ _ => True) (fun _ U o U' => ∃ v L, o = .returned v ∧ Q13 Z ao xcs h0 n0 v U'.heap L ∧ FrameEnd U o U' L ({ frames := 0, cells := 0, slots := 0, locals := 0 } : Room).cells ({ frames := 0, cells := 0, slots := 0, locals := 0 } : Room).slots) := by
  refine MetFree.of_bodySF (plainFor_of_name pn_13) hisR ?_
  intro p e s m args below meth c s₁ Bd hml0 hP hK
  obtain ⟨rfl, hZ, hh⟩ := hP
  have hx := Bd.exec
  have hby := Bd.bytes
  have hml : c.maxLocals = 1 := hml0
  have hown : s.vm.findClass "java/lang/String" = some m.cls := findClass_of_methodNamed Bd.named
  have hnm := (name_of_methodNamed Bd.named Bd.method).1
  have X0 : Stand p l e ({ frames := 0, cells := 0, slots := 0, locals := 0 } : Room) s m #[(.ref ao)] below meth c s₁ [] 0 0 := Stand.of_body Bd
  have e0 : s₁.heap = h0 := by rw [← hh, Bd.state]; rfl
  have N0 := Fr.nil n0
  suffices G : own_Goes p.tables e below (fun o U' => ∃ v L, o = .returned v ∧ Q13 Z ao xcs h0 n0 v U'.heap L ∧ FrameEnd s o U' L ({ frames := 0, cells := 0, slots := 0, locals := 0 } : Room).cells ({ frames := 0, cells := 0, slots := 0, locals := 0 } : Room).slots) s₁ (mkF m 0 #[.val (.ref ao)] []) by
    obtain ⟨t2_, o2_, z1_, z2_, z3_, z4_⟩ := G
    exact ⟨t2_, o2_, castTop (ef_13 m ao) z1_, z2_, z3_, z4_⟩
  generalize hPd : (fun (o : Outcome) (U' : State) => ∃ v L, o = .returned v ∧ Q13 Z ao xcs h0 n0 v U'.heap L ∧ FrameEnd s o U' L ({ frames := 0, cells := 0, slots := 0, locals := 0 } : Room).cells ({ frames := 0, cells := 0, slots := 0, locals := 0 } : Room).slots) = P
  obtain ⟨T1, X1, e1, st1⟩ := getS2 X0 hx hZ hown (host := "") (Or.inl (hw _ (List.mem_of_getElem? (i := 80) rfl))) Via.refl e0 (S_cs.ext OL.2) (g := (mkF m 0 #[.val (.ref ao)] [])) rfl (hb hby d13_0)
  refine own_Goes.via (T' := T1) (g' := (mkF m 3 #[.val (.ref ao)] [(.int xcs)])) (st1) ?_
  have hd3_2 : ¬ (xcs = (0 : Int32)) := hcs
  refine own_Goes.via (T' := T1) (g' := (mkF m 6 #[.val (.ref ao)] [])) (fun t_ k_ => XS.ifNo X1.here hx rfl (hb hby d13_3) rfl ((if0 _ _).trans (feq hd3_2).1) k_) ?_
  refine own_Goes.via (T' := T1) (g' := (mkF m 7 #[.val (.ref ao)] [(.ref ao)])) (fun t_ k_ => XS.aloadN X1.here hx rfl (hb hby d13_6) rfl rfl k_) ?_
  obtain ⟨T3, X3, e3, st3⟩ := getF X1 hx hZ hown (host := "") (Or.inl (hw _ (List.mem_of_getElem? (i := 69) rfl))) Via.refl e1 PF0 (g := (mkF m 7 #[.val (.ref ao)] [(.ref ao)])) rfl rfl (hb hby d13_7)
  refine own_Goes.via (T' := T3) (g' := (mkF m 10 #[.val (.ref ao)] [(.int (0 : Int32))])) (st3) ?_
  refine own_Goes.via (T' := T3) (g' := (mkF m 14 #[.val (.ref ao)] [(.int (0 : Int32))])) (fun t_ k_ => XS.goto X3.here hx rfl (pc0 := 10) (pc' := 14) rfl (hb hby d13_10) (by decide) (by decide) k_) ?_
  obtain ⟨fs, hr, hrun, hended, hW, hsame⟩ := X3.leave (v := some (.int (0 : Int32))) (fun h => by rw [Bd.returns] at h; cases h)
  refine own_Goes.fin (retN X3 hx (t := .byte) Bd.returns (by simp) (hb hby d13_14) hr) hrun hended ?_
  subst hPd
  refine ⟨_, _, rfl, ?_, ⟨_, rfl⟩, hW, hsame.mono (by decide) (by decide)⟩
  show Q13 Z ao xcs h0 n0 _ T3.heap _
  rw [e3]
  exact ⟨(by first | rfl | (simp only [])), N0, rfl⟩
theorem d12_0 : decode jdk_42_method_54_code 0 = .ok (.aload_n 0, 1) := by decide +kernel
theorem d12_1 : decode jdk_42_method_54_code 1 = .ok (.getfield 9, 3) := by decide +kernel
theorem d12_4 : decode jdk_42_method_54_code 4 = .ok (.arraylength, 1) := by decide +kernel
theorem d12_5 : decode jdk_42_method_54_code 5 = .ok (.aload_n 0, 1) := by decide +kernel
theorem d12_6 : decode jdk_42_method_54_code 6 = .ok (.invokevirtual 335, 3) := by decide +kernel
theorem d12_9 : decode jdk_42_method_54_code 9 = .ok (.ishr, 1) := by decide +kernel
theorem d12_10 : decode jdk_42_method_54_code 10 = .ok (.ireturn, 1) := by decide +kernel
theorem pn_12 : plainName "java/lang/String" = true := by first | (simp [plainName, overriddenIn]; done) | decide +kernel
theorem pd_12_0 : parseMethodDescriptor "()B" = some ⟨[], some .byte⟩ := by decide +kernel
theorem ef_12 (m : MethodId) (ao : Addr) : entryFrame m #[(.ref ao)] 1 = mkF m 0 #[.val (.ref ao)] [] := by first | (simp [entryFrame, mkF, argsToLocals, Value.category]; done) | rfl
def Q12 (Z : State) (ao : Addr) (xcs : Int32) (bz : Addr) (xl : Int32) (B : Nat → Int32) (h0 : Heap) (n0 : Nat) (v : Option Value) (h : Heap) (L : List Loc) : Prop := v = some (.int xl) ∧ Fr n0 L ∧ h = h0
set_option maxRecDepth 65536 in
set_option maxHeartbeats 40000000 in
theorem rm12 (l : Launch) (Z : State) (a0 : Array Value) (hw : ∀ d ∈ tables_1, d.before a0 Z = true) (ws : List Jvm.Cond) (ao : Addr) (xcs : Int32) (bz : Addr) (xl : Int32) (B : Nat → Int32) (h0 : Heap) (n0 : Nat) (Z0 : n0 ≤ h0.size) (PF0 : Exa Z h0 ao "java/lang/String") (PF1 : Fld Z h0 ao "java/lang/String" "value" "[B" (.ref bz)) (PF2 : Fld Z h0 ao "java/lang/String" "coder" "B" (.int (0 : Int32))) (PF3 : own_Gi Z h0 bz .byte xl B) (OL : Old Z n0 h0) (S_cs : Sta Z Z.heap "java/lang/String" "COMPACT_STRINGS" "Z" (.int xcs)) (hcs : ¬ (xcs = (0 : Int32))) :
    MetFree l (⟨"java/lang/String", "length", "()I"⟩ : MethodName) (head1 (Jvm.Cond.code (⟨"java/lang/String", "length", "()I"⟩ : MethodName) jdk_42_method_54_code 1 (some .int) :: ws) ({ frames := 1, cells := 0, slots := 0, locals := 13 } : Room)) (fun a U => a = #[(.ref ao)] ∧ Z.Warmed39 U.vm ∧ U.heap = h0) (fun _ _ _ _ _ => True) (fun _ U o U' => ∃ v L, o = .returned v ∧ Q12 Z ao xcs bz xl B h0 n0 v U'.heap L ∧ FrameEnd U o U' L ({ frames := 1, cells := 0, slots := 0, locals := 13 } : Room).cells ({ frames := 1, cells := 0, slots := 0, locals := 13 } : Room).slots) := by
  refine MetFree.of_bodySF (plainFor_of_name pn_12) hisR ?_
  intro p e s m args below meth c s₁ Bd hml0 hP hK
  obtain ⟨rfl, hZ, hh⟩ := hP
  have hx := Bd.exec
  have hby := Bd.bytes
  have hml : c.maxLocals = 1 := hml0
  have hown : s.vm.findClass "java/lang/String" = some m.cls := findClass_of_methodNamed Bd.named
  have hnm := (name_of_methodNamed Bd.named Bd.method).1
  have X0 : Stand p l e ({ frames := 1, cells := 0, slots := 0, locals := 13 } : Room) s m #[(.ref ao)] below meth c s₁ [] 0 0 := Stand.of_body Bd
  have e0 : s₁.heap = h0 := by rw [← hh, Bd.state]; rfl
  have N0 := Fr.nil n0
  suffices G : own_Goes p.tables e below (fun o U' => ∃ v L, o = .returned v ∧ Q12 Z ao xcs bz xl B h0 n0 v U'.heap L ∧ FrameEnd s o U' L ({ frames := 1, cells := 0, slots := 0, locals := 13 } : Room).cells ({ frames := 1, cells := 0, slots := 0, locals := 13 } : Room).slots) s₁ (mkF m 0 #[.val (.ref ao)] []) by
    obtain ⟨t2_, o2_, z1_, z2_, z3_, z4_⟩ := G
    exact ⟨t2_, o2_, castTop (ef_12 m ao) z1_, z2_, z3_, z4_⟩
  generalize hPd : (fun (o : Outcome) (U' : State) => ∃ v L, o = .returned v ∧ Q12 Z ao xcs bz xl B h0 n0 v U'.heap L ∧ FrameEnd s o U' L ({ frames := 1, cells := 0, slots := 0, locals := 13 } : Room).cells ({ frames := 1, cells := 0, slots := 0, locals := 13 } : Room).slots) = P
  refine own_Goes.via (T' := s₁) (g' := (mkF m 1 #[.val (.ref ao)] [(.ref ao)])) (fun t_ k_ => XS.aloadN X0.here hx rfl (hb hby d12_0) rfl rfl k_) ?_
  obtain ⟨T1, X1, e1, st1⟩ := getF X0 hx hZ hown (host := "") (Or.inl (hw _ (List.mem_of_getElem? (i := 68) rfl))) Via.refl e0 PF1 (g := (mkF m 1 #[.val (.ref ao)] [(.ref ao)])) rfl rfl (hb hby d12_1)
  refine own_Goes.via (T' := T1) (g' := (mkF m 4 #[.val (.ref ao)] [(.ref bz)])) (st1) ?_
  obtain ⟨cl2, Ar2, Sl2, Ng2, -⟩ := id PF3
  refine own_Goes.via (T' := T1) (g' := (mkF m 5 #[.val (.ref ao)] [(.int xl)])) (fun t_ k_ => X1.arraylength hx (by rw [e1]; exact Ar2.1) (State.isArrayOf_alike hZ.alike Ar2.2.1) (g := (mkF m 4 #[.val (.ref ao)] [(.ref bz)])) rfl rfl (hb hby d12_4) _ (by rw [len_of Sl2 Ng2]; exact k_)) ?_
  refine own_Goes.via (T' := T1) (g' := (mkF m 6 #[.val (.ref ao)] [(.ref ao), (.int xl)])) (fun t_ k_ => XS.aloadN X1.here hx rfl (hb hby d12_5) rfl rfl k_) ?_
  obtain ⟨cq3, kq3, q3a, q3b, q3c⟩ := isOf hZ e1 PF0
  obtain ⟨_, _, ⟨T3, L3, k3, n3⟩, -, X3, ⟨Lc3, hQ3, l3, y3, z3⟩, st3⟩ := X1.virtualBack hx (y := (⟨"java/lang/String", "coder", "()B"⟩ : MethodName)) (z := (⟨"java/lang/String", "coder", "()B"⟩ : MethodName)) hown (mvT hZ (hw _ (List.mem_of_getElem? (i := 75) rfl))) (mvT hZ (hw _ (List.mem_of_getElem? (i := 76) rfl))) (notFace_of_selects (args := #[]) (mvT hZ (hw _ (List.mem_of_getElem? (i := 78) rfl)))) (mvT hZ (hw _ (List.mem_of_getElem? (i := 78) rfl))) (mvT hZ (hw _ (List.mem_of_getElem? (i := 77) rfl))) (by decide) (backOf (W := 1) (rm13 l Z a0 hw [] ao xcs h0 n0 Z0 PF2 OL S_cs hcs) hZ (hw _ (List.mem_of_getElem? (i := 79) rfl)) (hw _ (List.mem_of_getElem? (i := 38) rfl)) (by decide) (by decide)) q3a q3c (g := (mkF m 6 #[.val (.ref ao)] [(.ref ao), (.int xl)])) rfl (by rw [hml]; rfl) (Steps.refl _) (argsL := []) (rest := [(.int xl)]) (lenOf pd_12_0 rfl) rfl (by show 2 * 0 + _ ≤ _; exact Nat.le_of_eq rfl) (hb hby d12_6) (fun _ _ => ⟨rfl, e1, (by decide : 0 + 0 ≤ _), (by decide : 0 + 0 ≤ _)⟩)
  dsimp only [Pt.U, Pt.locs, Pt.cells, Pt.slots] at X3 l3 y3 z3 st3 hQ3
  subst l3 y3 z3
  obtain ⟨rfl, Nq3, hh3⟩ := hQ3
  have N3 := Fr.app N0 Nq3
  refine own_Goes.via (T' := T3) (g' := (mkF m 9 #[.val (.ref ao)] [(.int (0 : Int32)), (.int xl)])) (fun t_ k_ => st3.trans k_) ?_
  refine own_Goes.via (T' := T3) (g' := (mkF m 10 #[.val (.ref ao)] [(.int (xl >>> ((0 : Int32) &&& 31)))])) (fun t_ k_ => XS.ishr X3.here hx rfl (hb hby d12_9) rfl k_) ?_
  obtain ⟨fs, hr, hrun, hended, hW, hsame⟩ := X3.leave (v := some (.int (xl >>> ((0 : Int32) &&& 31)))) (fun h => by rw [Bd.returns] at h; cases h)
  refine own_Goes.fin (retOut X3 hx Bd.returns rfl (Or.inl ⟨rfl, Or.inl rfl, _, rfl⟩) (hb hby d12_10) hr) hrun hended ?_
  subst hPd
  refine ⟨_, _, rfl, ?_, ⟨_, rfl⟩, hW, hsame.mono (by decide) (by decide)⟩
  show Q12 Z ao xcs bz xl B h0 n0 _ T3.heap _
  rw [hh3]
  exact ⟨(congrArg (fun z => some (Value.int z)) (own_shr0 xl)), N3, rfl⟩
theorem d22_0 : decode jdk_42_method_154_code 0 = .ok (.getstatic 38, 3) := by decide +kernel
theorem d22_3 : decode jdk_42_method_154_code 3 = .ok (.ifCond .eq 14, 3) := by decide +kernel
theorem d22_6 : decode jdk_42_method_154_code 6 = .ok (.aload_n 0, 1) := by decide +kernel
theorem d22_7 : decode jdk_42_method_154_code 7 = .ok (.getfield 15, 3) := by decide +kernel
theorem d22_10 : decode jdk_42_method_154_code 10 = .ok (.ifCond .ne 7, 3) := by decide +kernel
theorem d22_13 : decode jdk_42_method_154_code 13 = .ok (.iconst 1, 1) := by decide +kernel
theorem d22_14 : decode jdk_42_method_154_code 14 = .ok (.goto 4, 3) := by decide +kernel
theorem d22_18 : decode jdk_42_method_154_code 18 = .ok (.ireturn, 1) := by decide +kernel
theorem pn_22 : plainName "java/lang/String" = true := by first | (simp [plainName, overriddenIn]; done) | decide +kernel
theorem ef_22 (m : MethodId) (ao : Addr) : entryFrame m #[(.ref ao)] 1 = mkF m 0 #[.val (.ref ao)] [] := by first | (simp [entryFrame, mkF, argsToLocals, Value.category]; done) | rfl
def Q22 (Z : State) (ao : Addr) (xcs : Int32) (h0 : Heap) (n0 : Nat) (v : Option Value) (h : Heap) (L : List Loc) : Prop := v = some (.int (1 : Int32)) ∧ Fr n0 L ∧ h = h0
set_option maxRecDepth 65536 in
set_option maxHeartbeats 40000000 in
theorem rm22 (l : Launch) (Z : State) (a0 : Array Value) (hw : ∀ d ∈ tables_1, d.before a0 Z = true) (ws : List Jvm.Cond) (ao : Addr) (xcs : Int32) (h0 : Heap) (n0 : Nat) (Z0 : n0 ≤ h0.size) (PF0 : Fld Z h0 ao "java/lang/String" "coder" "B" (.int (0 : Int32))) (OL : Old Z n0 h0) (S_cs : Sta Z Z.heap "java/lang/String" "COMPACT_STRINGS" "Z" (.int xcs)) (hcs : ¬ (xcs = (0 : Int32))) :
    MetFree l (⟨"java/lang/String", "isLatin1", "()Z"⟩ : MethodName) (head1 (Jvm.Cond.code (⟨"java/lang/String", "isLatin1", "()Z"⟩ : MethodName) jdk_42_method_154_code 1 (some .boolean) :: ws) ({ frames := 0, cells := 0, slots := 0, locals := 0 } : Room)) (fun a U => a = #[(.ref ao)] ∧ Z.Warmed39 U.vm ∧ U.heap = h0) (fun _ _ _ _ _ => True) (fun _ U o U' => ∃ v L, o = .returned v ∧ Q22 Z ao xcs h0 n0 v U'.heap L ∧ FrameEnd U o U' L ({ frames := 0, cells := 0, slots := 0, locals := 0 } : Room).cells ({ frames := 0, cells := 0, slots := 0, locals := 0 } : Room).slots) := by
  refine MetFree.of_bodySF (plainFor_of_name pn_22) hisR ?_
  intro p e s m args below meth c s₁ Bd hml0 hP hK
  obtain ⟨rfl, hZ, hh⟩ := hP
  have hx := Bd.exec
  have hby := Bd.bytes
  have hml : c.maxLocals = 1 := hml0
  have hown : s.vm.findClass "java/lang/String" = some m.cls := findClass_of_methodNamed Bd.named
  have hnm := (name_of_methodNamed Bd.named Bd.method).1
  have X0 : Stand p l e ({ frames := 0, cells := 0, slots := 0, locals := 0 } : Room) s m #[(.ref ao)] below meth c s₁ [] 0 0 := Stand.of_body Bd
  have e0 : s₁.heap = h0 := by rw [← hh, Bd.state]; rfl
  have N0 := Fr.nil n0
  suffices G : own_Goes p.tables e below (fun o U' => ∃ v L, o = .returned v ∧ Q22 Z ao xcs h0 n0 v U'.heap L ∧ FrameEnd s o U' L ({ frames := 0, cells := 0, slots := 0, locals := 0 } : Room).cells ({ frames := 0, cells := 0, slots := 0, locals := 0 } : Room).slots) s₁ (mkF m 0 #[.val (.ref ao)] []) by
    obtain ⟨t2_, o2_, z1_, z2_, z3_, z4_⟩ := G
    exact ⟨t2_, o2_, castTop (ef_22 m ao) z1_, z2_, z3_, z4_⟩
  generalize hPd : (fun (o : Outcome) (U' : State) => ∃ v L, o = .returned v ∧ Q22 Z ao xcs h0 n0 v U'.heap L ∧ FrameEnd s o U' L ({ frames := 0, cells := 0, slots := 0, locals := 0 } : Room).cells ({ frames := 0, cells := 0, slots := 0, locals := 0 } : Room).slots) = P
  obtain ⟨T1, X1, e1, st1⟩ := getS2 X0 hx hZ hown (host := "") (Or.inl (hw _ (List.mem_of_getElem? (i := 80) rfl))) Via.refl e0 (S_cs.ext OL.2) (g := (mkF m 0 #[.val (.ref ao)] [])) rfl (hb hby d22_0)
  refine own_Goes.via (T' := T1) (g' := (mkF m 3 #[.val (.ref ao)] [(.int xcs)])) (st1) ?_
  have hd3_2 : ¬ (xcs = (0 : Int32)) := hcs
  refine own_Goes.via (T' := T1) (g' := (mkF m 6 #[.val (.ref ao)] [])) (fun t_ k_ => XS.ifNo X1.here hx rfl (hb hby d22_3) rfl ((if0 _ _).trans (feq hd3_2).1) k_) ?_
  refine own_Goes.via (T' := T1) (g' := (mkF m 7 #[.val (.ref ao)] [(.ref ao)])) (fun t_ k_ => XS.aloadN X1.here hx rfl (hb hby d22_6) rfl rfl k_) ?_
  obtain ⟨T3, X3, e3, st3⟩ := getF X1 hx hZ hown (host := "") (Or.inl (hw _ (List.mem_of_getElem? (i := 69) rfl))) Via.refl e1 PF0 (g := (mkF m 7 #[.val (.ref ao)] [(.ref ao)])) rfl rfl (hb hby d22_7)
  refine own_Goes.via (T' := T3) (g' := (mkF m 10 #[.val (.ref ao)] [(.int (0 : Int32))])) (st3) ?_
  refine own_Goes.via (T' := T3) (g' := (mkF m 13 #[.val (.ref ao)] [])) (fun t_ k_ => XS.ifNo X3.here hx rfl (hb hby d22_10) rfl ((if0 _ _).trans (teq (by decide : (0 : Int32) = (0 : Int32))).2) k_) ?_
  refine own_Goes.via (T' := T3) (g' := (mkF m 14 #[.val (.ref ao)] [(.int (1 : Int32))])) (fun t_ k_ => XS.iconst X3.here hx rfl (hb hby d22_13) k_) ?_
  refine own_Goes.via (T' := T3) (g' := (mkF m 18 #[.val (.ref ao)] [(.int (1 : Int32))])) (fun t_ k_ => XS.goto X3.here hx rfl (pc0 := 14) (pc' := 18) rfl (hb hby d22_14) (by decide) (by decide) k_) ?_
  obtain ⟨fs, hr, hrun, hended, hW, hsame⟩ := X3.leave (v := some (.int (1 : Int32))) (fun h => by rw [Bd.returns] at h; cases h)
  refine own_Goes.fin (retN X3 hx (t := .boolean) Bd.returns (by simp) (hb hby d22_18) hr) hrun hended ?_
  subst hPd
  refine ⟨_, _, rfl, ?_, ⟨_, rfl⟩, hW, hsame.mono (by decide) (by decide)⟩
  show Q22 Z ao xcs h0 n0 _ T3.heap _
  rw [e3]
  exact ⟨(by first | rfl | (simp only [])), N0, rfl⟩
theorem d23_0 : decode jdk_43_method_2_code 0 = .ok (.iload_n 1, 1) := by decide +kernel
theorem d23_1 : decode jdk_43_method_2_code 1 = .ok (.aload_n 0, 1) := by decide +kernel
theorem d23_2 : decode jdk_43_method_2_code 2 = .ok (.arraylength, 1) := by decide +kernel
theorem d23_3 : decode jdk_43_method_2_code 3 = .ok (.invokestatic 9, 3) := by decide +kernel
theorem d23_6 : decode jdk_43_method_2_code 6 = .ok (.aload_n 0, 1) := by decide +kernel
theorem d23_7 : decode jdk_43_method_2_code 7 = .ok (.iload_n 1, 1) := by decide +kernel
theorem d23_8 : decode jdk_43_method_2_code 8 = .ok (.baload, 1) := by decide +kernel
theorem d23_9 : decode jdk_43_method_2_code 9 = .ok (.sipush 255, 3) := by decide +kernel
theorem d23_12 : decode jdk_43_method_2_code 12 = .ok (.iand, 1) := by decide +kernel
theorem d23_13 : decode jdk_43_method_2_code 13 = .ok (.i2c, 1) := by decide +kernel
theorem d23_14 : decode jdk_43_method_2_code 14 = .ok (.ireturn, 1) := by decide +kernel
theorem pn_23 : plainName "java/lang/StringLatin1" = true := by first | (simp [plainName, overriddenIn]; done) | decide +kernel
theorem pd_23_0 : parseMethodDescriptor "(II)V" = some ⟨[.int, .int], none⟩ := by decide +kernel
theorem ef_23 (m : MethodId) (ab : Addr) (xi : Int32) : entryFrame m #[(.ref ab), (.int xi)] 2 = mkF m 0 #[.val (.ref ab), .val (.int xi)] [] := by first | (simp [entryFrame, mkF, argsToLocals, Value.category]; done) | rfl
def Q23 (Z : State) (ab : Addr) (xi : Int32) (wsf : Value) (xl : Int32) (B : Nat → Int32) (h0 : Heap) (n0 : Nat) (v : Option Value) (h : Heap) (L : List Loc) : Prop := v = some (.int (own_ch (B xi.toNatClampNeg))) ∧ Fr n0 L ∧ h = h0
set_option maxRecDepth 65536 in
set_option maxHeartbeats 40000000 in
theorem rm23 (l : Launch) (Z : State) (a0 : Array Value) (hw : ∀ d ∈ tables_1, d.before a0 Z = true) (ws : List Jvm.Cond) (ab : Addr) (xi : Int32) (wsf : Value) (xl : Int32) (B : Nat → Int32) (h0 : Heap) (n0 : Nat) (Z0 : n0 ≤ h0.size) (PF0 : own_Gi Z h0 ab .byte xl B) (OL : Old Z n0 h0) (hi : ¬ xi < 0 ∧ xi < xl) (S_sf : Sta Z Z.heap "jdk/internal/util/Preconditions" "SIOOBE_FORMATTER" "Ljava/util/function/BiFunction;" wsf) (isr_wsf : wsf.isRef = true) :
    MetFree l (⟨"java/lang/StringLatin1", "charAt", "([BI)C"⟩ : MethodName) (head1 (Jvm.Cond.code (⟨"java/lang/StringLatin1", "charAt", "([BI)C"⟩ : MethodName) jdk_43_method_2_code 2 (some .char) :: ws) ({ frames := 2, cells := 0, slots := 0, locals := 27 } : Room)) (fun a U => a = #[(.ref ab), (.int xi)] ∧ Z.Warmed39 U.vm ∧ U.heap = h0) (fun _ _ _ _ _ => True) (fun _ U o U' => ∃ v L, o = .returned v ∧ Q23 Z ab xi wsf xl B h0 n0 v U'.heap L ∧ FrameEnd U o U' L ({ frames := 2, cells := 0, slots := 0, locals := 27 } : Room).cells ({ frames := 2, cells := 0, slots := 0, locals := 27 } : Room).slots) := by
  refine MetFree.of_bodySF (plainFor_of_name pn_23) hisR ?_
  intro p e s m args below meth c s₁ Bd hml0 hP hK
  obtain ⟨rfl, hZ, hh⟩ := hP
  have hx := Bd.exec
  have hby := Bd.bytes
  have hml : c.maxLocals = 2 := hml0
  have hown : s.vm.findClass "java/lang/StringLatin1" = some m.cls := findClass_of_methodNamed Bd.named
  have hnm := (name_of_methodNamed Bd.named Bd.method).1
  have X0 : Stand p l e ({ frames := 2, cells := 0, slots := 0, locals := 27 } : Room) s m #[(.ref ab), (.int xi)] below meth c s₁ [] 0 0 := Stand.of_body Bd
  have e0 : s₁.heap = h0 := by rw [← hh, Bd.state]; rfl
  have N0 := Fr.nil n0
  suffices G : own_Goes p.tables e below (fun o U' => ∃ v L, o = .returned v ∧ Q23 Z ab xi wsf xl B h0 n0 v U'.heap L ∧ FrameEnd s o U' L ({ frames := 2, cells := 0, slots := 0, locals := 27 } : Room).cells ({ frames := 2, cells := 0, slots := 0, locals := 27 } : Room).slots) s₁ (mkF m 0 #[.val (.ref ab), .val (.int xi)] []) by
    obtain ⟨t2_, o2_, z1_, z2_, z3_, z4_⟩ := G
    exact ⟨t2_, o2_, castTop (ef_23 m ab xi) z1_, z2_, z3_, z4_⟩
  generalize hPd : (fun (o : Outcome) (U' : State) => ∃ v L, o = .returned v ∧ Q23 Z ab xi wsf xl B h0 n0 v U'.heap L ∧ FrameEnd s o U' L ({ frames := 2, cells := 0, slots := 0, locals := 27 } : Room).cells ({ frames := 2, cells := 0, slots := 0, locals := 27 } : Room).slots) = P
  refine own_Goes.via (T' := s₁) (g' := (mkF m 1 #[.val (.ref ab), .val (.int xi)] [(.int xi)])) (fun t_ k_ => XS.iloadN X0.here hx rfl (hb hby d23_0) rfl k_) ?_
  refine own_Goes.via (T' := s₁) (g' := (mkF m 2 #[.val (.ref ab), .val (.int xi)] [(.ref ab), (.int xi)])) (fun t_ k_ => XS.aloadN X0.here hx rfl (hb hby d23_1) rfl rfl k_) ?_
  obtain ⟨cl1, Ar1, Sl1, Ng1, -⟩ := id PF0
  refine own_Goes.via (T' := s₁) (g' := (mkF m 3 #[.val (.ref ab), .val (.int xi)] [(.int xl), (.int xi)])) (fun t_ k_ => X0.arraylength hx (by rw [e0]; exact Ar1.1) (State.isArrayOf_alike hZ.alike Ar1.2.1) (g := (mkF m 2 #[.val (.ref ab), .val (.int xi)] [(.ref ab), (.int xi)])) rfl rfl (hb hby d23_2) _ (by rw [len_of Sl1 Ng1]; exact k_)) ?_
  have cd3_3 : ¬ xi < 0 ∧ xi < xl := by first | assumption | decide
  obtain ⟨_, _, ⟨T2, L2, k2, n2⟩, -, X2, ⟨Lc2, hQ2, l2, y2, z2⟩, st2⟩ := Jvm.LawKit.callS X0 hx (y := (⟨"java/lang/String", "checkIndex", "(II)V"⟩ : MethodName)) hown (mvT hZ (hw _ (List.mem_of_getElem? (i := 129) rfl))) (mvT hZ (hw _ (List.mem_of_getElem? (i := 130) rfl))) (mvT hZ (hw _ (List.mem_of_getElem? (i := 38) rfl))) (mvT hZ (hw _ (List.mem_of_getElem? (i := 131) rfl))) (by decide) (backOf (W := 0) (rm24 l Z a0 hw [] xi xl wsf h0 n0 Z0 OL cd3_3 S_sf isr_wsf) hZ (hw _ (List.mem_of_getElem? (i := 131) rfl)) (hw _ (List.mem_of_getElem? (i := 38) rfl)) (by decide) (by decide)) (g := (mkF m 3 #[.val (.ref ab), .val (.int xi)] [(.int xl), (.int xi)])) rfl (by rw [hml]; rfl) (argsL := [(.int xi), (.int xl)]) (rest := []) (lenOf pd_23_0 rfl) rfl (by show 2 * 0 + _ ≤ _; exact Nat.le_of_eq rfl) (hb hby d23_3) (fun _ _ => ⟨rfl, e0, (by decide : 0 + 0 ≤ _), (by decide : 0 + 0 ≤ _)⟩)
  dsimp only [Pt.U, Pt.locs, Pt.cells, Pt.slots] at X2 l2 y2 z2 st2 hQ2
  subst l2 y2 z2
  obtain ⟨rfl, Nq2, hh2⟩ := hQ2
  have N2 := Fr.app N0 Nq2
  refine own_Goes.via (T' := T2) (g' := (mkF m 6 #[.val (.ref ab), .val (.int xi)] [])) (st2) ?_
  refine own_Goes.via (T' := T2) (g' := (mkF m 7 #[.val (.ref ab), .val (.int xi)] [(.ref ab)])) (fun t_ k_ => XS.aloadN X2.here hx rfl (hb hby d23_6) rfl rfl k_) ?_
  refine own_Goes.via (T' := T2) (g' := (mkF m 8 #[.val (.ref ab), .val (.int xi)] [(.int xi), (.ref ab)])) (fun t_ k_ => XS.iloadN X2.here hx rfl (hb hby d23_7) rfl k_) ?_
  have in8_5 : ¬ xi < 0 ∧ xi < xl := hi
  obtain ⟨cl4, Ar4, Sl4, at4⟩ := PF0.rd in8_5
  refine own_Goes.via (T' := T2) (g' := (mkF m 9 #[.val (.ref ab), .val (.int xi)] [(.int (B xi.toNatClampNeg))])) (fun t_ k_ => X2.baloadBytes hx (j := xi) (v := (.int (B xi.toNatClampNeg))) (by rw [hh2]; exact Ar4.1) (State.isArrayOf_alike hZ.alike Ar4.2.1) Ar4.2.2 (inb_of Sl4 in8_5) at4 (g := (mkF m 8 #[.val (.ref ab), .val (.int xi)] [(.int xi), (.ref ab)])) rfl rfl (hb hby d23_8) _ k_) ?_
  refine own_Goes.via (T' := T2) (g' := (mkF m 12 #[.val (.ref ab), .val (.int xi)] [(.int (255 : Int32)), (.int (B xi.toNatClampNeg))])) (fun t_ k_ => XS.sipush X2.here hx rfl (hb hby d23_9) k_) ?_
  refine own_Goes.via (T' := T2) (g' := (mkF m 13 #[.val (.ref ab), .val (.int xi)] [(.int ((B xi.toNatClampNeg) &&& (255 : Int32)))])) (fun t_ k_ => XS.iand X2.here hx rfl (hb hby d23_12) rfl k_) ?_
  refine own_Goes.via (T' := T2) (g' := (mkF m 14 #[.val (.ref ab), .val (.int xi)] [(.int (((B xi.toNatClampNeg) &&& (255 : Int32)).toUInt32.toUInt16.toUInt32.toInt32))])) (fun t_ k_ => XS.i2c X2.here hx rfl (hb hby d23_13) rfl k_) ?_
  have hnar6 : nar .char (((B xi.toNatClampNeg) &&& (255 : Int32)).toUInt32.toUInt16.toUInt32.toInt32) = (((B xi.toNatClampNeg) &&& (255 : Int32)).toUInt32.toUInt16.toUInt32.toInt32) := own_narc _
  obtain ⟨fs, hr, hrun, hended, hW, hsame⟩ := X2.leave (v := some (.int (((B xi.toNatClampNeg) &&& (255 : Int32)).toUInt32.toUInt16.toUInt32.toInt32))) (fun h => by rw [Bd.returns] at h; cases h)
  refine own_Goes.fin (retN X2 hx (t := .char) Bd.returns (by simp) (hb hby d23_14) (by rw [hnar6]; exact hr)) hrun hended ?_
  subst hPd
  refine ⟨_, _, rfl, ?_, ⟨_, rfl⟩, hW, hsame.mono (by decide) (by decide)⟩
  show Q23 Z ab xi wsf xl B h0 n0 _ T2.heap _
  rw [hh2]
  exact ⟨(by first | rfl | (simp only [])), N2, rfl⟩
theorem d21_0 : decode jdk_42_method_56_code 0 = .ok (.aload_n 0, 1) := by decide +kernel
theorem d21_1 : decode jdk_42_method_56_code 1 = .ok (.invokevirtual 492, 3) := by decide +kernel
theorem d21_4 : decode jdk_42_method_56_code 4 = .ok (.ifCond .eq 12, 3) := by decide +kernel
theorem d21_7 : decode jdk_42_method_56_code 7 = .ok (.aload_n 0, 1) := by decide +kernel
theorem d21_8 : decode jdk_42_method_56_code 8 = .ok (.getfield 9, 3) := by decide +kernel
theorem d21_11 : decode jdk_42_method_56_code 11 = .ok (.iload_n 1, 1) := by decide +kernel
theorem d21_12 : decode jdk_42_method_56_code 12 = .ok (.invokestatic 495, 3) := by decide +kernel
theorem d21_15 : decode jdk_42_method_56_code 15 = .ok (.ireturn, 1) := by decide +kernel
theorem pn_21 : plainName "java/lang/String" = true := by first | (simp [plainName, overriddenIn]; done) | decide +kernel
theorem pd_21_0 : parseMethodDescriptor "()Z" = some ⟨[], some .boolean⟩ := by decide +kernel
theorem pd_21_1 : parseMethodDescriptor "([BI)C" = some ⟨[(.array .byte), .int], some .char⟩ := by decide +kernel
theorem ef_21 (m : MethodId) (ao : Addr) (xi : Int32) : entryFrame m #[(.ref ao), (.int xi)] 2 = mkF m 0 #[.val (.ref ao), .val (.int xi)] [] := by first | (simp [entryFrame, mkF, argsToLocals, Value.category]; done) | rfl
def Q21 (Z : State) (ao : Addr) (xi : Int32) (xcs : Int32) (wsf : Value) (bz : Addr) (xl : Int32) (B : Nat → Int32) (h0 : Heap) (n0 : Nat) (v : Option Value) (h : Heap) (L : List Loc) : Prop := v = some (.int (own_ch (B xi.toNatClampNeg))) ∧ Fr n0 L ∧ h = h0
set_option maxRecDepth 65536 in
set_option maxHeartbeats 40000000 in
theorem rm21 (l : Launch) (Z : State) (a0 : Array Value) (hw : ∀ d ∈ tables_1, d.before a0 Z = true) (ws : List Jvm.Cond) (ao : Addr) (xi : Int32) (xcs : Int32) (wsf : Value) (bz : Addr) (xl : Int32) (B : Nat → Int32) (h0 : Heap) (n0 : Nat) (Z0 : n0 ≤ h0.size) (PF0 : Exa Z h0 ao "java/lang/String") (PF1 : Fld Z h0 ao "java/lang/String" "value" "[B" (.ref bz)) (PF2 : Fld Z h0 ao "java/lang/String" "coder" "B" (.int (0 : Int32))) (PF3 : own_Gi Z h0 bz .byte xl B) (OL : Old Z n0 h0) (hi : ¬ xi < 0 ∧ xi < xl) (S_cs : Sta Z Z.heap "java/lang/String" "COMPACT_STRINGS" "Z" (.int xcs)) (hcs : ¬ (xcs = (0 : Int32))) (S_sf : Sta Z Z.heap "jdk/internal/util/Preconditions" "SIOOBE_FORMATTER" "Ljava/util/function/BiFunction;" wsf) (isr_wsf : wsf.isRef = true) :
    MetFree l (⟨"java/lang/String", "charAt", "(I)C"⟩ : MethodName) (head1 (Jvm.Cond.code (⟨"java/lang/String", "charAt", "(I)C"⟩ : MethodName) jdk_42_method_56_code 2 (some .char) :: ws) ({ frames := 3, cells := 0, slots := 0, locals := 40 } : Room)) (fun a U => a = #[(.ref ao), (.int xi)] ∧ Z.Warmed39 U.vm ∧ U.heap = h0) (fun _ _ _ _ _ => True) (fun _ U o U' => ∃ v L, o = .returned v ∧ Q21 Z ao xi xcs wsf bz xl B h0 n0 v U'.heap L ∧ FrameEnd U o U' L ({ frames := 3, cells := 0, slots := 0, locals := 40 } : Room).cells ({ frames := 3, cells := 0, slots := 0, locals := 40 } : Room).slots) := by
  refine MetFree.of_bodySF (plainFor_of_name pn_21) hisR ?_
  intro p e s m args below meth c s₁ Bd hml0 hP hK
  obtain ⟨rfl, hZ, hh⟩ := hP
  have hx := Bd.exec
  have hby := Bd.bytes
  have hml : c.maxLocals = 2 := hml0
  have hown : s.vm.findClass "java/lang/String" = some m.cls := findClass_of_methodNamed Bd.named
  have hnm := (name_of_methodNamed Bd.named Bd.method).1
  have X0 : Stand p l e ({ frames := 3, cells := 0, slots := 0, locals := 40 } : Room) s m #[(.ref ao), (.int xi)] below meth c s₁ [] 0 0 := Stand.of_body Bd
  have e0 : s₁.heap = h0 := by rw [← hh, Bd.state]; rfl
  have N0 := Fr.nil n0
  suffices G : own_Goes p.tables e below (fun o U' => ∃ v L, o = .returned v ∧ Q21 Z ao xi xcs wsf bz xl B h0 n0 v U'.heap L ∧ FrameEnd s o U' L ({ frames := 3, cells := 0, slots := 0, locals := 40 } : Room).cells ({ frames := 3, cells := 0, slots := 0, locals := 40 } : Room).slots) s₁ (mkF m 0 #[.val (.ref ao), .val (.int xi)] []) by
    obtain ⟨t2_, o2_, z1_, z2_, z3_, z4_⟩ := G
    exact ⟨t2_, o2_, castTop (ef_21 m ao xi) z1_, z2_, z3_, z4_⟩
  generalize hPd : (fun (o : Outcome) (U' : State) => ∃ v L, o = .returned v ∧ Q21 Z ao xi xcs wsf bz xl B h0 n0 v U'.heap L ∧ FrameEnd s o U' L ({ frames := 3, cells := 0, slots := 0, locals := 40 } : Room).cells ({ frames := 3, cells := 0, slots := 0, locals := 40 } : Room).slots) = P
  refine own_Goes.via (T' := s₁) (g' := (mkF m 1 #[.val (.ref ao), .val (.int xi)] [(.ref ao)])) (fun t_ k_ => XS.aloadN X0.here hx rfl (hb hby d21_0) rfl rfl k_) ?_
  obtain ⟨cq1, kq1, q1a, q1b, q1c⟩ := isOf hZ e0 PF0
  obtain ⟨_, _, ⟨T1, L1, k1, n1⟩, -, X1, ⟨Lc1, hQ1, l1, y1, z1⟩, st1⟩ := X0.virtualBack hx (y := (⟨"java/lang/String", "isLatin1", "()Z"⟩ : MethodName)) (z := (⟨"java/lang/String", "isLatin1", "()Z"⟩ : MethodName)) hown (mvT hZ (hw _ (List.mem_of_getElem? (i := 120) rfl))) (mvT hZ (hw _ (List.mem_of_getElem? (i := 121) rfl))) (notFace_of_selects (args := #[]) (mvT hZ (hw _ (List.mem_of_getElem? (i := 123) rfl)))) (mvT hZ (hw _ (List.mem_of_getElem? (i := 123) rfl))) (mvT hZ (hw _ (List.mem_of_getElem? (i := 122) rfl))) (by decide) (backOf (W := 0) (rm22 l Z a0 hw [] ao xcs h0 n0 Z0 PF2 OL S_cs hcs) hZ (hw _ (List.mem_of_getElem? (i := 124) rfl)) (hw _ (List.mem_of_getElem? (i := 38) rfl)) (by decide) (by decide)) q1a q1c (g := (mkF m 1 #[.val (.ref ao), .val (.int xi)] [(.ref ao)])) rfl (by rw [hml]; rfl) (Steps.refl _) (argsL := []) (rest := []) (lenOf pd_21_0 rfl) rfl (by show 2 * 0 + _ ≤ _; exact Nat.le_of_eq rfl) (hb hby d21_1) (fun _ _ => ⟨rfl, e0, (by decide : 0 + 0 ≤ _), (by decide : 0 + 0 ≤ _)⟩)
  dsimp only [Pt.U, Pt.locs, Pt.cells, Pt.slots] at X1 l1 y1 z1 st1 hQ1
  subst l1 y1 z1
  obtain ⟨rfl, Nq1, hh1⟩ := hQ1
  have N1 := Fr.app N0 Nq1
  refine own_Goes.via (T' := T1) (g' := (mkF m 4 #[.val (.ref ao), .val (.int xi)] [(.int (1 : Int32))])) (fun t_ k_ => st1.trans k_) ?_
  refine own_Goes.via (T' := T1) (g' := (mkF m 7 #[.val (.ref ao), .val (.int xi)] [])) (fun t_ k_ => XS.ifNo X1.here hx rfl (hb hby d21_4) rfl ((if0 _ _).trans (feq (by decide : ¬ ((1 : Int32) = (0 : Int32)))).1) k_) ?_
  refine own_Goes.via (T' := T1) (g' := (mkF m 8 #[.val (.ref ao), .val (.int xi)] [(.ref ao)])) (fun t_ k_ => XS.aloadN X1.here hx rfl (hb hby d21_7) rfl rfl k_) ?_
  obtain ⟨T2, X2, e2, st2⟩ := getF X1 hx hZ hown (host := "") (Or.inl (hw _ (List.mem_of_getElem? (i := 68) rfl))) Via.refl hh1 PF1 (g := (mkF m 8 #[.val (.ref ao), .val (.int xi)] [(.ref ao)])) rfl rfl (hb hby d21_8)
  refine own_Goes.via (T' := T2) (g' := (mkF m 11 #[.val (.ref ao), .val (.int xi)] [(.ref bz)])) (st2) ?_
  refine own_Goes.via (T' := T2) (g' := (mkF m 12 #[.val (.ref ao), .val (.int xi)] [(.int xi), (.ref bz)])) (fun t_ k_ => XS.iloadN X2.here hx rfl (hb hby d21_11) rfl k_) ?_
  have cd12_4 : ¬ xi < 0 ∧ xi < xl := by first | assumption | decide
  obtain ⟨_, _, ⟨T3, L3, k3, n3⟩, -, X3, ⟨Lc3, hQ3, l3, y3, z3⟩, st3⟩ := Jvm.LawKit.callS X2 hx (y := (⟨"java/lang/StringLatin1", "charAt", "([BI)C"⟩ : MethodName)) hown (mvT hZ (hw _ (List.mem_of_getElem? (i := 125) rfl))) (mvT hZ (hw _ (List.mem_of_getElem? (i := 126) rfl))) (mvT hZ (hw _ (List.mem_of_getElem? (i := 127) rfl))) (mvT hZ (hw _ (List.mem_of_getElem? (i := 128) rfl))) (by decide) (backOf (W := 0) (rm23 l Z a0 hw [] bz xi wsf xl B h0 n0 Z0 PF3 OL cd12_4 S_sf isr_wsf) hZ (hw _ (List.mem_of_getElem? (i := 128) rfl)) (hw _ (List.mem_of_getElem? (i := 127) rfl)) (by decide) (by decide)) (g := (mkF m 12 #[.val (.ref ao), .val (.int xi)] [(.int xi), (.ref bz)])) rfl (by rw [hml]; rfl) (argsL := [(.ref bz), (.int xi)]) (rest := []) (lenOf pd_21_1 rfl) rfl (by show 2 * 0 + _ ≤ _; exact Nat.le_of_eq rfl) (hb hby d21_12) (fun _ _ => ⟨rfl, e2, (by decide : 0 + 0 ≤ _), (by decide : 0 + 0 ≤ _)⟩)
  dsimp only [Pt.U, Pt.locs, Pt.cells, Pt.slots] at X3 l3 y3 z3 st3 hQ3
  subst l3 y3 z3
  obtain ⟨rfl, Nq3, hh3⟩ := hQ3
  have N3 := Fr.app N1 Nq3
  refine own_Goes.via (T' := T3) (g' := (mkF m 15 #[.val (.ref ao), .val (.int xi)] [(.int (own_ch (B xi.toNatClampNeg)))])) (st3) ?_
  obtain ⟨v5, hv5⟩ : ∃ z : Int32, z = (own_ch (B xi.toNatClampNeg)) := ⟨_, rfl⟩
  rw [← hv5]
  have hnar6 : nar .char v5 = v5 := by rw [hv5]; exact own_narc _
  obtain ⟨fs, hr, hrun, hended, hW, hsame⟩ := X3.leave (v := some (.int v5)) (fun h => by rw [Bd.returns] at h; cases h)
  refine own_Goes.fin (retN X3 hx (t := .char) Bd.returns (by simp) (hb hby d21_15) (by rw [hnar6]; exact hr)) hrun hended ?_
  subst hPd
  refine ⟨_, _, rfl, ?_, ⟨_, rfl⟩, hW, hsame.mono (by decide) (by decide)⟩
  show Q21 Z ao xi xcs wsf bz xl B h0 n0 _ T3.heap _
  rw [hh3]
  exact ⟨(by subst hv5; first | rfl | (simp only [])), N3, rfl⟩
theorem d16_0 : decode jdk_123_method_3_code 0 = .ok (.iload_n 1, 1) := by decide +kernel
theorem d16_1 : decode jdk_123_method_3_code 1 = .ok (.iload_n 2, 1) := by decide +kernel
theorem d16_2 : decode jdk_123_method_3_code 2 = .ok (.iadd, 1) := by decide +kernel
theorem d16_3 : decode jdk_123_method_3_code 3 = .ok (.istore_n 3, 1) := by decide +kernel
theorem d16_4 : decode jdk_123_method_3_code 4 = .ok (.iload_n 1, 1) := by decide +kernel
theorem d16_5 : decode jdk_123_method_3_code 5 = .ok (.istore 4, 2) := by decide +kernel
theorem d16_7 : decode jdk_123_method_3_code 7 = .ok (.iload 4, 2) := by decide +kernel
theorem d16_9 : decode jdk_123_method_3_code 9 = .ok (.iload_n 3, 1) := by decide +kernel
theorem d16_10 : decode jdk_123_method_3_code 10 = .ok (.if_icmp .ge 21, 3) := by decide +kernel
theorem d16_13 : decode jdk_123_method_3_code 13 = .ok (.aload_n 0, 1) := by decide +kernel
theorem d16_14 : decode jdk_123_method_3_code 14 = .ok (.iload 4, 2) := by decide +kernel
theorem d16_16 : decode jdk_123_method_3_code 16 = .ok (.baload, 1) := by decide +kernel
theorem d16_17 : decode jdk_123_method_3_code 17 = .ok (.ifCond .ge 8, 3) := by decide +kernel
theorem d16_25 : decode jdk_123_method_3_code 25 = .ok (.iinc 4 1, 3) := by decide +kernel
theorem d16_28 : decode jdk_123_method_3_code 28 = .ok (.goto (-21), 3) := by decide +kernel
theorem d16_31 : decode jdk_123_method_3_code 31 = .ok (.iload_n 2, 1) := by decide +kernel
theorem d16_32 : decode jdk_123_method_3_code 32 = .ok (.ireturn, 1) := by decide +kernel
theorem pn_16 : plainName "java/lang/StringCoding" = true := by first | (simp [plainName, overriddenIn]; done) | decide +kernel
theorem ef_16 (m : MethodId) (ab : Addr) (xo : Int32) (xl : Int32) : entryFrame m #[(.ref ab), (.int xo), (.int xl)] 5 = mkF m 0 #[.val (.ref ab), .val (.int xo), .val (.int xl), .unset, .unset] [] := by first | (simp [entryFrame, mkF, argsToLocals, Value.category]; done) | rfl
def Q16 (Z : State) (ab : Addr) (xo : Int32) (xl : Int32) (xn : Int32) (B : Nat → Int32) (h0 : Heap) (n0 : Nat) (v : Option Value) (h : Heap) (L : List Loc) : Prop := v = some (.int xl) ∧ Fr n0 L ∧ h = h0
set_option maxRecDepth 65536 in
theorem own_pl16_0 {xo : Int32} {xl : Int32} {xn : Int32} {B : Nat → Int32} {v1 : Int32} (hv1 : v1 = (xo + xl)) (hWn : own_win xo xl xn) (hP : own_nn B xo xl) : xo.toInt ≤ xo.toInt ∧ xo.toInt ≤ xo.toInt + xl.toInt := by
  obtain ⟨a, b, c, d⟩ := hWn
  omega
set_option maxRecDepth 65536 in
theorem own_pl16_1 {xo : Int32} {xl : Int32} {xn : Int32} {B : Nat → Int32} {xi : Int32} {v1 : Int32} (hv1 : v1 = (xo + xl)) (hWn : own_win xo xl xn) (hP : own_nn B xo xl) (hiL7 : xo.toInt ≤ xi.toInt ∧ xi.toInt ≤ xo.toInt + xl.toInt) : ¬ ((xo.toInt + xl.toInt - xi.toInt).toNat + 1 ≤ 0) := by
  omega
set_option maxRecDepth 65536 in
theorem own_pl16_2 {xo : Int32} {xl : Int32} {xn : Int32} {B : Nat → Int32} {xi : Int32} {f2 : Nat} {v1 : Int32} (hv1 : v1 = (xo + xl)) (hc10_3 : xi < v1) (hWn : own_win xo xl xn) (hP : own_nn B xo xl) (hmL7 : (xo.toInt + xl.toInt - xi.toInt).toNat + 1 ≤ f2 + 1) (hiL7 : xo.toInt ≤ xi.toInt ∧ xi.toInt ≤ xo.toInt + xl.toInt) : ¬ xi < 0 ∧ xi < xn := by
  obtain ⟨a, b, c, d⟩ := id hWn
  have q := own_lt.mp hc10_3
  rw [hv1, hWn.add] at q
  exact own_in (by omega) (by omega)
set_option maxRecDepth 65536 in
theorem own_pl16_3 {xo : Int32} {xl : Int32} {xn : Int32} {B : Nat → Int32} {xi : Int32} {f2 : Nat} {v1 : Int32} (hv1 : v1 = (xo + xl)) (hc10_3 : xi < v1) (hWn : own_win xo xl xn) (hP : own_nn B xo xl) (hmL7 : (xo.toInt + xl.toInt - xi.toInt).toNat + 1 ≤ f2 + 1) (hiL7 : xo.toInt ≤ xi.toInt ∧ xi.toInt ≤ xo.toInt + xl.toInt) (in16_5 : ¬ xi < 0 ∧ xi < xn) : ¬ ((B xi.toNatClampNeg) < (0 : Int32)) := by
  obtain ⟨a, b, c, d⟩ := id hWn
  have q := own_lt.mp hc10_3
  rw [hv1, hWn.add] at q
  rw [own_lt, own_z]
  have y := own_clI (p := xi) (by omega)
  have z := hP xi.toNatClampNeg (by omega) (by omega)
  omega
set_option maxRecDepth 65536 in
theorem own_pl16_4 {xo : Int32} {xl : Int32} {xn : Int32} {B : Nat → Int32} {xi : Int32} {f2 : Nat} {v1 : Int32} {v7 : Int32} (hv1 : v1 = (xo + xl)) (hv7 : v7 = (xi + (1 : Int32))) (hc10_3 : xi < v1) (hWn : own_win xo xl xn) (hP : own_nn B xo xl) (hmL7 : (xo.toInt + xl.toInt - xi.toInt).toNat + 1 ≤ f2 + 1) (hiL7 : xo.toInt ≤ xi.toInt ∧ xi.toInt ≤ xo.toInt + xl.toInt) (in16_5 : ¬ xi < 0 ∧ xi < xn) : (xo.toInt + xl.toInt - v7.toInt).toNat + 1 ≤ f2 := by
  have e := own_inc hc10_3
  rw [← hv7] at e
  have q := own_lt.mp hc10_3
  rw [hv1, hWn.add] at q
  omega
set_option maxRecDepth 65536 in
theorem own_pl16_5 {xo : Int32} {xl : Int32} {xn : Int32} {B : Nat → Int32} {xi : Int32} {f2 : Nat} {v1 : Int32} {v7 : Int32} (hv1 : v1 = (xo + xl)) (hv7 : v7 = (xi + (1 : Int32))) (hc10_3 : xi < v1) (hWn : own_win xo xl xn) (hP : own_nn B xo xl) (hmL7 : (xo.toInt + xl.toInt - xi.toInt).toNat + 1 ≤ f2 + 1) (hiL7 : xo.toInt ≤ xi.toInt ∧ xi.toInt ≤ xo.toInt + xl.toInt) (in16_5 : ¬ xi < 0 ∧ xi < xn) : xo.toInt ≤ v7.toInt ∧ v7.toInt ≤ xo.toInt + xl.toInt := by
  have e := own_inc hc10_3
  rw [← hv7] at e
  have q := own_lt.mp hc10_3
  rw [hv1, hWn.add] at q
  omega
set_option maxRecDepth 65536 in
set_option maxHeartbeats 40000000 in
theorem rm16 (l : Launch) (Z : State) (a0 : Array Value) (hw : ∀ d ∈ tables_1, d.before a0 Z = true) (ws : List Jvm.Cond) (ab : Addr) (xo : Int32) (xl : Int32) (xn : Int32) (B : Nat → Int32) (h0 : Heap) (n0 : Nat) (Z0 : n0 ≤ h0.size) (PF0 : own_Gi Z h0 ab .byte xn B) (hWn : own_win xo xl xn) (hP : own_nn B xo xl) :
    MetFree l (⟨"java/lang/StringCoding", "countPositives", "([BII)I"⟩ : MethodName) (head1 (Jvm.Cond.code (⟨"java/lang/StringCoding", "countPositives", "([BII)I"⟩ : MethodName) jdk_123_method_3_code 5 (some .int) :: ws) ({ frames := 0, cells := 0, slots := 0, locals := 0 } : Room)) (fun a U => a = #[(.ref ab), (.int xo), (.int xl)] ∧ Z.Warmed39 U.vm ∧ U.heap = h0) (fun _ _ _ _ _ => True) (fun _ U o U' => ∃ v L, o = .returned v ∧ Q16 Z ab xo xl xn B h0 n0 v U'.heap L ∧ FrameEnd U o U' L ({ frames := 0, cells := 0, slots := 0, locals := 0 } : Room).cells ({ frames := 0, cells := 0, slots := 0, locals := 0 } : Room).slots) := by
  refine MetFree.of_bodySF (plainFor_of_name pn_16) hisR ?_
  intro p e s m args below meth c s₁ Bd hml0 hP hK
  obtain ⟨rfl, hZ, hh⟩ := hP
  have hx := Bd.exec
  have hby := Bd.bytes
  have hml : c.maxLocals = 5 := hml0
  have hown : s.vm.findClass "java/lang/StringCoding" = some m.cls := findClass_of_methodNamed Bd.named
  have hnm := (name_of_methodNamed Bd.named Bd.method).1
  have X0 : Stand p l e ({ frames := 0, cells := 0, slots := 0, locals := 0 } : Room) s m #[(.ref ab), (.int xo), (.int xl)] below meth c s₁ [] 0 0 := Stand.of_body Bd
  have e0 : s₁.heap = h0 := by rw [← hh, Bd.state]; rfl
  have N0 := Fr.nil n0
  suffices G : own_Goes p.tables e below (fun o U' => ∃ v L, o = .returned v ∧ Q16 Z ab xo xl xn B h0 n0 v U'.heap L ∧ FrameEnd s o U' L ({ frames := 0, cells := 0, slots := 0, locals := 0 } : Room).cells ({ frames := 0, cells := 0, slots := 0, locals := 0 } : Room).slots) s₁ (mkF m 0 #[.val (.ref ab), .val (.int xo), .val (.int xl), .unset, .unset] []) by
    obtain ⟨t2_, o2_, z1_, z2_, z3_, z4_⟩ := G
    exact ⟨t2_, o2_, castTop (ef_16 m ab xo xl) z1_, z2_, z3_, z4_⟩
  generalize hPd : (fun (o : Outcome) (U' : State) => ∃ v L, o = .returned v ∧ Q16 Z ab xo xl xn B h0 n0 v U'.heap L ∧ FrameEnd s o U' L ({ frames := 0, cells := 0, slots := 0, locals := 0 } : Room).cells ({ frames := 0, cells := 0, slots := 0, locals := 0 } : Room).slots) = P
  refine own_Goes.via (T' := s₁) (g' := (mkF m 1 #[.val (.ref ab), .val (.int xo), .val (.int xl), .unset, .unset] [(.int xo)])) (fun t_ k_ => XS.iloadN X0.here hx rfl (hb hby d16_0) rfl k_) ?_
  refine own_Goes.via (T' := s₁) (g' := (mkF m 2 #[.val (.ref ab), .val (.int xo), .val (.int xl), .unset, .unset] [(.int xl), (.int xo)])) (fun t_ k_ => XS.iloadN X0.here hx rfl (hb hby d16_1) rfl k_) ?_
  refine own_Goes.via (T' := s₁) (g' := (mkF m 3 #[.val (.ref ab), .val (.int xo), .val (.int xl), .unset, .unset] [(.int (xo + xl))])) (fun t_ k_ => XS.iadd X0.here hx rfl (hb hby d16_2) rfl k_) ?_
  refine own_Goes.via (T' := s₁) (g' := (mkF m 4 #[.val (.ref ab), .val (.int xo), .val (.int xl), .val (.int (xo + xl)), .unset] [])) (fun t_ k_ => XS.istoreN X0.here hx rfl (hb hby d16_3) rfl (l' := #[.val (.ref ab), .val (.int xo), .val (.int xl), .val (.int (xo + xl)), .unset]) rfl k_) ?_
  obtain ⟨v1, hv1⟩ : ∃ z : Int32, z = (xo + xl) := ⟨_, rfl⟩
  rw [← hv1]
  refine own_Goes.via (T' := s₁) (g' := (mkF m 5 #[.val (.ref ab), .val (.int xo), .val (.int xl), .val (.int v1), .unset] [(.int xo)])) (fun t_ k_ => XS.iloadN X0.here hx rfl (hb hby d16_4) rfl k_) ?_
  refine own_Goes.via (T' := s₁) (g' := (mkF m 7 #[.val (.ref ab), .val (.int xo), .val (.int xl), .val (.int v1), .val (.int xo)] [])) (fun t_ k_ => XS.istore X0.here hx rfl (hb hby d16_5) rfl (l' := #[.val (.ref ab), .val (.int xo), .val (.int xl), .val (.int v1), .val (.int xo)]) rfl k_) ?_
  suffices LP7 : ∀ (f2 : Nat) (xi : Int32) (T2 : State) (L2 : List Loc) (X2 : Stand p l e ({ frames := 0, cells := 0, slots := 0, locals := 0 } : Room) s m #[(.ref ab), (.int xo), (.int xl)] below meth c T2 L2 0 0) (e2 : T2.heap = h0) (N2 : Fr n0 L2) (hmL7 : (xo.toInt + xl.toInt - xi.toInt).toNat + 1 ≤ f2) (hiL7 : xo.toInt ≤ xi.toInt ∧ xi.toInt ≤ xo.toInt + xl.toInt), own_Goes p.tables e below P T2 (mkF m 7 #[.val (.ref ab), .val (.int xo), .val (.int xl), .val (.int v1), .val (.int xi)] []) by
    exact LP7 _ xo s₁ _ X0 e0 N0 (Nat.le_refl _) (own_pl16_0 hv1 hWn hP)
  intro f2
  induction f2 with
  | zero =>
    intro xi T2 L2 X2 e2 N2 hmL7 hiL7
    exact absurd hmL7 (own_pl16_1 hv1 hWn hP hiL7)
  | succ f2 IH7 =>
    intro xi T2 L2 X2 e2 N2 hmL7 hiL7
    refine own_Goes.via (T' := T2) (g' := (mkF m 9 #[.val (.ref ab), .val (.int xo), .val (.int xl), .val (.int v1), .val (.int xi)] [(.int xi)])) (fun t_ k_ => XS.iload X2.here hx rfl (hb hby d16_7) rfl k_) ?_
    refine own_Goes.via (T' := T2) (g' := (mkF m 10 #[.val (.ref ab), .val (.int xo), .val (.int xl), .val (.int v1), .val (.int xi)] [(.int v1), (.int xi)])) (fun t_ k_ => XS.iloadN X2.here hx rfl (hb hby d16_9) rfl k_) ?_
    by_cases hc10_3 : xi < v1
    · refine own_Goes.via (T' := T2) (g' := (mkF m 13 #[.val (.ref ab), .val (.int xo), .val (.int xl), .val (.int v1), .val (.int xi)] [])) (fun t_ k_ => XS.icmpNo X2.here hx rfl (hb hby d16_10) rfl (tlt hc10_3).2.1 k_) ?_
      refine own_Goes.via (T' := T2) (g' := (mkF m 14 #[.val (.ref ab), .val (.int xo), .val (.int xl), .val (.int v1), .val (.int xi)] [(.ref ab)])) (fun t_ k_ => XS.aloadN X2.here hx rfl (hb hby d16_13) rfl rfl k_) ?_
      refine own_Goes.via (T' := T2) (g' := (mkF m 16 #[.val (.ref ab), .val (.int xo), .val (.int xl), .val (.int v1), .val (.int xi)] [(.int xi), (.ref ab)])) (fun t_ k_ => XS.iload X2.here hx rfl (hb hby d16_14) rfl k_) ?_
      have in16_5 : ¬ xi < 0 ∧ xi < xn := own_pl16_2 hv1 hc10_3 hWn hP hmL7 hiL7
      obtain ⟨cl4, Ar4, Sl4, at4⟩ := PF0.rd in16_5
      refine own_Goes.via (T' := T2) (g' := (mkF m 17 #[.val (.ref ab), .val (.int xo), .val (.int xl), .val (.int v1), .val (.int xi)] [(.int (B xi.toNatClampNeg))])) (fun t_ k_ => X2.baloadBytes hx (j := xi) (v := (.int (B xi.toNatClampNeg))) (by rw [e2]; exact Ar4.1) (State.isArrayOf_alike hZ.alike Ar4.2.1) Ar4.2.2 (inb_of Sl4 in16_5) at4 (g := (mkF m 16 #[.val (.ref ab), .val (.int xo), .val (.int xl), .val (.int v1), .val (.int xi)] [(.int xi), (.ref ab)])) rfl rfl (hb hby d16_16) _ k_) ?_
      have hd17_6 : ¬ ((B xi.toNatClampNeg) < (0 : Int32)) := own_pl16_3 hv1 hc10_3 hWn hP hmL7 hiL7 in16_5
      refine own_Goes.via (T' := T2) (g' := (mkF m 25 #[.val (.ref ab), .val (.int xo), .val (.int xl), .val (.int v1), .val (.int xi)] [])) (fun t_ k_ => XS.ifYes X2.here hx rfl (pc0 := 17) (pc' := 25) rfl (hb hby d16_17) rfl ((if0 _ _).trans (flt hd17_6).2.1) (by decide) (by decide) k_) ?_
      refine own_Goes.via (T' := T2) (g' := (mkF m 28 #[.val (.ref ab), .val (.int xo), .val (.int xl), .val (.int v1), .val (.int (xi + (1 : Int32)))] [])) (fun t_ k_ => XS.iinc X2.here hx rfl (hb hby d16_25) rfl (l' := #[.val (.ref ab), .val (.int xo), .val (.int xl), .val (.int v1), .val (.int (xi + (1 : Int32)))]) rfl k_) ?_
      obtain ⟨v7, hv7⟩ : ∃ z : Int32, z = (xi + (1 : Int32)) := ⟨_, rfl⟩
      rw [← hv7]
      refine own_Goes.via (T' := T2) (g' := (mkF m 7 #[.val (.ref ab), .val (.int xo), .val (.int xl), .val (.int v1), .val (.int v7)] [])) (fun t_ k_ => XS.goto X2.here hx rfl (pc0 := 28) (pc' := 7) rfl (hb hby d16_28) (by decide) (by decide) k_) ?_
      exact IH7 v7 T2 _ X2 e2 N2 (own_pl16_4 hv1 hv7 hc10_3 hWn hP hmL7 hiL7 in16_5) (own_pl16_5 hv1 hv7 hc10_3 hWn hP hmL7 hiL7 in16_5)
    · refine own_Goes.via (T' := T2) (g' := (mkF m 31 #[.val (.ref ab), .val (.int xo), .val (.int xl), .val (.int v1), .val (.int xi)] [])) (fun t_ k_ => XS.icmpYes X2.here hx rfl (pc0 := 10) (pc' := 31) rfl (hb hby d16_10) rfl (flt hc10_3).2.1 (by decide) (by decide) k_) ?_
      refine own_Goes.via (T' := T2) (g' := (mkF m 32 #[.val (.ref ab), .val (.int xo), .val (.int xl), .val (.int v1), .val (.int xi)] [(.int xl)])) (fun t_ k_ => XS.iloadN X2.here hx rfl (hb hby d16_31) rfl k_) ?_
      obtain ⟨fs, hr, hrun, hended, hW, hsame⟩ := X2.leave (v := some (.int xl)) (fun h => by rw [Bd.returns] at h; cases h)
      refine own_Goes.fin (retOut X2 hx Bd.returns rfl (Or.inl ⟨rfl, Or.inl rfl, _, rfl⟩) (hb hby d16_32) hr) hrun hended ?_
      subst hPd
      refine ⟨_, _, rfl, ?_, ⟨_, rfl⟩, hW, hsame.mono (by decide) (by decide)⟩
      show Q16 Z ab xo xl xn B h0 n0 _ T2.heap _
      rw [e2]
      exact ⟨(by subst hv1; first | rfl | (simp only [if_neg hc10_3])), N2, rfl⟩
theorem d15_0 : decode jdk_123_method_2_code 0 = .ok (.aload_n 0, 1) := by decide +kernel
theorem d15_1 : decode jdk_123_method_2_code 1 = .ok (.iload_n 1, 1) := by decide +kernel
theorem d15_2 : decode jdk_123_method_2_code 2 = .ok (.iload_n 2, 1) := by decide +kernel
theorem d15_3 : decode jdk_123_method_2_code 3 = .ok (.invokestatic 7, 3) := by decide +kernel
theorem d15_6 : decode jdk_123_method_2_code 6 = .ok (.iload_n 2, 1) := by decide +kernel
theorem d15_7 : decode jdk_123_method_2_code 7 = .ok (.if_icmp .eq 7, 3) := by decide +kernel
theorem d15_14 : decode jdk_123_method_2_code 14 = .ok (.iconst 0, 1) := by decide +kernel
theorem d15_15 : decode jdk_123_method_2_code 15 = .ok (.ireturn, 1) := by decide +kernel
theorem pn_15 : plainName "java/lang/StringCoding" = true := by first | (simp [plainName, overriddenIn]; done) | decide +kernel
theorem pd_15_0 : parseMethodDescriptor "([BII)I" = some ⟨[(.array .byte), .int, .int], some .int⟩ := by decide +kernel
theorem ef_15 (m : MethodId) (ab : Addr) (xo : Int32) (xl : Int32) : entryFrame m #[(.ref ab), (.int xo), (.int xl)] 3 = mkF m 0 #[.val (.ref ab), .val (.int xo), .val (.int xl)] [] := by first | (simp [entryFrame, mkF, argsToLocals, Value.category]; done) | rfl
def Q15 (Z : State) (ab : Addr) (xo : Int32) (xl : Int32) (xn : Int32) (B : Nat → Int32) (h0 : Heap) (n0 : Nat) (v : Option Value) (h : Heap) (L : List Loc) : Prop := v = some (.int (0 : Int32)) ∧ Fr n0 L ∧ h = h0
set_option maxRecDepth 65536 in
set_option maxHeartbeats 40000000 in
theorem rm15 (l : Launch) (Z : State) (a0 : Array Value) (hw : ∀ d ∈ tables_1, d.before a0 Z = true) (ws : List Jvm.Cond) (ab : Addr) (xo : Int32) (xl : Int32) (xn : Int32) (B : Nat → Int32) (h0 : Heap) (n0 : Nat) (Z0 : n0 ≤ h0.size) (PF0 : own_Gi Z h0 ab .byte xn B) (hWn : own_win xo xl xn) (hP : own_nn B xo xl) :
    MetFree l (⟨"java/lang/StringCoding", "hasNegatives", "([BII)Z"⟩ : MethodName) (head1 (Jvm.Cond.code (⟨"java/lang/StringCoding", "hasNegatives", "([BII)Z"⟩ : MethodName) jdk_123_method_2_code 3 (some .boolean) :: ws) ({ frames := 1, cells := 0, slots := 0, locals := 16 } : Room)) (fun a U => a = #[(.ref ab), (.int xo), (.int xl)] ∧ Z.Warmed39 U.vm ∧ U.heap = h0) (fun _ _ _ _ _ => True) (fun _ U o U' => ∃ v L, o = .returned v ∧ Q15 Z ab xo xl xn B h0 n0 v U'.heap L ∧ FrameEnd U o U' L ({ frames := 1, cells := 0, slots := 0, locals := 16 } : Room).cells ({ frames := 1, cells := 0, slots := 0, locals := 16 } : Room).slots) := by
  refine MetFree.of_bodySF (plainFor_of_name pn_15) hisR ?_
  intro p e s m args below meth c s₁ Bd hml0 hP hK
  obtain ⟨rfl, hZ, hh⟩ := hP
  have hx := Bd.exec
  have hby := Bd.bytes
  have hml : c.maxLocals = 3 := hml0
  have hown : s.vm.findClass "java/lang/StringCoding" = some m.cls := findClass_of_methodNamed Bd.named
  have hnm := (name_of_methodNamed Bd.named Bd.method).1
  have X0 : Stand p l e ({ frames := 1, cells := 0, slots := 0, locals := 16 } : Room) s m #[(.ref ab), (.int xo), (.int xl)] below meth c s₁ [] 0 0 := Stand.of_body Bd
  have e0 : s₁.heap = h0 := by rw [← hh, Bd.state]; rfl
  have N0 := Fr.nil n0
  suffices G : own_Goes p.tables e below (fun o U' => ∃ v L, o = .returned v ∧ Q15 Z ab xo xl xn B h0 n0 v U'.heap L ∧ FrameEnd s o U' L ({ frames := 1, cells := 0, slots := 0, locals := 16 } : Room).cells ({ frames := 1, cells := 0, slots := 0, locals := 16 } : Room).slots) s₁ (mkF m 0 #[.val (.ref ab), .val (.int xo), .val (.int xl)] []) by
    obtain ⟨t2_, o2_, z1_, z2_, z3_, z4_⟩ := G
    exact ⟨t2_, o2_, castTop (ef_15 m ab xo xl) z1_, z2_, z3_, z4_⟩
  generalize hPd : (fun (o : Outcome) (U' : State) => ∃ v L, o = .returned v ∧ Q15 Z ab xo xl xn B h0 n0 v U'.heap L ∧ FrameEnd s o U' L ({ frames := 1, cells := 0, slots := 0, locals := 16 } : Room).cells ({ frames := 1, cells := 0, slots := 0, locals := 16 } : Room).slots) = P
  refine own_Goes.via (T' := s₁) (g' := (mkF m 1 #[.val (.ref ab), .val (.int xo), .val (.int xl)] [(.ref ab)])) (fun t_ k_ => XS.aloadN X0.here hx rfl (hb hby d15_0) rfl rfl k_) ?_
  refine own_Goes.via (T' := s₁) (g' := (mkF m 2 #[.val (.ref ab), .val (.int xo), .val (.int xl)] [(.int xo), (.ref ab)])) (fun t_ k_ => XS.iloadN X0.here hx rfl (hb hby d15_1) rfl k_) ?_
  refine own_Goes.via (T' := s₁) (g' := (mkF m 3 #[.val (.ref ab), .val (.int xo), .val (.int xl)] [(.int xl), (.int xo), (.ref ab)])) (fun t_ k_ => XS.iloadN X0.here hx rfl (hb hby d15_2) rfl k_) ?_
  have cd3_2 : own_win xo xl xn := by first | assumption | decide
  have cd3_3 : own_nn B xo xl := by first | assumption | decide
  obtain ⟨_, _, ⟨T1, L1, k1, n1⟩, -, X1, ⟨Lc1, hQ1, l1, y1, z1⟩, st1⟩ := Jvm.LawKit.callS X0 hx (y := (⟨"java/lang/StringCoding", "countPositives", "([BII)I"⟩ : MethodName)) hown (mvT hZ (hw _ (List.mem_of_getElem? (i := 94) rfl))) (mvT hZ (hw _ (List.mem_of_getElem? (i := 95) rfl))) (mvT hZ (hw _ (List.mem_of_getElem? (i := 92) rfl))) (mvT hZ (hw _ (List.mem_of_getElem? (i := 96) rfl))) (by decide) (backOf (W := 0) (rm16 l Z a0 hw [] ab xo xl xn B h0 n0 Z0 PF0 cd3_2 cd3_3) hZ (hw _ (List.mem_of_getElem? (i := 96) rfl)) (hw _ (List.mem_of_getElem? (i := 92) rfl)) (by decide) (by decide)) (g := (mkF m 3 #[.val (.ref ab), .val (.int xo), .val (.int xl)] [(.int xl), (.int xo), (.ref ab)])) rfl (by rw [hml]; rfl) (argsL := [(.ref ab), (.int xo), (.int xl)]) (rest := []) (lenOf pd_15_0 rfl) rfl (by show 2 * 0 + _ ≤ _; exact Nat.le_of_eq rfl) (hb hby d15_3) (fun _ _ => ⟨rfl, e0, (by decide : 0 + 0 ≤ _), (by decide : 0 + 0 ≤ _)⟩)
  dsimp only [Pt.U, Pt.locs, Pt.cells, Pt.slots] at X1 l1 y1 z1 st1 hQ1
  subst l1 y1 z1
  obtain ⟨rfl, Nq1, hh1⟩ := hQ1
  have N1 := Fr.app N0 Nq1
  refine own_Goes.via (T' := T1) (g' := (mkF m 6 #[.val (.ref ab), .val (.int xo), .val (.int xl)] [(.int xl)])) (st1) ?_
  refine own_Goes.via (T' := T1) (g' := (mkF m 7 #[.val (.ref ab), .val (.int xo), .val (.int xl)] [(.int xl), (.int xl)])) (fun t_ k_ => XS.iloadN X1.here hx rfl (hb hby d15_6) rfl k_) ?_
  have hd7_4 : xl = xl := rfl
  refine own_Goes.via (T' := T1) (g' := (mkF m 14 #[.val (.ref ab), .val (.int xo), .val (.int xl)] [])) (fun t_ k_ => XS.icmpYes X1.here hx rfl (pc0 := 7) (pc' := 14) rfl (hb hby d15_7) rfl (teq hd7_4).1 (by decide) (by decide) k_) ?_
  refine own_Goes.via (T' := T1) (g' := (mkF m 15 #[.val (.ref ab), .val (.int xo), .val (.int xl)] [(.int (0 : Int32))])) (fun t_ k_ => XS.iconst X1.here hx rfl (hb hby d15_14) k_) ?_
  obtain ⟨fs, hr, hrun, hended, hW, hsame⟩ := X1.leave (v := some (.int (0 : Int32))) (fun h => by rw [Bd.returns] at h; cases h)
  refine own_Goes.fin (retN X1 hx (t := .boolean) Bd.returns (by simp) (hb hby d15_15) hr) hrun hended ?_
  subst hPd
  refine ⟨_, _, rfl, ?_, ⟨_, rfl⟩, hW, hsame.mono (by decide) (by decide)⟩
  show Q15 Z ab xo xl xn B h0 n0 _ T1.heap _
  rw [hh1]
  exact ⟨(by first | rfl | (simp only [])), N1, rfl⟩
theorem d20_0 : decode jdk_29_method_69_code 0 = .ok (.iload_n 0, 1) := by decide +kernel
theorem d20_1 : decode jdk_29_method_69_code 1 = .ok (.iload_n 1, 1) := by decide +kernel
theorem d20_2 : decode jdk_29_method_69_code 2 = .ok (.if_icmp .gt 7, 3) := by decide +kernel
theorem d20_5 : decode jdk_29_method_69_code 5 = .ok (.iload_n 0, 1) := by decide +kernel
theorem d20_6 : decode jdk_29_method_69_code 6 = .ok (.goto 4, 3) := by decide +kernel
theorem d20_9 : decode jdk_29_method_69_code 9 = .ok (.iload_n 1, 1) := by decide +kernel
theorem d20_10 : decode jdk_29_method_69_code 10 = .ok (.ireturn, 1) := by decide +kernel
theorem ef_20 (m : MethodId) (xa : Int32) (xb : Int32) : entryFrame m #[(.int xa), (.int xb)] 2 = mkF m 0 #[.val (.int xa), .val (.int xb)] [] := by first | (simp [entryFrame, mkF, argsToLocals, Value.category]; done) | rfl
def own_f20 (xa : Int32) (xb : Int32) : Int32 := (if xb < xa then xb else xa)
def Q20 (Z : State) (xa : Int32) (xb : Int32) (h0 : Heap) (n0 : Nat) (v : Option Value) (h : Heap) (L : List Loc) : Prop := v = some (.int (own_f20 xa xb)) ∧ Fr n0 L ∧ h = h0
set_option maxRecDepth 65536 in
set_option maxHeartbeats 40000000 in
theorem rm20 (l : Launch) (Z : State) (a0 : Array Value) (hw : ∀ d ∈ tables_1, d.before a0 Z = true) (ws : List Jvm.Cond) (xa : Int32) (xb : Int32) (h0 : Heap) (n0 : Nat) (Z0 : n0 ≤ h0.size) :
    MetFree l (⟨"java/lang/Math", "min", "(II)I"⟩ : MethodName) (head1 (Jvm.Cond.code (⟨"java/lang/Math", "min", "(II)I"⟩ : MethodName) jdk_29_method_69_code 2 (some .int) :: ws) ({ frames := 0, cells := 0, slots := 0, locals := 0 } : Room)) (fun a U => a = #[(.int xa), (.int xb)] ∧ Z.Warmed39 U.vm ∧ U.heap = h0) (fun _ _ _ _ _ => True) (fun _ U o U' => ∃ v L, o = .returned v ∧ Q20 Z xa xb h0 n0 v U'.heap L ∧ FrameEnd U o U' L ({ frames := 0, cells := 0, slots := 0, locals := 0 } : Room).cells ({ frames := 0, cells := 0, slots := 0, locals := 0 } : Room).slots) := by
  refine MetFree.of_bodySF (Jvm.Free.JP.mathPlain rfl (by decide +kernel)) hisR ?_
  intro p e s m args below meth c s₁ Bd hml0 hP hK
  obtain ⟨rfl, hZ, hh⟩ := hP
  have hx := Bd.exec
  have hby := Bd.bytes
  have hml : c.maxLocals = 2 := hml0
  have hown : s.vm.findClass "java/lang/Math" = some m.cls := findClass_of_methodNamed Bd.named
  have hnm := (name_of_methodNamed Bd.named Bd.method).1
  have X0 : Stand p l e ({ frames := 0, cells := 0, slots := 0, locals := 0 } : Room) s m #[(.int xa), (.int xb)] below meth c s₁ [] 0 0 := Stand.of_body Bd
  have e0 : s₁.heap = h0 := by rw [← hh, Bd.state]; rfl
  have N0 := Fr.nil n0
  suffices G : own_Goes p.tables e below (fun o U' => ∃ v L, o = .returned v ∧ Q20 Z xa xb h0 n0 v U'.heap L ∧ FrameEnd s o U' L ({ frames := 0, cells := 0, slots := 0, locals := 0 } : Room).cells ({ frames := 0, cells := 0, slots := 0, locals := 0 } : Room).slots) s₁ (mkF m 0 #[.val (.int xa), .val (.int xb)] []) by
    obtain ⟨t2_, o2_, z1_, z2_, z3_, z4_⟩ := G
    exact ⟨t2_, o2_, castTop (ef_20 m xa xb) z1_, z2_, z3_, z4_⟩
  generalize hPd : (fun (o : Outcome) (U' : State) => ∃ v L, o = .returned v ∧ Q20 Z xa xb h0 n0 v U'.heap L ∧ FrameEnd s o U' L ({ frames := 0, cells := 0, slots := 0, locals := 0 } : Room).cells ({ frames := 0, cells := 0, slots := 0, locals := 0 } : Room).slots) = P
  refine own_Goes.via (T' := s₁) (g' := (mkF m 1 #[.val (.int xa), .val (.int xb)] [(.int xa)])) (fun t_ k_ => XS.iloadN X0.here hx rfl (hb hby d20_0) rfl k_) ?_
  refine own_Goes.via (T' := s₁) (g' := (mkF m 2 #[.val (.int xa), .val (.int xb)] [(.int xb), (.int xa)])) (fun t_ k_ => XS.iloadN X0.here hx rfl (hb hby d20_1) rfl k_) ?_
  suffices J10_4 : ∀ (v10_2 : Int32) (hv10_2 : v10_2 = (if xb < xa then xb else xa)), own_Goes p.tables e below P s₁ (mkF m 10 #[.val (.int xa), .val (.int xb)] [(.int v10_2)]) by
    by_cases hc2_1 : xb < xa
    · refine own_Goes.via (T' := s₁) (g' := (mkF m 9 #[.val (.int xa), .val (.int xb)] [])) (fun t_ k_ => XS.icmpYes X0.here hx rfl (pc0 := 2) (pc' := 9) rfl (hb hby d20_2) rfl (tlt hc2_1).2.2.1 (by decide) (by decide) k_) ?_
      refine own_Goes.via (T' := s₁) (g' := (mkF m 10 #[.val (.int xa), .val (.int xb)] [(.int xb)])) (fun t_ k_ => XS.iloadN X0.here hx rfl (hb hby d20_9) rfl k_) ?_
      exact J10_4 xb ((if_pos hc2_1)).symm
    · refine own_Goes.via (T' := s₁) (g' := (mkF m 5 #[.val (.int xa), .val (.int xb)] [])) (fun t_ k_ => XS.icmpNo X0.here hx rfl (hb hby d20_2) rfl (flt hc2_1).2.2.1 k_) ?_
      refine own_Goes.via (T' := s₁) (g' := (mkF m 6 #[.val (.int xa), .val (.int xb)] [(.int xa)])) (fun t_ k_ => XS.iloadN X0.here hx rfl (hb hby d20_5) rfl k_) ?_
      refine own_Goes.via (T' := s₁) (g' := (mkF m 10 #[.val (.int xa), .val (.int xb)] [(.int xa)])) (fun t_ k_ => XS.goto X0.here hx rfl (pc0 := 6) (pc' := 10) rfl (hb hby d20_6) (by decide) (by decide) k_) ?_
      exact J10_4 xa ((if_neg hc2_1)).symm
  intro v10_2 hv10_2
  obtain ⟨fs, hr, hrun, hended, hW, hsame⟩ := X0.leave (v := some (.int v10_2)) (fun h => by rw [Bd.returns] at h; cases h)
  refine own_Goes.fin (retOut X0 hx Bd.returns rfl (Or.inl ⟨rfl, Or.inl rfl, _, rfl⟩) (hb hby d20_10) hr) hrun hended ?_
  subst hPd
  refine ⟨_, _, rfl, ?_, ⟨_, rfl⟩, hW, hsame.mono (by decide) (by decide)⟩
  show Q20 Z xa xb h0 n0 _ s₁.heap _
  rw [e0]
  exact ⟨(by subst hv10_2; first | rfl | (simp only [own_f20])), N0, rfl⟩
theorem d19_0 : decode jdk_65_method_131_code 0 = .ok (.iload_n 1, 1) := by decide +kernel
theorem d19_1 : decode jdk_65_method_131_code 1 = .ok (.iload_n 0, 1) := by decide +kernel
theorem d19_2 : decode jdk_65_method_131_code 2 = .ok (.if_icmp .ge 35, 3) := by decide +kernel
theorem d19_37 : decode jdk_65_method_131_code 37 = .ok (.return_, 1) := by decide +kernel
theorem pn_19 : plainName "java/util/Arrays" = true := by first | (simp [plainName, overriddenIn]; done) | decide +kernel
theorem ef_19 (m : MethodId) (xf : Int32) (xt : Int32) : entryFrame m #[(.int xf), (.int xt)] 2 = mkF m 0 #[.val (.int xf), .val (.int xt)] [] := by first | (simp [entryFrame, mkF, argsToLocals, Value.category]; done) | rfl
def Q19 (Z : State) (xf : Int32) (xt : Int32) (h0 : Heap) (n0 : Nat) (v : Option Value) (h : Heap) (L : List Loc) : Prop := v = none ∧ Fr n0 L ∧ h = h0
set_option maxRecDepth 65536 in
set_option maxHeartbeats 40000000 in
theorem rm19 (l : Launch) (Z : State) (a0 : Array Value) (hw : ∀ d ∈ tables_1, d.before a0 Z = true) (ws : List Jvm.Cond) (xf : Int32) (xt : Int32) (h0 : Heap) (n0 : Nat) (Z0 : n0 ≤ h0.size) (hc : ¬ (xt < xf)) :
    MetFree l (⟨"java/util/Arrays", "checkLength", "(II)V"⟩ : MethodName) (head1 (Jvm.Cond.code (⟨"java/util/Arrays", "checkLength", "(II)V"⟩ : MethodName) jdk_65_method_131_code 2 none :: ws) ({ frames := 0, cells := 0, slots := 0, locals := 0 } : Room)) (fun a U => a = #[(.int xf), (.int xt)] ∧ Z.Warmed39 U.vm ∧ U.heap = h0) (fun _ _ _ _ _ => True) (fun _ U o U' => ∃ v L, o = .returned v ∧ Q19 Z xf xt h0 n0 v U'.heap L ∧ FrameEnd U o U' L ({ frames := 0, cells := 0, slots := 0, locals := 0 } : Room).cells ({ frames := 0, cells := 0, slots := 0, locals := 0 } : Room).slots) := by
  refine MetFree.of_bodySF (plainFor_of_name pn_19) hisR ?_
  intro p e s m args below meth c s₁ Bd hml0 hP hK
  obtain ⟨rfl, hZ, hh⟩ := hP
  have hx := Bd.exec
  have hby := Bd.bytes
  have hml : c.maxLocals = 2 := hml0
  have hown : s.vm.findClass "java/util/Arrays" = some m.cls := findClass_of_methodNamed Bd.named
  have hnm := (name_of_methodNamed Bd.named Bd.method).1
  have X0 : Stand p l e ({ frames := 0, cells := 0, slots := 0, locals := 0 } : Room) s m #[(.int xf), (.int xt)] below meth c s₁ [] 0 0 := Stand.of_body Bd
  have e0 : s₁.heap = h0 := by rw [← hh, Bd.state]; rfl
  have N0 := Fr.nil n0
  suffices G : own_Goes p.tables e below (fun o U' => ∃ v L, o = .returned v ∧ Q19 Z xf xt h0 n0 v U'.heap L ∧ FrameEnd s o U' L ({ frames := 0, cells := 0, slots := 0, locals := 0 } : Room).cells ({ frames := 0, cells := 0, slots := 0, locals := 0 } : Room).slots) s₁ (mkF m 0 #[.val (.int xf), .val (.int xt)] []) by
    obtain ⟨t2_, o2_, z1_, z2_, z3_, z4_⟩ := G
    exact ⟨t2_, o2_, castTop (ef_19 m xf xt) z1_, z2_, z3_, z4_⟩
  generalize hPd : (fun (o : Outcome) (U' : State) => ∃ v L, o = .returned v ∧ Q19 Z xf xt h0 n0 v U'.heap L ∧ FrameEnd s o U' L ({ frames := 0, cells := 0, slots := 0, locals := 0 } : Room).cells ({ frames := 0, cells := 0, slots := 0, locals := 0 } : Room).slots) = P
  refine own_Goes.via (T' := s₁) (g' := (mkF m 1 #[.val (.int xf), .val (.int xt)] [(.int xt)])) (fun t_ k_ => XS.iloadN X0.here hx rfl (hb hby d19_0) rfl k_) ?_
  refine own_Goes.via (T' := s₁) (g' := (mkF m 2 #[.val (.int xf), .val (.int xt)] [(.int xf), (.int xt)])) (fun t_ k_ => XS.iloadN X0.here hx rfl (hb hby d19_1) rfl k_) ?_
  have hd2_1 : ¬ (xt < xf) := hc
  refine own_Goes.via (T' := s₁) (g' := (mkF m 37 #[.val (.int xf), .val (.int xt)] [])) (fun t_ k_ => XS.icmpYes X0.here hx rfl (pc0 := 2) (pc' := 37) rfl (hb hby d19_2) rfl (flt hd2_1).2.1 (by decide) (by decide) k_) ?_
  obtain ⟨fs, hr, hrun, hended, hW, hsame⟩ := X0.leave (v := none) (fun _ => rfl)
  refine own_Goes.fin (X0.returnOut hx Bd.returns (hb hby d19_37) hr) hrun hended ?_
  subst hPd
  refine ⟨_, _, rfl, ?_, ⟨_, rfl⟩, hW, hsame.mono (by decide) (by decide)⟩
  show Q19 Z xf xt h0 n0 _ s₁.heap _
  rw [e0]
  exact ⟨rfl, N0, rfl⟩
theorem d18_0 : decode jdk_65_method_133_code 0 = .ok (.iload_n 1, 1) := by decide +kernel
theorem d18_1 : decode jdk_65_method_133_code 1 = .ok (.iload_n 2, 1) := by decide +kernel
theorem d18_2 : decode jdk_65_method_133_code 2 = .ok (.invokestatic 343, 3) := by decide +kernel
theorem d18_5 : decode jdk_65_method_133_code 5 = .ok (.iload_n 2, 1) := by decide +kernel
theorem d18_6 : decode jdk_65_method_133_code 6 = .ok (.iload_n 1, 1) := by decide +kernel
theorem d18_7 : decode jdk_65_method_133_code 7 = .ok (.isub, 1) := by decide +kernel
theorem d18_8 : decode jdk_65_method_133_code 8 = .ok (.istore_n 3, 1) := by decide +kernel
theorem d18_9 : decode jdk_65_method_133_code 9 = .ok (.iload_n 3, 1) := by decide +kernel
theorem d18_10 : decode jdk_65_method_133_code 10 = .ok (.newarray .byte, 2) := by decide +kernel
theorem d18_12 : decode jdk_65_method_133_code 12 = .ok (.astore 4, 2) := by decide +kernel
theorem d18_14 : decode jdk_65_method_133_code 14 = .ok (.aload_n 0, 1) := by decide +kernel
theorem d18_15 : decode jdk_65_method_133_code 15 = .ok (.iload_n 1, 1) := by decide +kernel
theorem d18_16 : decode jdk_65_method_133_code 16 = .ok (.aload 4, 2) := by decide +kernel
theorem d18_18 : decode jdk_65_method_133_code 18 = .ok (.iconst 0, 1) := by decide +kernel
theorem d18_19 : decode jdk_65_method_133_code 19 = .ok (.aload_n 0, 1) := by decide +kernel
theorem d18_20 : decode jdk_65_method_133_code 20 = .ok (.arraylength, 1) := by decide +kernel
theorem d18_21 : decode jdk_65_method_133_code 21 = .ok (.iload_n 1, 1) := by decide +kernel
theorem d18_22 : decode jdk_65_method_133_code 22 = .ok (.isub, 1) := by decide +kernel
theorem d18_23 : decode jdk_65_method_133_code 23 = .ok (.iload_n 3, 1) := by decide +kernel
theorem d18_24 : decode jdk_65_method_133_code 24 = .ok (.invokestatic 304, 3) := by decide +kernel
theorem d18_27 : decode jdk_65_method_133_code 27 = .ok (.invokestatic 150, 3) := by decide +kernel
theorem d18_30 : decode jdk_65_method_133_code 30 = .ok (.aload 4, 2) := by decide +kernel
theorem d18_32 : decode jdk_65_method_133_code 32 = .ok (.areturn, 1) := by decide +kernel
theorem pn_18 : plainName "java/util/Arrays" = true := by first | (simp [plainName, overriddenIn]; done) | decide +kernel
theorem pd_18_0 : parseMethodDescriptor "(II)V" = some ⟨[.int, .int], none⟩ := by decide +kernel
theorem pd_18_1 : parseMethodDescriptor "(II)I" = some ⟨[.int, .int], some .int⟩ := by decide +kernel
theorem ef_18 (m : MethodId) (ab : Addr) (xf : Int32) (xt : Int32) : entryFrame m #[(.ref ab), (.int xf), (.int xt)] 5 = mkF m 0 #[.val (.ref ab), .val (.int xf), .val (.int xt), .unset, .unset] [] := by first | (simp [entryFrame, mkF, argsToLocals, Value.category]; done) | rfl
def Q18 (Z : State) (ab : Addr) (xf : Int32) (xt : Int32) (xn : Int32) (B : Nat → Int32) (h0 : Heap) (n0 : Nat) (v : Option Value) (h : Heap) (L : List Loc) : Prop := ∃ (bz : Addr), v = some (.ref bz) ∧ Fr n0 L ∧ Keep h0 h [] ∧ (h0.size ≤ bz ∧ n0 ≤ bz) ∧ Exa Z h bz "[B" ∧ own_Gi Z h bz .byte (xt - xf) (own_sh B xf.toNatClampNeg)
set_option maxRecDepth 65536 in
theorem own_pl18_0 {xf : Int32} {xt : Int32} {xn : Int32} (hR : own_win xf (xt - xf) xn) (hR1 : (xt - xf).toInt = xt.toInt - xf.toInt) : ¬ (xt < xf) := by
  obtain ⟨a, b, c, d⟩ := hR
  rw [own_lt]
  omega
set_option maxRecDepth 65536 in
theorem own_pl18_1 {xf : Int32} {xt : Int32} {xn : Int32} {v3 : Int32} (hv3 : v3 = (xt - xf)) (hR : own_win xf (xt - xf) xn) (hR1 : (xt - xf).toInt = xt.toInt - xf.toInt) (cd2_2 : ¬ (xt < xf)) : ¬ v3 < 0 := by
  obtain ⟨a, b, c, d⟩ := hR
  rw [hv3]
  exact own_neg b
set_option maxRecDepth 65536 in
theorem own_pl18_2 {xf : Int32} {xt : Int32} {xn : Int32} {v3 : Int32} (hv3 : v3 = (xt - xf)) (hR : own_win xf (xt - xf) xn) (hR1 : (xt - xf).toInt = xt.toInt - xf.toInt) (cd2_2 : ¬ (xt < xf)) (neg10_5 : ¬ v3 < 0) : v3.toNatClampNeg ≤ 4 := by
  obtain ⟨a, b, c, d⟩ := hR
  rw [hv3]
  exact own_cap (by omega)
set_option maxRecDepth 65536 in
theorem own_pl18_3 {xf : Int32} {xt : Int32} {xn : Int32} {v3 : Int32} {v13 : Int32} (hv3 : v3 = (xt - xf)) (hv13 : v13 = (own_f20 (xn - xf) v3)) (hR : own_win xf (xt - xf) xn) (hR1 : (xt - xf).toInt = xt.toInt - xf.toInt) (cd2_2 : ¬ (xt < xf)) (neg10_5 : ¬ v3 < 0) (hcap10_6 : v3.toNatClampNeg ≤ 4) : own_cp xf (0 : Int32) v13 xn v3 := by
  obtain ⟨a, b, c, d⟩ := id hR
  have s := hR.sub
  have m : v13.toInt = (xt - xf).toInt := by
    rw [hv13, hv3]
    unfold own_f20
    split
    · rename_i g; rw [own_lt, s] at g; first | done | rfl
    · rename_i g; rw [own_lt, s] at g; rw [s]; omega
  have m3 : v3.toInt = (xt - xf).toInt := by rw [hv3]
  unfold own_cp
  rw [own_lt, own_lt, own_lt, own_z, m]
  refine ⟨by omega, by show ¬ (0 : Int) < 0; omega, by omega, ?_, ?_⟩
  · show xf.toInt.toNat + v13.toInt.toNat ≤ xn.toInt.toNat; omega
  · show 0 + v13.toInt.toNat ≤ v3.toInt.toNat; omega
set_option maxRecDepth 65536 in
theorem own_pl18_4 {xf : Int32} {xt : Int32} {xn : Int32} {v3 : Int32} {v13 : Int32} (hv3 : v3 = (xt - xf)) (hv13 : v13 = (own_f20 (xn - xf) v3)) (hR : own_win xf (xt - xf) xn) (hR1 : (xt - xf).toInt = xt.toInt - xf.toInt) (cd2_2 : ¬ (xt < xf)) (neg10_5 : ¬ v3 < 0) (hcap10_6 : v3.toNatClampNeg ≤ 4) (cp27_15 : own_cp xf (0 : Int32) v13 xn v3) : v13.toNatClampNeg = v3.toNatClampNeg := by
  obtain ⟨a, b, c, d⟩ := id hR
  have s := hR.sub
  have m : v13.toInt = (xt - xf).toInt := by
    rw [hv13, hv3]
    unfold own_f20
    split
    · rename_i g; rw [own_lt, s] at g; first | done | rfl
    · rename_i g; rw [own_lt, s] at g; rw [s]; omega
  have m3 : v3.toInt = (xt - xf).toInt := by rw [hv3]
  show v13.toInt.toNat = v3.toInt.toNat
  rw [m, m3]
set_option maxRecDepth 65536 in
set_option maxHeartbeats 40000000 in
theorem rm18 (l : Launch) (Z : State) (a0 : Array Value) (hw : ∀ d ∈ tables_1, d.before a0 Z = true) (ws : List Jvm.Cond) (ab : Addr) (xf : Int32) (xt : Int32) (xn : Int32) (B : Nat → Int32) (h0 : Heap) (n0 : Nat) (Z0 : n0 ≤ h0.size) (PF0 : Exa Z h0 ab "[B") (PF1 : own_Gi Z h0 ab .byte xn B) (hR : own_win xf (xt - xf) xn) (hR1 : (xt - xf).toInt = xt.toInt - xf.toInt) :
    MetFree l (⟨"java/util/Arrays", "copyOfRangeByte", "([BII)[B"⟩ : MethodName) (head1 (Jvm.Cond.code (⟨"java/util/Arrays", "copyOfRangeByte", "([BII)[B"⟩ : MethodName) jdk_65_method_133_code 5 (some (.array .byte)) :: ws) ({ frames := 1, cells := 1, slots := 4, locals := 18 } : Room)) (fun a U => a = #[(.ref ab), (.int xf), (.int xt)] ∧ Z.Warmed39 U.vm ∧ U.heap = h0) (fun _ _ _ _ _ => True) (fun _ U o U' => ∃ v L, o = .returned v ∧ Q18 Z ab xf xt xn B h0 n0 v U'.heap L ∧ FrameEnd U o U' L ({ frames := 1, cells := 1, slots := 4, locals := 18 } : Room).cells ({ frames := 1, cells := 1, slots := 4, locals := 18 } : Room).slots) := by
  refine MetFree.of_bodySF (plainFor_of_name pn_18) hisR ?_
  intro p e s m args below meth c s₁ Bd hml0 hP hK
  obtain ⟨rfl, hZ, hh⟩ := hP
  have hx := Bd.exec
  have hby := Bd.bytes
  have hml : c.maxLocals = 5 := hml0
  have hown : s.vm.findClass "java/util/Arrays" = some m.cls := findClass_of_methodNamed Bd.named
  have hnm := (name_of_methodNamed Bd.named Bd.method).1
  have X0 : Stand p l e ({ frames := 1, cells := 1, slots := 4, locals := 18 } : Room) s m #[(.ref ab), (.int xf), (.int xt)] below meth c s₁ [] 0 0 := Stand.of_body Bd
  have e0 : s₁.heap = h0 := by rw [← hh, Bd.state]; rfl
  have N0 := Fr.nil n0
  suffices G : own_Goes p.tables e below (fun o U' => ∃ v L, o = .returned v ∧ Q18 Z ab xf xt xn B h0 n0 v U'.heap L ∧ FrameEnd s o U' L ({ frames := 1, cells := 1, slots := 4, locals := 18 } : Room).cells ({ frames := 1, cells := 1, slots := 4, locals := 18 } : Room).slots) s₁ (mkF m 0 #[.val (.ref ab), .val (.int xf), .val (.int xt), .unset, .unset] []) by
    obtain ⟨t2_, o2_, z1_, z2_, z3_, z4_⟩ := G
    exact ⟨t2_, o2_, castTop (ef_18 m ab xf xt) z1_, z2_, z3_, z4_⟩
  generalize hPd : (fun (o : Outcome) (U' : State) => ∃ v L, o = .returned v ∧ Q18 Z ab xf xt xn B h0 n0 v U'.heap L ∧ FrameEnd s o U' L ({ frames := 1, cells := 1, slots := 4, locals := 18 } : Room).cells ({ frames := 1, cells := 1, slots := 4, locals := 18 } : Room).slots) = P
  refine own_Goes.via (T' := s₁) (g' := (mkF m 1 #[.val (.ref ab), .val (.int xf), .val (.int xt), .unset, .unset] [(.int xf)])) (fun t_ k_ => XS.iloadN X0.here hx rfl (hb hby d18_0) rfl k_) ?_
  refine own_Goes.via (T' := s₁) (g' := (mkF m 2 #[.val (.ref ab), .val (.int xf), .val (.int xt), .unset, .unset] [(.int xt), (.int xf)])) (fun t_ k_ => XS.iloadN X0.here hx rfl (hb hby d18_1) rfl k_) ?_
  have cd2_2 : ¬ (xt < xf) := own_pl18_0 hR hR1
  obtain ⟨_, _, ⟨T1, L1, k1, n1⟩, -, X1, ⟨Lc1, hQ1, l1, y1, z1⟩, st1⟩ := Jvm.LawKit.callS X0 hx (y := (⟨"java/util/Arrays", "checkLength", "(II)V"⟩ : MethodName)) hown (mvT hZ (hw _ (List.mem_of_getElem? (i := 104) rfl))) (mvT hZ (hw _ (List.mem_of_getElem? (i := 105) rfl))) (mvT hZ (hw _ (List.mem_of_getElem? (i := 99) rfl))) (mvT hZ (hw _ (List.mem_of_getElem? (i := 106) rfl))) (by decide) (backOf (W := 0) (rm19 l Z a0 hw [] xf xt h0 n0 Z0 cd2_2) hZ (hw _ (List.mem_of_getElem? (i := 106) rfl)) (hw _ (List.mem_of_getElem? (i := 99) rfl)) (by decide) (by decide)) (g := (mkF m 2 #[.val (.ref ab), .val (.int xf), .val (.int xt), .unset, .unset] [(.int xt), (.int xf)])) rfl (by rw [hml]; rfl) (argsL := [(.int xf), (.int xt)]) (rest := []) (lenOf pd_18_0 rfl) rfl (by show 2 * 0 + _ ≤ _; exact Nat.le_of_eq rfl) (hb hby d18_2) (fun _ _ => ⟨rfl, e0, (by decide : 0 + 0 ≤ _), (by decide : 0 + 0 ≤ _)⟩)
  dsimp only [Pt.U, Pt.locs, Pt.cells, Pt.slots] at X1 l1 y1 z1 st1 hQ1
  subst l1 y1 z1
  obtain ⟨rfl, Nq1, hh1⟩ := hQ1
  have N1 := Fr.app N0 Nq1
  refine own_Goes.via (T' := T1) (g' := (mkF m 5 #[.val (.ref ab), .val (.int xf), .val (.int xt), .unset, .unset] [])) (st1) ?_
  refine own_Goes.via (T' := T1) (g' := (mkF m 6 #[.val (.ref ab), .val (.int xf), .val (.int xt), .unset, .unset] [(.int xt)])) (fun t_ k_ => XS.iloadN X1.here hx rfl (hb hby d18_5) rfl k_) ?_
  refine own_Goes.via (T' := T1) (g' := (mkF m 7 #[.val (.ref ab), .val (.int xf), .val (.int xt), .unset, .unset] [(.int xf), (.int xt)])) (fun t_ k_ => XS.iloadN X1.here hx rfl (hb hby d18_6) rfl k_) ?_
  refine own_Goes.via (T' := T1) (g' := (mkF m 8 #[.val (.ref ab), .val (.int xf), .val (.int xt), .unset, .unset] [(.int (xt - xf))])) (fun t_ k_ => XS.isub X1.here hx rfl (hb hby d18_7) rfl k_) ?_
  refine own_Goes.via (T' := T1) (g' := (mkF m 9 #[.val (.ref ab), .val (.int xf), .val (.int xt), .val (.int (xt - xf)), .unset] [])) (fun t_ k_ => XS.istoreN X1.here hx rfl (hb hby d18_8) rfl (l' := #[.val (.ref ab), .val (.int xf), .val (.int xt), .val (.int (xt - xf)), .unset]) rfl k_) ?_
  obtain ⟨v3, hv3⟩ : ∃ z : Int32, z = (xt - xf) := ⟨_, rfl⟩
  rw [← hv3]
  refine own_Goes.via (T' := T1) (g' := (mkF m 10 #[.val (.ref ab), .val (.int xf), .val (.int xt), .val (.int v3), .unset] [(.int v3)])) (fun t_ k_ => XS.iloadN X1.here hx rfl (hb hby d18_9) rfl k_) ?_
  have neg10_5 : ¬ v3 < 0 := own_pl18_1 hv3 hR hR1 cd2_2
  have hcap10_6 : v3.toNatClampNeg ≤ 4 := own_pl18_2 hv3 hR hR1 cd2_2 neg10_5
  obtain ⟨T4, h4, k4, X4, e4, E4, A4, Ea4, st4⟩ := newPE X1 hx hZ (hw _ (List.mem_of_getElem? (i := 0) rfl)) hh1 (g := (mkF m 10 #[.val (.ref ab), .val (.int xf), .val (.int xt), .val (.int v3), .unset] [(.int v3)])) rfl (hb hby d18_10) rfl neg10_5 (cap := 4) hcap10_6 (by decide) (by decide) (by decide) (ad := "[B") (by decide)
  obtain ⟨b4, g4⟩ : ∃ z, z = h0.size := ⟨_, rfl⟩
  rw [← g4] at A4 Ea4 st4
  have ne_ab_b4 : ab ≠ b4 := Nat.ne_of_lt (Nat.lt_of_lt_of_le PF0.lt (Nat.le_of_eq g4.symm))
  have E7 : Exa Z h4 ab "[B" := PF0.ext E4
  have G8 : own_Gi Z h4 ab .byte xn B := PF1.ext E4
  have ge_b4 : n0 ≤ b4 := Nat.le_trans Z0 (Nat.le_of_eq g4.symm)
  have sz_b4 : h0.size ≤ b4 := Nat.le_trans ((Keep.refl h0 [])).1 (Nat.le_of_eq g4.symm)
  have sz4 : n0 ≤ h4.size := Nat.le_trans Z0 E4.1
  have K4 : Keep h0 h4 [] := ((Keep.refl h0 [])).ext E4
  have E9 : Exa Z h4 b4 "[B" := Ea4
  have U10 : own_Un Z h4 b4 .byte v3 := own_Un.of (Arv.new A4 neg10_5)
  refine own_Goes.via (T' := T4) (g' := (mkF m 12 #[.val (.ref ab), .val (.int xf), .val (.int xt), .val (.int v3), .unset] [(.ref b4)])) (st4) ?_
  refine own_Goes.via (T' := T4) (g' := (mkF m 14 #[.val (.ref ab), .val (.int xf), .val (.int xt), .val (.int v3), .val (.ref b4)] [])) (fun t_ k_ => XS.astore X4.here hx rfl (hb hby d18_12) rfl rfl (l' := #[.val (.ref ab), .val (.int xf), .val (.int xt), .val (.int v3), .val (.ref b4)]) rfl k_) ?_
  refine own_Goes.via (T' := T4) (g' := (mkF m 15 #[.val (.ref ab), .val (.int xf), .val (.int xt), .val (.int v3), .val (.ref b4)] [(.ref ab)])) (fun t_ k_ => XS.aloadN X4.here hx rfl (hb hby d18_14) rfl rfl k_) ?_
  refine own_Goes.via (T' := T4) (g' := (mkF m 16 #[.val (.ref ab), .val (.int xf), .val (.int xt), .val (.int v3), .val (.ref b4)] [(.int xf), (.ref ab)])) (fun t_ k_ => XS.iloadN X4.here hx rfl (hb hby d18_15) rfl k_) ?_
  refine own_Goes.via (T' := T4) (g' := (mkF m 18 #[.val (.ref ab), .val (.int xf), .val (.int xt), .val (.int v3), .val (.ref b4)] [(.ref b4), (.int xf), (.ref ab)])) (fun t_ k_ => XS.aload X4.here hx rfl (hb hby d18_16) rfl rfl k_) ?_
  refine own_Goes.via (T' := T4) (g' := (mkF m 19 #[.val (.ref ab), .val (.int xf), .val (.int xt), .val (.int v3), .val (.ref b4)] [(.int (0 : Int32)), (.ref b4), (.int xf), (.ref ab)])) (fun t_ k_ => XS.iconst X4.here hx rfl (hb hby d18_18) k_) ?_
  refine own_Goes.via (T' := T4) (g' := (mkF m 20 #[.val (.ref ab), .val (.int xf), .val (.int xt), .val (.int v3), .val (.ref b4)] [(.ref ab), (.int (0 : Int32)), (.ref b4), (.int xf), (.ref ab)])) (fun t_ k_ => XS.aloadN X4.here hx rfl (hb hby d18_19) rfl rfl k_) ?_
  obtain ⟨cl11, Ar11, Sl11, Ng11, -⟩ := id G8
  refine own_Goes.via (T' := T4) (g' := (mkF m 21 #[.val (.ref ab), .val (.int xf), .val (.int xt), .val (.int v3), .val (.ref b4)] [(.int xn), (.int (0 : Int32)), (.ref b4), (.int xf), (.ref ab)])) (fun t_ k_ => X4.arraylength hx (by rw [e4]; exact Ar11.1) (State.isArrayOf_alike hZ.alike Ar11.2.1) (g := (mkF m 20 #[.val (.ref ab), .val (.int xf), .val (.int xt), .val (.int v3), .val (.ref b4)] [(.ref ab), (.int (0 : Int32)), (.ref b4), (.int xf), (.ref ab)])) rfl rfl (hb hby d18_20) _ (by rw [len_of Sl11 Ng11]; exact k_)) ?_
  refine own_Goes.via (T' := T4) (g' := (mkF m 22 #[.val (.ref ab), .val (.int xf), .val (.int xt), .val (.int v3), .val (.ref b4)] [(.int xf), (.int xn), (.int (0 : Int32)), (.ref b4), (.int xf), (.ref ab)])) (fun t_ k_ => XS.iloadN X4.here hx rfl (hb hby d18_21) rfl k_) ?_
  refine own_Goes.via (T' := T4) (g' := (mkF m 23 #[.val (.ref ab), .val (.int xf), .val (.int xt), .val (.int v3), .val (.ref b4)] [(.int (xn - xf)), (.int (0 : Int32)), (.ref b4), (.int xf), (.ref ab)])) (fun t_ k_ => XS.isub X4.here hx rfl (hb hby d18_22) rfl k_) ?_
  refine own_Goes.via (T' := T4) (g' := (mkF m 24 #[.val (.ref ab), .val (.int xf), .val (.int xt), .val (.int v3), .val (.ref b4)] [(.int v3), (.int (xn - xf)), (.int (0 : Int32)), (.ref b4), (.int xf), (.ref ab)])) (fun t_ k_ => XS.iloadN X4.here hx rfl (hb hby d18_23) rfl k_) ?_
  obtain ⟨_, _, ⟨T12, L12, k12, n12⟩, -, X12, ⟨Lc12, hQ12, l12, y12, z12⟩, st12⟩ := Jvm.LawKit.callS X4 hx (y := (⟨"java/lang/Math", "min", "(II)I"⟩ : MethodName)) hown (mvT hZ (hw _ (List.mem_of_getElem? (i := 107) rfl))) (mvT hZ (hw _ (List.mem_of_getElem? (i := 108) rfl))) (mvT hZ (hw _ (List.mem_of_getElem? (i := 109) rfl))) (mvT hZ (hw _ (List.mem_of_getElem? (i := 110) rfl))) (by decide) (backOf (W := 4) (rm20 l Z a0 hw [] (xn - xf) v3 h4 n0 sz4 ) hZ (hw _ (List.mem_of_getElem? (i := 110) rfl)) (hw _ (List.mem_of_getElem? (i := 109) rfl)) (by decide) (by decide)) (g := (mkF m 24 #[.val (.ref ab), .val (.int xf), .val (.int xt), .val (.int v3), .val (.ref b4)] [(.int v3), (.int (xn - xf)), (.int (0 : Int32)), (.ref b4), (.int xf), (.ref ab)])) rfl (by rw [hml]; rfl) (argsL := [(.int (xn - xf)), (.int v3)]) (rest := [(.int (0 : Int32)), (.ref b4), (.int xf), (.ref ab)]) (lenOf pd_18_1 rfl) rfl (by show 2 * 0 + _ ≤ _; exact Nat.le_of_eq rfl) (hb hby d18_24) (fun _ _ => ⟨rfl, e4, (by decide : 1 + 0 ≤ _), (by decide : 4 + 0 ≤ _)⟩)
  dsimp only [Pt.U, Pt.locs, Pt.cells, Pt.slots] at X12 l12 y12 z12 st12 hQ12
  subst l12 y12 z12
  obtain ⟨rfl, Nq12, hh12⟩ := hQ12
  have N12 := Fr.app N1 Nq12
  refine own_Goes.via (T' := T12) (g' := (mkF m 27 #[.val (.ref ab), .val (.int xf), .val (.int xt), .val (.int v3), .val (.ref b4)] [(.int (own_f20 (xn - xf) v3)), (.int (0 : Int32)), (.ref b4), (.int xf), (.ref ab)])) (st12) ?_
  obtain ⟨v13, hv13⟩ : ∃ z : Int32, z = (own_f20 (xn - xf) v3) := ⟨_, rfl⟩
  rw [← hv13]
  have cp27_15 : own_cp xf (0 : Int32) v13 xn v3 := own_pl18_3 hv3 hv13 hR hR1 cd2_2 neg10_5 hcap10_6
  obtain ⟨ks14, vs14, As14, ls14, gs14⟩ := G8.arv
  obtain ⟨kd14, vd14, Ad14, ld14⟩ := U10.arv
  obtain ⟨T14, h14, L14, X14, e14, N14, Kq14, A14, st14⟩ := cpA X12 hx hZ hown (hw _ (List.mem_of_getElem? (i := 111) rfl)) (hw _ (List.mem_of_getElem? (i := 114) rfl)) (hw _ (List.mem_of_getElem? (i := 112) rfl)) (hw _ (List.mem_of_getElem? (i := 113) rfl)) hh12 As14 Ad14 (Or.inl ⟨rfl, rfl⟩) cp27_15.1 cp27_15.2.1 cp27_15.2.2.1 cp27_15.2.2.2.1 cp27_15.2.2.2.2 rfl (by rw [ld14]; exact cp27_15.2.2.2.2) N12 ge_b4 (g := (mkF m 27 #[.val (.ref ab), .val (.int xf), .val (.int xt), .val (.int v3), .val (.ref b4)] [(.int v13), (.int (0 : Int32)), (.ref b4), (.int xf), (.ref ab)])) rfl (by rw [hml]; rfl) rfl (hb hby d18_27) (by decide) (W := 0) (by show 2 * 0 + _ ≤ _; exact Nat.le_of_eq rfl) (by decide)
  have E16 : Exa Z h14 ab "[B" := E7.keep Kq14
  have E17 : Exa Z h14 b4 "[B" := E9.keep Kq14
  have G18 : own_Gi Z h14 ab .byte xn B := G8.keep Kq14 (ninS ne_ab_b4 nin0)
  have G19 : own_Gi Z h14 b4 .byte v3 (own_sh B xf.toNatClampNeg) := own_Gi.copied A14 rfl rfl (own_pl18_4 hv3 hv13 hR hR1 cd2_2 neg10_5 hcap10_6 cp27_15) gs14 cp27_15.2.2.2.1
  have sz14 : n0 ≤ h14.size := Nat.le_trans sz4 Kq14.1
  have K14 : Keep h0 h14 [] := (K4).trans Kq14 (allS (Or.inr sz_b4) all0)
  refine own_Goes.via (T' := T14) (g' := (mkF m 30 #[.val (.ref ab), .val (.int xf), .val (.int xt), .val (.int v3), .val (.ref b4)] [])) (st14) ?_
  refine own_Goes.via (T' := T14) (g' := (mkF m 32 #[.val (.ref ab), .val (.int xf), .val (.int xt), .val (.int v3), .val (.ref b4)] [(.ref b4)])) (fun t_ k_ => XS.aload X14.here hx rfl (hb hby d18_30) rfl rfl k_) ?_
  obtain ⟨fs, hr, hrun, hended, hW, hsame⟩ := X14.leave (v := some (.ref b4)) (fun h => by rw [Bd.returns] at h; cases h)
  refine own_Goes.fin (retOut X14 hx Bd.returns rfl (Or.inr (Or.inr (Or.inr (Or.inr ⟨rfl, rfl, rfl⟩)))) (hb hby d18_32) hr) hrun hended ?_
  subst hPd
  refine ⟨_, _, rfl, ?_, ⟨_, rfl⟩, hW, hsame.mono (by decide) (by decide)⟩
  show Q18 Z ab xf xt xn B h0 n0 _ T14.heap _
  rw [e14]
  exact ⟨b4, rfl, N14, K14, ⟨sz_b4, ge_b4⟩, E17, (by have q := G19; rw [hv3] at q; exact q)⟩
theorem d17_0 : decode jdk_65_method_132_code 0 = .ok (.iload_n 1, 1) := by decide +kernel
theorem d17_1 : decode jdk_65_method_132_code 1 = .ok (.ifCond .ne 9, 3) := by decide +kernel
theorem d17_4 : decode jdk_65_method_132_code 4 = .ok (.iload_n 2, 1) := by decide +kernel
theorem d17_5 : decode jdk_65_method_132_code 5 = .ok (.aload_n 0, 1) := by decide +kernel
theorem d17_6 : decode jdk_65_method_132_code 6 = .ok (.arraylength, 1) := by decide +kernel
theorem d17_7 : decode jdk_65_method_132_code 7 = .ok (.if_icmp .eq 10, 3) := by decide +kernel
theorem d17_10 : decode jdk_65_method_132_code 10 = .ok (.aload_n 0, 1) := by decide +kernel
theorem d17_11 : decode jdk_65_method_132_code 11 = .ok (.iload_n 1, 1) := by decide +kernel
theorem d17_12 : decode jdk_65_method_132_code 12 = .ok (.iload_n 2, 1) := by decide +kernel
theorem d17_13 : decode jdk_65_method_132_code 13 = .ok (.invokestatic 339, 3) := by decide +kernel
theorem d17_16 : decode jdk_65_method_132_code 16 = .ok (.areturn, 1) := by decide +kernel
theorem d17_17 : decode jdk_65_method_132_code 17 = .ok (.aload_n 0, 1) := by decide +kernel
theorem d17_18 : decode jdk_65_method_132_code 18 = .ok (.invokevirtual 310, 3) := by decide +kernel
theorem d17_21 : decode jdk_65_method_132_code 21 = .ok (.checkcast 311, 3) := by decide +kernel
theorem d17_24 : decode jdk_65_method_132_code 24 = .ok (.areturn, 1) := by decide +kernel
theorem pn_17 : plainName "java/util/Arrays" = true := by first | (simp [plainName, overriddenIn]; done) | decide +kernel
theorem pd_17_0 : parseMethodDescriptor "([BII)[B" = some ⟨[(.array .byte), .int, .int], some (.array .byte)⟩ := by decide +kernel
theorem ef_17 (m : MethodId) (ab : Addr) (xf : Int32) (xt : Int32) : entryFrame m #[(.ref ab), (.int xf), (.int xt)] 3 = mkF m 0 #[.val (.ref ab), .val (.int xf), .val (.int xt)] [] := by first | (simp [entryFrame, mkF, argsToLocals, Value.category]; done) | rfl
def Q17 (Z : State) (ab : Addr) (xf : Int32) (xt : Int32) (xn : Int32) (B : Nat → Int32) (h0 : Heap) (n0 : Nat) (v : Option Value) (h : Heap) (L : List Loc) : Prop := ∃ (bz : Addr), v = some (.ref bz) ∧ Fr n0 L ∧ Keep h0 h [] ∧ (h0.size ≤ bz ∧ n0 ≤ bz) ∧ Exa Z h bz "[B" ∧ own_Gi Z h bz .byte (xt - xf) (own_sh B xf.toNatClampNeg)
set_option maxRecDepth 65536 in
theorem own_pl17_0 {xf : Int32} {xt : Int32} {xn : Int32} (hc1_1 : xf = (0 : Int32)) (hc7_3 : xt = xn) (hR : own_win xf (xt - xf) xn) (hR1 : (xt - xf).toInt = xt.toInt - xf.toInt) : xn.toNatClampNeg ≤ 4 := by
  obtain ⟨a, b, c, d⟩ := hR
  exact own_cap (by omega)
set_option maxRecDepth 65536 in
theorem own_pl17_1 {xf : Int32} {xt : Int32} {xn : Int32} (hc1_1 : xf = (0 : Int32)) (hc7_3 : xt = xn) (hR : own_win xf (xt - xf) xn) (hR1 : (xt - xf).toInt = xt.toInt - xf.toInt) (hcap18_5 : xn.toNatClampNeg ≤ 4) : xn = (xt - xf) := by
  rw [hc1_1, hc7_3]
  simp
set_option maxRecDepth 65536 in
theorem own_pl17_2 {xf : Int32} {xt : Int32} {xn : Int32} {B : Nat → Int32} (hc1_1 : xf = (0 : Int32)) (hc7_3 : xt = xn) (hR : own_win xf (xt - xf) xn) (hR1 : (xt - xf).toInt = xt.toInt - xf.toInt) (hcap18_5 : xn.toNatClampNeg ≤ 4) : ∀ i, i < xn.toNatClampNeg → B i = own_sh B xf.toNatClampNeg i := by
  intro i _
  rw [hc1_1]
  unfold own_sh
  show B i = B (0 + i)
  rw [Nat.zero_add]
set_option maxRecDepth 65536 in
set_option maxHeartbeats 40000000 in
theorem rm17 (l : Launch) (Z : State) (a0 : Array Value) (hw : ∀ d ∈ tables_1, d.before a0 Z = true) (ws : List Jvm.Cond) (ab : Addr) (xf : Int32) (xt : Int32) (xn : Int32) (B : Nat → Int32) (h0 : Heap) (n0 : Nat) (Z0 : n0 ≤ h0.size) (PF0 : Exa Z h0 ab "[B") (PF1 : own_Gi Z h0 ab .byte xn B) (hR : own_win xf (xt - xf) xn) (hR1 : (xt - xf).toInt = xt.toInt - xf.toInt) :
    MetFree l (⟨"java/util/Arrays", "copyOfRange", "([BII)[B"⟩ : MethodName) (head1 (Jvm.Cond.code (⟨"java/util/Arrays", "copyOfRange", "([BII)[B"⟩ : MethodName) jdk_65_method_132_code 3 (some (.array .byte)) :: ws) ({ frames := 2, cells := 1, slots := 4, locals := 34 } : Room)) (fun a U => a = #[(.ref ab), (.int xf), (.int xt)] ∧ Z.Warmed39 U.vm ∧ U.heap = h0) (fun _ _ _ _ _ => True) (fun _ U o U' => ∃ v L, o = .returned v ∧ Q17 Z ab xf xt xn B h0 n0 v U'.heap L ∧ FrameEnd U o U' L ({ frames := 2, cells := 1, slots := 4, locals := 34 } : Room).cells ({ frames := 2, cells := 1, slots := 4, locals := 34 } : Room).slots) := by
  refine MetFree.of_bodySF (plainFor_of_name pn_17) hisR ?_
  intro p e s m args below meth c s₁ Bd hml0 hP hK
  obtain ⟨rfl, hZ, hh⟩ := hP
  have hx := Bd.exec
  have hby := Bd.bytes
  have hml : c.maxLocals = 3 := hml0
  have hown : s.vm.findClass "java/util/Arrays" = some m.cls := findClass_of_methodNamed Bd.named
  have hnm := (name_of_methodNamed Bd.named Bd.method).1
  have X0 : Stand p l e ({ frames := 2, cells := 1, slots := 4, locals := 34 } : Room) s m #[(.ref ab), (.int xf), (.int xt)] below meth c s₁ [] 0 0 := Stand.of_body Bd
  have e0 : s₁.heap = h0 := by rw [← hh, Bd.state]; rfl
  have N0 := Fr.nil n0
  suffices G : own_Goes p.tables e below (fun o U' => ∃ v L, o = .returned v ∧ Q17 Z ab xf xt xn B h0 n0 v U'.heap L ∧ FrameEnd s o U' L ({ frames := 2, cells := 1, slots := 4, locals := 34 } : Room).cells ({ frames := 2, cells := 1, slots := 4, locals := 34 } : Room).slots) s₁ (mkF m 0 #[.val (.ref ab), .val (.int xf), .val (.int xt)] []) by
    obtain ⟨t2_, o2_, z1_, z2_, z3_, z4_⟩ := G
    exact ⟨t2_, o2_, castTop (ef_17 m ab xf xt) z1_, z2_, z3_, z4_⟩
  generalize hPd : (fun (o : Outcome) (U' : State) => ∃ v L, o = .returned v ∧ Q17 Z ab xf xt xn B h0 n0 v U'.heap L ∧ FrameEnd s o U' L ({ frames := 2, cells := 1, slots := 4, locals := 34 } : Room).cells ({ frames := 2, cells := 1, slots := 4, locals := 34 } : Room).slots) = P
  refine own_Goes.via (T' := s₁) (g' := (mkF m 1 #[.val (.ref ab), .val (.int xf), .val (.int xt)] [(.int xf)])) (fun t_ k_ => XS.iloadN X0.here hx rfl (hb hby d17_0) rfl k_) ?_
  by_cases hc1_1 : xf = (0 : Int32)
  · refine own_Goes.via (T' := s₁) (g' := (mkF m 4 #[.val (.ref ab), .val (.int xf), .val (.int xt)] [])) (fun t_ k_ => XS.ifNo X0.here hx rfl (hb hby d17_1) rfl ((if0 _ _).trans (teq hc1_1).2) k_) ?_
    refine own_Goes.via (T' := s₁) (g' := (mkF m 5 #[.val (.ref ab), .val (.int xf), .val (.int xt)] [(.int xt)])) (fun t_ k_ => XS.iloadN X0.here hx rfl (hb hby d17_4) rfl k_) ?_
    refine own_Goes.via (T' := s₁) (g' := (mkF m 6 #[.val (.ref ab), .val (.int xf), .val (.int xt)] [(.ref ab), (.int xt)])) (fun t_ k_ => XS.aloadN X0.here hx rfl (hb hby d17_5) rfl rfl k_) ?_
    obtain ⟨cl2, Ar2, Sl2, Ng2, -⟩ := id PF1
    refine own_Goes.via (T' := s₁) (g' := (mkF m 7 #[.val (.ref ab), .val (.int xf), .val (.int xt)] [(.int xn), (.int xt)])) (fun t_ k_ => X0.arraylength hx (by rw [e0]; exact Ar2.1) (State.isArrayOf_alike hZ.alike Ar2.2.1) (g := (mkF m 6 #[.val (.ref ab), .val (.int xf), .val (.int xt)] [(.ref ab), (.int xt)])) rfl rfl (hb hby d17_6) _ (by rw [len_of Sl2 Ng2]; exact k_)) ?_
    by_cases hc7_3 : xt = xn
    · refine own_Goes.via (T' := s₁) (g' := (mkF m 17 #[.val (.ref ab), .val (.int xf), .val (.int xt)] [])) (fun t_ k_ => XS.icmpYes X0.here hx rfl (pc0 := 7) (pc' := 17) rfl (hb hby d17_7) rfl (teq hc7_3).1 (by decide) (by decide) k_) ?_
      refine own_Goes.via (T' := s₁) (g' := (mkF m 18 #[.val (.ref ab), .val (.int xf), .val (.int xt)] [(.ref ab)])) (fun t_ k_ => XS.aloadN X0.here hx rfl (hb hby d17_17) rfl rfl k_) ?_
      obtain ⟨ks4, vs4, As4, ls4, gs4⟩ := PF1.arv
      have hcap18_5 : xn.toNatClampNeg ≤ 4 := own_pl17_0 hc1_1 hc7_3 hR hR1
      obtain ⟨T4, h4, X4, e4, E4, A4, Ea4, st4⟩ := cloneH X0 hx hZ hown (hw _ (List.mem_of_getElem? (i := 144) rfl)) (hw _ (List.mem_of_getElem? (i := 145) rfl)) (hw _ (List.mem_of_getElem? (i := 149) rfl)) (hw _ (List.mem_of_getElem? (i := 147) rfl)) (hw _ (List.mem_of_getElem? (i := 148) rfl)) (hw _ (List.mem_of_getElem? (i := 150) rfl)) e0 As4.arh PF0 (g := (mkF m 18 #[.val (.ref ab), .val (.int xf), .val (.int xt)] [(.ref ab)])) rfl (by rw [hml]; rfl) rfl (hb hby d17_18) (by decide) (W := 0) (cap := 4) (by show 2 * 0 + _ ≤ _; exact Nat.le_of_eq rfl) (by decide) hcap18_5 (by decide) (by decide)
      obtain ⟨b4, g4⟩ : ∃ z, z = h0.size := ⟨_, rfl⟩
      rw [← g4] at A4 Ea4 st4
      have ne_ab_b4 : ab ≠ b4 := Nat.ne_of_lt (Nat.lt_of_lt_of_le PF0.lt (Nat.le_of_eq g4.symm))
      have E6 : Exa Z h4 ab "[B" := PF0.ext E4
      have G7 : own_Gi Z h4 ab .byte xn B := PF1.ext E4
      have ge_b4 : n0 ≤ b4 := Nat.le_trans Z0 (Nat.le_of_eq g4.symm)
      have sz_b4 : h0.size ≤ b4 := Nat.le_trans ((Keep.refl h0 [])).1 (Nat.le_of_eq g4.symm)
      have sz4 : n0 ≤ h4.size := Nat.le_trans Z0 E4.1
      have K4 : Keep h0 h4 [] := ((Keep.refl h0 [])).ext E4
      have E8 : Exa Z h4 b4 "[B" := Ea4
      have G9 : own_Gi Z h4 b4 .byte xn B := own_Gi.of A4 gs4
      refine own_Goes.via (T' := T4) (g' := (mkF m 21 #[.val (.ref ab), .val (.int xf), .val (.int xt)] [(.ref b4)])) (st4) ?_
      obtain ⟨T10, X10, e10, st10⟩ := castY X4 hx hZ hown (hw _ (List.mem_of_getElem? (i := 151) rfl)) e4 (Ins.self E8) (g := (mkF m 21 #[.val (.ref ab), .val (.int xf), .val (.int xt)] [(.ref b4)])) rfl rfl (hb hby d17_21)
      refine own_Goes.via (T' := T10) (g' := (mkF m 24 #[.val (.ref ab), .val (.int xf), .val (.int xt)] [(.ref b4)])) (st10) ?_
      obtain ⟨fs, hr, hrun, hended, hW, hsame⟩ := X10.leave (v := some (.ref b4)) (fun h => by rw [Bd.returns] at h; cases h)
      refine own_Goes.fin (retOut X10 hx Bd.returns rfl (Or.inr (Or.inr (Or.inr (Or.inr ⟨rfl, rfl, rfl⟩)))) (hb hby d17_24) hr) hrun hended ?_
      subst hPd
      refine ⟨_, _, rfl, ?_, ⟨_, rfl⟩, hW, hsame.mono (by decide) (by decide)⟩
      show Q17 Z ab xf xt xn B h0 n0 _ T10.heap _
      rw [e10]
      exact ⟨b4, rfl, N0, K4, ⟨sz_b4, ge_b4⟩, E8, (own_Gi.cast G9 (own_pl17_1 hc1_1 hc7_3 hR hR1 hcap18_5) (own_pl17_2 hc1_1 hc7_3 hR hR1 hcap18_5))⟩
    · refine own_Goes.via (T' := s₁) (g' := (mkF m 10 #[.val (.ref ab), .val (.int xf), .val (.int xt)] [])) (fun t_ k_ => XS.icmpNo X0.here hx rfl (hb hby d17_7) rfl (feq hc7_3).1 k_) ?_
      refine own_Goes.via (T' := s₁) (g' := (mkF m 11 #[.val (.ref ab), .val (.int xf), .val (.int xt)] [(.ref ab)])) (fun t_ k_ => XS.aloadN X0.here hx rfl (hb hby d17_10) rfl rfl k_) ?_
      refine own_Goes.via (T' := s₁) (g' := (mkF m 12 #[.val (.ref ab), .val (.int xf), .val (.int xt)] [(.int xf), (.ref ab)])) (fun t_ k_ => XS.iloadN X0.here hx rfl (hb hby d17_11) rfl k_) ?_
      refine own_Goes.via (T' := s₁) (g' := (mkF m 13 #[.val (.ref ab), .val (.int xf), .val (.int xt)] [(.int xt), (.int xf), (.ref ab)])) (fun t_ k_ => XS.iloadN X0.here hx rfl (hb hby d17_12) rfl k_) ?_
      have cd13_12 : own_win xf (xt - xf) xn := by first | assumption | decide
      have cd13_13 : (xt - xf).toInt = xt.toInt - xf.toInt := by first | assumption | decide
      obtain ⟨_, _, ⟨T11, L11, k11, n11⟩, -, X11, ⟨Lc11, hQ11, l11, y11, z11⟩, st11⟩ := Jvm.LawKit.callS X0 hx (y := (⟨"java/util/Arrays", "copyOfRangeByte", "([BII)[B"⟩ : MethodName)) hown (mvT hZ (hw _ (List.mem_of_getElem? (i := 101) rfl))) (mvT hZ (hw _ (List.mem_of_getElem? (i := 102) rfl))) (mvT hZ (hw _ (List.mem_of_getElem? (i := 99) rfl))) (mvT hZ (hw _ (List.mem_of_getElem? (i := 103) rfl))) (by decide) (backOf (W := 0) (rm18 l Z a0 hw [] ab xf xt xn B h0 n0 Z0 PF0 PF1 cd13_12 cd13_13) hZ (hw _ (List.mem_of_getElem? (i := 103) rfl)) (hw _ (List.mem_of_getElem? (i := 99) rfl)) (by decide) (by decide)) (g := (mkF m 13 #[.val (.ref ab), .val (.int xf), .val (.int xt)] [(.int xt), (.int xf), (.ref ab)])) rfl (by rw [hml]; rfl) (argsL := [(.ref ab), (.int xf), (.int xt)]) (rest := []) (lenOf pd_17_0 rfl) rfl (by show 2 * 0 + _ ≤ _; exact Nat.le_of_eq rfl) (hb hby d17_13) (fun _ _ => ⟨rfl, e0, (by decide : 0 + 1 ≤ _), (by decide : 0 + 4 ≤ _)⟩)
      dsimp only [Pt.U, Pt.locs, Pt.cells, Pt.slots] at X11 l11 y11 z11 st11 hQ11
      subst l11 y11 z11
      obtain ⟨bz_11, rfl, Nq11, Kq11, ⟨sq_bz_11, ge_bz_11⟩, pf11_0, pf11_1⟩ := hQ11
      have N11 := Fr.app N0 Nq11
      have sz_bz_11 : h0.size ≤ bz_11 := Nat.le_trans ((Keep.refl h0 [])).1 sq_bz_11
      have ne_ab_bz_11 : ab ≠ bz_11 := Nat.ne_of_lt (Nat.lt_of_lt_of_le PF0.lt sq_bz_11)
      have E14 : Exa Z T11.heap ab "[B" := PF0.keep Kq11
      have G15 : own_Gi Z T11.heap ab .byte xn B := PF1.keep Kq11 nin0
      have sz11 : n0 ≤ T11.heap.size := Nat.le_trans Z0 Kq11.1
      have K11 : Keep h0 T11.heap [] := ((Keep.refl h0 [])).trans Kq11 all0
      refine own_Goes.via (T' := T11) (g' := (mkF m 16 #[.val (.ref ab), .val (.int xf), .val (.int xt)] [(.ref bz_11)])) (st11) ?_
      obtain ⟨fs, hr, hrun, hended, hW, hsame⟩ := X11.leave (v := some (.ref bz_11)) (fun h => by rw [Bd.returns] at h; cases h)
      refine own_Goes.fin (retOut X11 hx Bd.returns rfl (Or.inr (Or.inr (Or.inr (Or.inr ⟨rfl, rfl, rfl⟩)))) (hb hby d17_16) hr) hrun hended ?_
      subst hPd
      refine ⟨_, _, rfl, ?_, ⟨_, rfl⟩, hW, hsame.mono (by decide) (by decide)⟩
      show Q17 Z ab xf xt xn B h0 n0 _ T11.heap _
      exact ⟨bz_11, rfl, N11, K11, ⟨sz_bz_11, ge_bz_11⟩, pf11_0, pf11_1⟩
  · refine own_Goes.via (T' := s₁) (g' := (mkF m 10 #[.val (.ref ab), .val (.int xf), .val (.int xt)] [])) (fun t_ k_ => XS.ifYes X0.here hx rfl (pc0 := 1) (pc' := 10) rfl (hb hby d17_1) rfl ((if0 _ _).trans (feq hc1_1).2) (by decide) (by decide) k_) ?_
    refine own_Goes.via (T' := s₁) (g' := (mkF m 11 #[.val (.ref ab), .val (.int xf), .val (.int xt)] [(.ref ab)])) (fun t_ k_ => XS.aloadN X0.here hx rfl (hb hby d17_10) rfl rfl k_) ?_
    refine own_Goes.via (T' := s₁) (g' := (mkF m 12 #[.val (.ref ab), .val (.int xf), .val (.int xt)] [(.int xf), (.ref ab)])) (fun t_ k_ => XS.iloadN X0.here hx rfl (hb hby d17_11) rfl k_) ?_
    refine own_Goes.via (T' := s₁) (g' := (mkF m 13 #[.val (.ref ab), .val (.int xf), .val (.int xt)] [(.int xt), (.int xf), (.ref ab)])) (fun t_ k_ => XS.iloadN X0.here hx rfl (hb hby d17_12) rfl k_) ?_
    have cd13_17 : own_win xf (xt - xf) xn := by first | assumption | decide
    have cd13_18 : (xt - xf).toInt = xt.toInt - xf.toInt := by first | assumption | decide
    obtain ⟨_, _, ⟨T16, L16, k16, n16⟩, -, X16, ⟨Lc16, hQ16, l16, y16, z16⟩, st16⟩ := Jvm.LawKit.callS X0 hx (y := (⟨"java/util/Arrays", "copyOfRangeByte", "([BII)[B"⟩ : MethodName)) hown (mvT hZ (hw _ (List.mem_of_getElem? (i := 101) rfl))) (mvT hZ (hw _ (List.mem_of_getElem? (i := 102) rfl))) (mvT hZ (hw _ (List.mem_of_getElem? (i := 99) rfl))) (mvT hZ (hw _ (List.mem_of_getElem? (i := 103) rfl))) (by decide) (backOf (W := 0) (rm18 l Z a0 hw [] ab xf xt xn B h0 n0 Z0 PF0 PF1 cd13_17 cd13_18) hZ (hw _ (List.mem_of_getElem? (i := 103) rfl)) (hw _ (List.mem_of_getElem? (i := 99) rfl)) (by decide) (by decide)) (g := (mkF m 13 #[.val (.ref ab), .val (.int xf), .val (.int xt)] [(.int xt), (.int xf), (.ref ab)])) rfl (by rw [hml]; rfl) (argsL := [(.ref ab), (.int xf), (.int xt)]) (rest := []) (lenOf pd_17_0 rfl) rfl (by show 2 * 0 + _ ≤ _; exact Nat.le_of_eq rfl) (hb hby d17_13) (fun _ _ => ⟨rfl, e0, (by decide : 0 + 1 ≤ _), (by decide : 0 + 4 ≤ _)⟩)
    dsimp only [Pt.U, Pt.locs, Pt.cells, Pt.slots] at X16 l16 y16 z16 st16 hQ16
    subst l16 y16 z16
    obtain ⟨bz_16, rfl, Nq16, Kq16, ⟨sq_bz_16, ge_bz_16⟩, pf16_0, pf16_1⟩ := hQ16
    have N16 := Fr.app N0 Nq16
    have sz_bz_16 : h0.size ≤ bz_16 := Nat.le_trans ((Keep.refl h0 [])).1 sq_bz_16
    have ne_ab_bz_16 : ab ≠ bz_16 := Nat.ne_of_lt (Nat.lt_of_lt_of_le PF0.lt sq_bz_16)
    have E19 : Exa Z T16.heap ab "[B" := PF0.keep Kq16
    have G20 : own_Gi Z T16.heap ab .byte xn B := PF1.keep Kq16 nin0
    have sz16 : n0 ≤ T16.heap.size := Nat.le_trans Z0 Kq16.1
    have K16 : Keep h0 T16.heap [] := ((Keep.refl h0 [])).trans Kq16 all0
    refine own_Goes.via (T' := T16) (g' := (mkF m 16 #[.val (.ref ab), .val (.int xf), .val (.int xt)] [(.ref bz_16)])) (st16) ?_
    obtain ⟨fs, hr, hrun, hended, hW, hsame⟩ := X16.leave (v := some (.ref bz_16)) (fun h => by rw [Bd.returns] at h; cases h)
    refine own_Goes.fin (retOut X16 hx Bd.returns rfl (Or.inr (Or.inr (Or.inr (Or.inr ⟨rfl, rfl, rfl⟩)))) (hb hby d17_16) hr) hrun hended ?_
    subst hPd
    refine ⟨_, _, rfl, ?_, ⟨_, rfl⟩, hW, hsame.mono (by decide) (by decide)⟩
    show Q17 Z ab xf xt xn B h0 n0 _ T16.heap _
    exact ⟨bz_16, rfl, N16, K16, ⟨sz_bz_16, ge_bz_16⟩, pf16_0, pf16_1⟩
theorem d11_0 : decode jdk_42_method_11_code 0 = .ok (.aload_n 0, 1) := by decide +kernel
theorem d11_1 : decode jdk_42_method_11_code 1 = .ok (.invokespecial 1, 3) := by decide +kernel
theorem d11_4 : decode jdk_42_method_11_code 4 = .ok (.iload 4, 2) := by decide +kernel
theorem d11_6 : decode jdk_42_method_11_code 6 = .ok (.ifCond .ne 24, 3) := by decide +kernel
theorem d11_30 : decode jdk_42_method_11_code 30 = .ok (.aload_n 1, 1) := by decide +kernel
theorem d11_31 : decode jdk_42_method_11_code 31 = .ok (.getstatic 86, 3) := by decide +kernel
theorem d11_34 : decode jdk_42_method_11_code 34 = .ok (.if_acmp .ne 312, 3) := by decide +kernel
theorem d11_346 : decode jdk_42_method_11_code 346 = .ok (.aload_n 1, 1) := by decide +kernel
theorem d11_347 : decode jdk_42_method_11_code 347 = .ok (.getstatic 116, 3) := by decide +kernel
theorem d11_350 : decode jdk_42_method_11_code 350 = .ok (.if_acmp .ne 49, 3) := by decide +kernel
theorem d11_399 : decode jdk_42_method_11_code 399 = .ok (.aload_n 1, 1) := by decide +kernel
theorem d11_400 : decode jdk_42_method_11_code 400 = .ok (.getstatic 123, 3) := by decide +kernel
theorem d11_403 : decode jdk_42_method_11_code 403 = .ok (.if_acmp .ne 105, 3) := by decide +kernel
theorem d11_406 : decode jdk_42_method_11_code 406 = .ok (.getstatic 38, 3) := by decide +kernel
theorem d11_409 : decode jdk_42_method_11_code 409 = .ok (.ifCond .eq 34, 3) := by decide +kernel
theorem d11_412 : decode jdk_42_method_11_code 412 = .ok (.aload_n 2, 1) := by decide +kernel
theorem d11_413 : decode jdk_42_method_11_code 413 = .ok (.iload_n 3, 1) := by decide +kernel
theorem d11_414 : decode jdk_42_method_11_code 414 = .ok (.iload 4, 2) := by decide +kernel
theorem d11_416 : decode jdk_42_method_11_code 416 = .ok (.invokestatic 128, 3) := by decide +kernel
theorem d11_419 : decode jdk_42_method_11_code 419 = .ok (.ifCond .ne 24, 3) := by decide +kernel
theorem d11_422 : decode jdk_42_method_11_code 422 = .ok (.aload_n 0, 1) := by decide +kernel
theorem d11_423 : decode jdk_42_method_11_code 423 = .ok (.aload_n 2, 1) := by decide +kernel
theorem d11_424 : decode jdk_42_method_11_code 424 = .ok (.iload_n 3, 1) := by decide +kernel
theorem d11_425 : decode jdk_42_method_11_code 425 = .ok (.iload_n 3, 1) := by decide +kernel
theorem d11_426 : decode jdk_42_method_11_code 426 = .ok (.iload 4, 2) := by decide +kernel
theorem d11_428 : decode jdk_42_method_11_code 428 = .ok (.iadd, 1) := by decide +kernel
theorem d11_429 : decode jdk_42_method_11_code 429 = .ok (.invokestatic 54, 3) := by decide +kernel
theorem d11_432 : decode jdk_42_method_11_code 432 = .ok (.putfield 9, 3) := by decide +kernel
theorem d11_435 : decode jdk_42_method_11_code 435 = .ok (.aload_n 0, 1) := by decide +kernel
theorem d11_436 : decode jdk_42_method_11_code 436 = .ok (.iconst 0, 1) := by decide +kernel
theorem d11_437 : decode jdk_42_method_11_code 437 = .ok (.putfield 15, 3) := by decide +kernel
theorem d11_440 : decode jdk_42_method_11_code 440 = .ok (.goto 439, 3) := by decide +kernel
theorem d11_879 : decode jdk_42_method_11_code 879 = .ok (.return_, 1) := by decide +kernel
theorem pn_11 : plainName "java/lang/String" = true := by first | (simp [plainName, overriddenIn]; done) | decide +kernel
theorem pd_11a_0 : parseMethodDescriptor "([BII)Z" = some ⟨[(.array .byte), .int, .int], some .boolean⟩ := by decide +kernel
theorem pd_11a_1 : parseMethodDescriptor "([BII)[B" = some ⟨[(.array .byte), .int, .int], some (.array .byte)⟩ := by decide +kernel
theorem ef_11a (m : MethodId) (ao : Addr) (s_us : Addr) (ab : Addr) (xo : Int32) (xl : Int32) : entryFrame m #[(.ref ao), (.ref s_us), (.ref ab), (.int xo), (.int xl)] 11 = mkF m 0 #[.val (.ref ao), .val (.ref s_us), .val (.ref ab), .val (.int xo), .val (.int xl), .unset, .unset, .unset, .unset, .unset, .unset] [] := by first | (simp [entryFrame, mkF, argsToLocals, Value.category]; done) | rfl
def Q11a (Z : State) (ao : Addr) (s_us : Addr) (ab : Addr) (xo : Int32) (xl : Int32) (s_utf : Addr) (s_iso : Addr) (xcs : Int32) (xn : Int32) (B : Nat → Int32) (h0 : Heap) (n0 : Nat) (v : Option Value) (h : Heap) (L : List Loc) : Prop := ∃ (bz : Addr), v = none ∧ Fr n0 L ∧ Keep h0 h [ao] ∧ Fld Z h ao "java/lang/String" "value" "[B" (.ref bz) ∧ Fld Z h ao "java/lang/String" "coder" "B" (.int (0 : Int32)) ∧ own_Gi Z h bz .byte xl (own_sh B xo.toNatClampNeg)
set_option maxRecDepth 65536 in
theorem own_pl11a_0 {xo : Int32} {xl : Int32} {xn : Int32} {B : Nat → Int32} (hWn : own_win xo xl xn) (hP : own_nn B xo xl) (hl : ¬ (xl = (0 : Int32))) (cd416_12 : own_win xo xl xn) (cd416_13 : own_nn B xo xl) : own_win xo ((xo + xl) - xo) xn := by
  rw [own_addsub hWn]
  exact hWn
set_option maxRecDepth 65536 in
theorem own_pl11a_1 {xo : Int32} {xl : Int32} {xn : Int32} {B : Nat → Int32} (hWn : own_win xo xl xn) (hP : own_nn B xo xl) (hl : ¬ (xl = (0 : Int32))) (cd416_12 : own_win xo xl xn) (cd416_13 : own_nn B xo xl) (cd429_15 : own_win xo ((xo + xl) - xo) xn) : ((xo + xl) - xo).toInt = (xo + xl).toInt - xo.toInt := by
  obtain ⟨a, b, c, d⟩ := id hWn
  rw [own_addsub hWn, hWn.add]
  omega
set_option maxRecDepth 65536 in
theorem own_pl11a_2 {xo : Int32} {xl : Int32} {xn : Int32} {B : Nat → Int32} (hWn : own_win xo xl xn) (hP : own_nn B xo xl) (hl : ¬ (xl = (0 : Int32))) (cd416_12 : own_win xo xl xn) (cd416_13 : own_nn B xo xl) (cd429_15 : own_win xo ((xo + xl) - xo) xn) (cd429_16 : ((xo + xl) - xo).toInt = (xo + xl).toInt - xo.toInt) : ((xo + xl) - xo) = xl := by
  exact own_addsub hWn
set_option maxRecDepth 65536 in
set_option maxHeartbeats 40000000 in
theorem rm11a (l : Launch) (Z : State) (a0 : Array Value) (hw : ∀ d ∈ tables_1, d.before a0 Z = true) (ws : List Jvm.Cond) (ao : Addr) (s_us : Addr) (ab : Addr) (xo : Int32) (xl : Int32) (s_utf : Addr) (s_iso : Addr) (xcs : Int32) (xn : Int32) (B : Nat → Int32) (h0 : Heap) (n0 : Nat) (Z0 : n0 ≤ h0.size) (PF0 : Exa Z h0 ao "java/lang/String") (PF1 : Exa Z h0 ab "[B") (PF2 : Fld Z h0 ao "java/lang/String" "value" "[B" .null) (PF3 : Fld Z h0 ao "java/lang/String" "coder" "B" (.int (0 : Int32))) (PF4 : own_Gi Z h0 ab .byte xn B) (OL : Old Z n0 h0) (ge_ao : n0 ≤ ao) (hWn : own_win xo xl xn) (hP : own_nn B xo xl) (hl : ¬ (xl = (0 : Int32))) (S_utf : Sta Z Z.heap "sun/nio/cs/UTF_8" "INSTANCE" "Lsun/nio/cs/UTF_8;" (.ref s_utf)) (S_iso : Sta Z Z.heap "sun/nio/cs/ISO_8859_1" "INSTANCE" "Lsun/nio/cs/ISO_8859_1;" (.ref s_iso)) (S_us : Sta Z Z.heap "sun/nio/cs/US_ASCII" "INSTANCE" "Lsun/nio/cs/US_ASCII;" (.ref s_us)) (E_utf : Exa Z Z.heap s_utf "sun/nio/cs/UTF_8") (E_iso : Exa Z Z.heap s_iso "sun/nio/cs/ISO_8859_1") (E_us : Exa Z Z.heap s_us "sun/nio/cs/US_ASCII") (S_cs : Sta Z Z.heap "java/lang/String" "COMPACT_STRINGS" "Z" (.int xcs)) (hcs : ¬ (xcs = (0 : Int32))) :
    MetFree l (⟨"java/lang/String", "<init>", "(Ljava/nio/charset/Charset;[BII)V"⟩ : MethodName) (head1 (Jvm.Cond.codeWith (⟨"java/lang/String", "<init>", "(Ljava/nio/charset/Charset;[BII)V"⟩ : MethodName) jdk_42_method_11_code 11 none [((800 : Nat), (813 : Nat), (816 : Nat), (202 : Nat))] :: ws) ({ frames := 3, cells := 1, slots := 4, locals := 49 } : Room)) (fun a U => a = #[(.ref ao), (.ref s_us), (.ref ab), (.int xo), (.int xl)] ∧ Z.Warmed39 U.vm ∧ U.heap = h0) (fun _ _ _ _ _ => True) (fun _ U o U' => ∃ v L, o = .returned v ∧ Q11a Z ao s_us ab xo xl s_utf s_iso xcs xn B h0 n0 v U'.heap L ∧ FrameEnd U o U' L ({ frames := 3, cells := 1, slots := 4, locals := 49 } : Room).cells ({ frames := 3, cells := 1, slots := 4, locals := 49 } : Room).slots) := by
  refine MetFree.of_bodySF (plainFor_of_name pn_11) hisWith ?_
  intro p e s m args below meth c s₁ Bd hml0 hP hK
  obtain ⟨rfl, hZ, hh⟩ := hP
  have hx := Bd.exec
  have hby := Bd.bytes
  have hml : c.maxLocals = 11 := hml0
  have hown : s.vm.findClass "java/lang/String" = some m.cls := findClass_of_methodNamed Bd.named
  have hnm := (name_of_methodNamed Bd.named Bd.method).1
  have X0 : Stand p l e ({ frames := 3, cells := 1, slots := 4, locals := 49 } : Room) s m #[(.ref ao), (.ref s_us), (.ref ab), (.int xo), (.int xl)] below meth c s₁ [] 0 0 := Stand.of_body Bd
  have e0 : s₁.heap = h0 := by rw [← hh, Bd.state]; rfl
  have N0 := Fr.nil n0
  suffices G : own_Goes p.tables e below (fun o U' => ∃ v L, o = .returned v ∧ Q11a Z ao s_us ab xo xl s_utf s_iso xcs xn B h0 n0 v U'.heap L ∧ FrameEnd s o U' L ({ frames := 3, cells := 1, slots := 4, locals := 49 } : Room).cells ({ frames := 3, cells := 1, slots := 4, locals := 49 } : Room).slots) s₁ (mkF m 0 #[.val (.ref ao), .val (.ref s_us), .val (.ref ab), .val (.int xo), .val (.int xl), .unset, .unset, .unset, .unset, .unset, .unset] []) by
    obtain ⟨t2_, o2_, z1_, z2_, z3_, z4_⟩ := G
    exact ⟨t2_, o2_, castTop (ef_11a m ao s_us ab xo xl) z1_, z2_, z3_, z4_⟩
  generalize hPd : (fun (o : Outcome) (U' : State) => ∃ v L, o = .returned v ∧ Q11a Z ao s_us ab xo xl s_utf s_iso xcs xn B h0 n0 v U'.heap L ∧ FrameEnd s o U' L ({ frames := 3, cells := 1, slots := 4, locals := 49 } : Room).cells ({ frames := 3, cells := 1, slots := 4, locals := 49 } : Room).slots) = P
  have E1 : Exa Z h0 s_utf "sun/nio/cs/UTF_8" := E_utf.ext OL.2
  have E2 : Exa Z h0 s_iso "sun/nio/cs/ISO_8859_1" := E_iso.ext OL.2
  have E3 : Exa Z h0 s_us "sun/nio/cs/US_ASCII" := E_us.ext OL.2
  refine own_Goes.via (T' := s₁) (g' := (mkF m 1 #[.val (.ref ao), .val (.ref s_us), .val (.ref ab), .val (.int xo), .val (.int xl), .unset, .unset, .unset, .unset, .unset, .unset] [(.ref ao)])) (fun t_ k_ => XS.aloadN X0.here hx rfl (hb hby d11_0) rfl rfl k_) ?_
  obtain ⟨T4, X4, e4, st4⟩ := initO X0 hx hZ hown (hw _ (List.mem_of_getElem? (i := 62) rfl)) (hw _ (List.mem_of_getElem? (i := 13) rfl)) (hw _ (List.mem_of_getElem? (i := 14) rfl)) e0 (g := (mkF m 1 #[.val (.ref ao), .val (.ref s_us), .val (.ref ab), .val (.int xo), .val (.int xl), .unset, .unset, .unset, .unset, .unset, .unset] [(.ref ao)])) rfl (by rw [hml]; rfl) rfl (hb hby d11_1) (by decide) (W := 0) (by show 2 * 0 + _ ≤ _; exact Nat.le_of_eq rfl) (by decide)
  refine own_Goes.via (T' := T4) (g' := (mkF m 4 #[.val (.ref ao), .val (.ref s_us), .val (.ref ab), .val (.int xo), .val (.int xl), .unset, .unset, .unset, .unset, .unset, .unset] [])) (st4) ?_
  refine own_Goes.via (T' := T4) (g' := (mkF m 6 #[.val (.ref ao), .val (.ref s_us), .val (.ref ab), .val (.int xo), .val (.int xl), .unset, .unset, .unset, .unset, .unset, .unset] [(.int xl)])) (fun t_ k_ => XS.iload X4.here hx rfl (hb hby d11_4) rfl k_) ?_
  have hd6_5 : ¬ (xl = (0 : Int32)) := hl
  refine own_Goes.via (T' := T4) (g' := (mkF m 30 #[.val (.ref ao), .val (.ref s_us), .val (.ref ab), .val (.int xo), .val (.int xl), .unset, .unset, .unset, .unset, .unset, .unset] [])) (fun t_ k_ => XS.ifYes X4.here hx rfl (pc0 := 6) (pc' := 30) rfl (hb hby d11_6) rfl ((if0 _ _).trans (feq hd6_5).2) (by decide) (by decide) k_) ?_
  refine own_Goes.via (T' := T4) (g' := (mkF m 31 #[.val (.ref ao), .val (.ref s_us), .val (.ref ab), .val (.int xo), .val (.int xl), .unset, .unset, .unset, .unset, .unset, .unset] [(.ref s_us)])) (fun t_ k_ => XS.aloadN X4.here hx rfl (hb hby d11_30) rfl rfl k_) ?_
  obtain ⟨T6, X6, e6, st6⟩ := getS2 X4 hx hZ hown (host := "") (Or.inl (hw _ (List.mem_of_getElem? (i := 84) rfl))) Via.refl e4 (S_utf.ext OL.2) (g := (mkF m 31 #[.val (.ref ao), .val (.ref s_us), .val (.ref ab), .val (.int xo), .val (.int xl), .unset, .unset, .unset, .unset, .unset, .unset] [(.ref s_us)])) rfl (hb hby d11_31)
  refine own_Goes.via (T' := T6) (g' := (mkF m 34 #[.val (.ref ao), .val (.ref s_us), .val (.ref ab), .val (.int xo), .val (.int xl), .unset, .unset, .unset, .unset, .unset, .unset] [(.ref s_utf), (.ref s_us)])) (st6) ?_
  refine own_Goes.via (T' := T6) (g' := (mkF m 346 #[.val (.ref ao), .val (.ref s_us), .val (.ref ab), .val (.int xo), .val (.int xl), .unset, .unset, .unset, .unset, .unset, .unset] [])) (fun t_ k_ => Jvm.RoadKit.acmp (g := (mkF m 34 #[.val (.ref ao), .val (.ref s_us), .val (.ref ab), .val (.int xo), .val (.int xl), .unset, .unset, .unset, .unset, .unset, .unset] [(.ref s_utf), (.ref s_us)])) X6 hx rfl rfl rfl (pc0 := 34) (pc' := 346) (same := false) rfl (hb hby d11_34) rfl (decide_eq_false fun q => (Exa.ne E3 E1 (by decide)) (Value.ref.inj q)) (by decide) (by decide) k_) ?_
  refine own_Goes.via (T' := T6) (g' := (mkF m 347 #[.val (.ref ao), .val (.ref s_us), .val (.ref ab), .val (.int xo), .val (.int xl), .unset, .unset, .unset, .unset, .unset, .unset] [(.ref s_us)])) (fun t_ k_ => XS.aloadN X6.here hx rfl (hb hby d11_346) rfl rfl k_) ?_
  obtain ⟨T7, X7, e7, st7⟩ := getS2 X6 hx hZ hown (host := "") (Or.inl (hw _ (List.mem_of_getElem? (i := 86) rfl))) Via.refl e6 (S_iso.ext OL.2) (g := (mkF m 347 #[.val (.ref ao), .val (.ref s_us), .val (.ref ab), .val (.int xo), .val (.int xl), .unset, .unset, .unset, .unset, .unset, .unset] [(.ref s_us)])) rfl (hb hby d11_347)
  refine own_Goes.via (T' := T7) (g' := (mkF m 350 #[.val (.ref ao), .val (.ref s_us), .val (.ref ab), .val (.int xo), .val (.int xl), .unset, .unset, .unset, .unset, .unset, .unset] [(.ref s_iso), (.ref s_us)])) (st7) ?_
  refine own_Goes.via (T' := T7) (g' := (mkF m 399 #[.val (.ref ao), .val (.ref s_us), .val (.ref ab), .val (.int xo), .val (.int xl), .unset, .unset, .unset, .unset, .unset, .unset] [])) (fun t_ k_ => Jvm.RoadKit.acmp (g := (mkF m 350 #[.val (.ref ao), .val (.ref s_us), .val (.ref ab), .val (.int xo), .val (.int xl), .unset, .unset, .unset, .unset, .unset, .unset] [(.ref s_iso), (.ref s_us)])) X7 hx rfl rfl rfl (pc0 := 350) (pc' := 399) (same := false) rfl (hb hby d11_350) rfl (decide_eq_false fun q => (Exa.ne E3 E2 (by decide)) (Value.ref.inj q)) (by decide) (by decide) k_) ?_
  refine own_Goes.via (T' := T7) (g' := (mkF m 400 #[.val (.ref ao), .val (.ref s_us), .val (.ref ab), .val (.int xo), .val (.int xl), .unset, .unset, .unset, .unset, .unset, .unset] [(.ref s_us)])) (fun t_ k_ => XS.aloadN X7.here hx rfl (hb hby d11_399) rfl rfl k_) ?_
  obtain ⟨T8, X8, e8, st8⟩ := getS2 X7 hx hZ hown (host := "") (Or.inl (hw _ (List.mem_of_getElem? (i := 88) rfl))) Via.refl e7 (S_us.ext OL.2) (g := (mkF m 400 #[.val (.ref ao), .val (.ref s_us), .val (.ref ab), .val (.int xo), .val (.int xl), .unset, .unset, .unset, .unset, .unset, .unset] [(.ref s_us)])) rfl (hb hby d11_400)
  refine own_Goes.via (T' := T8) (g' := (mkF m 403 #[.val (.ref ao), .val (.ref s_us), .val (.ref ab), .val (.int xo), .val (.int xl), .unset, .unset, .unset, .unset, .unset, .unset] [(.ref s_us), (.ref s_us)])) (st8) ?_
  refine own_Goes.via (T' := T8) (g' := (mkF m 406 #[.val (.ref ao), .val (.ref s_us), .val (.ref ab), .val (.int xo), .val (.int xl), .unset, .unset, .unset, .unset, .unset, .unset] [])) (fun t_ k_ => Jvm.RoadKit.acmp (g := (mkF m 403 #[.val (.ref ao), .val (.ref s_us), .val (.ref ab), .val (.int xo), .val (.int xl), .unset, .unset, .unset, .unset, .unset, .unset] [(.ref s_us), (.ref s_us)])) X8 hx rfl rfl rfl (pc0 := 403) (pc' := 406) (same := true) rfl (hb hby d11_403) rfl (decide_eq_true rfl) (by decide) (by decide) k_) ?_
  obtain ⟨T9, X9, e9, st9⟩ := getS2 X8 hx hZ hown (host := "") (Or.inl (hw _ (List.mem_of_getElem? (i := 80) rfl))) Via.refl e8 (S_cs.ext OL.2) (g := (mkF m 406 #[.val (.ref ao), .val (.ref s_us), .val (.ref ab), .val (.int xo), .val (.int xl), .unset, .unset, .unset, .unset, .unset, .unset] [])) rfl (hb hby d11_406)
  refine own_Goes.via (T' := T9) (g' := (mkF m 409 #[.val (.ref ao), .val (.ref s_us), .val (.ref ab), .val (.int xo), .val (.int xl), .unset, .unset, .unset, .unset, .unset, .unset] [(.int xcs)])) (st9) ?_
  have hd409_10 : ¬ (xcs = (0 : Int32)) := hcs
  refine own_Goes.via (T' := T9) (g' := (mkF m 412 #[.val (.ref ao), .val (.ref s_us), .val (.ref ab), .val (.int xo), .val (.int xl), .unset, .unset, .unset, .unset, .unset, .unset] [])) (fun t_ k_ => XS.ifNo X9.here hx rfl (hb hby d11_409) rfl ((if0 _ _).trans (feq hd409_10).1) k_) ?_
  refine own_Goes.via (T' := T9) (g' := (mkF m 413 #[.val (.ref ao), .val (.ref s_us), .val (.ref ab), .val (.int xo), .val (.int xl), .unset, .unset, .unset, .unset, .unset, .unset] [(.ref ab)])) (fun t_ k_ => XS.aloadN X9.here hx rfl (hb hby d11_412) rfl rfl k_) ?_
  refine own_Goes.via (T' := T9) (g' := (mkF m 414 #[.val (.ref ao), .val (.ref s_us), .val (.ref ab), .val (.int xo), .val (.int xl), .unset, .unset, .unset, .unset, .unset, .unset] [(.int xo), (.ref ab)])) (fun t_ k_ => XS.iloadN X9.here hx rfl (hb hby d11_413) rfl k_) ?_
  refine own_Goes.via (T' := T9) (g' := (mkF m 416 #[.val (.ref ao), .val (.ref s_us), .val (.ref ab), .val (.int xo), .val (.int xl), .unset, .unset, .unset, .unset, .unset, .unset] [(.int xl), (.int xo), (.ref ab)])) (fun t_ k_ => XS.iload X9.here hx rfl (hb hby d11_414) rfl k_) ?_
  have cd416_12 : own_win xo xl xn := by first | assumption | decide
  have cd416_13 : own_nn B xo xl := by first | assumption | decide
  obtain ⟨_, _, ⟨T11, L11, k11, n11⟩, -, X11, ⟨Lc11, hQ11, l11, y11, z11⟩, st11⟩ := Jvm.LawKit.callS X9 hx (y := (⟨"java/lang/StringCoding", "hasNegatives", "([BII)Z"⟩ : MethodName)) hown (mvT hZ (hw _ (List.mem_of_getElem? (i := 90) rfl))) (mvT hZ (hw _ (List.mem_of_getElem? (i := 91) rfl))) (mvT hZ (hw _ (List.mem_of_getElem? (i := 92) rfl))) (mvT hZ (hw _ (List.mem_of_getElem? (i := 93) rfl))) (by decide) (backOf (W := 0) (rm15 l Z a0 hw [] ab xo xl xn B h0 n0 Z0 PF4 cd416_12 cd416_13) hZ (hw _ (List.mem_of_getElem? (i := 93) rfl)) (hw _ (List.mem_of_getElem? (i := 92) rfl)) (by decide) (by decide)) (g := (mkF m 416 #[.val (.ref ao), .val (.ref s_us), .val (.ref ab), .val (.int xo), .val (.int xl), .unset, .unset, .unset, .unset, .unset, .unset] [(.int xl), (.int xo), (.ref ab)])) rfl (by rw [hml]; rfl) (argsL := [(.ref ab), (.int xo), (.int xl)]) (rest := []) (lenOf pd_11a_0 rfl) rfl (by show 2 * 0 + _ ≤ _; exact Nat.le_of_eq rfl) (hb hby d11_416) (fun _ _ => ⟨rfl, e9, (by decide : 0 + 0 ≤ _), (by decide : 0 + 0 ≤ _)⟩)
  dsimp only [Pt.U, Pt.locs, Pt.cells, Pt.slots] at X11 l11 y11 z11 st11 hQ11
  subst l11 y11 z11
  obtain ⟨rfl, Nq11, hh11⟩ := hQ11
  have N11 := Fr.app N0 Nq11
  refine own_Goes.via (T' := T11) (g' := (mkF m 419 #[.val (.ref ao), .val (.ref s_us), .val (.ref ab), .val (.int xo), .val (.int xl), .unset, .unset, .unset, .unset, .unset, .unset] [(.int (0 : Int32))])) (st11) ?_
  refine own_Goes.via (T' := T11) (g' := (mkF m 422 #[.val (.ref ao), .val (.ref s_us), .val (.ref ab), .val (.int xo), .val (.int xl), .unset, .unset, .unset, .unset, .unset, .unset] [])) (fun t_ k_ => XS.ifNo X11.here hx rfl (hb hby d11_419) rfl ((if0 _ _).trans (teq (by decide : (0 : Int32) = (0 : Int32))).2) k_) ?_
  refine own_Goes.via (T' := T11) (g' := (mkF m 423 #[.val (.ref ao), .val (.ref s_us), .val (.ref ab), .val (.int xo), .val (.int xl), .unset, .unset, .unset, .unset, .unset, .unset] [(.ref ao)])) (fun t_ k_ => XS.aloadN X11.here hx rfl (hb hby d11_422) rfl rfl k_) ?_
  refine own_Goes.via (T' := T11) (g' := (mkF m 424 #[.val (.ref ao), .val (.ref s_us), .val (.ref ab), .val (.int xo), .val (.int xl), .unset, .unset, .unset, .unset, .unset, .unset] [(.ref ab), (.ref ao)])) (fun t_ k_ => XS.aloadN X11.here hx rfl (hb hby d11_423) rfl rfl k_) ?_
  refine own_Goes.via (T' := T11) (g' := (mkF m 425 #[.val (.ref ao), .val (.ref s_us), .val (.ref ab), .val (.int xo), .val (.int xl), .unset, .unset, .unset, .unset, .unset, .unset] [(.int xo), (.ref ab), (.ref ao)])) (fun t_ k_ => XS.iloadN X11.here hx rfl (hb hby d11_424) rfl k_) ?_
  refine own_Goes.via (T' := T11) (g' := (mkF m 426 #[.val (.ref ao), .val (.ref s_us), .val (.ref ab), .val (.int xo), .val (.int xl), .unset, .unset, .unset, .unset, .unset, .unset] [(.int xo), (.int xo), (.ref ab), (.ref ao)])) (fun t_ k_ => XS.iloadN X11.here hx rfl (hb hby d11_425) rfl k_) ?_
  refine own_Goes.via (T' := T11) (g' := (mkF m 428 #[.val (.ref ao), .val (.ref s_us), .val (.ref ab), .val (.int xo), .val (.int xl), .unset, .unset, .unset, .unset, .unset, .unset] [(.int xl), (.int xo), (.int xo), (.ref ab), (.ref ao)])) (fun t_ k_ => XS.iload X11.here hx rfl (hb hby d11_426) rfl k_) ?_
  refine own_Goes.via (T' := T11) (g' := (mkF m 429 #[.val (.ref ao), .val (.ref s_us), .val (.ref ab), .val (.int xo), .val (.int xl), .unset, .unset, .unset, .unset, .unset, .unset] [(.int (xo + xl)), (.int xo), (.ref ab), (.ref ao)])) (fun t_ k_ => XS.iadd X11.here hx rfl (hb hby d11_428) rfl k_) ?_
  have cd429_15 : own_win xo ((xo + xl) - xo) xn := own_pl11a_0 hWn hP hl cd416_12 cd416_13
  have cd429_16 : ((xo + xl) - xo).toInt = (xo + xl).toInt - xo.toInt := own_pl11a_1 hWn hP hl cd416_12 cd416_13 cd429_15
  obtain ⟨_, _, ⟨T14, L14, k14, n14⟩, -, X14, ⟨Lc14, hQ14, l14, y14, z14⟩, st14⟩ := Jvm.LawKit.callS X11 hx (y := (⟨"java/util/Arrays", "copyOfRange", "([BII)[B"⟩ : MethodName)) hown (mvT hZ (hw _ (List.mem_of_getElem? (i := 97) rfl))) (mvT hZ (hw _ (List.mem_of_getElem? (i := 98) rfl))) (mvT hZ (hw _ (List.mem_of_getElem? (i := 99) rfl))) (mvT hZ (hw _ (List.mem_of_getElem? (i := 100) rfl))) (by decide) (backOf (W := 1) (rm17 l Z a0 hw [] ab xo (xo + xl) xn B h0 n0 Z0 PF1 PF4 cd429_15 cd429_16) hZ (hw _ (List.mem_of_getElem? (i := 100) rfl)) (hw _ (List.mem_of_getElem? (i := 99) rfl)) (by decide) (by decide)) (g := (mkF m 429 #[.val (.ref ao), .val (.ref s_us), .val (.ref ab), .val (.int xo), .val (.int xl), .unset, .unset, .unset, .unset, .unset, .unset] [(.int (xo + xl)), (.int xo), (.ref ab), (.ref ao)])) rfl (by rw [hml]; rfl) (argsL := [(.ref ab), (.int xo), (.int (xo + xl))]) (rest := [(.ref ao)]) (lenOf pd_11a_1 rfl) rfl (by show 2 * 0 + _ ≤ _; exact Nat.le_of_eq rfl) (hb hby d11_429) (fun _ _ => ⟨rfl, hh11, (by decide : 0 + 1 ≤ _), (by decide : 0 + 4 ≤ _)⟩)
  dsimp only [Pt.U, Pt.locs, Pt.cells, Pt.slots] at X14 l14 y14 z14 st14 hQ14
  subst l14 y14 z14
  obtain ⟨bz_14, rfl, Nq14, Kq14, ⟨sq_bz_14, ge_bz_14⟩, pf14_0, pf14_1⟩ := hQ14
  have N14 := Fr.app N11 Nq14
  have sz_bz_14 : h0.size ≤ bz_14 := Nat.le_trans ((Keep.refl h0 [ao])).1 sq_bz_14
  have ne_ao_bz_14 : ao ≠ bz_14 := Nat.ne_of_lt (Nat.lt_of_lt_of_le PF0.lt sq_bz_14)
  have ne_ab_bz_14 : ab ≠ bz_14 := Nat.ne_of_lt (Nat.lt_of_lt_of_le PF1.lt sq_bz_14)
  have ne_s_utf_bz_14 : s_utf ≠ bz_14 := Nat.ne_of_lt (Nat.lt_of_lt_of_le E1.lt sq_bz_14)
  have ne_s_iso_bz_14 : s_iso ≠ bz_14 := Nat.ne_of_lt (Nat.lt_of_lt_of_le E2.lt sq_bz_14)
  have ne_s_us_bz_14 : s_us ≠ bz_14 := Nat.ne_of_lt (Nat.lt_of_lt_of_le E3.lt sq_bz_14)
  have E17 : Exa Z T14.heap ao "java/lang/String" := PF0.keep Kq14
  have E18 : Exa Z T14.heap ab "[B" := PF1.keep Kq14
  have E19 : Exa Z T14.heap s_utf "sun/nio/cs/UTF_8" := E1.keep Kq14
  have E20 : Exa Z T14.heap s_iso "sun/nio/cs/ISO_8859_1" := E2.keep Kq14
  have E21 : Exa Z T14.heap s_us "sun/nio/cs/US_ASCII" := E3.keep Kq14
  have F22 : Fld Z T14.heap ao "java/lang/String" "value" "[B" .null := PF2.keep Kq14 nin0
  have F23 : Fld Z T14.heap ao "java/lang/String" "coder" "B" (.int (0 : Int32)) := PF3.keep Kq14 nin0
  have G24 : own_Gi Z T14.heap ab .byte xn B := PF4.keep Kq14 nin0
  have O25 : Old Z n0 T14.heap := OL.keep Kq14 all0
  have sz14 : n0 ≤ T14.heap.size := Nat.le_trans Z0 Kq14.1
  have K14 : Keep h0 T14.heap [ao] := ((Keep.refl h0 [ao])).trans Kq14 all0
  refine own_Goes.via (T' := T14) (g' := (mkF m 432 #[.val (.ref ao), .val (.ref s_us), .val (.ref ab), .val (.int xo), .val (.int xl), .unset, .unset, .unset, .unset, .unset, .unset] [(.ref bz_14), (.ref ao)])) (st14) ?_
  obtain ⟨T26, h26, X26, e26, W26, st26⟩ := putF X14 hx hZ hown (host := "") (Or.inl (hw _ (List.mem_of_getElem? (i := 68) rfl))) Via.refl rfl F22 E17 (Or.inr ⟨(hw _ (List.mem_of_getElem? (i := 64) rfl)), rfl, hnm⟩) (hw _ (List.mem_of_getElem? (i := 37) rfl)) (ty := (.array .byte)) (by decide) rfl rfl (g := (mkF m 432 #[.val (.ref ao), .val (.ref s_us), .val (.ref ab), .val (.int xo), .val (.int xl), .unset, .unset, .unset, .unset, .unset, .unset] [(.ref bz_14), (.ref ao)])) rfl rfl (hb hby d11_432)
  have E27 : Exa Z h26 ao "java/lang/String" := E17.wr W26
  have E28 : Exa Z h26 ab "[B" := E18.wr W26
  have E29 : Exa Z h26 s_utf "sun/nio/cs/UTF_8" := E19.wr W26
  have E30 : Exa Z h26 s_iso "sun/nio/cs/ISO_8859_1" := E20.wr W26
  have E31 : Exa Z h26 s_us "sun/nio/cs/US_ASCII" := E21.wr W26
  have E32 : Exa Z h26 bz_14 "[B" := pf14_0.wr W26
  have F33 : Fld Z h26 ao "java/lang/String" "coder" "B" (.int (0 : Int32)) := F23.other W26 (Or.inr (slot_ne (Or.inr (hw _ (List.mem_of_getElem? (i := 65) rfl))) (Or.inr (hw _ (List.mem_of_getElem? (i := 64) rfl))) (by decide) (t := .byte) (t' := (.array .byte)) (by decide) (by decide)))
  have G34 : own_Gi Z h26 ab .byte xn B := G24.other W26 (Exa.ne E28 E27 (by decide))
  have O35 : Old Z n0 h26 := O25.wr W26 ge_ao
  have G36 : own_Gi Z h26 bz_14 .byte ((xo + xl) - xo) (own_sh B xo.toNatClampNeg) := pf14_1.other W26 (Ne.symm ne_ao_bz_14)
  have F37 : Fld Z h26 ao "java/lang/String" "value" "[B" (.ref bz_14) := F22.same W26
  have N26 := Fr.snoc X26 N14 ge_ao
  have sz26 : n0 ≤ h26.size := Nat.le_trans sz14 (Keep.of_wr W26).1
  have K26 : Keep h0 h26 [ao] := (K14).wr W26 (Or.inl (List.mem_of_getElem? (i := 0) rfl))
  refine own_Goes.via (T' := T26) (g' := (mkF m 435 #[.val (.ref ao), .val (.ref s_us), .val (.ref ab), .val (.int xo), .val (.int xl), .unset, .unset, .unset, .unset, .unset, .unset] [])) (st26) ?_
  refine own_Goes.via (T' := T26) (g' := (mkF m 436 #[.val (.ref ao), .val (.ref s_us), .val (.ref ab), .val (.int xo), .val (.int xl), .unset, .unset, .unset, .unset, .unset, .unset] [(.ref ao)])) (fun t_ k_ => XS.aloadN X26.here hx rfl (hb hby d11_435) rfl rfl k_) ?_
  refine own_Goes.via (T' := T26) (g' := (mkF m 437 #[.val (.ref ao), .val (.ref s_us), .val (.ref ab), .val (.int xo), .val (.int xl), .unset, .unset, .unset, .unset, .unset, .unset] [(.int (0 : Int32)), (.ref ao)])) (fun t_ k_ => XS.iconst X26.here hx rfl (hb hby d11_436) k_) ?_
  obtain ⟨T38, h38, X38, e38, W38, st38⟩ := putFN X26 hx hZ hown (hw _ (List.mem_of_getElem? (i := 69) rfl)) Via.refl e26 F33 E27 (Or.inr ⟨(hw _ (List.mem_of_getElem? (i := 65) rfl)), rfl, hnm⟩) (hw _ (List.mem_of_getElem? (i := 37) rfl)) (ty := .byte) (v' := (.int (nar .byte (0 : Int32)))) (by decide) rfl (fits_nar_byte _) (g := (mkF m 437 #[.val (.ref ao), .val (.ref s_us), .val (.ref ab), .val (.int xo), .val (.int xl), .unset, .unset, .unset, .unset, .unset, .unset] [(.int (0 : Int32)), (.ref ao)])) rfl rfl (hb hby d11_437)
  have E39 : Exa Z h38 ao "java/lang/String" := E27.wr W38
  have E40 : Exa Z h38 ab "[B" := E28.wr W38
  have E41 : Exa Z h38 s_utf "sun/nio/cs/UTF_8" := E29.wr W38
  have E42 : Exa Z h38 s_iso "sun/nio/cs/ISO_8859_1" := E30.wr W38
  have E43 : Exa Z h38 s_us "sun/nio/cs/US_ASCII" := E31.wr W38
  have E44 : Exa Z h38 bz_14 "[B" := E32.wr W38
  have G45 : own_Gi Z h38 ab .byte xn B := G34.other W38 (Exa.ne E40 E39 (by decide))
  have O46 : Old Z n0 h38 := O35.wr W38 ge_ao
  have G47 : own_Gi Z h38 bz_14 .byte ((xo + xl) - xo) (own_sh B xo.toNatClampNeg) := G36.other W38 (Ne.symm ne_ao_bz_14)
  have F48 : Fld Z h38 ao "java/lang/String" "value" "[B" (.ref bz_14) := F37.other W38 (Or.inr (slot_ne (Or.inr (hw _ (List.mem_of_getElem? (i := 64) rfl))) (Or.inr (hw _ (List.mem_of_getElem? (i := 65) rfl))) (by decide) (t := (.array .byte)) (t' := .byte) (by decide) (by decide)))
  have F49 : Fld Z h38 ao "java/lang/String" "coder" "B" (.int (nar .byte (0 : Int32))) := F33.same W38
  have F50 : Fld Z h38 ao "java/lang/String" "coder" "B" (.int (0 : Int32)) := (by have q := F49; rw [(show nar .byte (0 : Int32) = (0 : Int32) from rfl)] at q; exact q)
  have N38 := Fr.snoc X38 N26 ge_ao
  have sz38 : n0 ≤ h38.size := Nat.le_trans sz26 (Keep.of_wr W38).1
  have K38 : Keep h0 h38 [ao] := (K26).wr W38 (Or.inl (List.mem_of_getElem? (i := 0) rfl))
  refine own_Goes.via (T' := T38) (g' := (mkF m 440 #[.val (.ref ao), .val (.ref s_us), .val (.ref ab), .val (.int xo), .val (.int xl), .unset, .unset, .unset, .unset, .unset, .unset] [])) (st38) ?_
  refine own_Goes.via (T' := T38) (g' := (mkF m 879 #[.val (.ref ao), .val (.ref s_us), .val (.ref ab), .val (.int xo), .val (.int xl), .unset, .unset, .unset, .unset, .unset, .unset] [])) (fun t_ k_ => XS.goto X38.here hx rfl (pc0 := 440) (pc' := 879) rfl (hb hby d11_440) (by decide) (by decide) k_) ?_
  obtain ⟨fs, hr, hrun, hended, hW, hsame⟩ := X38.leave (v := none) (fun _ => rfl)
  refine own_Goes.fin (X38.returnOut hx Bd.returns (hb hby d11_879) hr) hrun hended ?_
  subst hPd
  refine ⟨_, _, rfl, ?_, ⟨_, rfl⟩, hW, hsame.mono (by decide) (by decide)⟩
  show Q11a Z ao s_us ab xo xl s_utf s_iso xcs xn B h0 n0 _ T38.heap _
  rw [e38]
  exact ⟨bz_14, rfl, N38, K38, F48, F50, (own_Gi.cast G47 (own_pl11a_2 hWn hP hl cd416_12 cd416_13 cd429_15 cd429_16) (fun _ _ => rfl))⟩
theorem d11_9 : decode jdk_42_method_11_code 9 = .ok (.aload_n 0, 1) := by decide +kernel
theorem d11_10 : decode jdk_42_method_11_code 10 = .ok (.ldc 7, 2) := by decide +kernel
theorem d11_12 : decode jdk_42_method_11_code 12 = .ok (.getfield 9, 3) := by decide +kernel
theorem d11_15 : decode jdk_42_method_11_code 15 = .ok (.putfield 9, 3) := by decide +kernel
theorem d11_18 : decode jdk_42_method_11_code 18 = .ok (.aload_n 0, 1) := by decide +kernel
theorem d11_19 : decode jdk_42_method_11_code 19 = .ok (.ldc 7, 2) := by decide +kernel
theorem d11_21 : decode jdk_42_method_11_code 21 = .ok (.getfield 15, 3) := by decide +kernel
theorem d11_24 : decode jdk_42_method_11_code 24 = .ok (.putfield 15, 3) := by decide +kernel
theorem d11_27 : decode jdk_42_method_11_code 27 = .ok (.goto 852, 3) := by decide +kernel
theorem ef_11b (m : MethodId) (ao : Addr) (s_us : Addr) (ab : Addr) (xo : Int32) (xl : Int32) : entryFrame m #[(.ref ao), (.ref s_us), (.ref ab), (.int xo), (.int xl)] 11 = mkF m 0 #[.val (.ref ao), .val (.ref s_us), .val (.ref ab), .val (.int xo), .val (.int xl), .unset, .unset, .unset, .unset, .unset, .unset] [] := by first | (simp [entryFrame, mkF, argsToLocals, Value.category]; done) | rfl
def Q11b (Z : State) (ao : Addr) (s_us : Addr) (ab : Addr) (xo : Int32) (xl : Int32) (xn : Int32) (B : Nat → Int32) (h0 : Heap) (n0 : Nat) (v : Option Value) (h : Heap) (L : List Loc) : Prop := ∃ (bz : Addr), v = none ∧ Fr n0 L ∧ Keep h0 h [ao] ∧ Fld Z h ao "java/lang/String" "value" "[B" (.ref bz) ∧ Fld Z h ao "java/lang/String" "coder" "B" (.int (0 : Int32)) ∧ own_Gi Z h bz .byte xl (own_sh B xo.toNatClampNeg)
set_option maxRecDepth 65536 in
set_option maxHeartbeats 40000000 in
theorem rm11b (l : Launch) (Z : State) (a0 : Array Value) (hw : ∀ d ∈ tables_1, d.before a0 Z = true) (ws : List Jvm.Cond) (ao : Addr) (s_us : Addr) (ab : Addr) (xo : Int32) (xl : Int32) (xn : Int32) (B : Nat → Int32) (h0 : Heap) (n0 : Nat) (Z0 : n0 ≤ h0.size) (PF0 : Exa Z h0 ao "java/lang/String") (PF1 : Exa Z h0 ab "[B") (PF2 : Fld Z h0 ao "java/lang/String" "value" "[B" .null) (PF3 : Fld Z h0 ao "java/lang/String" "coder" "B" (.int (0 : Int32))) (PF4 : own_Gi Z h0 ab .byte xn B) (OL : Old Z n0 h0) (ge_ao : n0 ≤ ao) (hl : xl = (0 : Int32)) (hheld : Jvm.Lit.constHeld Z "java/lang/String" 7) (hcw : Jvm.Lit.compactW.before a0 Z = true) :
    MetFree l (⟨"java/lang/String", "<init>", "(Ljava/nio/charset/Charset;[BII)V"⟩ : MethodName) (head1 (Jvm.Cond.codeWith (⟨"java/lang/String", "<init>", "(Ljava/nio/charset/Charset;[BII)V"⟩ : MethodName) jdk_42_method_11_code 11 none [((800 : Nat), (813 : Nat), (816 : Nat), (202 : Nat))] :: ws) ({ frames := 1, cells := 2, slots := 4, locals := 12 } : Room)) (fun a U => a = #[(.ref ao), (.ref s_us), (.ref ab), (.int xo), (.int xl)] ∧ Z.Warmed39 U.vm ∧ U.heap = h0 ∧ U.vm.interned = Z.vm.interned) (fun _ _ _ _ _ => True) (fun _ U o U' => ∃ v L, o = .returned v ∧ Q11b Z ao s_us ab xo xl xn B h0 n0 v U'.heap L ∧ ReturnedEndW U o U' L ({ frames := 1, cells := 2, slots := 4, locals := 12 } : Room).cells ({ frames := 1, cells := 2, slots := 4, locals := 12 } : Room).slots) := by
  refine MetFree.of_bodySF (plainFor_of_name pn_11) hisWith ?_
  intro p e s m args below meth c s₁ Bd hml0 hP hK
  obtain ⟨rfl, hZ, hh, hin⟩ := hP
  have hx := Bd.exec
  have hby := Bd.bytes
  have hml : c.maxLocals = 11 := hml0
  have hown : s.vm.findClass "java/lang/String" = some m.cls := findClass_of_methodNamed Bd.named
  have hnm := (name_of_methodNamed Bd.named Bd.method).1
  have X0 : Stand p l e ({ frames := 1, cells := 2, slots := 4, locals := 12 } : Room) (s.setVm s.vm) m #[(.ref ao), (.ref s_us), (.ref ab), (.int xo), (.int xl)] below meth c s₁ [] 0 0 := Stand.of_body Bd
  have e0 : s₁.heap = h0 := by rw [← hh, Bd.state]; rfl
  have N0 := Fr.nil n0
  suffices G : own_Goes p.tables e below (fun o U' => ∃ v L, o = .returned v ∧ Q11b Z ao s_us ab xo xl xn B h0 n0 v U'.heap L ∧ ReturnedEndW s o U' L ({ frames := 1, cells := 2, slots := 4, locals := 12 } : Room).cells ({ frames := 1, cells := 2, slots := 4, locals := 12 } : Room).slots) s₁ (mkF m 0 #[.val (.ref ao), .val (.ref s_us), .val (.ref ab), .val (.int xo), .val (.int xl), .unset, .unset, .unset, .unset, .unset, .unset] []) by
    obtain ⟨t2_, o2_, z1_, z2_, z3_, z4_⟩ := G
    exact ⟨t2_, o2_, castTop (ef_11b m ao s_us ab xo xl) z1_, z2_, z3_, z4_⟩
  generalize hPd : (fun (o : Outcome) (U' : State) => ∃ v L, o = .returned v ∧ Q11b Z ao s_us ab xo xl xn B h0 n0 v U'.heap L ∧ ReturnedEndW s o U' L ({ frames := 1, cells := 2, slots := 4, locals := 12 } : Room).cells ({ frames := 1, cells := 2, slots := 4, locals := 12 } : Room).slots) = P
  have hS : s.Since s.vm 0 := (State.WarmedH.refl s).since 0
  have hk : 0 ≤ h0.size := Nat.zero_le _
  refine own_Goes.via (T' := s₁) (g' := (mkF m 1 #[.val (.ref ao), .val (.ref s_us), .val (.ref ab), .val (.int xo), .val (.int xl), .unset, .unset, .unset, .unset, .unset, .unset] [(.ref ao)])) (fun t_ k_ => XS.aloadN X0.here hx rfl (hb hby d11_0) rfl rfl k_) ?_
  obtain ⟨T1, X1, e1, st1⟩ := initO X0 hx hZ hown (hw _ (List.mem_of_getElem? (i := 62) rfl)) (hw _ (List.mem_of_getElem? (i := 13) rfl)) (hw _ (List.mem_of_getElem? (i := 14) rfl)) e0 (g := (mkF m 1 #[.val (.ref ao), .val (.ref s_us), .val (.ref ab), .val (.int xo), .val (.int xl), .unset, .unset, .unset, .unset, .unset, .unset] [(.ref ao)])) rfl (by rw [hml]; rfl) rfl (hb hby d11_1) (by decide) (W := 0) (by show 2 * 0 + _ ≤ _; exact Nat.le_of_eq rfl) (by decide)
  refine own_Goes.via (T' := T1) (g' := (mkF m 4 #[.val (.ref ao), .val (.ref s_us), .val (.ref ab), .val (.int xo), .val (.int xl), .unset, .unset, .unset, .unset, .unset, .unset] [])) (st1) ?_
  refine own_Goes.via (T' := T1) (g' := (mkF m 6 #[.val (.ref ao), .val (.ref s_us), .val (.ref ab), .val (.int xo), .val (.int xl), .unset, .unset, .unset, .unset, .unset, .unset] [(.int xl)])) (fun t_ k_ => XS.iload X1.here hx rfl (hb hby d11_4) rfl k_) ?_
  have hd6_2 : xl = (0 : Int32) := hl
  refine own_Goes.via (T' := T1) (g' := (mkF m 9 #[.val (.ref ao), .val (.ref s_us), .val (.ref ab), .val (.int xo), .val (.int xl), .unset, .unset, .unset, .unset, .unset, .unset] [])) (fun t_ k_ => XS.ifNo X1.here hx rfl (hb hby d11_6) rfl ((if0 _ _).trans (teq hd6_2).2) k_) ?_
  refine own_Goes.via (T' := T1) (g' := (mkF m 10 #[.val (.ref ao), .val (.ref s_us), .val (.ref ab), .val (.int xo), .val (.int xl), .unset, .unset, .unset, .unset, .unset, .unset] [(.ref ao)])) (fun t_ k_ => XS.aloadN X1.here hx rfl (hb hby d11_9) rfl rfl k_) ?_
  obtain ⟨a3, T3, h3, k3, b3, kk3, X3, e3, E3, hS, hk, hZ, hown, Es3, Fc3, Fv3, Av3, -, -, -, Lt3, st3⟩ := ldcSVL X1 hx hZ hown (hw _ (List.mem_of_getElem? (i := 63) rfl)) (own_wS hw) e1 hS hk (Fr.nil _) (fun b cl q => by rw [hh]; exact OL.2.2 b cl q) (Ts := []) ⟨#[], by rw [hin]; simp, fun q hq => by simp at hq⟩ (by simp) hheld hcw (vs := []) (z := (0 : Int32)) ⟨by decide, rfl⟩ (by decide) rfl (g := (mkF m 10 #[.val (.ref ao), .val (.ref s_us), .val (.ref ab), .val (.int xo), .val (.int xl), .unset, .unset, .unset, .unset, .unset, .unset] [(.ref ao)])) rfl (hb hby d11_10) (n := 0) (by decide) (by decide) (by decide) (by decide)
  have E4 : Exa Z h3 ao "java/lang/String" := PF0.ext E3
  have E5 : Exa Z h3 ab "[B" := PF1.ext E3
  have F6 : Fld Z h3 ao "java/lang/String" "value" "[B" .null := PF2.ext E3
  have F7 : Fld Z h3 ao "java/lang/String" "coder" "B" (.int (0 : Int32)) := PF3.ext E3
  have G8 : own_Gi Z h3 ab .byte xn B := PF4.ext E3
  have O9 : Old Z n0 h3 := OL.ext E3
  have sz3 : n0 ≤ h3.size := Nat.le_trans Z0 E3.1
  have K3 : Keep h0 h3 [ao] := ((Keep.refl h0 [ao])).ext E3
  have ne_a3_ao : a3 ≠ ao := Fld.ne Fv3 F6 (fun q => nomatch q)
  have ne_ao_b3 : ao ≠ b3 := Exa.neArv E4 Av3 (hw _ (List.mem_of_getElem? (i := 37) rfl))
  have F10 : Fld Z h3 a3 "java/lang/String" "value" "[B" (.ref b3) := Fv3
  have F11 : Fld Z h3 a3 "java/lang/String" "coder" "B" (.int (0 : Int32)) := Fc3
  have G12 : own_Gi Z h3 b3 .byte (0 : Int32) own_zero := own_Gi.of Av3 (fun i hi => absurd hi (Nat.not_lt_zero i))
  refine own_Goes.via (T' := T3) (g' := (mkF m 12 #[.val (.ref ao), .val (.ref s_us), .val (.ref ab), .val (.int xo), .val (.int xl), .unset, .unset, .unset, .unset, .unset, .unset] [(.ref a3), (.ref ao)])) (st3) ?_
  obtain ⟨T13, X13, e13, st13⟩ := getF X3 hx hZ hown (host := "") (Or.inl (hw _ (List.mem_of_getElem? (i := 68) rfl))) Via.refl e3 F10 (g := (mkF m 12 #[.val (.ref ao), .val (.ref s_us), .val (.ref ab), .val (.int xo), .val (.int xl), .unset, .unset, .unset, .unset, .unset, .unset] [(.ref a3), (.ref ao)])) rfl rfl (hb hby d11_12)
  refine own_Goes.via (T' := T13) (g' := (mkF m 15 #[.val (.ref ao), .val (.ref s_us), .val (.ref ab), .val (.int xo), .val (.int xl), .unset, .unset, .unset, .unset, .unset, .unset] [(.ref b3), (.ref ao)])) (st13) ?_
  obtain ⟨T14, h14, X14, e14, W14, st14⟩ := putF X13 hx hZ hown (host := "") (Or.inl (hw _ (List.mem_of_getElem? (i := 68) rfl))) Via.refl e13 F6 E4 (Or.inr ⟨(hw _ (List.mem_of_getElem? (i := 64) rfl)), rfl, hnm⟩) (hw _ (List.mem_of_getElem? (i := 37) rfl)) (ty := (.array .byte)) (by decide) rfl rfl (g := (mkF m 15 #[.val (.ref ao), .val (.ref s_us), .val (.ref ab), .val (.int xo), .val (.int xl), .unset, .unset, .unset, .unset, .unset, .unset] [(.ref b3), (.ref ao)])) rfl rfl (hb hby d11_15)
  have E15 : Exa Z h14 ao "java/lang/String" := E4.wr W14
  have E16 : Exa Z h14 ab "[B" := E5.wr W14
  have F17 : Fld Z h14 ao "java/lang/String" "coder" "B" (.int (0 : Int32)) := F7.other W14 (Or.inr (slot_ne (Or.inr (hw _ (List.mem_of_getElem? (i := 65) rfl))) (Or.inr (hw _ (List.mem_of_getElem? (i := 64) rfl))) (by decide) (t := .byte) (t' := (.array .byte)) (by decide) (by decide)))
  have G18 : own_Gi Z h14 ab .byte xn B := G8.other W14 (Exa.ne E16 E15 (by decide))
  have O19 : Old Z n0 h14 := O9.wr W14 ge_ao
  have F20 : Fld Z h14 a3 "java/lang/String" "value" "[B" (.ref b3) := F10.other W14 (Or.inl ne_a3_ao)
  have F21 : Fld Z h14 a3 "java/lang/String" "coder" "B" (.int (0 : Int32)) := F11.other W14 (Or.inl ne_a3_ao)
  have G22 : own_Gi Z h14 b3 .byte (0 : Int32) own_zero := G12.other W14 (Ne.symm ne_ao_b3)
  have F23 : Fld Z h14 ao "java/lang/String" "value" "[B" (.ref b3) := F6.same W14
  have N14 := Fr.snoc X14 N0 ge_ao
  have sz14 : n0 ≤ h14.size := Nat.le_trans sz3 (Keep.of_wr W14).1
  have hk := Nat.le_trans hk (Keep.of_wr W14).1
  have K14 : Keep h0 h14 [ao] := (K3).wr W14 (Or.inl (List.mem_of_getElem? (i := 0) rfl))
  refine own_Goes.via (T' := T14) (g' := (mkF m 18 #[.val (.ref ao), .val (.ref s_us), .val (.ref ab), .val (.int xo), .val (.int xl), .unset, .unset, .unset, .unset, .unset, .unset] [])) (st14) ?_
  refine own_Goes.via (T' := T14) (g' := (mkF m 19 #[.val (.ref ao), .val (.ref s_us), .val (.ref ab), .val (.int xo), .val (.int xl), .unset, .unset, .unset, .unset, .unset, .unset] [(.ref ao)])) (fun t_ k_ => XS.aloadN X14.here hx rfl (hb hby d11_18) rfl rfl k_) ?_
  refine own_Goes.via (T' := T14) (g' := (mkF m 21 #[.val (.ref ao), .val (.ref s_us), .val (.ref ab), .val (.int xo), .val (.int xl), .unset, .unset, .unset, .unset, .unset, .unset] [(.ref a3), (.ref ao)])) (ldcAgain X14 hx hZ hown (hw _ (List.mem_of_getElem? (i := 63) rfl)) Lt3 (g := (mkF m 19 #[.val (.ref ao), .val (.ref s_us), .val (.ref ab), .val (.int xo), .val (.int xl), .unset, .unset, .unset, .unset, .unset, .unset] [(.ref ao)])) rfl (hb hby d11_19)) ?_
  obtain ⟨T24, X24, e24, st24⟩ := getF X14 hx hZ hown (host := "") (Or.inl (hw _ (List.mem_of_getElem? (i := 69) rfl))) Via.refl e14 F21 (g := (mkF m 21 #[.val (.ref ao), .val (.ref s_us), .val (.ref ab), .val (.int xo), .val (.int xl), .unset, .unset, .unset, .unset, .unset, .unset] [(.ref a3), (.ref ao)])) rfl rfl (hb hby d11_21)
  refine own_Goes.via (T' := T24) (g' := (mkF m 24 #[.val (.ref ao), .val (.ref s_us), .val (.ref ab), .val (.int xo), .val (.int xl), .unset, .unset, .unset, .unset, .unset, .unset] [(.int (0 : Int32)), (.ref ao)])) (st24) ?_
  obtain ⟨T25, h25, X25, e25, W25, st25⟩ := putFN X24 hx hZ hown (hw _ (List.mem_of_getElem? (i := 69) rfl)) Via.refl e24 F17 E15 (Or.inr ⟨(hw _ (List.mem_of_getElem? (i := 65) rfl)), rfl, hnm⟩) (hw _ (List.mem_of_getElem? (i := 37) rfl)) (ty := .byte) (v' := (.int (nar .byte (0 : Int32)))) (by decide) rfl (fits_nar_byte _) (g := (mkF m 24 #[.val (.ref ao), .val (.ref s_us), .val (.ref ab), .val (.int xo), .val (.int xl), .unset, .unset, .unset, .unset, .unset, .unset] [(.int (0 : Int32)), (.ref ao)])) rfl rfl (hb hby d11_24)
  have E26 : Exa Z h25 ao "java/lang/String" := E15.wr W25
  have E27 : Exa Z h25 ab "[B" := E16.wr W25
  have G28 : own_Gi Z h25 ab .byte xn B := G18.other W25 (Exa.ne E27 E26 (by decide))
  have O29 : Old Z n0 h25 := O19.wr W25 ge_ao
  have F30 : Fld Z h25 a3 "java/lang/String" "value" "[B" (.ref b3) := F20.other W25 (Or.inl ne_a3_ao)
  have F31 : Fld Z h25 a3 "java/lang/String" "coder" "B" (.int (0 : Int32)) := F21.other W25 (Or.inl ne_a3_ao)
  have G32 : own_Gi Z h25 b3 .byte (0 : Int32) own_zero := G22.other W25 (Ne.symm ne_ao_b3)
  have F33 : Fld Z h25 ao "java/lang/String" "value" "[B" (.ref b3) := F23.other W25 (Or.inr (slot_ne (Or.inr (hw _ (List.mem_of_getElem? (i := 64) rfl))) (Or.inr (hw _ (List.mem_of_getElem? (i := 65) rfl))) (by decide) (t := (.array .byte)) (t' := .byte) (by decide) (by decide)))
  have F34 : Fld Z h25 ao "java/lang/String" "coder" "B" (.int (nar .byte (0 : Int32))) := F17.same W25
  have F35 : Fld Z h25 ao "java/lang/String" "coder" "B" (.int (0 : Int32)) := (by have q := F34; rw [(show nar .byte (0 : Int32) = (0 : Int32) from rfl)] at q; exact q)
  have N25 := Fr.snoc X25 N14 ge_ao
  have sz25 : n0 ≤ h25.size := Nat.le_trans sz14 (Keep.of_wr W25).1
  have hk := Nat.le_trans hk (Keep.of_wr W25).1
  have K25 : Keep h0 h25 [ao] := (K14).wr W25 (Or.inl (List.mem_of_getElem? (i := 0) rfl))
  refine own_Goes.via (T' := T25) (g' := (mkF m 27 #[.val (.ref ao), .val (.ref s_us), .val (.ref ab), .val (.int xo), .val (.int xl), .unset, .unset, .unset, .unset, .unset, .unset] [])) (st25) ?_
  refine own_Goes.via (T' := T25) (g' := (mkF m 879 #[.val (.ref ao), .val (.ref s_us), .val (.ref ab), .val (.int xo), .val (.int xl), .unset, .unset, .unset, .unset, .unset, .unset] [])) (fun t_ k_ => XS.goto X25.here hx rfl (pc0 := 27) (pc' := 879) rfl (hb hby d11_27) (by decide) (by decide) k_) ?_
  obtain ⟨fs, hr, hrun, hended, hE⟩ := leaveW X25 hS (by rw [e25]; exact hk) (v := none) (fun _ => rfl)
  refine own_Goes.fin (X25.returnOut hx Bd.returns (hb hby d11_879) hr) hrun hended ?_
  subst hPd
  refine ⟨_, _, rfl, ?_, hE.1, hE.2.1, hE.2.2.1, hE.2.2.2.mono (by decide) (by decide)⟩
  show Q11b Z ao s_us ab xo xl xn B h0 n0 _ T25.heap _
  rw [e25]
  exact ⟨b3, rfl, N25, K25, F33, F35, (own_Gi.cast G32 hl.symm (fun i hi => absurd hi (Nat.not_lt_zero i)))⟩
theorem d7_0 : decode jdk_42_method_10_code 0 = .ok (.aload_n 0, 1) := by decide +kernel
theorem d7_1 : decode jdk_42_method_10_code 1 = .ok (.aload 4, 2) := by decide +kernel
theorem d7_3 : decode jdk_42_method_10_code 3 = .ok (.invokestatic 78, 3) := by decide +kernel
theorem d7_6 : decode jdk_42_method_10_code 6 = .ok (.checkcast 84, 3) := by decide +kernel
theorem d7_9 : decode jdk_42_method_10_code 9 = .ok (.aload_n 1, 1) := by decide +kernel
theorem d7_10 : decode jdk_42_method_10_code 10 = .ok (.iload_n 2, 1) := by decide +kernel
theorem d7_11 : decode jdk_42_method_10_code 11 = .ok (.iload_n 3, 1) := by decide +kernel
theorem d7_12 : decode jdk_42_method_10_code 12 = .ok (.aload_n 1, 1) := by decide +kernel
theorem d7_13 : decode jdk_42_method_10_code 13 = .ok (.arraylength, 1) := by decide +kernel
theorem d7_14 : decode jdk_42_method_10_code 14 = .ok (.invokestatic 34, 3) := by decide +kernel
theorem d7_17 : decode jdk_42_method_10_code 17 = .ok (.iload_n 3, 1) := by decide +kernel
theorem d7_18 : decode jdk_42_method_10_code 18 = .ok (.invokespecial 75, 3) := by decide +kernel
theorem d7_21 : decode jdk_42_method_10_code 21 = .ok (.return_, 1) := by decide +kernel
theorem pn_7 : plainName "java/lang/String" = true := by first | (simp [plainName, overriddenIn]; done) | decide +kernel
theorem pd_7_0 : parseMethodDescriptor "(Ljava/lang/Object;)Ljava/lang/Object;" = some ⟨[(.object "java/lang/Object")], some (.object "java/lang/Object")⟩ := by decide +kernel
theorem pd_7_1 : parseMethodDescriptor "(III)I" = some ⟨[.int, .int, .int], some .int⟩ := by decide +kernel
theorem pd_7_2 : parseMethodDescriptor "(Ljava/nio/charset/Charset;[BII)V" = some ⟨[(.object "java/nio/charset/Charset"), (.array .byte), .int, .int], none⟩ := by decide +kernel
theorem ef_7 (m : MethodId) (ao : Addr) (ab : Addr) (xo : Int32) (xl : Int32) (s_us : Addr) : entryFrame m #[(.ref ao), (.ref ab), (.int xo), (.int xl), (.ref s_us)] 5 = mkF m 0 #[.val (.ref ao), .val (.ref ab), .val (.int xo), .val (.int xl), .val (.ref s_us)] [] := by first | (simp [entryFrame, mkF, argsToLocals, Value.category]; done) | rfl
def Q7 (Z : State) (ao : Addr) (ab : Addr) (xo : Int32) (xl : Int32) (s_us : Addr) (xcs : Int32) (wsf : Value) (s_utf : Addr) (s_iso : Addr) (xn : Int32) (B : Nat → Int32) (h0 : Heap) (n0 : Nat) (v : Option Value) (h : Heap) (L : List Loc) : Prop := ∃ (bz : Addr), v = none ∧ Fr n0 L ∧ Keep h0 h [ao] ∧ Fld Z h ao "java/lang/String" "value" "[B" (.ref bz) ∧ Fld Z h ao "java/lang/String" "coder" "B" (.int (0 : Int32)) ∧ own_Gi Z h bz .byte xl (own_sh B xo.toNatClampNeg)
set_option maxRecDepth 65536 in
set_option maxHeartbeats 40000000 in
theorem rm7 (l : Launch) (Z : State) (a0 : Array Value) (hw : ∀ d ∈ tables_1, d.before a0 Z = true) (ws : List Jvm.Cond) (ao : Addr) (ab : Addr) (xo : Int32) (xl : Int32) (s_us : Addr) (xcs : Int32) (wsf : Value) (s_utf : Addr) (s_iso : Addr) (xn : Int32) (B : Nat → Int32) (h0 : Heap) (n0 : Nat) (Z0 : n0 ≤ h0.size) (PF0 : Exa Z h0 ao "java/lang/String") (PF1 : Exa Z h0 ab "[B") (PF2 : Fld Z h0 ao "java/lang/String" "value" "[B" .null) (PF3 : Fld Z h0 ao "java/lang/String" "coder" "B" (.int (0 : Int32))) (PF4 : own_Gi Z h0 ab .byte xn B) (OL : Old Z n0 h0) (ge_ao : n0 ≤ ao) (hWn : own_win xo xl xn) (hP : own_nn B xo xl) (S_utf : Sta Z Z.heap "sun/nio/cs/UTF_8" "INSTANCE" "Lsun/nio/cs/UTF_8;" (.ref s_utf)) (S_iso : Sta Z Z.heap "sun/nio/cs/ISO_8859_1" "INSTANCE" "Lsun/nio/cs/ISO_8859_1;" (.ref s_iso)) (S_us : Sta Z Z.heap "sun/nio/cs/US_ASCII" "INSTANCE" "Lsun/nio/cs/US_ASCII;" (.ref s_us)) (E_utf : Exa Z Z.heap s_utf "sun/nio/cs/UTF_8") (E_iso : Exa Z Z.heap s_iso "sun/nio/cs/ISO_8859_1") (E_us : Exa Z Z.heap s_us "sun/nio/cs/US_ASCII") (S_cs : Sta Z Z.heap "java/lang/String" "COMPACT_STRINGS" "Z" (.int xcs)) (hcs : ¬ (xcs = (0 : Int32))) (S_sf : Sta Z Z.heap "jdk/internal/util/Preconditions" "SIOOBE_FORMATTER" "Ljava/util/function/BiFunction;" wsf) (isr_wsf : wsf.isRef = true) (hheld : Jvm.Lit.constHeld Z "java/lang/String" 7) (hcw : Jvm.Lit.compactW.before a0 Z = true) :
    MetFree l (⟨"java/lang/String", "<init>", "([BIILjava/nio/charset/Charset;)V"⟩ : MethodName) (head1 (Jvm.Cond.code (⟨"java/lang/String", "<init>", "([BIILjava/nio/charset/Charset;)V"⟩ : MethodName) jdk_42_method_10_code 5 none :: ws) ({ frames := 4, cells := 2, slots := 4, locals := 71 } : Room)) (fun a U => a = #[(.ref ao), (.ref ab), (.int xo), (.int xl), (.ref s_us)] ∧ Z.Warmed39 U.vm ∧ U.heap = h0 ∧ U.vm.interned = Z.vm.interned) (fun _ _ _ _ _ => True) (fun _ U o U' => ∃ v L, o = .returned v ∧ Q7 Z ao ab xo xl s_us xcs wsf s_utf s_iso xn B h0 n0 v U'.heap L ∧ ReturnedEndW U o U' L ({ frames := 4, cells := 2, slots := 4, locals := 71 } : Room).cells ({ frames := 4, cells := 2, slots := 4, locals := 71 } : Room).slots) := by
  refine MetFree.of_bodySF (plainFor_of_name pn_7) hisR ?_
  intro p e s m args below meth c s₁ Bd hml0 hP hK
  obtain ⟨rfl, hZ, hh, hin⟩ := hP
  have hx := Bd.exec
  have hby := Bd.bytes
  have hml : c.maxLocals = 5 := hml0
  have hown : s.vm.findClass "java/lang/String" = some m.cls := findClass_of_methodNamed Bd.named
  have hnm := (name_of_methodNamed Bd.named Bd.method).1
  have X0 : Stand p l e ({ frames := 4, cells := 2, slots := 4, locals := 71 } : Room) (s.setVm s.vm) m #[(.ref ao), (.ref ab), (.int xo), (.int xl), (.ref s_us)] below meth c s₁ [] 0 0 := Stand.of_body Bd
  have e0 : s₁.heap = h0 := by rw [← hh, Bd.state]; rfl
  have N0 := Fr.nil n0
  suffices G : own_Goes p.tables e below (fun o U' => ∃ v L, o = .returned v ∧ Q7 Z ao ab xo xl s_us xcs wsf s_utf s_iso xn B h0 n0 v U'.heap L ∧ ReturnedEndW s o U' L ({ frames := 4, cells := 2, slots := 4, locals := 71 } : Room).cells ({ frames := 4, cells := 2, slots := 4, locals := 71 } : Room).slots) s₁ (mkF m 0 #[.val (.ref ao), .val (.ref ab), .val (.int xo), .val (.int xl), .val (.ref s_us)] []) by
    obtain ⟨t2_, o2_, z1_, z2_, z3_, z4_⟩ := G
    exact ⟨t2_, o2_, castTop (ef_7 m ao ab xo xl s_us) z1_, z2_, z3_, z4_⟩
  generalize hPd : (fun (o : Outcome) (U' : State) => ∃ v L, o = .returned v ∧ Q7 Z ao ab xo xl s_us xcs wsf s_utf s_iso xn B h0 n0 v U'.heap L ∧ ReturnedEndW s o U' L ({ frames := 4, cells := 2, slots := 4, locals := 71 } : Room).cells ({ frames := 4, cells := 2, slots := 4, locals := 71 } : Room).slots) = P
  have hS : s.Since s.vm 0 := (State.WarmedH.refl s).since 0
  have hk : 0 ≤ h0.size := Nat.zero_le _
  have E1 : Exa Z h0 s_us "sun/nio/cs/US_ASCII" := E_us.ext OL.2
  refine own_Goes.via (T' := s₁) (g' := (mkF m 1 #[.val (.ref ao), .val (.ref ab), .val (.int xo), .val (.int xl), .val (.ref s_us)] [(.ref ao)])) (fun t_ k_ => XS.aloadN X0.here hx rfl (hb hby d7_0) rfl rfl k_) ?_
  refine own_Goes.via (T' := s₁) (g' := (mkF m 3 #[.val (.ref ao), .val (.ref ab), .val (.int xo), .val (.int xl), .val (.ref s_us)] [(.ref s_us), (.ref ao)])) (fun t_ k_ => XS.aload X0.here hx rfl (hb hby d7_1) rfl rfl k_) ?_
  obtain ⟨_, _, ⟨T2, L2, k2, n2⟩, -, X2, ⟨Lc2, hQ2, l2, y2, z2⟩, st2⟩ := Jvm.LawKit.callS X0 hx (y := (⟨"java/util/Objects", "requireNonNull", "(Ljava/lang/Object;)Ljava/lang/Object;"⟩ : MethodName)) hown (mvT hZ (hw _ (List.mem_of_getElem? (i := 44) rfl))) (mvT hZ (hw _ (List.mem_of_getElem? (i := 45) rfl))) (mvT hZ (hw _ (List.mem_of_getElem? (i := 46) rfl))) (mvT hZ (hw _ (List.mem_of_getElem? (i := 47) rfl))) (by decide) (backOf (W := 1) (rm8 l Z a0 hw [] s_us h0 n0 Z0 ) hZ (hw _ (List.mem_of_getElem? (i := 47) rfl)) (hw _ (List.mem_of_getElem? (i := 46) rfl)) (by decide) (by decide)) (g := (mkF m 3 #[.val (.ref ao), .val (.ref ab), .val (.int xo), .val (.int xl), .val (.ref s_us)] [(.ref s_us), (.ref ao)])) rfl (by rw [hml]; rfl) (argsL := [(.ref s_us)]) (rest := [(.ref ao)]) (lenOf pd_7_0 rfl) rfl (by show 2 * 0 + _ ≤ _; exact Nat.le_of_eq rfl) (hb hby d7_3) (fun _ _ => ⟨rfl, e0, (by decide : 0 + 0 ≤ _), (by decide : 0 + 0 ≤ _)⟩)
  dsimp only [Pt.U, Pt.locs, Pt.cells, Pt.slots] at X2 l2 y2 z2 st2 hQ2
  subst l2 y2 z2
  obtain ⟨rfl, Nq2, hh2⟩ := hQ2
  have N2 := Fr.app N0 Nq2
  refine own_Goes.via (T' := T2) (g' := (mkF m 6 #[.val (.ref ao), .val (.ref ab), .val (.int xo), .val (.int xl), .val (.ref s_us)] [(.ref s_us), (.ref ao)])) (st2) ?_
  obtain ⟨T3, X3, e3, st3⟩ := castY X2 hx hZ hown (hw _ (List.mem_of_getElem? (i := 48) rfl)) hh2 (Ins.of_exa E1 (hw _ (List.mem_of_getElem? (i := 49) rfl))) (g := (mkF m 6 #[.val (.ref ao), .val (.ref ab), .val (.int xo), .val (.int xl), .val (.ref s_us)] [(.ref s_us), (.ref ao)])) rfl rfl (hb hby d7_6)
  refine own_Goes.via (T' := T3) (g' := (mkF m 9 #[.val (.ref ao), .val (.ref ab), .val (.int xo), .val (.int xl), .val (.ref s_us)] [(.ref s_us), (.ref ao)])) (st3) ?_
  refine own_Goes.via (T' := T3) (g' := (mkF m 10 #[.val (.ref ao), .val (.ref ab), .val (.int xo), .val (.int xl), .val (.ref s_us)] [(.ref ab), (.ref s_us), (.ref ao)])) (fun t_ k_ => XS.aloadN X3.here hx rfl (hb hby d7_9) rfl rfl k_) ?_
  refine own_Goes.via (T' := T3) (g' := (mkF m 11 #[.val (.ref ao), .val (.ref ab), .val (.int xo), .val (.int xl), .val (.ref s_us)] [(.int xo), (.ref ab), (.ref s_us), (.ref ao)])) (fun t_ k_ => XS.iloadN X3.here hx rfl (hb hby d7_10) rfl k_) ?_
  refine own_Goes.via (T' := T3) (g' := (mkF m 12 #[.val (.ref ao), .val (.ref ab), .val (.int xo), .val (.int xl), .val (.ref s_us)] [(.int xl), (.int xo), (.ref ab), (.ref s_us), (.ref ao)])) (fun t_ k_ => XS.iloadN X3.here hx rfl (hb hby d7_11) rfl k_) ?_
  refine own_Goes.via (T' := T3) (g' := (mkF m 13 #[.val (.ref ao), .val (.ref ab), .val (.int xo), .val (.int xl), .val (.ref s_us)] [(.ref ab), (.int xl), (.int xo), (.ref ab), (.ref s_us), (.ref ao)])) (fun t_ k_ => XS.aloadN X3.here hx rfl (hb hby d7_12) rfl rfl k_) ?_
  obtain ⟨cl4, Ar4, Sl4, Ng4, -⟩ := id PF4
  refine own_Goes.via (T' := T3) (g' := (mkF m 14 #[.val (.ref ao), .val (.ref ab), .val (.int xo), .val (.int xl), .val (.ref s_us)] [(.int xn), (.int xl), (.int xo), (.ref ab), (.ref s_us), (.ref ao)])) (fun t_ k_ => X3.arraylength hx (by rw [e3]; exact Ar4.1) (State.isArrayOf_alike hZ.alike Ar4.2.1) (g := (mkF m 13 #[.val (.ref ao), .val (.ref ab), .val (.int xo), .val (.int xl), .val (.ref s_us)] [(.ref ab), (.int xl), (.int xo), (.ref ab), (.ref s_us), (.ref ao)])) rfl rfl (hb hby d7_13) _ (by rw [len_of Sl4 Ng4]; exact k_)) ?_
  have cd14_6 : own_win xo xl xn := by first | assumption | decide
  obtain ⟨_, _, ⟨T5, L5, k5, n5⟩, -, X5, ⟨Lc5, hQ5, l5, y5, z5⟩, st5⟩ := Jvm.LawKit.callS X3 hx (y := (⟨"java/lang/String", "checkBoundsOffCount", "(III)I"⟩ : MethodName)) hown (mvT hZ (hw _ (List.mem_of_getElem? (i := 50) rfl))) (mvT hZ (hw _ (List.mem_of_getElem? (i := 51) rfl))) (mvT hZ (hw _ (List.mem_of_getElem? (i := 38) rfl))) (mvT hZ (hw _ (List.mem_of_getElem? (i := 52) rfl))) (by decide) (backOf (W := 3) (rm9 l Z a0 hw [] xo xl xn wsf h0 n0 Z0 OL cd14_6 S_sf isr_wsf) hZ (hw _ (List.mem_of_getElem? (i := 52) rfl)) (hw _ (List.mem_of_getElem? (i := 38) rfl)) (by decide) (by decide)) (g := (mkF m 14 #[.val (.ref ao), .val (.ref ab), .val (.int xo), .val (.int xl), .val (.ref s_us)] [(.int xn), (.int xl), (.int xo), (.ref ab), (.ref s_us), (.ref ao)])) rfl (by rw [hml]; rfl) (argsL := [(.int xo), (.int xl), (.int xn)]) (rest := [(.ref ab), (.ref s_us), (.ref ao)]) (lenOf pd_7_1 rfl) rfl (by show 2 * 0 + _ ≤ _; exact Nat.le_of_eq rfl) (hb hby d7_14) (fun _ _ => ⟨rfl, e3, (by decide : 0 + 0 ≤ _), (by decide : 0 + 0 ≤ _)⟩)
  dsimp only [Pt.U, Pt.locs, Pt.cells, Pt.slots] at X5 l5 y5 z5 st5 hQ5
  subst l5 y5 z5
  obtain ⟨rfl, Nq5, hh5⟩ := hQ5
  have N5 := Fr.app N2 Nq5
  refine own_Goes.via (T' := T5) (g' := (mkF m 17 #[.val (.ref ao), .val (.ref ab), .val (.int xo), .val (.int xl), .val (.ref s_us)] [(.int xo), (.ref ab), (.ref s_us), (.ref ao)])) (st5) ?_
  by_cases hk17_7 : xl = (0 : Int32)
  · refine own_Goes.via (T' := T5) (g' := (mkF m 18 #[.val (.ref ao), .val (.ref ab), .val (.int xo), .val (.int xl), .val (.ref s_us)] [(.int xl), (.int xo), (.ref ab), (.ref s_us), (.ref ao)])) (fun t_ k_ => XS.iloadN X5.here hx rfl (hb hby d7_17) rfl k_) ?_
    have cd18_9 : xl = (0 : Int32) := by first | assumption | decide
    obtain ⟨_, _, ⟨T8, L8, k8, n8⟩, -, X8, hs8, hg8, ⟨Lc8, hQ8, l8, y8, z8⟩, st8⟩ := own_specialSH X5 hx (y := (⟨"java/lang/String", "<init>", "(Ljava/nio/charset/Charset;[BII)V"⟩ : MethodName)) rfl hown (mvT hZ (hw _ (List.mem_of_getElem? (i := 58) rfl))) (mvT hZ (hw _ (List.mem_of_getElem? (i := 59) rfl))) (mvT hZ (hw _ (List.mem_of_getElem? (i := 61) rfl))) (by decide) (own_backSIW (W := 0) (rm11b l Z a0 hw [] ao s_us ab xo xl xn B h0 n0 Z0 PF0 PF1 PF2 PF3 PF4 OL ge_ao cd18_9 hheld hcw) hZ hin (hw _ (List.mem_of_getElem? (i := 61) rfl)) (hw _ (List.mem_of_getElem? (i := 38) rfl)) (by decide) (by decide)) (g := (mkF m 18 #[.val (.ref ao), .val (.ref ab), .val (.int xo), .val (.int xl), .val (.ref s_us)] [(.int xl), (.int xo), (.ref ab), (.ref s_us), (.ref ao)])) rfl (by rw [hml]; rfl) (Steps.refl _) (a := ao) (argsL := [(.ref s_us), (.ref ab), (.int xo), (.int xl)]) (rest := []) (lenOf pd_7_2 rfl) rfl (by show 2 * 0 + _ ≤ _; exact Nat.le_of_eq rfl) (hb hby d7_18) (fun _ _ => ⟨rfl, hh5, (by decide : 0 + 2 ≤ _), (by decide : 0 + 4 ≤ _)⟩)
    dsimp only [Pt.U, Pt.locs, Pt.cells, Pt.slots] at X8 l8 y8 z8 st8 hQ8 hs8 hg8
    obtain ⟨X8, hS, hZ, hown⟩ := rebS hS (n1 := T5.heap.size) (by rw [hh5]; exact hk) X8 hs8 hg8 hZ hown
    have hk := Nat.le_refl T8.heap.size
    subst l8 y8 z8
    obtain ⟨bz_8, rfl, Nq8, Kq8, pf8_0, pf8_1, pf8_2⟩ := hQ8
    have N8 := Fr.app N5 Nq8
    have E10 : Exa Z T8.heap ao "java/lang/String" := PF0.keep Kq8
    have E11 : Exa Z T8.heap ab "[B" := PF1.keep Kq8
    have E12 : Exa Z T8.heap s_us "sun/nio/cs/US_ASCII" := E1.keep Kq8
    have G13 : own_Gi Z T8.heap ab .byte xn B := PF4.keep Kq8 (ninS (Exa.ne E11 E10 (by decide)) nin0)
    have O14 : Old Z n0 T8.heap := OL.keep Kq8 (allS ge_ao all0)
    have sz8 : n0 ≤ T8.heap.size := Nat.le_trans Z0 Kq8.1
    have K8 : Keep h0 T8.heap [ao] := ((Keep.refl h0 [ao])).trans Kq8 (allS (Or.inl (List.mem_of_getElem? (i := 0) rfl)) all0)
    refine own_Goes.via (T' := T8) (g' := (mkF m 21 #[.val (.ref ao), .val (.ref ab), .val (.int xo), .val (.int xl), .val (.ref s_us)] [])) (fun t_ k_ => st8.trans k_) ?_
    obtain ⟨fs, hr, hrun, hended, hE⟩ := leaveW X8 hS hk (v := none) (fun _ => rfl)
    refine own_Goes.fin (X8.returnOut hx Bd.returns (hb hby d7_21) hr) hrun hended ?_
    subst hPd
    refine ⟨_, _, rfl, ?_, hE.1, hE.2.1, hE.2.2.1, hE.2.2.2.mono (by decide) (by decide)⟩
    show Q7 Z ao ab xo xl s_us xcs wsf s_utf s_iso xn B h0 n0 _ T8.heap _
    exact ⟨bz_8, rfl, N8, K8, pf8_0, pf8_1, pf8_2⟩
  · refine own_Goes.via (T' := T5) (g' := (mkF m 18 #[.val (.ref ao), .val (.ref ab), .val (.int xo), .val (.int xl), .val (.ref s_us)] [(.int xl), (.int xo), (.ref ab), (.ref s_us), (.ref ao)])) (fun t_ k_ => XS.iloadN X5.here hx rfl (hb hby d7_17) rfl k_) ?_
    have cd18_16 : own_win xo xl xn := by first | assumption | decide
    have cd18_17 : own_nn B xo xl := by first | assumption | decide
    have cd18_18 : ¬ (xl = (0 : Int32)) := by first | assumption | decide
    obtain ⟨_, _, ⟨T15, L15, k15, n15⟩, -, X15, ⟨Lc15, hQ15, l15, y15, z15⟩, st15⟩ := X5.specialBackH hx (y := (⟨"java/lang/String", "<init>", "(Ljava/nio/charset/Charset;[BII)V"⟩ : MethodName)) rfl hown (mvT hZ (hw _ (List.mem_of_getElem? (i := 58) rfl))) (mvT hZ (hw _ (List.mem_of_getElem? (i := 59) rfl))) (mvT hZ (hw _ (List.mem_of_getElem? (i := 61) rfl))) (by decide) (backOfWith (W := 0) (rm11a l Z a0 hw [] ao s_us ab xo xl s_utf s_iso xcs xn B h0 n0 Z0 PF0 PF1 PF2 PF3 PF4 OL ge_ao cd18_16 cd18_17 cd18_18 S_utf S_iso S_us E_utf E_iso E_us S_cs hcs) hZ (hw _ (List.mem_of_getElem? (i := 61) rfl)) (hw _ (List.mem_of_getElem? (i := 38) rfl)) (by decide) (by decide)) (g := (mkF m 18 #[.val (.ref ao), .val (.ref ab), .val (.int xo), .val (.int xl), .val (.ref s_us)] [(.int xl), (.int xo), (.ref ab), (.ref s_us), (.ref ao)])) rfl (by rw [hml]; rfl) (Steps.refl _) (a := ao) (argsL := [(.ref s_us), (.ref ab), (.int xo), (.int xl)]) (rest := []) (lenOf pd_7_2 rfl) rfl (by show 2 * 0 + _ ≤ _; exact Nat.le_of_eq rfl) (hb hby d7_18) (fun _ _ => ⟨rfl, hh5, (by decide : 0 + 1 ≤ _), (by decide : 0 + 4 ≤ _)⟩)
    dsimp only [Pt.U, Pt.locs, Pt.cells, Pt.slots] at X15 l15 y15 z15 st15 hQ15
    subst l15 y15 z15
    obtain ⟨bz_15, rfl, Nq15, Kq15, pf15_0, pf15_1, pf15_2⟩ := hQ15
    have N15 := Fr.app N5 Nq15
    have E19 : Exa Z T15.heap ao "java/lang/String" := PF0.keep Kq15
    have E20 : Exa Z T15.heap ab "[B" := PF1.keep Kq15
    have E21 : Exa Z T15.heap s_us "sun/nio/cs/US_ASCII" := E1.keep Kq15
    have G22 : own_Gi Z T15.heap ab .byte xn B := PF4.keep Kq15 (ninS (Exa.ne E20 E19 (by decide)) nin0)
    have O23 : Old Z n0 T15.heap := OL.keep Kq15 (allS ge_ao all0)
    have sz15 : n0 ≤ T15.heap.size := Nat.le_trans Z0 Kq15.1
    have hk := Nat.le_trans hk Kq15.1
    have K15 : Keep h0 T15.heap [ao] := ((Keep.refl h0 [ao])).trans Kq15 (allS (Or.inl (List.mem_of_getElem? (i := 0) rfl)) all0)
    refine own_Goes.via (T' := T15) (g' := (mkF m 21 #[.val (.ref ao), .val (.ref ab), .val (.int xo), .val (.int xl), .val (.ref s_us)] [])) (fun t_ k_ => st15.trans k_) ?_
    obtain ⟨fs, hr, hrun, hended, hE⟩ := leaveW X15 hS hk (v := none) (fun _ => rfl)
    refine own_Goes.fin (X15.returnOut hx Bd.returns (hb hby d7_21) hr) hrun hended ?_
    subst hPd
    refine ⟨_, _, rfl, ?_, hE.1, hE.2.1, hE.2.2.1, hE.2.2.2.mono (by decide) (by decide)⟩
    show Q7 Z ao ab xo xl s_us xcs wsf s_utf s_iso xn B h0 n0 _ T15.heap _
    exact ⟨bz_15, rfl, N15, K15, pf15_0, pf15_1, pf15_2⟩
theorem d6_0 : decode prog_128_method_6_code 0 = .ok (.new 30, 3) := by decide +kernel
theorem d6_3 : decode prog_128_method_6_code 3 = .ok (.dup, 1) := by decide +kernel
theorem d6_4 : decode prog_128_method_6_code 4 = .ok (.aload_n 0, 1) := by decide +kernel
theorem d6_5 : decode prog_128_method_6_code 5 = .ok (.getfield 7, 3) := by decide +kernel
theorem d6_8 : decode prog_128_method_6_code 8 = .ok (.aload_n 0, 1) := by decide +kernel
theorem d6_9 : decode prog_128_method_6_code 9 = .ok (.getfield 13, 3) := by decide +kernel
theorem d6_12 : decode prog_128_method_6_code 12 = .ok (.aload_n 0, 1) := by decide +kernel
theorem d6_13 : decode prog_128_method_6_code 13 = .ok (.getfield 17, 3) := by decide +kernel
theorem d6_16 : decode prog_128_method_6_code 16 = .ok (.getstatic 32, 3) := by decide +kernel
theorem d6_19 : decode prog_128_method_6_code 19 = .ok (.invokespecial 38, 3) := by decide +kernel
theorem d6_22 : decode prog_128_method_6_code 22 = .ok (.areturn, 1) := by decide +kernel
theorem pn_6 : plainName "com/example/sluice/sluice/engine/source/file/AsciiLine" = true := by first | (simp [plainName, overriddenIn]; done) | decide +kernel
theorem pd_6_0 : parseMethodDescriptor "([BIILjava/nio/charset/Charset;)V" = some ⟨[(.array .byte), .int, .int, (.object "java/nio/charset/Charset")], none⟩ := by decide +kernel
theorem ef_6 (m : MethodId) (ao : Addr) : entryFrame m #[(.ref ao)] 1 = mkF m 0 #[.val (.ref ao)] [] := by first | (simp [entryFrame, mkF, argsToLocals, Value.category]; done) | rfl
def Q6 (Z : State) (ao : Addr) (s_us : Addr) (xcs : Int32) (wsf : Value) (s_utf : Addr) (s_iso : Addr) (ab : Addr) (xo : Int32) (xl : Int32) (xn : Int32) (B : Nat → Int32) (h0 : Heap) (n0 : Nat) (v : Option Value) (h : Heap) (L : List Loc) : Prop := ∃ (bs : Addr) (bz : Addr), v = some (.ref bs) ∧ Fr n0 L ∧ Keep h0 h [] ∧ Exa Z h bs "java/lang/String" ∧ Fld Z h bs "java/lang/String" "value" "[B" (.ref bz) ∧ Fld Z h bs "java/lang/String" "coder" "B" (.int (0 : Int32)) ∧ own_Gi Z h bz .byte xl (own_sh B xo.toNatClampNeg)
set_option maxRecDepth 65536 in
set_option maxHeartbeats 40000000 in
theorem rm6 (l : Launch) (Z : State) (a0 : Array Value) (hw : ∀ d ∈ tables_1, d.before a0 Z = true) (ws : List Jvm.Cond) (ao : Addr) (s_us : Addr) (xcs : Int32) (wsf : Value) (s_utf : Addr) (s_iso : Addr) (ab : Addr) (xo : Int32) (xl : Int32) (xn : Int32) (B : Nat → Int32) (h0 : Heap) (n0 : Nat) (Z0 : n0 ≤ h0.size) (PF0 : Exa Z h0 ao "com/example/sluice/sluice/engine/source/file/AsciiLine") (PF1 : Exa Z h0 ab "[B") (PF2 : Fld Z h0 ao "com/example/sluice/sluice/engine/source/file/AsciiLine" "bytes" "[B" (.ref ab)) (PF3 : Fld Z h0 ao "com/example/sluice/sluice/engine/source/file/AsciiLine" "offset" "I" (.int xo)) (PF4 : Fld Z h0 ao "com/example/sluice/sluice/engine/source/file/AsciiLine" "length" "I" (.int xl)) (PF5 : own_Gi Z h0 ab .byte xn B) (OL : Old Z n0 h0) (hWn : own_win xo xl xn) (hP : own_nn B xo xl) (S_std : Sta Z Z.heap "java/nio/charset/StandardCharsets" "US_ASCII" "Ljava/nio/charset/Charset;" (.ref s_us)) (S_utf : Sta Z Z.heap "sun/nio/cs/UTF_8" "INSTANCE" "Lsun/nio/cs/UTF_8;" (.ref s_utf)) (S_iso : Sta Z Z.heap "sun/nio/cs/ISO_8859_1" "INSTANCE" "Lsun/nio/cs/ISO_8859_1;" (.ref s_iso)) (S_us : Sta Z Z.heap "sun/nio/cs/US_ASCII" "INSTANCE" "Lsun/nio/cs/US_ASCII;" (.ref s_us)) (E_utf : Exa Z Z.heap s_utf "sun/nio/cs/UTF_8") (E_iso : Exa Z Z.heap s_iso "sun/nio/cs/ISO_8859_1") (E_us : Exa Z Z.heap s_us "sun/nio/cs/US_ASCII") (S_cs : Sta Z Z.heap "java/lang/String" "COMPACT_STRINGS" "Z" (.int xcs)) (hcs : ¬ (xcs = (0 : Int32))) (S_sf : Sta Z Z.heap "jdk/internal/util/Preconditions" "SIOOBE_FORMATTER" "Ljava/util/function/BiFunction;" wsf) (isr_wsf : wsf.isRef = true) (hheld : Jvm.Lit.constHeld Z "java/lang/String" 7) (hcw : Jvm.Lit.compactW.before a0 Z = true) :
    MetFree l (⟨"com/example/sluice/sluice/engine/source/file/AsciiLine", "toString", "()Ljava/lang/String;"⟩ : MethodName) (head1 (Jvm.Cond.code (⟨"com/example/sluice/sluice/engine/source/file/AsciiLine", "toString", "()Ljava/lang/String;"⟩ : MethodName) prog_128_method_6_code 1 (some (.object "java/lang/String")) :: ws) ({ frames := 5, cells := 3, slots := 8, locals := 88 } : Room)) (fun a U => a = #[(.ref ao)] ∧ Z.Warmed39 U.vm ∧ U.heap = h0 ∧ U.vm.interned = Z.vm.interned) (fun _ _ _ _ _ => True) (fun _ U o U' => ∃ v L, o = .returned v ∧ Q6 Z ao s_us xcs wsf s_utf s_iso ab xo xl xn B h0 n0 v U'.heap L ∧ ReturnedEndW U o U' L ({ frames := 5, cells := 3, slots := 8, locals := 88 } : Room).cells ({ frames := 5, cells := 3, slots := 8, locals := 88 } : Room).slots) := by
  refine MetFree.of_bodySF (plainFor_of_name pn_6) hisR ?_
  intro p e s m args below meth c s₁ Bd hml0 hP hK
  obtain ⟨rfl, hZ, hh, hin⟩ := hP
  have hx := Bd.exec
  have hby := Bd.bytes
  have hml : c.maxLocals = 1 := hml0
  have hown : s.vm.findClass "com/example/sluice/sluice/engine/source/file/AsciiLine" = some m.cls := findClass_of_methodNamed Bd.named
  have hnm := (name_of_methodNamed Bd.named Bd.method).1
  have X0 : Stand p l e ({ frames := 5, cells := 3, slots := 8, locals := 88 } : Room) (s.setVm s.vm) m #[(.ref ao)] below meth c s₁ [] 0 0 := Stand.of_body Bd
  have e0 : s₁.heap = h0 := by rw [← hh, Bd.state]; rfl
  have N0 := Fr.nil n0
  suffices G : own_Goes p.tables e below (fun o U' => ∃ v L, o = .returned v ∧ Q6 Z ao s_us xcs wsf s_utf s_iso ab xo xl xn B h0 n0 v U'.heap L ∧ ReturnedEndW s o U' L ({ frames := 5, cells := 3, slots := 8, locals := 88 } : Room).cells ({ frames := 5, cells := 3, slots := 8, locals := 88 } : Room).slots) s₁ (mkF m 0 #[.val (.ref ao)] []) by
    obtain ⟨t2_, o2_, z1_, z2_, z3_, z4_⟩ := G
    exact ⟨t2_, o2_, castTop (ef_6 m ao) z1_, z2_, z3_, z4_⟩
  generalize hPd : (fun (o : Outcome) (U' : State) => ∃ v L, o = .returned v ∧ Q6 Z ao s_us xcs wsf s_utf s_iso ab xo xl xn B h0 n0 v U'.heap L ∧ ReturnedEndW s o U' L ({ frames := 5, cells := 3, slots := 8, locals := 88 } : Room).cells ({ frames := 5, cells := 3, slots := 8, locals := 88 } : Room).slots) = P
  have hS : s.Since s.vm 0 := (State.WarmedH.refl s).since 0
  have hk : 0 ≤ h0.size := Nat.zero_le _
  obtain ⟨T1, h1, X1, e1, E1, A1, D1, -, st1⟩ := newO X0 hx hZ hown (hw _ (List.mem_of_getElem? (i := 36) rfl)) (hw _ (List.mem_of_getElem? (i := 37) rfl)) (hw _ (List.mem_of_getElem? (i := 38) rfl)) e0 (g := (mkF m 0 #[.val (.ref ao)] [])) rfl (hb hby d6_0) (by decide) (by decide)
  obtain ⟨b1, g1⟩ : ∃ z, z = h0.size := ⟨_, rfl⟩
  rw [← g1] at A1 D1 st1
  have ne_ao_b1 : ao ≠ b1 := Nat.ne_of_lt (Nat.lt_of_lt_of_le PF0.lt (Nat.le_of_eq g1.symm))
  have ne_ab_b1 : ab ≠ b1 := Nat.ne_of_lt (Nat.lt_of_lt_of_le PF1.lt (Nat.le_of_eq g1.symm))
  have E2 : Exa Z h1 ao "com/example/sluice/sluice/engine/source/file/AsciiLine" := PF0.ext E1
  have E3 : Exa Z h1 ab "[B" := PF1.ext E1
  have F4 : Fld Z h1 ao "com/example/sluice/sluice/engine/source/file/AsciiLine" "bytes" "[B" (.ref ab) := PF2.ext E1
  have F5 : Fld Z h1 ao "com/example/sluice/sluice/engine/source/file/AsciiLine" "offset" "I" (.int xo) := PF3.ext E1
  have F6 : Fld Z h1 ao "com/example/sluice/sluice/engine/source/file/AsciiLine" "length" "I" (.int xl) := PF4.ext E1
  have G7 : own_Gi Z h1 ab .byte xn B := PF5.ext E1
  have O8 : Old Z n0 h1 := OL.ext E1
  have ge_b1 : n0 ≤ b1 := Nat.le_trans Z0 (Nat.le_of_eq g1.symm)
  have sz_b1 : h0.size ≤ b1 := Nat.le_trans ((Keep.refl h0 [])).1 (Nat.le_of_eq g1.symm)
  have sz1 : n0 ≤ h1.size := Nat.le_trans Z0 E1.1
  have hk := Nat.le_trans hk E1.1
  have K1 : Keep h0 h1 [] := ((Keep.refl h0 [])).ext E1
  have E9 : Exa Z h1 b1 "java/lang/String" := A1
  have F10 : Fld Z h1 b1 "java/lang/String" "value" "[B" .null := D1 (Or.inr (hw _ (List.mem_of_getElem? (i := 64) rfl))) (ty := (.array .byte)) (by decide)
  have F11 : Fld Z h1 b1 "java/lang/String" "coder" "B" (.int (0 : Int32)) := D1 (Or.inr (hw _ (List.mem_of_getElem? (i := 65) rfl))) (ty := .byte) (by decide)
  refine own_Goes.via (T' := T1) (g' := (mkF m 3 #[.val (.ref ao)] [(.ref b1)])) (st1) ?_
  refine own_Goes.via (T' := T1) (g' := (mkF m 4 #[.val (.ref ao)] [(.ref b1), (.ref b1)])) (fun t_ k_ => XS.dup X1.here hx rfl (hb hby d6_3) rfl rfl k_) ?_
  refine own_Goes.via (T' := T1) (g' := (mkF m 5 #[.val (.ref ao)] [(.ref ao), (.ref b1), (.ref b1)])) (fun t_ k_ => XS.aloadN X1.here hx rfl (hb hby d6_4) rfl rfl k_) ?_
  obtain ⟨T12, X12, e12, st12⟩ := getF X1 hx hZ hown (host := "") (Or.inl (hw _ (List.mem_of_getElem? (i := 15) rfl))) Via.refl e1 F4 (g := (mkF m 5 #[.val (.ref ao)] [(.ref ao), (.ref b1), (.ref b1)])) rfl rfl (hb hby d6_5)
  refine own_Goes.via (T' := T12) (g' := (mkF m 8 #[.val (.ref ao)] [(.ref ab), (.ref b1), (.ref b1)])) (st12) ?_
  refine own_Goes.via (T' := T12) (g' := (mkF m 9 #[.val (.ref ao)] [(.ref ao), (.ref ab), (.ref b1), (.ref b1)])) (fun t_ k_ => XS.aloadN X12.here hx rfl (hb hby d6_8) rfl rfl k_) ?_
  obtain ⟨T13, X13, e13, st13⟩ := getF X12 hx hZ hown (host := "") (Or.inl (hw _ (List.mem_of_getElem? (i := 22) rfl))) Via.refl e12 F5 (g := (mkF m 9 #[.val (.ref ao)] [(.ref ao), (.ref ab), (.ref b1), (.ref b1)])) rfl rfl (hb hby d6_9)
  refine own_Goes.via (T' := T13) (g' := (mkF m 12 #[.val (.ref ao)] [(.int xo), (.ref ab), (.ref b1), (.ref b1)])) (st13) ?_
  refine own_Goes.via (T' := T13) (g' := (mkF m 13 #[.val (.ref ao)] [(.ref ao), (.int xo), (.ref ab), (.ref b1), (.ref b1)])) (fun t_ k_ => XS.aloadN X13.here hx rfl (hb hby d6_12) rfl rfl k_) ?_
  obtain ⟨T14, X14, e14, st14⟩ := getF X13 hx hZ hown (host := "") (Or.inl (hw _ (List.mem_of_getElem? (i := 24) rfl))) Via.refl e13 F6 (g := (mkF m 13 #[.val (.ref ao)] [(.ref ao), (.int xo), (.ref ab), (.ref b1), (.ref b1)])) rfl rfl (hb hby d6_13)
  refine own_Goes.via (T' := T14) (g' := (mkF m 16 #[.val (.ref ao)] [(.int xl), (.int xo), (.ref ab), (.ref b1), (.ref b1)])) (st14) ?_
  obtain ⟨T15, X15, e15, st15⟩ := getS2 X14 hx hZ hown (host := "") (Or.inl (hw _ (List.mem_of_getElem? (i := 39) rfl))) Via.refl e14 (S_std.ext O8.2) (g := (mkF m 16 #[.val (.ref ao)] [(.int xl), (.int xo), (.ref ab), (.ref b1), (.ref b1)])) rfl (hb hby d6_16)
  refine own_Goes.via (T' := T15) (g' := (mkF m 19 #[.val (.ref ao)] [(.ref s_us), (.int xl), (.int xo), (.ref ab), (.ref b1), (.ref b1)])) (st15) ?_
  have cd19_17 : own_win xo xl xn := by first | assumption | decide
  have cd19_18 : own_nn B xo xl := by first | assumption | decide
  obtain ⟨_, _, ⟨T16, L16, k16, n16⟩, -, X16, hs16, hg16, ⟨Lc16, hQ16, l16, y16, z16⟩, st16⟩ := X15.specialBackS hx (y := (⟨"java/lang/String", "<init>", "([BIILjava/nio/charset/Charset;)V"⟩ : MethodName)) rfl hown (mvT hZ (hw _ (List.mem_of_getElem? (i := 41) rfl))) (mvT hZ (hw _ (List.mem_of_getElem? (i := 42) rfl))) (mvT hZ (hw _ (List.mem_of_getElem? (i := 43) rfl))) (by decide) (own_backSI (W := 1) (rm7 l Z a0 hw [] b1 ab xo xl s_us xcs wsf s_utf s_iso xn B h1 n0 sz1 E9 E3 F10 F11 G7 O8 ge_b1 cd19_17 cd19_18 S_utf S_iso S_us E_utf E_iso E_us S_cs hcs S_sf isr_wsf hheld hcw) hZ hin (hw _ (List.mem_of_getElem? (i := 43) rfl)) (hw _ (List.mem_of_getElem? (i := 38) rfl)) (by decide) (by decide)) (g := (mkF m 19 #[.val (.ref ao)] [(.ref s_us), (.int xl), (.int xo), (.ref ab), (.ref b1), (.ref b1)])) rfl (by rw [hml]; rfl) (Steps.refl _) (a := b1) (argsL := [(.ref ab), (.int xo), (.int xl), (.ref s_us)]) (rest := [(.ref b1)]) (lenOf pd_6_0 rfl) rfl (by show 2 * 0 + _ ≤ _; exact Nat.le_of_eq rfl) (hb hby d6_19) (fun _ _ => ⟨rfl, e15, (by decide : 1 + 2 ≤ _), (by decide : 4 + 4 ≤ _)⟩)
  dsimp only [Pt.U, Pt.locs, Pt.cells, Pt.slots] at X16 l16 y16 z16 st16 hQ16 hs16 hg16
  obtain ⟨X16, hS, hZ, hown⟩ := rebS hS (n1 := T15.heap.size) (by rw [e15]; exact hk) X16 hs16 hg16 hZ hown
  have hk := Nat.le_refl T16.heap.size
  subst l16 y16 z16
  obtain ⟨bz_16, rfl, Nq16, Kq16, pf16_0, pf16_1, pf16_2⟩ := hQ16
  have N16 := Fr.app N0 Nq16
  have E19 : Exa Z T16.heap ao "com/example/sluice/sluice/engine/source/file/AsciiLine" := E2.keep Kq16
  have E20 : Exa Z T16.heap ab "[B" := E3.keep Kq16
  have E21 : Exa Z T16.heap b1 "java/lang/String" := E9.keep Kq16
  have F22 : Fld Z T16.heap ao "com/example/sluice/sluice/engine/source/file/AsciiLine" "bytes" "[B" (.ref ab) := F4.keep Kq16 (ninS ne_ao_b1 nin0)
  have F23 : Fld Z T16.heap ao "com/example/sluice/sluice/engine/source/file/AsciiLine" "offset" "I" (.int xo) := F5.keep Kq16 (ninS ne_ao_b1 nin0)
  have F24 : Fld Z T16.heap ao "com/example/sluice/sluice/engine/source/file/AsciiLine" "length" "I" (.int xl) := F6.keep Kq16 (ninS ne_ao_b1 nin0)
  have G25 : own_Gi Z T16.heap ab .byte xn B := G7.keep Kq16 (ninS ne_ab_b1 nin0)
  have O26 : Old Z n0 T16.heap := O8.keep Kq16 (allS ge_b1 all0)
  have sz16 : n0 ≤ T16.heap.size := Nat.le_trans sz1 Kq16.1
  have K16 : Keep h0 T16.heap [] := (K1).trans Kq16 (allS (Or.inr sz_b1) all0)
  refine own_Goes.via (T' := T16) (g' := (mkF m 22 #[.val (.ref ao)] [(.ref b1)])) (fun t_ k_ => st16.trans k_) ?_
  obtain ⟨fs, hr, hrun, hended, hE⟩ := leaveW X16 hS hk (v := some (.ref b1)) (fun h => by rw [Bd.returns] at h; cases h)
  refine own_Goes.fin (retOut X16 hx Bd.returns rfl (Or.inr (Or.inr (Or.inr (Or.inr ⟨rfl, rfl, rfl⟩)))) (hb hby d6_22) hr) hrun hended ?_
  subst hPd
  refine ⟨_, _, rfl, ?_, hE.1, hE.2.1, hE.2.2.1, hE.2.2.2.mono (by decide) (by decide)⟩
  show Q6 Z ao s_us xcs wsf s_utf s_iso ab xo xl xn B h0 n0 _ T16.heap _
  exact ⟨b1, bz_16, rfl, N16, K16, E21, pf16_0, pf16_1, pf16_2⟩
theorem d14_0 : decode method_4_code 0 = .ok (.iload 4, 2) := by decide +kernel
theorem d14_2 : decode method_4_code 2 = .ok (.iload_n 3, 1) := by decide +kernel
theorem d14_3 : decode method_4_code 3 = .ok (.if_icmp .ge 19, 3) := by decide +kernel
theorem d14_6 : decode method_4_code 6 = .ok (.aload_n 0, 1) := by decide +kernel
theorem d14_7 : decode method_4_code 7 = .ok (.iload 4, 2) := by decide +kernel
theorem d14_9 : decode method_4_code 9 = .ok (.invokevirtual 40, 3) := by decide +kernel
theorem d14_12 : decode method_4_code 12 = .ok (.aload_n 1, 1) := by decide +kernel
theorem d14_13 : decode method_4_code 13 = .ok (.iload_n 2, 1) := by decide +kernel
theorem d14_14 : decode method_4_code 14 = .ok (.iload 4, 2) := by decide +kernel
theorem d14_16 : decode method_4_code 16 = .ok (.iadd, 1) := by decide +kernel
theorem d14_17 : decode method_4_code 17 = .ok (.baload, 1) := by decide +kernel
theorem d14_18 : decode method_4_code 18 = .ok (.i2c, 1) := by decide +kernel
theorem d14_19 : decode method_4_code 19 = .ok (.if_icmp .ne 7, 3) := by decide +kernel
theorem d14_22 : decode method_4_code 22 = .ok (.iconst 1, 1) := by decide +kernel
theorem d14_23 : decode method_4_code 23 = .ok (.goto 4, 3) := by decide +kernel
theorem d14_27 : decode method_4_code 27 = .ok (.ireturn, 1) := by decide +kernel
theorem pn_14 : plainName "com/example/sluice/sluice/engine/source/file/AsciiLineReadInPinLaw" = true := by first | (simp [plainName, overriddenIn]; done) | decide +kernel
theorem pd_14_0 : parseMethodDescriptor "(I)C" = some ⟨[.int], some .char⟩ := by decide +kernel
theorem ef_14 (m : MethodId) (ao : Addr) (ab : Addr) (xo : Int32) (xl : Int32) (xi : Int32) : entryFrame m #[(.ref ao), (.ref ab), (.int xo), (.int xl), (.int xi)] 5 = mkF m 0 #[.val (.ref ao), .val (.ref ab), .val (.int xo), .val (.int xl), .val (.int xi)] [] := by first | (simp [entryFrame, mkF, argsToLocals, Value.category]; done) | rfl
def Q14 (Z : State) (ao : Addr) (ab : Addr) (xo : Int32) (xl : Int32) (xi : Int32) (xcs : Int32) (wsf : Value) (bz : Addr) (xn : Int32) (B : Nat → Int32) (h0 : Heap) (n0 : Nat) (v : Option Value) (h : Heap) (L : List Loc) : Prop := v = some (.int (1 : Int32)) ∧ Fr n0 L ∧ h = h0
set_option maxRecDepth 65536 in
theorem own_pl14_0 {xo : Int32} {xl : Int32} {xi : Int32} {xn : Int32} {B : Nat → Int32} (hc3_1 : xi < xl) (hWn : own_win xo xl xn) (hP : own_nn B xo xl) (hi : 0 ≤ xi.toInt) (hB : ∀ i, (B i).toInt ≤ 127) : ¬ xi < 0 ∧ xi < xl := by
  exact ⟨own_neg hi, hc3_1⟩
set_option maxRecDepth 65536 in
theorem own_pl14_1 {xo : Int32} {xl : Int32} {xi : Int32} {xn : Int32} {B : Nat → Int32} {v4 : Int32} (hv4 : v4 = (own_ch ((own_sh B xo.toNatClampNeg) xi.toNatClampNeg))) (hc3_1 : xi < xl) (hWn : own_win xo xl xn) (hP : own_nn B xo xl) (hi : 0 ≤ xi.toInt) (hB : ∀ i, (B i).toInt ≤ 127) (cd9_3 : ¬ xi < 0 ∧ xi < xl) : ¬ (xo + xi) < 0 ∧ (xo + xi) < xn := by
  have q := own_lt.mp hc3_1
  obtain ⟨a, b, c, d⟩ := id hWn
  have e : (xo + xi).toInt = xo.toInt + xi.toInt := Jvm.Kit.i32_add (by omega) (by omega)
  exact own_in (by omega) (by omega)
set_option maxRecDepth 65536 in
theorem own_pl14_2 {xo : Int32} {xl : Int32} {xi : Int32} {xn : Int32} {B : Nat → Int32} {v4 : Int32} (hv4 : v4 = (own_ch ((own_sh B xo.toNatClampNeg) xi.toNatClampNeg))) (hc3_1 : xi < xl) (hWn : own_win xo xl xn) (hP : own_nn B xo xl) (hi : 0 ≤ xi.toInt) (hB : ∀ i, (B i).toInt ≤ 127) (cd9_3 : ¬ xi < 0 ∧ xi < xl) (in17_6 : ¬ (xo + xi) < 0 ∧ (xo + xi) < xn) : v4 = ((B (xo + xi).toNatClampNeg).toUInt32.toUInt16.toUInt32.toInt32) := by
  rw [hv4]
  have q := own_lt.mp hc3_1
  obtain ⟨a, b, c, d⟩ := id hWn
  have e : (xo + xi).toInt = xo.toInt + xi.toInt := Jvm.Kit.i32_add (by omega) (by omega)
  have y := own_clI (p := xi) hi
  have z := own_clI (p := xo) a
  have t : (xo + xi).toNatClampNeg = xo.toNatClampNeg + xi.toNatClampNeg := by show (xo + xi).toInt.toNat = xo.toInt.toNat + xi.toInt.toNat; omega
  show own_ch (B (xo.toNatClampNeg + xi.toNatClampNeg)) = own_c (B (xo + xi).toNatClampNeg)
  rw [t]
  exact own_ch_c (hP _ (by omega) (by omega)) (hB _)
set_option maxRecDepth 65536 in
set_option maxHeartbeats 40000000 in
theorem rm14 (l : Launch) (Z : State) (a0 : Array Value) (hw : ∀ d ∈ tables_1, d.before a0 Z = true) (ws : List Jvm.Cond) (ao : Addr) (ab : Addr) (xo : Int32) (xl : Int32) (xi : Int32) (xcs : Int32) (wsf : Value) (bz : Addr) (xn : Int32) (B : Nat → Int32) (h0 : Heap) (n0 : Nat) (Z0 : n0 ≤ h0.size) (PF0 : Exa Z h0 ao "java/lang/String") (PF1 : Fld Z h0 ao "java/lang/String" "value" "[B" (.ref bz)) (PF2 : Fld Z h0 ao "java/lang/String" "coder" "B" (.int (0 : Int32))) (PF3 : own_Gi Z h0 bz .byte xl (own_sh B xo.toNatClampNeg)) (PF4 : own_Gi Z h0 ab .byte xn B) (OL : Old Z n0 h0) (hWn : own_win xo xl xn) (hP : own_nn B xo xl) (hi : 0 ≤ xi.toInt) (hB : ∀ i, (B i).toInt ≤ 127) (S_cs : Sta Z Z.heap "java/lang/String" "COMPACT_STRINGS" "Z" (.int xcs)) (hcs : ¬ (xcs = (0 : Int32))) (S_sf : Sta Z Z.heap "jdk/internal/util/Preconditions" "SIOOBE_FORMATTER" "Ljava/util/function/BiFunction;" wsf) (isr_wsf : wsf.isRef = true) :
    MetFree l (⟨"com/example/sluice/sluice/engine/source/file/AsciiLineReadInPinLaw", "same", "(Ljava/lang/String;[BIII)Z"⟩ : MethodName) (head1 (Jvm.Cond.code (⟨"com/example/sluice/sluice/engine/source/file/AsciiLineReadInPinLaw", "same", "(Ljava/lang/String;[BIII)Z"⟩ : MethodName) method_4_code 5 (some .boolean) :: ws) ({ frames := 4, cells := 0, slots := 0, locals := 53 } : Room)) (fun a U => a = #[(.ref ao), (.ref ab), (.int xo), (.int xl), (.int xi)] ∧ Z.Warmed39 U.vm ∧ U.heap = h0) (fun _ _ _ _ _ => True) (fun _ U o U' => ∃ v L, o = .returned v ∧ Q14 Z ao ab xo xl xi xcs wsf bz xn B h0 n0 v U'.heap L ∧ FrameEnd U o U' L ({ frames := 4, cells := 0, slots := 0, locals := 53 } : Room).cells ({ frames := 4, cells := 0, slots := 0, locals := 53 } : Room).slots) := by
  refine MetFree.of_bodySF (plainFor_of_name pn_14) hisR ?_
  intro p e s m args below meth c s₁ Bd hml0 hP hK
  obtain ⟨rfl, hZ, hh⟩ := hP
  have hx := Bd.exec
  have hby := Bd.bytes
  have hml : c.maxLocals = 5 := hml0
  have hown : s.vm.findClass "com/example/sluice/sluice/engine/source/file/AsciiLineReadInPinLaw" = some m.cls := findClass_of_methodNamed Bd.named
  have hnm := (name_of_methodNamed Bd.named Bd.method).1
  have X0 : Stand p l e ({ frames := 4, cells := 0, slots := 0, locals := 53 } : Room) s m #[(.ref ao), (.ref ab), (.int xo), (.int xl), (.int xi)] below meth c s₁ [] 0 0 := Stand.of_body Bd
  have e0 : s₁.heap = h0 := by rw [← hh, Bd.state]; rfl
  have N0 := Fr.nil n0
  suffices G : own_Goes p.tables e below (fun o U' => ∃ v L, o = .returned v ∧ Q14 Z ao ab xo xl xi xcs wsf bz xn B h0 n0 v U'.heap L ∧ FrameEnd s o U' L ({ frames := 4, cells := 0, slots := 0, locals := 53 } : Room).cells ({ frames := 4, cells := 0, slots := 0, locals := 53 } : Room).slots) s₁ (mkF m 0 #[.val (.ref ao), .val (.ref ab), .val (.int xo), .val (.int xl), .val (.int xi)] []) by
    obtain ⟨t2_, o2_, z1_, z2_, z3_, z4_⟩ := G
    exact ⟨t2_, o2_, castTop (ef_14 m ao ab xo xl xi) z1_, z2_, z3_, z4_⟩
  generalize hPd : (fun (o : Outcome) (U' : State) => ∃ v L, o = .returned v ∧ Q14 Z ao ab xo xl xi xcs wsf bz xn B h0 n0 v U'.heap L ∧ FrameEnd s o U' L ({ frames := 4, cells := 0, slots := 0, locals := 53 } : Room).cells ({ frames := 4, cells := 0, slots := 0, locals := 53 } : Room).slots) = P
  refine own_Goes.via (T' := s₁) (g' := (mkF m 2 #[.val (.ref ao), .val (.ref ab), .val (.int xo), .val (.int xl), .val (.int xi)] [(.int xi)])) (fun t_ k_ => XS.iload X0.here hx rfl (hb hby d14_0) rfl k_) ?_
  refine own_Goes.via (T' := s₁) (g' := (mkF m 3 #[.val (.ref ao), .val (.ref ab), .val (.int xo), .val (.int xl), .val (.int xi)] [(.int xl), (.int xi)])) (fun t_ k_ => XS.iloadN X0.here hx rfl (hb hby d14_2) rfl k_) ?_
  by_cases hc3_1 : xi < xl
  · refine own_Goes.via (T' := s₁) (g' := (mkF m 6 #[.val (.ref ao), .val (.ref ab), .val (.int xo), .val (.int xl), .val (.int xi)] [])) (fun t_ k_ => XS.icmpNo X0.here hx rfl (hb hby d14_3) rfl (tlt hc3_1).2.1 k_) ?_
    refine own_Goes.via (T' := s₁) (g' := (mkF m 7 #[.val (.ref ao), .val (.ref ab), .val (.int xo), .val (.int xl), .val (.int xi)] [(.ref ao)])) (fun t_ k_ => XS.aloadN X0.here hx rfl (hb hby d14_6) rfl rfl k_) ?_
    refine own_Goes.via (T' := s₁) (g' := (mkF m 9 #[.val (.ref ao), .val (.ref ab), .val (.int xo), .val (.int xl), .val (.int xi)] [(.int xi), (.ref ao)])) (fun t_ k_ => XS.iload X0.here hx rfl (hb hby d14_7) rfl k_) ?_
    have cd9_3 : ¬ xi < 0 ∧ xi < xl := own_pl14_0 hc3_1 hWn hP hi hB
    obtain ⟨cq2, kq2, q2a, q2b, q2c⟩ := isOf hZ e0 PF0
    obtain ⟨_, _, ⟨T2, L2, k2, n2⟩, -, X2, ⟨Lc2, hQ2, l2, y2, z2⟩, st2⟩ := X0.virtualBack hx (y := (⟨"java/lang/String", "charAt", "(I)C"⟩ : MethodName)) (z := (⟨"java/lang/String", "charAt", "(I)C"⟩ : MethodName)) hown (mvT hZ (hw _ (List.mem_of_getElem? (i := 115) rfl))) (mvT hZ (hw _ (List.mem_of_getElem? (i := 116) rfl))) (notFace_of_selects (args := #[]) (mvT hZ (hw _ (List.mem_of_getElem? (i := 118) rfl)))) (mvT hZ (hw _ (List.mem_of_getElem? (i := 118) rfl))) (mvT hZ (hw _ (List.mem_of_getElem? (i := 117) rfl))) (by decide) (backOf (W := 0) (rm21 l Z a0 hw [] ao xi xcs wsf bz xl (own_sh B xo.toNatClampNeg) h0 n0 Z0 PF0 PF1 PF2 PF3 OL cd9_3 S_cs hcs S_sf isr_wsf) hZ (hw _ (List.mem_of_getElem? (i := 119) rfl)) (hw _ (List.mem_of_getElem? (i := 38) rfl)) (by decide) (by decide)) q2a q2c (g := (mkF m 9 #[.val (.ref ao), .val (.ref ab), .val (.int xo), .val (.int xl), .val (.int xi)] [(.int xi), (.ref ao)])) rfl (by rw [hml]; rfl) (Steps.refl _) (argsL := [(.int xi)]) (rest := []) (lenOf pd_14_0 rfl) rfl (by show 2 * 0 + _ ≤ _; exact Nat.le_of_eq rfl) (hb hby d14_9) (fun _ _ => ⟨rfl, e0, (by decide : 0 + 0 ≤ _), (by decide : 0 + 0 ≤ _)⟩)
    dsimp only [Pt.U, Pt.locs, Pt.cells, Pt.slots] at X2 l2 y2 z2 st2 hQ2
    subst l2 y2 z2
    obtain ⟨rfl, Nq2, hh2⟩ := hQ2
    have N2 := Fr.app N0 Nq2
    refine own_Goes.via (T' := T2) (g' := (mkF m 12 #[.val (.ref ao), .val (.ref ab), .val (.int xo), .val (.int xl), .val (.int xi)] [(.int (own_ch ((own_sh B xo.toNatClampNeg) xi.toNatClampNeg)))])) (fun t_ k_ => st2.trans k_) ?_
    obtain ⟨v4, hv4⟩ : ∃ z : Int32, z = (own_ch ((own_sh B xo.toNatClampNeg) xi.toNatClampNeg)) := ⟨_, rfl⟩
    rw [← hv4]
    refine own_Goes.via (T' := T2) (g' := (mkF m 13 #[.val (.ref ao), .val (.ref ab), .val (.int xo), .val (.int xl), .val (.int xi)] [(.ref ab), (.int v4)])) (fun t_ k_ => XS.aloadN X2.here hx rfl (hb hby d14_12) rfl rfl k_) ?_
    refine own_Goes.via (T' := T2) (g' := (mkF m 14 #[.val (.ref ao), .val (.ref ab), .val (.int xo), .val (.int xl), .val (.int xi)] [(.int xo), (.ref ab), (.int v4)])) (fun t_ k_ => XS.iloadN X2.here hx rfl (hb hby d14_13) rfl k_) ?_
    refine own_Goes.via (T' := T2) (g' := (mkF m 16 #[.val (.ref ao), .val (.ref ab), .val (.int xo), .val (.int xl), .val (.int xi)] [(.int xi), (.int xo), (.ref ab), (.int v4)])) (fun t_ k_ => XS.iload X2.here hx rfl (hb hby d14_14) rfl k_) ?_
    refine own_Goes.via (T' := T2) (g' := (mkF m 17 #[.val (.ref ao), .val (.ref ab), .val (.int xo), .val (.int xl), .val (.int xi)] [(.int (xo + xi)), (.ref ab), (.int v4)])) (fun t_ k_ => XS.iadd X2.here hx rfl (hb hby d14_16) rfl k_) ?_
    have in17_6 : ¬ (xo + xi) < 0 ∧ (xo + xi) < xn := own_pl14_1 hv4 hc3_1 hWn hP hi hB cd9_3
    obtain ⟨cl5, Ar5, Sl5, at5⟩ := PF4.rd in17_6
    refine own_Goes.via (T' := T2) (g' := (mkF m 18 #[.val (.ref ao), .val (.ref ab), .val (.int xo), .val (.int xl), .val (.int xi)] [(.int (B (xo + xi).toNatClampNeg)), (.int v4)])) (fun t_ k_ => X2.baloadBytes hx (j := (xo + xi)) (v := (.int (B (xo + xi).toNatClampNeg))) (by rw [hh2]; exact Ar5.1) (State.isArrayOf_alike hZ.alike Ar5.2.1) Ar5.2.2 (inb_of Sl5 in17_6) at5 (g := (mkF m 17 #[.val (.ref ao), .val (.ref ab), .val (.int xo), .val (.int xl), .val (.int xi)] [(.int (xo + xi)), (.ref ab), (.int v4)])) rfl rfl (hb hby d14_17) _ k_) ?_
    refine own_Goes.via (T' := T2) (g' := (mkF m 19 #[.val (.ref ao), .val (.ref ab), .val (.int xo), .val (.int xl), .val (.int xi)] [(.int ((B (xo + xi).toNatClampNeg).toUInt32.toUInt16.toUInt32.toInt32)), (.int v4)])) (fun t_ k_ => XS.i2c X2.here hx rfl (hb hby d14_18) rfl k_) ?_
    have hd19_7 : v4 = ((B (xo + xi).toNatClampNeg).toUInt32.toUInt16.toUInt32.toInt32) := own_pl14_2 hv4 hc3_1 hWn hP hi hB cd9_3 in17_6
    refine own_Goes.via (T' := T2) (g' := (mkF m 22 #[.val (.ref ao), .val (.ref ab), .val (.int xo), .val (.int xl), .val (.int xi)] [])) (fun t_ k_ => XS.icmpNo X2.here hx rfl (hb hby d14_19) rfl (teq hd19_7).2 k_) ?_
    refine own_Goes.via (T' := T2) (g' := (mkF m 23 #[.val (.ref ao), .val (.ref ab), .val (.int xo), .val (.int xl), .val (.int xi)] [(.int (1 : Int32))])) (fun t_ k_ => XS.iconst X2.here hx rfl (hb hby d14_22) k_) ?_
    refine own_Goes.via (T' := T2) (g' := (mkF m 27 #[.val (.ref ao), .val (.ref ab), .val (.int xo), .val (.int xl), .val (.int xi)] [(.int (1 : Int32))])) (fun t_ k_ => XS.goto X2.here hx rfl (pc0 := 23) (pc' := 27) rfl (hb hby d14_23) (by decide) (by decide) k_) ?_
    obtain ⟨fs, hr, hrun, hended, hW, hsame⟩ := X2.leave (v := some (.int (1 : Int32))) (fun h => by rw [Bd.returns] at h; cases h)
    refine own_Goes.fin (retN X2 hx (t := .boolean) Bd.returns (by simp) (hb hby d14_27) hr) hrun hended ?_
    subst hPd
    refine ⟨_, _, rfl, ?_, ⟨_, rfl⟩, hW, hsame.mono (by decide) (by decide)⟩
    show Q14 Z ao ab xo xl xi xcs wsf bz xn B h0 n0 _ T2.heap _
    rw [hh2]
    exact ⟨(by subst hv4; first | rfl | (simp only [if_pos hc3_1])), N2, rfl⟩
  · refine own_Goes.via (T' := s₁) (g' := (mkF m 22 #[.val (.ref ao), .val (.ref ab), .val (.int xo), .val (.int xl), .val (.int xi)] [])) (fun t_ k_ => XS.icmpYes X0.here hx rfl (pc0 := 3) (pc' := 22) rfl (hb hby d14_3) rfl (flt hc3_1).2.1 (by decide) (by decide) k_) ?_
    refine own_Goes.via (T' := s₁) (g' := (mkF m 23 #[.val (.ref ao), .val (.ref ab), .val (.int xo), .val (.int xl), .val (.int xi)] [(.int (1 : Int32))])) (fun t_ k_ => XS.iconst X0.here hx rfl (hb hby d14_22) k_) ?_
    refine own_Goes.via (T' := s₁) (g' := (mkF m 27 #[.val (.ref ao), .val (.ref ab), .val (.int xo), .val (.int xl), .val (.int xi)] [(.int (1 : Int32))])) (fun t_ k_ => XS.goto X0.here hx rfl (pc0 := 23) (pc' := 27) rfl (hb hby d14_23) (by decide) (by decide) k_) ?_
    obtain ⟨fs, hr, hrun, hended, hW, hsame⟩ := X0.leave (v := some (.int (1 : Int32))) (fun h => by rw [Bd.returns] at h; cases h)
    refine own_Goes.fin (retN X0 hx (t := .boolean) Bd.returns (by simp) (hb hby d14_27) hr) hrun hended ?_
    subst hPd
    refine ⟨_, _, rfl, ?_, ⟨_, rfl⟩, hW, hsame.mono (by decide) (by decide)⟩
    show Q14 Z ao ab xo xl xi xcs wsf bz xn B h0 n0 _ s₁.heap _
    rw [e0]
    exact ⟨(by first | rfl | (simp only [if_neg hc3_1])), N0, rfl⟩
theorem d26_0 : decode prog_128_method_4_code 0 = .ok (.aload_n 0, 1) := by decide +kernel
theorem d26_1 : decode prog_128_method_4_code 1 = .ok (.getfield 7, 3) := by decide +kernel
theorem d26_4 : decode prog_128_method_4_code 4 = .ok (.aload_n 0, 1) := by decide +kernel
theorem d26_5 : decode prog_128_method_4_code 5 = .ok (.getfield 13, 3) := by decide +kernel
theorem d26_8 : decode prog_128_method_4_code 8 = .ok (.iload_n 1, 1) := by decide +kernel
theorem d26_9 : decode prog_128_method_4_code 9 = .ok (.aload_n 0, 1) := by decide +kernel
theorem d26_10 : decode prog_128_method_4_code 10 = .ok (.getfield 17, 3) := by decide +kernel
theorem d26_13 : decode prog_128_method_4_code 13 = .ok (.invokestatic 20, 3) := by decide +kernel
theorem d26_16 : decode prog_128_method_4_code 16 = .ok (.iadd, 1) := by decide +kernel
theorem d26_17 : decode prog_128_method_4_code 17 = .ok (.baload, 1) := by decide +kernel
theorem d26_18 : decode prog_128_method_4_code 18 = .ok (.i2c, 1) := by decide +kernel
theorem d26_19 : decode prog_128_method_4_code 19 = .ok (.ireturn, 1) := by decide +kernel
theorem pn_26 : plainName "com/example/sluice/sluice/engine/source/file/AsciiLine" = true := by first | (simp [plainName, overriddenIn]; done) | decide +kernel
theorem pd_26_0 : parseMethodDescriptor "(II)I" = some ⟨[.int, .int], some .int⟩ := by decide +kernel
theorem ef_26 (m : MethodId) (ao : Addr) (xi : Int32) : entryFrame m #[(.ref ao), (.int xi)] 2 = mkF m 0 #[.val (.ref ao), .val (.int xi)] [] := by first | (simp [entryFrame, mkF, argsToLocals, Value.category]; done) | rfl
def Q26 (Z : State) (ao : Addr) (xi : Int32) (ab : Addr) (xo : Int32) (xl : Int32) (xn : Int32) (B : Nat → Int32) (h0 : Heap) (n0 : Nat) (v : Option Value) (h : Heap) (L : List Loc) : Prop := v = some (.int (own_c (B (xo + xi).toNatClampNeg))) ∧ Fr n0 L ∧ h = h0
set_option maxRecDepth 65536 in
theorem own_pl26_0 {xi : Int32} {xo : Int32} {xl : Int32} {xn : Int32} (hWn : own_win xo xl xn) (hi : ¬ xi < 0 ∧ xi < xl) (cd13_5 : ¬ xi < 0 ∧ xi < xl) : ¬ (xo + xi) < 0 ∧ (xo + xi) < xn := by
  have q := own_lt.mp hi.2
  have q' : 0 ≤ xi.toInt := by have z := hi.1; rw [own_lt, own_z] at z; omega
  obtain ⟨a, b, c, d⟩ := id hWn
  have e : (xo + xi).toInt = xo.toInt + xi.toInt := Jvm.Kit.i32_add (by omega) (by omega)
  exact own_in (by omega) (by omega)
set_option maxRecDepth 65536 in
set_option maxHeartbeats 40000000 in
theorem rm26 (l : Launch) (Z : State) (a0 : Array Value) (hw : ∀ d ∈ tables_1, d.before a0 Z = true) (ws : List Jvm.Cond) (ao : Addr) (xi : Int32) (ab : Addr) (xo : Int32) (xl : Int32) (xn : Int32) (B : Nat → Int32) (h0 : Heap) (n0 : Nat) (Z0 : n0 ≤ h0.size) (PF0 : Fld Z h0 ao "com/example/sluice/sluice/engine/source/file/AsciiLine" "bytes" "[B" (.ref ab)) (PF1 : Fld Z h0 ao "com/example/sluice/sluice/engine/source/file/AsciiLine" "offset" "I" (.int xo)) (PF2 : Fld Z h0 ao "com/example/sluice/sluice/engine/source/file/AsciiLine" "length" "I" (.int xl)) (PF3 : own_Gi Z h0 ab .byte xn B) (hWn : own_win xo xl xn) (hi : ¬ xi < 0 ∧ xi < xl) :
    MetFree l (⟨"com/example/sluice/sluice/engine/source/file/AsciiLine", "charAt", "(I)C"⟩ : MethodName) (head1 (Jvm.Cond.code (⟨"com/example/sluice/sluice/engine/source/file/AsciiLine", "charAt", "(I)C"⟩ : MethodName) prog_128_method_4_code 2 (some .char) :: ws) ({ frames := 2, cells := 0, slots := 0, locals := 29 } : Room)) (fun a U => a = #[(.ref ao), (.int xi)] ∧ Z.Warmed39 U.vm ∧ U.heap = h0) (fun _ _ _ _ _ => True) (fun _ U o U' => ∃ v L, o = .returned v ∧ Q26 Z ao xi ab xo xl xn B h0 n0 v U'.heap L ∧ FrameEnd U o U' L ({ frames := 2, cells := 0, slots := 0, locals := 29 } : Room).cells ({ frames := 2, cells := 0, slots := 0, locals := 29 } : Room).slots) := by
  refine MetFree.of_bodySF (plainFor_of_name pn_26) hisR ?_
  intro p e s m args below meth c s₁ Bd hml0 hP hK
  obtain ⟨rfl, hZ, hh⟩ := hP
  have hx := Bd.exec
  have hby := Bd.bytes
  have hml : c.maxLocals = 2 := hml0
  have hown : s.vm.findClass "com/example/sluice/sluice/engine/source/file/AsciiLine" = some m.cls := findClass_of_methodNamed Bd.named
  have hnm := (name_of_methodNamed Bd.named Bd.method).1
  have X0 : Stand p l e ({ frames := 2, cells := 0, slots := 0, locals := 29 } : Room) s m #[(.ref ao), (.int xi)] below meth c s₁ [] 0 0 := Stand.of_body Bd
  have e0 : s₁.heap = h0 := by rw [← hh, Bd.state]; rfl
  have N0 := Fr.nil n0
  suffices G : own_Goes p.tables e below (fun o U' => ∃ v L, o = .returned v ∧ Q26 Z ao xi ab xo xl xn B h0 n0 v U'.heap L ∧ FrameEnd s o U' L ({ frames := 2, cells := 0, slots := 0, locals := 29 } : Room).cells ({ frames := 2, cells := 0, slots := 0, locals := 29 } : Room).slots) s₁ (mkF m 0 #[.val (.ref ao), .val (.int xi)] []) by
    obtain ⟨t2_, o2_, z1_, z2_, z3_, z4_⟩ := G
    exact ⟨t2_, o2_, castTop (ef_26 m ao xi) z1_, z2_, z3_, z4_⟩
  generalize hPd : (fun (o : Outcome) (U' : State) => ∃ v L, o = .returned v ∧ Q26 Z ao xi ab xo xl xn B h0 n0 v U'.heap L ∧ FrameEnd s o U' L ({ frames := 2, cells := 0, slots := 0, locals := 29 } : Room).cells ({ frames := 2, cells := 0, slots := 0, locals := 29 } : Room).slots) = P
  refine own_Goes.via (T' := s₁) (g' := (mkF m 1 #[.val (.ref ao), .val (.int xi)] [(.ref ao)])) (fun t_ k_ => XS.aloadN X0.here hx rfl (hb hby d26_0) rfl rfl k_) ?_
  obtain ⟨T1, X1, e1, st1⟩ := getF X0 hx hZ hown (host := "") (Or.inl (hw _ (List.mem_of_getElem? (i := 15) rfl))) Via.refl e0 PF0 (g := (mkF m 1 #[.val (.ref ao), .val (.int xi)] [(.ref ao)])) rfl rfl (hb hby d26_1)
  refine own_Goes.via (T' := T1) (g' := (mkF m 4 #[.val (.ref ao), .val (.int xi)] [(.ref ab)])) (st1) ?_
  refine own_Goes.via (T' := T1) (g' := (mkF m 5 #[.val (.ref ao), .val (.int xi)] [(.ref ao), (.ref ab)])) (fun t_ k_ => XS.aloadN X1.here hx rfl (hb hby d26_4) rfl rfl k_) ?_
  obtain ⟨T2, X2, e2, st2⟩ := getF X1 hx hZ hown (host := "") (Or.inl (hw _ (List.mem_of_getElem? (i := 22) rfl))) Via.refl e1 PF1 (g := (mkF m 5 #[.val (.ref ao), .val (.int xi)] [(.ref ao), (.ref ab)])) rfl rfl (hb hby d26_5)
  refine own_Goes.via (T' := T2) (g' := (mkF m 8 #[.val (.ref ao), .val (.int xi)] [(.int xo), (.ref ab)])) (st2) ?_
  refine own_Goes.via (T' := T2) (g' := (mkF m 9 #[.val (.ref ao), .val (.int xi)] [(.int xi), (.int xo), (.ref ab)])) (fun t_ k_ => XS.iloadN X2.here hx rfl (hb hby d26_8) rfl k_) ?_
  refine own_Goes.via (T' := T2) (g' := (mkF m 10 #[.val (.ref ao), .val (.int xi)] [(.ref ao), (.int xi), (.int xo), (.ref ab)])) (fun t_ k_ => XS.aloadN X2.here hx rfl (hb hby d26_9) rfl rfl k_) ?_
  obtain ⟨T3, X3, e3, st3⟩ := getF X2 hx hZ hown (host := "") (Or.inl (hw _ (List.mem_of_getElem? (i := 24) rfl))) Via.refl e2 PF2 (g := (mkF m 10 #[.val (.ref ao), .val (.int xi)] [(.ref ao), (.int xi), (.int xo), (.ref ab)])) rfl rfl (hb hby d26_10)
  refine own_Goes.via (T' := T3) (g' := (mkF m 13 #[.val (.ref ao), .val (.int xi)] [(.int xl), (.int xi), (.int xo), (.ref ab)])) (st3) ?_
  have cd13_5 : ¬ xi < 0 ∧ xi < xl := by first | assumption | decide
  obtain ⟨_, _, ⟨T4, L4, k4, n4⟩, -, X4, ⟨Lc4, hQ4, l4, y4, z4⟩, st4⟩ := Jvm.LawKit.callS X3 hx (y := (⟨"java/util/Objects", "checkIndex", "(II)I"⟩ : MethodName)) hown (mvT hZ (hw _ (List.mem_of_getElem? (i := 140) rfl))) (mvT hZ (hw _ (List.mem_of_getElem? (i := 141) rfl))) (mvT hZ (hw _ (List.mem_of_getElem? (i := 46) rfl))) (mvT hZ (hw _ (List.mem_of_getElem? (i := 142) rfl))) (by decide) (backOf (W := 2) (rm27 l Z a0 hw [] xi xl h0 n0 Z0 cd13_5) hZ (hw _ (List.mem_of_getElem? (i := 142) rfl)) (hw _ (List.mem_of_getElem? (i := 46) rfl)) (by decide) (by decide)) (g := (mkF m 13 #[.val (.ref ao), .val (.int xi)] [(.int xl), (.int xi), (.int xo), (.ref ab)])) rfl (by rw [hml]; rfl) (argsL := [(.int xi), (.int xl)]) (rest := [(.int xo), (.ref ab)]) (lenOf pd_26_0 rfl) rfl (by show 2 * 0 + _ ≤ _; exact Nat.le_of_eq rfl) (hb hby d26_13) (fun _ _ => ⟨rfl, e3, (by decide : 0 + 0 ≤ _), (by decide : 0 + 0 ≤ _)⟩)
  dsimp only [Pt.U, Pt.locs, Pt.cells, Pt.slots] at X4 l4 y4 z4 st4 hQ4
  subst l4 y4 z4
  obtain ⟨rfl, Nq4, hh4⟩ := hQ4
  have N4 := Fr.app N0 Nq4
  refine own_Goes.via (T' := T4) (g' := (mkF m 16 #[.val (.ref ao), .val (.int xi)] [(.int xi), (.int xo), (.ref ab)])) (st4) ?_
  refine own_Goes.via (T' := T4) (g' := (mkF m 17 #[.val (.ref ao), .val (.int xi)] [(.int (xo + xi)), (.ref ab)])) (fun t_ k_ => XS.iadd X4.here hx rfl (hb hby d26_16) rfl k_) ?_
  have in17_7 : ¬ (xo + xi) < 0 ∧ (xo + xi) < xn := own_pl26_0 hWn hi cd13_5
  obtain ⟨cl6, Ar6, Sl6, at6⟩ := PF3.rd in17_7
  refine own_Goes.via (T' := T4) (g' := (mkF m 18 #[.val (.ref ao), .val (.int xi)] [(.int (B (xo + xi).toNatClampNeg))])) (fun t_ k_ => X4.baloadBytes hx (j := (xo + xi)) (v := (.int (B (xo + xi).toNatClampNeg))) (by rw [hh4]; exact Ar6.1) (State.isArrayOf_alike hZ.alike Ar6.2.1) Ar6.2.2 (inb_of Sl6 in17_7) at6 (g := (mkF m 17 #[.val (.ref ao), .val (.int xi)] [(.int (xo + xi)), (.ref ab)])) rfl rfl (hb hby d26_17) _ k_) ?_
  refine own_Goes.via (T' := T4) (g' := (mkF m 19 #[.val (.ref ao), .val (.int xi)] [(.int ((B (xo + xi).toNatClampNeg).toUInt32.toUInt16.toUInt32.toInt32))])) (fun t_ k_ => XS.i2c X4.here hx rfl (hb hby d26_18) rfl k_) ?_
  have hnar8 : nar .char ((B (xo + xi).toNatClampNeg).toUInt32.toUInt16.toUInt32.toInt32) = ((B (xo + xi).toNatClampNeg).toUInt32.toUInt16.toUInt32.toInt32) := own_narc _
  obtain ⟨fs, hr, hrun, hended, hW, hsame⟩ := X4.leave (v := some (.int ((B (xo + xi).toNatClampNeg).toUInt32.toUInt16.toUInt32.toInt32))) (fun h => by rw [Bd.returns] at h; cases h)
  refine own_Goes.fin (retN X4 hx (t := .char) Bd.returns (by simp) (hb hby d26_19) (by rw [hnar8]; exact hr)) hrun hended ?_
  subst hPd
  refine ⟨_, _, rfl, ?_, ⟨_, rfl⟩, hW, hsame.mono (by decide) (by decide)⟩
  show Q26 Z ao xi ab xo xl xn B h0 n0 _ T4.heap _
  rw [hh4]
  exact ⟨(by first | rfl | (simp only [])), N4, rfl⟩
theorem pn_0 : plainName "com/example/sluice/sluice/engine/source/file/AsciiLineReadInPinLaw" = true := by first | (simp [plainName, overriddenIn]; done) | decide +kernel
theorem pd_0_0 : parseMethodDescriptor "([BIII)Z" = some ⟨[(.array .byte), .int, .int, .int], some .boolean⟩ := by decide +kernel
theorem pd_0_1 : parseMethodDescriptor "()V" = some ⟨[], none⟩ := by decide +kernel
theorem pd_0_2 : parseMethodDescriptor "([BII)Z" = some ⟨[(.array .byte), .int, .int], some .boolean⟩ := by decide +kernel
theorem pd_0_3 : parseMethodDescriptor "()I" = some ⟨[], some .int⟩ := by decide +kernel
theorem pd_0_4 : parseMethodDescriptor "()Ljava/lang/String;" = some ⟨[], some (.object "java/lang/String")⟩ := by decide +kernel
theorem pd_0_5 : parseMethodDescriptor "(Ljava/lang/String;[BIII)Z" = some ⟨[(.object "java/lang/String"), (.array .byte), .int, .int, .int], some .boolean⟩ := by decide +kernel
theorem pd_0_6 : parseMethodDescriptor "(I)C" = some ⟨[.int], some .char⟩ := by decide +kernel
theorem ef_0 (m : MethodId) (xa : Int32) (xw : Int32) (xp : Int32) (xr : Int32) : entryFrame m #[(.int xa), (.int xw), (.int xp), (.int xr)] maxLocals = mkF m 0 #[.val (.int xa), .val (.int xw), .val (.int xp), .val (.int xr), .unset, .unset, .unset, .unset, .unset, .unset, .unset, .unset, .unset, .unset, .unset, .unset, .unset, .unset] [] := by first | (simp [entryFrame, mkF, argsToLocals, Value.category, maxLocals]; done) | rfl
def Q0 (Z : State) (xa : Int32) (xw : Int32) (xp : Int32) (xr : Int32) (s_us : Addr) (xcs : Int32) (wsf : Value) (s_utf : Addr) (s_iso : Addr) (h0 : Heap) (n0 : Nat) (v : Option Value) (h : Heap) (L : List Loc) : Prop := v = some (.int 1) ∧ Fr n0 L
set_option maxRecDepth 65536 in
theorem own_pl0_0 {xw : Int32} {Bb : Nat → Int32} {v27 : Int32} (hv27 : v27 = ((xw &&& (2147483647 : Int32)) % (5 : Int32))) (in7_6 : ¬ (0 : Int32) < 0 ∧ (0 : Int32) < (4 : Int32)) (in15_11 : ¬ (1 : Int32) < 0 ∧ (1 : Int32) < (4 : Int32)) (in23_16 : ¬ (2 : Int32) < 0 ∧ (2 : Int32) < (4 : Int32)) (in31_21 : ¬ (3 : Int32) < 0 ∧ (3 : Int32) < (4 : Int32)) (hBb127 : ∀ i, (Bb i).toInt ≤ 127) (nz39_26 : (5 : Int32) ≠ (0 : Int32)) : ((5 : Int32) - v27) ≠ (0 : Int32) := by
  exact own_ne0 (own_window (n1 := (5 : Int32)) (n := (4 : Int32)) (y := xw) rfl (by decide) (by decide) hv27 rfl).2
set_option maxRecDepth 65536 in
theorem own_pl0_1 {xw : Int32} {xr : Int32} {Bb : Nat → Int32} {Bp : Nat → Int32} {v27 : Int32} {v29 : Int32} {v59 : Int32} (hv27 : v27 = ((xw &&& (2147483647 : Int32)) % (5 : Int32))) (hv29 : v29 = ((((xw.toUInt32 >>> ((8 : Int32) &&& 31).toUInt32).toInt32) &&& (2147483647 : Int32)) % ((5 : Int32) - v27))) (hv59 : v59 = ((xr &&& (2147483647 : Int32)) % (4 : Int32))) (in7_6 : ¬ (0 : Int32) < 0 ∧ (0 : Int32) < (4 : Int32)) (in15_11 : ¬ (1 : Int32) < 0 ∧ (1 : Int32) < (4 : Int32)) (in23_16 : ¬ (2 : Int32) < 0 ∧ (2 : Int32) < (4 : Int32)) (in31_21 : ¬ (3 : Int32) < 0 ∧ (3 : Int32) < (4 : Int32)) (hBb127 : ∀ i, (Bb i).toInt ≤ 127) (nz39_26 : (5 : Int32) ≠ (0 : Int32)) (nz53_28 : ((5 : Int32) - v27) ≠ (0 : Int32)) (in66_37 : ¬ (0 : Int32) < 0 ∧ (0 : Int32) < (3 : Int32)) (in77_44 : ¬ (1 : Int32) < 0 ∧ (1 : Int32) < (3 : Int32)) (in88_51 : ¬ (2 : Int32) < 0 ∧ (2 : Int32) < (3 : Int32)) (hBp127 : ∀ i, (Bp i).toInt ≤ 127) (hBp0 : ∀ i, 0 ≤ (Bp i).toInt) (nz96_58 : (4 : Int32) ≠ (0 : Int32)) : ((4 : Int32) - v59) ≠ (0 : Int32) := by
  exact own_ne0 (own_window (n1 := (4 : Int32)) (n := (3 : Int32)) (y := xr) rfl (by decide) (by decide) hv59 rfl).2
set_option maxRecDepth 65536 in
theorem own_pl0_2 {xw : Int32} {xr : Int32} {Bb : Nat → Int32} {Bp : Nat → Int32} {v27 : Int32} {v29 : Int32} {v59 : Int32} {v61 : Int32} (hv27 : v27 = ((xw &&& (2147483647 : Int32)) % (5 : Int32))) (hv29 : v29 = ((((xw.toUInt32 >>> ((8 : Int32) &&& 31).toUInt32).toInt32) &&& (2147483647 : Int32)) % ((5 : Int32) - v27))) (hv59 : v59 = ((xr &&& (2147483647 : Int32)) % (4 : Int32))) (hv61 : v61 = ((((xr.toUInt32 >>> ((8 : Int32) &&& 31).toUInt32).toInt32) &&& (2147483647 : Int32)) % ((4 : Int32) - v59))) (in7_6 : ¬ (0 : Int32) < 0 ∧ (0 : Int32) < (4 : Int32)) (in15_11 : ¬ (1 : Int32) < 0 ∧ (1 : Int32) < (4 : Int32)) (in23_16 : ¬ (2 : Int32) < 0 ∧ (2 : Int32) < (4 : Int32)) (in31_21 : ¬ (3 : Int32) < 0 ∧ (3 : Int32) < (4 : Int32)) (hBb127 : ∀ i, (Bb i).toInt ≤ 127) (nz39_26 : (5 : Int32) ≠ (0 : Int32)) (nz53_28 : ((5 : Int32) - v27) ≠ (0 : Int32)) (in66_37 : ¬ (0 : Int32) < 0 ∧ (0 : Int32) < (3 : Int32)) (in77_44 : ¬ (1 : Int32) < 0 ∧ (1 : Int32) < (3 : Int32)) (in88_51 : ¬ (2 : Int32) < 0 ∧ (2 : Int32) < (3 : Int32)) (hBp127 : ∀ i, (Bp i).toInt ≤ 127) (hBp0 : ∀ i, 0 ≤ (Bp i).toInt) (nz96_58 : (4 : Int32) ≠ (0 : Int32)) (nz110_60 : ((4 : Int32) - v59) ≠ (0 : Int32)) : own_win v27 v29 (4 : Int32) := by
  exact (own_window (n1 := (5 : Int32)) rfl (by decide) (by decide) hv27 hv29).1
set_option maxRecDepth 65536 in
theorem own_pl0_3 {xw : Int32} {xr : Int32} {Bb : Nat → Int32} {Bp : Nat → Int32} {v27 : Int32} {v29 : Int32} {v59 : Int32} {v61 : Int32} (hv27 : v27 = ((xw &&& (2147483647 : Int32)) % (5 : Int32))) (hv29 : v29 = ((((xw.toUInt32 >>> ((8 : Int32) &&& 31).toUInt32).toInt32) &&& (2147483647 : Int32)) % ((5 : Int32) - v27))) (hv59 : v59 = ((xr &&& (2147483647 : Int32)) % (4 : Int32))) (hv61 : v61 = ((((xr.toUInt32 >>> ((8 : Int32) &&& 31).toUInt32).toInt32) &&& (2147483647 : Int32)) % ((4 : Int32) - v59))) (in7_6 : ¬ (0 : Int32) < 0 ∧ (0 : Int32) < (4 : Int32)) (in15_11 : ¬ (1 : Int32) < 0 ∧ (1 : Int32) < (4 : Int32)) (in23_16 : ¬ (2 : Int32) < 0 ∧ (2 : Int32) < (4 : Int32)) (in31_21 : ¬ (3 : Int32) < 0 ∧ (3 : Int32) < (4 : Int32)) (hBb127 : ∀ i, (Bb i).toInt ≤ 127) (nz39_26 : (5 : Int32) ≠ (0 : Int32)) (nz53_28 : ((5 : Int32) - v27) ≠ (0 : Int32)) (in66_37 : ¬ (0 : Int32) < 0 ∧ (0 : Int32) < (3 : Int32)) (in77_44 : ¬ (1 : Int32) < 0 ∧ (1 : Int32) < (3 : Int32)) (in88_51 : ¬ (2 : Int32) < 0 ∧ (2 : Int32) < (3 : Int32)) (hBp127 : ∀ i, (Bp i).toInt ≤ 127) (hBp0 : ∀ i, 0 ≤ (Bp i).toInt) (nz96_58 : (4 : Int32) ≠ (0 : Int32)) (nz110_60 : ((4 : Int32) - v59) ≠ (0 : Int32)) (HW : own_win v27 v29 (4 : Int32)) : own_win v59 v61 (3 : Int32) := by
  exact (own_window (n1 := (4 : Int32)) rfl (by decide) (by decide) hv59 hv61).1
set_option maxRecDepth 65536 in
theorem own_pl0_4 {xw : Int32} {xr : Int32} {Bb : Nat → Int32} {Bp : Nat → Int32} {v27 : Int32} {v29 : Int32} {v59 : Int32} {v61 : Int32} (hv27 : v27 = ((xw &&& (2147483647 : Int32)) % (5 : Int32))) (hv29 : v29 = ((((xw.toUInt32 >>> ((8 : Int32) &&& 31).toUInt32).toInt32) &&& (2147483647 : Int32)) % ((5 : Int32) - v27))) (hv59 : v59 = ((xr &&& (2147483647 : Int32)) % (4 : Int32))) (hv61 : v61 = ((((xr.toUInt32 >>> ((8 : Int32) &&& 31).toUInt32).toInt32) &&& (2147483647 : Int32)) % ((4 : Int32) - v59))) (in7_6 : ¬ (0 : Int32) < 0 ∧ (0 : Int32) < (4 : Int32)) (in15_11 : ¬ (1 : Int32) < 0 ∧ (1 : Int32) < (4 : Int32)) (in23_16 : ¬ (2 : Int32) < 0 ∧ (2 : Int32) < (4 : Int32)) (in31_21 : ¬ (3 : Int32) < 0 ∧ (3 : Int32) < (4 : Int32)) (hBb127 : ∀ i, (Bb i).toInt ≤ 127) (nz39_26 : (5 : Int32) ≠ (0 : Int32)) (nz53_28 : ((5 : Int32) - v27) ≠ (0 : Int32)) (in66_37 : ¬ (0 : Int32) < 0 ∧ (0 : Int32) < (3 : Int32)) (in77_44 : ¬ (1 : Int32) < 0 ∧ (1 : Int32) < (3 : Int32)) (in88_51 : ¬ (2 : Int32) < 0 ∧ (2 : Int32) < (3 : Int32)) (hBp127 : ∀ i, (Bp i).toInt ≤ 127) (hBp0 : ∀ i, 0 ≤ (Bp i).toInt) (nz96_58 : (4 : Int32) ≠ (0 : Int32)) (nz110_60 : ((4 : Int32) - v59) ≠ (0 : Int32)) (HW : own_win v27 v29 (4 : Int32)) (HV : own_win v59 v61 (3 : Int32)) : own_nn Bp v59 v61 := by
  exact fun i _ _ => hBp0 i
set_option maxRecDepth 65536 in
theorem own_pl0_5 {xw : Int32} {xr : Int32} {Bb : Nat → Int32} {Bp : Nat → Int32} {v27 : Int32} {v29 : Int32} {v59 : Int32} {v61 : Int32} {v65 : Int32} {v170_67 : Int32} (hv27 : v27 = ((xw &&& (2147483647 : Int32)) % (5 : Int32))) (hv29 : v29 = ((((xw.toUInt32 >>> ((8 : Int32) &&& 31).toUInt32).toInt32) &&& (2147483647 : Int32)) % ((5 : Int32) - v27))) (hv59 : v59 = ((xr &&& (2147483647 : Int32)) % (4 : Int32))) (hv61 : v61 = ((((xr.toUInt32 >>> ((8 : Int32) &&& 31).toUInt32).toInt32) &&& (2147483647 : Int32)) % ((4 : Int32) - v59))) (hv65 : v65 = (own_ng Bb v27 v29 (0 : Int32))) (hv170_67 : v170_67 = (if v65 = (0 : Int32) then (if (own_ng Bb v27 v29 (1 : Int32)) = (0 : Int32) then (if (own_ng Bb v27 v29 (2 : Int32)) = (0 : Int32) then (if (own_ng Bb v27 v29 (3 : Int32)) = (0 : Int32) then (1 : Int32) else (0 : Int32)) else (0 : Int32)) else (0 : Int32)) else (0 : Int32))) (hk194_108 : own_nn Bb v27 v29) (in7_6 : ¬ (0 : Int32) < 0 ∧ (0 : Int32) < (4 : Int32)) (in15_11 : ¬ (1 : Int32) < 0 ∧ (1 : Int32) < (4 : Int32)) (in23_16 : ¬ (2 : Int32) < 0 ∧ (2 : Int32) < (4 : Int32)) (in31_21 : ¬ (3 : Int32) < 0 ∧ (3 : Int32) < (4 : Int32)) (hBb127 : ∀ i, (Bb i).toInt ≤ 127) (nz39_26 : (5 : Int32) ≠ (0 : Int32)) (nz53_28 : ((5 : Int32) - v27) ≠ (0 : Int32)) (in66_37 : ¬ (0 : Int32) < 0 ∧ (0 : Int32) < (3 : Int32)) (in77_44 : ¬ (1 : Int32) < 0 ∧ (1 : Int32) < (3 : Int32)) (in88_51 : ¬ (2 : Int32) < 0 ∧ (2 : Int32) < (3 : Int32)) (hBp127 : ∀ i, (Bp i).toInt ≤ 127) (hBp0 : ∀ i, 0 ≤ (Bp i).toInt) (nz96_58 : (4 : Int32) ≠ (0 : Int32)) (nz110_60 : ((4 : Int32) - v59) ≠ (0 : Int32)) (HW : own_win v27 v29 (4 : Int32)) (HV : own_win v59 v61 (3 : Int32)) (HP : own_nn Bp v59 v61) (cd120_63 : own_win v27 v29 (4 : Int32)) (cd120_64 : 0 ≤ (0 : Int32).toInt) (cd189_100 : own_win v59 v61 (3 : Int32)) (cd189_101 : own_nn Bp v59 v61) (cd202_110 : own_win v27 v29 (4 : Int32)) (cd202_111 : own_nn Bb v27 v29) : ¬ (v170_67 = (0 : Int32)) := by
  have e' := hv170_67
  rw [hv65] at e'
  have q := own_asc1 HW hk194_108 e'
  rw [q]; decide
set_option maxRecDepth 65536 in
theorem own_pl0_6 {xw : Int32} {xr : Int32} {Bb : Nat → Int32} {Bp : Nat → Int32} {v27 : Int32} {v29 : Int32} {v59 : Int32} {v61 : Int32} {v65 : Int32} {v170_67 : Int32} (hv27 : v27 = ((xw &&& (2147483647 : Int32)) % (5 : Int32))) (hv29 : v29 = ((((xw.toUInt32 >>> ((8 : Int32) &&& 31).toUInt32).toInt32) &&& (2147483647 : Int32)) % ((5 : Int32) - v27))) (hv59 : v59 = ((xr &&& (2147483647 : Int32)) % (4 : Int32))) (hv61 : v61 = ((((xr.toUInt32 >>> ((8 : Int32) &&& 31).toUInt32).toInt32) &&& (2147483647 : Int32)) % ((4 : Int32) - v59))) (hv65 : v65 = (own_ng Bb v27 v29 (0 : Int32))) (hv170_67 : v170_67 = (if v65 = (0 : Int32) then (if (own_ng Bb v27 v29 (1 : Int32)) = (0 : Int32) then (if (own_ng Bb v27 v29 (2 : Int32)) = (0 : Int32) then (if (own_ng Bb v27 v29 (3 : Int32)) = (0 : Int32) then (1 : Int32) else (0 : Int32)) else (0 : Int32)) else (0 : Int32)) else (0 : Int32))) (hk194_108 : own_nn Bb v27 v29) (in7_6 : ¬ (0 : Int32) < 0 ∧ (0 : Int32) < (4 : Int32)) (in15_11 : ¬ (1 : Int32) < 0 ∧ (1 : Int32) < (4 : Int32)) (in23_16 : ¬ (2 : Int32) < 0 ∧ (2 : Int32) < (4 : Int32)) (in31_21 : ¬ (3 : Int32) < 0 ∧ (3 : Int32) < (4 : Int32)) (hBb127 : ∀ i, (Bb i).toInt ≤ 127) (nz39_26 : (5 : Int32) ≠ (0 : Int32)) (nz53_28 : ((5 : Int32) - v27) ≠ (0 : Int32)) (in66_37 : ¬ (0 : Int32) < 0 ∧ (0 : Int32) < (3 : Int32)) (in77_44 : ¬ (1 : Int32) < 0 ∧ (1 : Int32) < (3 : Int32)) (in88_51 : ¬ (2 : Int32) < 0 ∧ (2 : Int32) < (3 : Int32)) (hBp127 : ∀ i, (Bp i).toInt ≤ 127) (hBp0 : ∀ i, 0 ≤ (Bp i).toInt) (nz96_58 : (4 : Int32) ≠ (0 : Int32)) (nz110_60 : ((4 : Int32) - v59) ≠ (0 : Int32)) (HW : own_win v27 v29 (4 : Int32)) (HV : own_win v59 v61 (3 : Int32)) (HP : own_nn Bp v59 v61) (cd120_63 : own_win v27 v29 (4 : Int32)) (cd120_64 : 0 ≤ (0 : Int32).toInt) (cd189_100 : own_win v59 v61 (3 : Int32)) (cd189_101 : own_nn Bp v59 v61) (cd202_110 : own_win v27 v29 (4 : Int32)) (cd202_111 : own_nn Bb v27 v29) : (1 : Int32) = v170_67 := by
  have e' := hv170_67
  rw [hv65] at e'
  have q := own_asc1 HW hk194_108 e'
  exact q.symm
set_option maxRecDepth 65536 in
theorem own_pl0_7 {xw : Int32} {xr : Int32} {Bb : Nat → Int32} {Bp : Nat → Int32} {v27 : Int32} {v29 : Int32} {v59 : Int32} {v61 : Int32} {v65 : Int32} {v170_67 : Int32} (hv27 : v27 = ((xw &&& (2147483647 : Int32)) % (5 : Int32))) (hv29 : v29 = ((((xw.toUInt32 >>> ((8 : Int32) &&& 31).toUInt32).toInt32) &&& (2147483647 : Int32)) % ((5 : Int32) - v27))) (hv59 : v59 = ((xr &&& (2147483647 : Int32)) % (4 : Int32))) (hv61 : v61 = ((((xr.toUInt32 >>> ((8 : Int32) &&& 31).toUInt32).toInt32) &&& (2147483647 : Int32)) % ((4 : Int32) - v59))) (hv65 : v65 = (own_ng Bb v27 v29 (0 : Int32))) (hv170_67 : v170_67 = (if v65 = (0 : Int32) then (if (own_ng Bb v27 v29 (1 : Int32)) = (0 : Int32) then (if (own_ng Bb v27 v29 (2 : Int32)) = (0 : Int32) then (if (own_ng Bb v27 v29 (3 : Int32)) = (0 : Int32) then (1 : Int32) else (0 : Int32)) else (0 : Int32)) else (0 : Int32)) else (0 : Int32))) (hk194_108 : own_nn Bb v27 v29) (hc360_155 : (0 : Int32) < v29) (in7_6 : ¬ (0 : Int32) < 0 ∧ (0 : Int32) < (4 : Int32)) (in15_11 : ¬ (1 : Int32) < 0 ∧ (1 : Int32) < (4 : Int32)) (in23_16 : ¬ (2 : Int32) < 0 ∧ (2 : Int32) < (4 : Int32)) (in31_21 : ¬ (3 : Int32) < 0 ∧ (3 : Int32) < (4 : Int32)) (hBb127 : ∀ i, (Bb i).toInt ≤ 127) (nz39_26 : (5 : Int32) ≠ (0 : Int32)) (nz53_28 : ((5 : Int32) - v27) ≠ (0 : Int32)) (in66_37 : ¬ (0 : Int32) < 0 ∧ (0 : Int32) < (3 : Int32)) (in77_44 : ¬ (1 : Int32) < 0 ∧ (1 : Int32) < (3 : Int32)) (in88_51 : ¬ (2 : Int32) < 0 ∧ (2 : Int32) < (3 : Int32)) (hBp127 : ∀ i, (Bp i).toInt ≤ 127) (hBp0 : ∀ i, 0 ≤ (Bp i).toInt) (nz96_58 : (4 : Int32) ≠ (0 : Int32)) (nz110_60 : ((4 : Int32) - v59) ≠ (0 : Int32)) (HW : own_win v27 v29 (4 : Int32)) (HV : own_win v59 v61 (3 : Int32)) (HP : own_nn Bp v59 v61) (cd120_63 : own_win v27 v29 (4 : Int32)) (cd120_64 : 0 ≤ (0 : Int32).toInt) (cd189_100 : own_win v59 v61 (3 : Int32)) (cd189_101 : own_nn Bp v59 v61) (cd202_110 : own_win v27 v29 (4 : Int32)) (cd202_111 : own_nn Bb v27 v29) (cd279_123 : own_win v27 v29 (4 : Int32)) (cd279_124 : own_nn Bb v27 v29) (cd305_136 : own_win v27 v29 (4 : Int32)) (cd305_137 : own_nn Bb v27 v29) (cd305_138 : 0 ≤ (0 : Int32).toInt) (cd305_139 : ∀ i, (Bb i).toInt ≤ 127) (cd320_141 : own_win v27 v29 (4 : Int32)) (cd320_142 : own_nn Bb v27 v29) (cd320_143 : 0 ≤ (1 : Int32).toInt) (cd320_144 : ∀ i, (Bb i).toInt ≤ 127) (cd335_146 : own_win v27 v29 (4 : Int32)) (cd335_147 : own_nn Bb v27 v29) (cd335_148 : 0 ≤ (2 : Int32).toInt) (cd335_149 : ∀ i, (Bb i).toInt ≤ 127) (cd350_151 : own_win v27 v29 (4 : Int32)) (cd350_152 : own_nn Bb v27 v29) (cd350_153 : 0 ≤ (3 : Int32).toInt) (cd350_154 : ∀ i, (Bb i).toInt ≤ 127) (cd366_157 : own_win v27 v29 (4 : Int32)) : ¬ (0 : Int32) < 0 ∧ (0 : Int32) < v29 := by
  exact ⟨by decide, hc360_155⟩
set_option maxRecDepth 65536 in
theorem own_pl0_8 {xw : Int32} {xr : Int32} {Bb : Nat → Int32} {Bp : Nat → Int32} {v27 : Int32} {v29 : Int32} {v59 : Int32} {v61 : Int32} {v65 : Int32} {v170_67 : Int32} {v159 : Int32} (hv27 : v27 = ((xw &&& (2147483647 : Int32)) % (5 : Int32))) (hv29 : v29 = ((((xw.toUInt32 >>> ((8 : Int32) &&& 31).toUInt32).toInt32) &&& (2147483647 : Int32)) % ((5 : Int32) - v27))) (hv59 : v59 = ((xr &&& (2147483647 : Int32)) % (4 : Int32))) (hv61 : v61 = ((((xr.toUInt32 >>> ((8 : Int32) &&& 31).toUInt32).toInt32) &&& (2147483647 : Int32)) % ((4 : Int32) - v59))) (hv65 : v65 = (own_ng Bb v27 v29 (0 : Int32))) (hv170_67 : v170_67 = (if v65 = (0 : Int32) then (if (own_ng Bb v27 v29 (1 : Int32)) = (0 : Int32) then (if (own_ng Bb v27 v29 (2 : Int32)) = (0 : Int32) then (if (own_ng Bb v27 v29 (3 : Int32)) = (0 : Int32) then (1 : Int32) else (0 : Int32)) else (0 : Int32)) else (0 : Int32)) else (0 : Int32))) (hv159 : v159 = (own_c (Bb (v27 + (0 : Int32)).toNatClampNeg))) (hk194_108 : own_nn Bb v27 v29) (hc360_155 : (0 : Int32) < v29) (in7_6 : ¬ (0 : Int32) < 0 ∧ (0 : Int32) < (4 : Int32)) (in15_11 : ¬ (1 : Int32) < 0 ∧ (1 : Int32) < (4 : Int32)) (in23_16 : ¬ (2 : Int32) < 0 ∧ (2 : Int32) < (4 : Int32)) (in31_21 : ¬ (3 : Int32) < 0 ∧ (3 : Int32) < (4 : Int32)) (hBb127 : ∀ i, (Bb i).toInt ≤ 127) (nz39_26 : (5 : Int32) ≠ (0 : Int32)) (nz53_28 : ((5 : Int32) - v27) ≠ (0 : Int32)) (in66_37 : ¬ (0 : Int32) < 0 ∧ (0 : Int32) < (3 : Int32)) (in77_44 : ¬ (1 : Int32) < 0 ∧ (1 : Int32) < (3 : Int32)) (in88_51 : ¬ (2 : Int32) < 0 ∧ (2 : Int32) < (3 : Int32)) (hBp127 : ∀ i, (Bp i).toInt ≤ 127) (hBp0 : ∀ i, 0 ≤ (Bp i).toInt) (nz96_58 : (4 : Int32) ≠ (0 : Int32)) (nz110_60 : ((4 : Int32) - v59) ≠ (0 : Int32)) (HW : own_win v27 v29 (4 : Int32)) (HV : own_win v59 v61 (3 : Int32)) (HP : own_nn Bp v59 v61) (cd120_63 : own_win v27 v29 (4 : Int32)) (cd120_64 : 0 ≤ (0 : Int32).toInt) (cd189_100 : own_win v59 v61 (3 : Int32)) (cd189_101 : own_nn Bp v59 v61) (cd202_110 : own_win v27 v29 (4 : Int32)) (cd202_111 : own_nn Bb v27 v29) (cd279_123 : own_win v27 v29 (4 : Int32)) (cd279_124 : own_nn Bb v27 v29) (cd305_136 : own_win v27 v29 (4 : Int32)) (cd305_137 : own_nn Bb v27 v29) (cd305_138 : 0 ≤ (0 : Int32).toInt) (cd305_139 : ∀ i, (Bb i).toInt ≤ 127) (cd320_141 : own_win v27 v29 (4 : Int32)) (cd320_142 : own_nn Bb v27 v29) (cd320_143 : 0 ≤ (1 : Int32).toInt) (cd320_144 : ∀ i, (Bb i).toInt ≤ 127) (cd335_146 : own_win v27 v29 (4 : Int32)) (cd335_147 : own_nn Bb v27 v29) (cd335_148 : 0 ≤ (2 : Int32).toInt) (cd335_149 : ∀ i, (Bb i).toInt ≤ 127) (cd350_151 : own_win v27 v29 (4 : Int32)) (cd350_152 : own_nn Bb v27 v29) (cd350_153 : 0 ≤ (3 : Int32).toInt) (cd350_154 : ∀ i, (Bb i).toInt ≤ 127) (cd366_157 : own_win v27 v29 (4 : Int32)) (cd366_158 : ¬ (0 : Int32) < 0 ∧ (0 : Int32) < v29) : ¬ v27 < 0 ∧ v27 < (4 : Int32) := by
  have hp := own_lt.mp hc360_155
  rw [own_z] at hp
  obtain ⟨wa, wb, wc, wd⟩ := id HW
  exact own_in (by omega) (by omega)
set_option maxRecDepth 65536 in
theorem own_pl0_9 {xw : Int32} {xr : Int32} {Bb : Nat → Int32} {Bp : Nat → Int32} {v27 : Int32} {v29 : Int32} {v59 : Int32} {v61 : Int32} {v65 : Int32} {v170_67 : Int32} {v159 : Int32} (hv27 : v27 = ((xw &&& (2147483647 : Int32)) % (5 : Int32))) (hv29 : v29 = ((((xw.toUInt32 >>> ((8 : Int32) &&& 31).toUInt32).toInt32) &&& (2147483647 : Int32)) % ((5 : Int32) - v27))) (hv59 : v59 = ((xr &&& (2147483647 : Int32)) % (4 : Int32))) (hv61 : v61 = ((((xr.toUInt32 >>> ((8 : Int32) &&& 31).toUInt32).toInt32) &&& (2147483647 : Int32)) % ((4 : Int32) - v59))) (hv65 : v65 = (own_ng Bb v27 v29 (0 : Int32))) (hv170_67 : v170_67 = (if v65 = (0 : Int32) then (if (own_ng Bb v27 v29 (1 : Int32)) = (0 : Int32) then (if (own_ng Bb v27 v29 (2 : Int32)) = (0 : Int32) then (if (own_ng Bb v27 v29 (3 : Int32)) = (0 : Int32) then (1 : Int32) else (0 : Int32)) else (0 : Int32)) else (0 : Int32)) else (0 : Int32))) (hv159 : v159 = (own_c (Bb (v27 + (0 : Int32)).toNatClampNeg))) (hk194_108 : own_nn Bb v27 v29) (hc360_155 : (0 : Int32) < v29) (in7_6 : ¬ (0 : Int32) < 0 ∧ (0 : Int32) < (4 : Int32)) (in15_11 : ¬ (1 : Int32) < 0 ∧ (1 : Int32) < (4 : Int32)) (in23_16 : ¬ (2 : Int32) < 0 ∧ (2 : Int32) < (4 : Int32)) (in31_21 : ¬ (3 : Int32) < 0 ∧ (3 : Int32) < (4 : Int32)) (hBb127 : ∀ i, (Bb i).toInt ≤ 127) (nz39_26 : (5 : Int32) ≠ (0 : Int32)) (nz53_28 : ((5 : Int32) - v27) ≠ (0 : Int32)) (in66_37 : ¬ (0 : Int32) < 0 ∧ (0 : Int32) < (3 : Int32)) (in77_44 : ¬ (1 : Int32) < 0 ∧ (1 : Int32) < (3 : Int32)) (in88_51 : ¬ (2 : Int32) < 0 ∧ (2 : Int32) < (3 : Int32)) (hBp127 : ∀ i, (Bp i).toInt ≤ 127) (hBp0 : ∀ i, 0 ≤ (Bp i).toInt) (nz96_58 : (4 : Int32) ≠ (0 : Int32)) (nz110_60 : ((4 : Int32) - v59) ≠ (0 : Int32)) (HW : own_win v27 v29 (4 : Int32)) (HV : own_win v59 v61 (3 : Int32)) (HP : own_nn Bp v59 v61) (cd120_63 : own_win v27 v29 (4 : Int32)) (cd120_64 : 0 ≤ (0 : Int32).toInt) (cd189_100 : own_win v59 v61 (3 : Int32)) (cd189_101 : own_nn Bp v59 v61) (cd202_110 : own_win v27 v29 (4 : Int32)) (cd202_111 : own_nn Bb v27 v29) (cd279_123 : own_win v27 v29 (4 : Int32)) (cd279_124 : own_nn Bb v27 v29) (cd305_136 : own_win v27 v29 (4 : Int32)) (cd305_137 : own_nn Bb v27 v29) (cd305_138 : 0 ≤ (0 : Int32).toInt) (cd305_139 : ∀ i, (Bb i).toInt ≤ 127) (cd320_141 : own_win v27 v29 (4 : Int32)) (cd320_142 : own_nn Bb v27 v29) (cd320_143 : 0 ≤ (1 : Int32).toInt) (cd320_144 : ∀ i, (Bb i).toInt ≤ 127) (cd335_146 : own_win v27 v29 (4 : Int32)) (cd335_147 : own_nn Bb v27 v29) (cd335_148 : 0 ≤ (2 : Int32).toInt) (cd335_149 : ∀ i, (Bb i).toInt ≤ 127) (cd350_151 : own_win v27 v29 (4 : Int32)) (cd350_152 : own_nn Bb v27 v29) (cd350_153 : 0 ≤ (3 : Int32).toInt) (cd350_154 : ∀ i, (Bb i).toInt ≤ 127) (cd366_157 : own_win v27 v29 (4 : Int32)) (cd366_158 : ¬ (0 : Int32) < 0 ∧ (0 : Int32) < v29) (in373_161 : ¬ v27 < 0 ∧ v27 < (4 : Int32)) : v159 = ((Bb v27.toNatClampNeg).toUInt32.toUInt16.toUInt32.toInt32) := by
  rw [hv159, Int32.add_zero]
  rfl
set_option maxRecDepth 65536 in
theorem own_pl0_10 {xw : Int32} {xr : Int32} {Bb : Nat → Int32} {Bp : Nat → Int32} {v27 : Int32} {v29 : Int32} {v59 : Int32} {v61 : Int32} {v65 : Int32} {v170_67 : Int32} {v159 : Int32} (hv27 : v27 = ((xw &&& (2147483647 : Int32)) % (5 : Int32))) (hv29 : v29 = ((((xw.toUInt32 >>> ((8 : Int32) &&& 31).toUInt32).toInt32) &&& (2147483647 : Int32)) % ((5 : Int32) - v27))) (hv59 : v59 = ((xr &&& (2147483647 : Int32)) % (4 : Int32))) (hv61 : v61 = ((((xr.toUInt32 >>> ((8 : Int32) &&& 31).toUInt32).toInt32) &&& (2147483647 : Int32)) % ((4 : Int32) - v59))) (hv65 : v65 = (own_ng Bb v27 v29 (0 : Int32))) (hv170_67 : v170_67 = (if v65 = (0 : Int32) then (if (own_ng Bb v27 v29 (1 : Int32)) = (0 : Int32) then (if (own_ng Bb v27 v29 (2 : Int32)) = (0 : Int32) then (if (own_ng Bb v27 v29 (3 : Int32)) = (0 : Int32) then (1 : Int32) else (0 : Int32)) else (0 : Int32)) else (0 : Int32)) else (0 : Int32))) (hv159 : v159 = (own_c (Bb (v27 + (0 : Int32)).toNatClampNeg))) (hk194_108 : own_nn Bb v27 v29) (hc360_155 : (0 : Int32) < v29) (in7_6 : ¬ (0 : Int32) < 0 ∧ (0 : Int32) < (4 : Int32)) (in15_11 : ¬ (1 : Int32) < 0 ∧ (1 : Int32) < (4 : Int32)) (in23_16 : ¬ (2 : Int32) < 0 ∧ (2 : Int32) < (4 : Int32)) (in31_21 : ¬ (3 : Int32) < 0 ∧ (3 : Int32) < (4 : Int32)) (hBb127 : ∀ i, (Bb i).toInt ≤ 127) (nz39_26 : (5 : Int32) ≠ (0 : Int32)) (nz53_28 : ((5 : Int32) - v27) ≠ (0 : Int32)) (in66_37 : ¬ (0 : Int32) < 0 ∧ (0 : Int32) < (3 : Int32)) (in77_44 : ¬ (1 : Int32) < 0 ∧ (1 : Int32) < (3 : Int32)) (in88_51 : ¬ (2 : Int32) < 0 ∧ (2 : Int32) < (3 : Int32)) (hBp127 : ∀ i, (Bp i).toInt ≤ 127) (hBp0 : ∀ i, 0 ≤ (Bp i).toInt) (nz96_58 : (4 : Int32) ≠ (0 : Int32)) (nz110_60 : ((4 : Int32) - v59) ≠ (0 : Int32)) (HW : own_win v27 v29 (4 : Int32)) (HV : own_win v59 v61 (3 : Int32)) (HP : own_nn Bp v59 v61) (cd120_63 : own_win v27 v29 (4 : Int32)) (cd120_64 : 0 ≤ (0 : Int32).toInt) (cd189_100 : own_win v59 v61 (3 : Int32)) (cd189_101 : own_nn Bp v59 v61) (cd202_110 : own_win v27 v29 (4 : Int32)) (cd202_111 : own_nn Bb v27 v29) (cd279_123 : own_win v27 v29 (4 : Int32)) (cd279_124 : own_nn Bb v27 v29) (cd305_136 : own_win v27 v29 (4 : Int32)) (cd305_137 : own_nn Bb v27 v29) (cd305_138 : 0 ≤ (0 : Int32).toInt) (cd305_139 : ∀ i, (Bb i).toInt ≤ 127) (cd320_141 : own_win v27 v29 (4 : Int32)) (cd320_142 : own_nn Bb v27 v29) (cd320_143 : 0 ≤ (1 : Int32).toInt) (cd320_144 : ∀ i, (Bb i).toInt ≤ 127) (cd335_146 : own_win v27 v29 (4 : Int32)) (cd335_147 : own_nn Bb v27 v29) (cd335_148 : 0 ≤ (2 : Int32).toInt) (cd335_149 : ∀ i, (Bb i).toInt ≤ 127) (cd350_151 : own_win v27 v29 (4 : Int32)) (cd350_152 : own_nn Bb v27 v29) (cd350_153 : 0 ≤ (3 : Int32).toInt) (cd350_154 : ∀ i, (Bb i).toInt ≤ 127) (cd366_157 : own_win v27 v29 (4 : Int32)) (cd366_158 : ¬ (0 : Int32) < 0 ∧ (0 : Int32) < v29) (in373_161 : ¬ v27 < 0 ∧ v27 < (4 : Int32)) (cd386_164 : own_win v27 v29 (4 : Int32)) : ¬ (v29 - (1 : Int32)) < 0 ∧ (v29 - (1 : Int32)) < v29 := by
  have hp := own_lt.mp hc360_155
  rw [own_z] at hp
  have e1 : (1 : Int32).toInt = 1 := rfl
  obtain ⟨wa, wb, wc, wd⟩ := id HW
  have q : (v29 - (1 : Int32)).toInt = v29.toInt - 1 := by rw [Jvm.Kit.i32_sub (by omega) (by omega), e1]
  exact own_in (by omega) (by omega)
set_option maxRecDepth 65536 in
theorem own_pl0_11 {xw : Int32} {xr : Int32} {Bb : Nat → Int32} {Bp : Nat → Int32} {v27 : Int32} {v29 : Int32} {v59 : Int32} {v61 : Int32} {v65 : Int32} {v170_67 : Int32} {v159 : Int32} {v166 : Int32} (hv27 : v27 = ((xw &&& (2147483647 : Int32)) % (5 : Int32))) (hv29 : v29 = ((((xw.toUInt32 >>> ((8 : Int32) &&& 31).toUInt32).toInt32) &&& (2147483647 : Int32)) % ((5 : Int32) - v27))) (hv59 : v59 = ((xr &&& (2147483647 : Int32)) % (4 : Int32))) (hv61 : v61 = ((((xr.toUInt32 >>> ((8 : Int32) &&& 31).toUInt32).toInt32) &&& (2147483647 : Int32)) % ((4 : Int32) - v59))) (hv65 : v65 = (own_ng Bb v27 v29 (0 : Int32))) (hv170_67 : v170_67 = (if v65 = (0 : Int32) then (if (own_ng Bb v27 v29 (1 : Int32)) = (0 : Int32) then (if (own_ng Bb v27 v29 (2 : Int32)) = (0 : Int32) then (if (own_ng Bb v27 v29 (3 : Int32)) = (0 : Int32) then (1 : Int32) else (0 : Int32)) else (0 : Int32)) else (0 : Int32)) else (0 : Int32))) (hv159 : v159 = (own_c (Bb (v27 + (0 : Int32)).toNatClampNeg))) (hv166 : v166 = (own_c (Bb (v27 + (v29 - (1 : Int32))).toNatClampNeg))) (hk194_108 : own_nn Bb v27 v29) (hc360_155 : (0 : Int32) < v29) (in7_6 : ¬ (0 : Int32) < 0 ∧ (0 : Int32) < (4 : Int32)) (in15_11 : ¬ (1 : Int32) < 0 ∧ (1 : Int32) < (4 : Int32)) (in23_16 : ¬ (2 : Int32) < 0 ∧ (2 : Int32) < (4 : Int32)) (in31_21 : ¬ (3 : Int32) < 0 ∧ (3 : Int32) < (4 : Int32)) (hBb127 : ∀ i, (Bb i).toInt ≤ 127) (nz39_26 : (5 : Int32) ≠ (0 : Int32)) (nz53_28 : ((5 : Int32) - v27) ≠ (0 : Int32)) (in66_37 : ¬ (0 : Int32) < 0 ∧ (0 : Int32) < (3 : Int32)) (in77_44 : ¬ (1 : Int32) < 0 ∧ (1 : Int32) < (3 : Int32)) (in88_51 : ¬ (2 : Int32) < 0 ∧ (2 : Int32) < (3 : Int32)) (hBp127 : ∀ i, (Bp i).toInt ≤ 127) (hBp0 : ∀ i, 0 ≤ (Bp i).toInt) (nz96_58 : (4 : Int32) ≠ (0 : Int32)) (nz110_60 : ((4 : Int32) - v59) ≠ (0 : Int32)) (HW : own_win v27 v29 (4 : Int32)) (HV : own_win v59 v61 (3 : Int32)) (HP : own_nn Bp v59 v61) (cd120_63 : own_win v27 v29 (4 : Int32)) (cd120_64 : 0 ≤ (0 : Int32).toInt) (cd189_100 : own_win v59 v61 (3 : Int32)) (cd189_101 : own_nn Bp v59 v61) (cd202_110 : own_win v27 v29 (4 : Int32)) (cd202_111 : own_nn Bb v27 v29) (cd279_123 : own_win v27 v29 (4 : Int32)) (cd279_124 : own_nn Bb v27 v29) (cd305_136 : own_win v27 v29 (4 : Int32)) (cd305_137 : own_nn Bb v27 v29) (cd305_138 : 0 ≤ (0 : Int32).toInt) (cd305_139 : ∀ i, (Bb i).toInt ≤ 127) (cd320_141 : own_win v27 v29 (4 : Int32)) (cd320_142 : own_nn Bb v27 v29) (cd320_143 : 0 ≤ (1 : Int32).toInt) (cd320_144 : ∀ i, (Bb i).toInt ≤ 127) (cd335_146 : own_win v27 v29 (4 : Int32)) (cd335_147 : own_nn Bb v27 v29) (cd335_148 : 0 ≤ (2 : Int32).toInt) (cd335_149 : ∀ i, (Bb i).toInt ≤ 127) (cd350_151 : own_win v27 v29 (4 : Int32)) (cd350_152 : own_nn Bb v27 v29) (cd350_153 : 0 ≤ (3 : Int32).toInt) (cd350_154 : ∀ i, (Bb i).toInt ≤ 127) (cd366_157 : own_win v27 v29 (4 : Int32)) (cd366_158 : ¬ (0 : Int32) < 0 ∧ (0 : Int32) < v29) (in373_161 : ¬ v27 < 0 ∧ v27 < (4 : Int32)) (cd386_164 : own_win v27 v29 (4 : Int32)) (cd386_165 : ¬ (v29 - (1 : Int32)) < 0 ∧ (v29 - (1 : Int32)) < v29) : ¬ ((v27 + v29) - (1 : Int32)) < 0 ∧ ((v27 + v29) - (1 : Int32)) < (4 : Int32) := by
  have hp := own_lt.mp hc360_155
  rw [own_z] at hp
  have e1 : (1 : Int32).toInt = 1 := rfl
  obtain ⟨wa, wb, wc, wd⟩ := id HW
  have s : (v27 + v29).toInt = v27.toInt + v29.toInt := HW.add
  have s1 : ((v27 + v29) - (1 : Int32)).toInt = v27.toInt + v29.toInt - 1 := by rw [Jvm.Kit.i32_sub (by omega) (by omega), s, e1]
  exact own_in (by omega) (by omega)
set_option maxRecDepth 65536 in
theorem own_pl0_12 {xw : Int32} {xr : Int32} {Bb : Nat → Int32} {Bp : Nat → Int32} {v27 : Int32} {v29 : Int32} {v59 : Int32} {v61 : Int32} {v65 : Int32} {v170_67 : Int32} {v159 : Int32} {v166 : Int32} (hv27 : v27 = ((xw &&& (2147483647 : Int32)) % (5 : Int32))) (hv29 : v29 = ((((xw.toUInt32 >>> ((8 : Int32) &&& 31).toUInt32).toInt32) &&& (2147483647 : Int32)) % ((5 : Int32) - v27))) (hv59 : v59 = ((xr &&& (2147483647 : Int32)) % (4 : Int32))) (hv61 : v61 = ((((xr.toUInt32 >>> ((8 : Int32) &&& 31).toUInt32).toInt32) &&& (2147483647 : Int32)) % ((4 : Int32) - v59))) (hv65 : v65 = (own_ng Bb v27 v29 (0 : Int32))) (hv170_67 : v170_67 = (if v65 = (0 : Int32) then (if (own_ng Bb v27 v29 (1 : Int32)) = (0 : Int32) then (if (own_ng Bb v27 v29 (2 : Int32)) = (0 : Int32) then (if (own_ng Bb v27 v29 (3 : Int32)) = (0 : Int32) then (1 : Int32) else (0 : Int32)) else (0 : Int32)) else (0 : Int32)) else (0 : Int32))) (hv159 : v159 = (own_c (Bb (v27 + (0 : Int32)).toNatClampNeg))) (hv166 : v166 = (own_c (Bb (v27 + (v29 - (1 : Int32))).toNatClampNeg))) (hk194_108 : own_nn Bb v27 v29) (hc360_155 : (0 : Int32) < v29) (in7_6 : ¬ (0 : Int32) < 0 ∧ (0 : Int32) < (4 : Int32)) (in15_11 : ¬ (1 : Int32) < 0 ∧ (1 : Int32) < (4 : Int32)) (in23_16 : ¬ (2 : Int32) < 0 ∧ (2 : Int32) < (4 : Int32)) (in31_21 : ¬ (3 : Int32) < 0 ∧ (3 : Int32) < (4 : Int32)) (hBb127 : ∀ i, (Bb i).toInt ≤ 127) (nz39_26 : (5 : Int32) ≠ (0 : Int32)) (nz53_28 : ((5 : Int32) - v27) ≠ (0 : Int32)) (in66_37 : ¬ (0 : Int32) < 0 ∧ (0 : Int32) < (3 : Int32)) (in77_44 : ¬ (1 : Int32) < 0 ∧ (1 : Int32) < (3 : Int32)) (in88_51 : ¬ (2 : Int32) < 0 ∧ (2 : Int32) < (3 : Int32)) (hBp127 : ∀ i, (Bp i).toInt ≤ 127) (hBp0 : ∀ i, 0 ≤ (Bp i).toInt) (nz96_58 : (4 : Int32) ≠ (0 : Int32)) (nz110_60 : ((4 : Int32) - v59) ≠ (0 : Int32)) (HW : own_win v27 v29 (4 : Int32)) (HV : own_win v59 v61 (3 : Int32)) (HP : own_nn Bp v59 v61) (cd120_63 : own_win v27 v29 (4 : Int32)) (cd120_64 : 0 ≤ (0 : Int32).toInt) (cd189_100 : own_win v59 v61 (3 : Int32)) (cd189_101 : own_nn Bp v59 v61) (cd202_110 : own_win v27 v29 (4 : Int32)) (cd202_111 : own_nn Bb v27 v29) (cd279_123 : own_win v27 v29 (4 : Int32)) (cd279_124 : own_nn Bb v27 v29) (cd305_136 : own_win v27 v29 (4 : Int32)) (cd305_137 : own_nn Bb v27 v29) (cd305_138 : 0 ≤ (0 : Int32).toInt) (cd305_139 : ∀ i, (Bb i).toInt ≤ 127) (cd320_141 : own_win v27 v29 (4 : Int32)) (cd320_142 : own_nn Bb v27 v29) (cd320_143 : 0 ≤ (1 : Int32).toInt) (cd320_144 : ∀ i, (Bb i).toInt ≤ 127) (cd335_146 : own_win v27 v29 (4 : Int32)) (cd335_147 : own_nn Bb v27 v29) (cd335_148 : 0 ≤ (2 : Int32).toInt) (cd335_149 : ∀ i, (Bb i).toInt ≤ 127) (cd350_151 : own_win v27 v29 (4 : Int32)) (cd350_152 : own_nn Bb v27 v29) (cd350_153 : 0 ≤ (3 : Int32).toInt) (cd350_154 : ∀ i, (Bb i).toInt ≤ 127) (cd366_157 : own_win v27 v29 (4 : Int32)) (cd366_158 : ¬ (0 : Int32) < 0 ∧ (0 : Int32) < v29) (in373_161 : ¬ v27 < 0 ∧ v27 < (4 : Int32)) (cd386_164 : own_win v27 v29 (4 : Int32)) (cd386_165 : ¬ (v29 - (1 : Int32)) < 0 ∧ (v29 - (1 : Int32)) < v29) (in398_168 : ¬ ((v27 + v29) - (1 : Int32)) < 0 ∧ ((v27 + v29) - (1 : Int32)) < (4 : Int32)) : v166 = ((Bb ((v27 + v29) - (1 : Int32)).toNatClampNeg).toUInt32.toUInt16.toUInt32.toInt32) := by
  have hp := own_lt.mp hc360_155
  rw [own_z] at hp
  have e1 : (1 : Int32).toInt = 1 := rfl
  obtain ⟨wa, wb, wc, wd⟩ := id HW
  have s : (v27 + v29).toInt = v27.toInt + v29.toInt := HW.add
  have s1 : ((v27 + v29) - (1 : Int32)).toInt = v27.toInt + v29.toInt - 1 := by rw [Jvm.Kit.i32_sub (by omega) (by omega), s, e1]
  have s2 : (v29 - (1 : Int32)).toInt = v29.toInt - 1 := by rw [Jvm.Kit.i32_sub (by omega) (by omega), e1]
  have s3 : (v27 + (v29 - (1 : Int32))) = ((v27 + v29) - (1 : Int32)) := by
    apply Int32.toInt_inj.mp
    rw [s1, Jvm.Kit.i32_add (by omega) (by omega), s2]; omega
  rw [hv166, s3]
  rfl
set_option maxRecDepth 65536 in
theorem own_pl0_13 {xw : Int32} {xr : Int32} {Bb : Nat → Int32} {Bp : Nat → Int32} {v27 : Int32} {v29 : Int32} {v59 : Int32} {v61 : Int32} {v65 : Int32} {v170_67 : Int32} (hv27 : v27 = ((xw &&& (2147483647 : Int32)) % (5 : Int32))) (hv29 : v29 = ((((xw.toUInt32 >>> ((8 : Int32) &&& 31).toUInt32).toInt32) &&& (2147483647 : Int32)) % ((5 : Int32) - v27))) (hv59 : v59 = ((xr &&& (2147483647 : Int32)) % (4 : Int32))) (hv61 : v61 = ((((xr.toUInt32 >>> ((8 : Int32) &&& 31).toUInt32).toInt32) &&& (2147483647 : Int32)) % ((4 : Int32) - v59))) (hv65 : v65 = (own_ng Bb v27 v29 (0 : Int32))) (hv170_67 : v170_67 = (if v65 = (0 : Int32) then (if (own_ng Bb v27 v29 (1 : Int32)) = (0 : Int32) then (if (own_ng Bb v27 v29 (2 : Int32)) = (0 : Int32) then (if (own_ng Bb v27 v29 (3 : Int32)) = (0 : Int32) then (1 : Int32) else (0 : Int32)) else (0 : Int32)) else (0 : Int32)) else (0 : Int32))) (hk194_108 : ¬ (own_nn Bb v27 v29)) (in7_6 : ¬ (0 : Int32) < 0 ∧ (0 : Int32) < (4 : Int32)) (in15_11 : ¬ (1 : Int32) < 0 ∧ (1 : Int32) < (4 : Int32)) (in23_16 : ¬ (2 : Int32) < 0 ∧ (2 : Int32) < (4 : Int32)) (in31_21 : ¬ (3 : Int32) < 0 ∧ (3 : Int32) < (4 : Int32)) (hBb127 : ∀ i, (Bb i).toInt ≤ 127) (nz39_26 : (5 : Int32) ≠ (0 : Int32)) (nz53_28 : ((5 : Int32) - v27) ≠ (0 : Int32)) (in66_37 : ¬ (0 : Int32) < 0 ∧ (0 : Int32) < (3 : Int32)) (in77_44 : ¬ (1 : Int32) < 0 ∧ (1 : Int32) < (3 : Int32)) (in88_51 : ¬ (2 : Int32) < 0 ∧ (2 : Int32) < (3 : Int32)) (hBp127 : ∀ i, (Bp i).toInt ≤ 127) (hBp0 : ∀ i, 0 ≤ (Bp i).toInt) (nz96_58 : (4 : Int32) ≠ (0 : Int32)) (nz110_60 : ((4 : Int32) - v59) ≠ (0 : Int32)) (HW : own_win v27 v29 (4 : Int32)) (HV : own_win v59 v61 (3 : Int32)) (HP : own_nn Bp v59 v61) (cd120_63 : own_win v27 v29 (4 : Int32)) (cd120_64 : 0 ≤ (0 : Int32).toInt) (cd189_100 : own_win v59 v61 (3 : Int32)) (cd189_101 : own_nn Bp v59 v61) (cd202_171 : own_win v27 v29 (4 : Int32)) (cd202_172 : ¬ own_nn Bb v27 v29) : v170_67 = (0 : Int32) := by
  have e' := hv170_67
  rw [hv65] at e'
  have q := own_asc0 HW hk194_108 e'
  exact q
set_option maxRecDepth 65536 in
theorem own_pl0_14 {xw : Int32} {xr : Int32} {Bb : Nat → Int32} {Bp : Nat → Int32} {v27 : Int32} {v29 : Int32} {v59 : Int32} {v61 : Int32} {v65 : Int32} {v170_67 : Int32} (hv27 : v27 = ((xw &&& (2147483647 : Int32)) % (5 : Int32))) (hv29 : v29 = ((((xw.toUInt32 >>> ((8 : Int32) &&& 31).toUInt32).toInt32) &&& (2147483647 : Int32)) % ((5 : Int32) - v27))) (hv59 : v59 = ((xr &&& (2147483647 : Int32)) % (4 : Int32))) (hv61 : v61 = ((((xr.toUInt32 >>> ((8 : Int32) &&& 31).toUInt32).toInt32) &&& (2147483647 : Int32)) % ((4 : Int32) - v59))) (hv65 : v65 = (own_ng Bb v27 v29 (0 : Int32))) (hv170_67 : v170_67 = (if v65 = (0 : Int32) then (if (own_ng Bb v27 v29 (1 : Int32)) = (0 : Int32) then (if (own_ng Bb v27 v29 (2 : Int32)) = (0 : Int32) then (if (own_ng Bb v27 v29 (3 : Int32)) = (0 : Int32) then (1 : Int32) else (0 : Int32)) else (0 : Int32)) else (0 : Int32)) else (0 : Int32))) (hk194_108 : ¬ (own_nn Bb v27 v29)) (in7_6 : ¬ (0 : Int32) < 0 ∧ (0 : Int32) < (4 : Int32)) (in15_11 : ¬ (1 : Int32) < 0 ∧ (1 : Int32) < (4 : Int32)) (in23_16 : ¬ (2 : Int32) < 0 ∧ (2 : Int32) < (4 : Int32)) (in31_21 : ¬ (3 : Int32) < 0 ∧ (3 : Int32) < (4 : Int32)) (hBb127 : ∀ i, (Bb i).toInt ≤ 127) (nz39_26 : (5 : Int32) ≠ (0 : Int32)) (nz53_28 : ((5 : Int32) - v27) ≠ (0 : Int32)) (in66_37 : ¬ (0 : Int32) < 0 ∧ (0 : Int32) < (3 : Int32)) (in77_44 : ¬ (1 : Int32) < 0 ∧ (1 : Int32) < (3 : Int32)) (in88_51 : ¬ (2 : Int32) < 0 ∧ (2 : Int32) < (3 : Int32)) (hBp127 : ∀ i, (Bp i).toInt ≤ 127) (hBp0 : ∀ i, 0 ≤ (Bp i).toInt) (nz96_58 : (4 : Int32) ≠ (0 : Int32)) (nz110_60 : ((4 : Int32) - v59) ≠ (0 : Int32)) (HW : own_win v27 v29 (4 : Int32)) (HV : own_win v59 v61 (3 : Int32)) (HP : own_nn Bp v59 v61) (cd120_63 : own_win v27 v29 (4 : Int32)) (cd120_64 : 0 ≤ (0 : Int32).toInt) (cd189_100 : own_win v59 v61 (3 : Int32)) (cd189_101 : own_nn Bp v59 v61) (cd202_171 : own_win v27 v29 (4 : Int32)) (cd202_172 : ¬ own_nn Bb v27 v29) : (0 : Int32) = v170_67 := by
  have e' := hv170_67
  rw [hv65] at e'
  have q := own_asc0 HW hk194_108 e'
  exact q.symm
set_option maxRecDepth 65536 in
theorem own_pl0_15 {xw : Int32} {xr : Int32} {Bb : Nat → Int32} {Bp : Nat → Int32} {v27 : Int32} {v29 : Int32} {v59 : Int32} {v61 : Int32} {v65 : Int32} {v170_67 : Int32} (hv27 : v27 = ((xw &&& (2147483647 : Int32)) % (5 : Int32))) (hv29 : v29 = ((((xw.toUInt32 >>> ((8 : Int32) &&& 31).toUInt32).toInt32) &&& (2147483647 : Int32)) % ((5 : Int32) - v27))) (hv59 : v59 = ((xr &&& (2147483647 : Int32)) % (4 : Int32))) (hv61 : v61 = ((((xr.toUInt32 >>> ((8 : Int32) &&& 31).toUInt32).toInt32) &&& (2147483647 : Int32)) % ((4 : Int32) - v59))) (hv65 : v65 = (own_ng Bb v27 v29 (0 : Int32))) (hv170_67 : v170_67 = (if v65 = (0 : Int32) then (if (own_ng Bb v27 v29 (1 : Int32)) = (0 : Int32) then (if (own_ng Bb v27 v29 (2 : Int32)) = (0 : Int32) then (if (own_ng Bb v27 v29 (3 : Int32)) = (0 : Int32) then (1 : Int32) else (0 : Int32)) else (0 : Int32)) else (0 : Int32)) else (0 : Int32))) (hk194_108 : ¬ (own_nn Bb v27 v29)) (hc360_210 : (0 : Int32) < v61) (in7_6 : ¬ (0 : Int32) < 0 ∧ (0 : Int32) < (4 : Int32)) (in15_11 : ¬ (1 : Int32) < 0 ∧ (1 : Int32) < (4 : Int32)) (in23_16 : ¬ (2 : Int32) < 0 ∧ (2 : Int32) < (4 : Int32)) (in31_21 : ¬ (3 : Int32) < 0 ∧ (3 : Int32) < (4 : Int32)) (hBb127 : ∀ i, (Bb i).toInt ≤ 127) (nz39_26 : (5 : Int32) ≠ (0 : Int32)) (nz53_28 : ((5 : Int32) - v27) ≠ (0 : Int32)) (in66_37 : ¬ (0 : Int32) < 0 ∧ (0 : Int32) < (3 : Int32)) (in77_44 : ¬ (1 : Int32) < 0 ∧ (1 : Int32) < (3 : Int32)) (in88_51 : ¬ (2 : Int32) < 0 ∧ (2 : Int32) < (3 : Int32)) (hBp127 : ∀ i, (Bp i).toInt ≤ 127) (hBp0 : ∀ i, 0 ≤ (Bp i).toInt) (nz96_58 : (4 : Int32) ≠ (0 : Int32)) (nz110_60 : ((4 : Int32) - v59) ≠ (0 : Int32)) (HW : own_win v27 v29 (4 : Int32)) (HV : own_win v59 v61 (3 : Int32)) (HP : own_nn Bp v59 v61) (cd120_63 : own_win v27 v29 (4 : Int32)) (cd120_64 : 0 ≤ (0 : Int32).toInt) (cd189_100 : own_win v59 v61 (3 : Int32)) (cd189_101 : own_nn Bp v59 v61) (cd202_171 : own_win v27 v29 (4 : Int32)) (cd202_172 : ¬ own_nn Bb v27 v29) (cd279_178 : own_win v59 v61 (3 : Int32)) (cd279_179 : own_nn Bp v59 v61) (cd305_191 : own_win v59 v61 (3 : Int32)) (cd305_192 : own_nn Bp v59 v61) (cd305_193 : 0 ≤ (0 : Int32).toInt) (cd305_194 : ∀ i, (Bp i).toInt ≤ 127) (cd320_196 : own_win v59 v61 (3 : Int32)) (cd320_197 : own_nn Bp v59 v61) (cd320_198 : 0 ≤ (1 : Int32).toInt) (cd320_199 : ∀ i, (Bp i).toInt ≤ 127) (cd335_201 : own_win v59 v61 (3 : Int32)) (cd335_202 : own_nn Bp v59 v61) (cd335_203 : 0 ≤ (2 : Int32).toInt) (cd335_204 : ∀ i, (Bp i).toInt ≤ 127) (cd350_206 : own_win v59 v61 (3 : Int32)) (cd350_207 : own_nn Bp v59 v61) (cd350_208 : 0 ≤ (3 : Int32).toInt) (cd350_209 : ∀ i, (Bp i).toInt ≤ 127) (cd366_212 : own_win v59 v61 (3 : Int32)) : ¬ (0 : Int32) < 0 ∧ (0 : Int32) < v61 := by
  exact ⟨by decide, hc360_210⟩
set_option maxRecDepth 65536 in
theorem own_pl0_16 {xw : Int32} {xr : Int32} {Bb : Nat → Int32} {Bp : Nat → Int32} {v27 : Int32} {v29 : Int32} {v59 : Int32} {v61 : Int32} {v65 : Int32} {v170_67 : Int32} {v214 : Int32} (hv27 : v27 = ((xw &&& (2147483647 : Int32)) % (5 : Int32))) (hv29 : v29 = ((((xw.toUInt32 >>> ((8 : Int32) &&& 31).toUInt32).toInt32) &&& (2147483647 : Int32)) % ((5 : Int32) - v27))) (hv59 : v59 = ((xr &&& (2147483647 : Int32)) % (4 : Int32))) (hv61 : v61 = ((((xr.toUInt32 >>> ((8 : Int32) &&& 31).toUInt32).toInt32) &&& (2147483647 : Int32)) % ((4 : Int32) - v59))) (hv65 : v65 = (own_ng Bb v27 v29 (0 : Int32))) (hv170_67 : v170_67 = (if v65 = (0 : Int32) then (if (own_ng Bb v27 v29 (1 : Int32)) = (0 : Int32) then (if (own_ng Bb v27 v29 (2 : Int32)) = (0 : Int32) then (if (own_ng Bb v27 v29 (3 : Int32)) = (0 : Int32) then (1 : Int32) else (0 : Int32)) else (0 : Int32)) else (0 : Int32)) else (0 : Int32))) (hv214 : v214 = (own_c (Bp (v59 + (0 : Int32)).toNatClampNeg))) (hk194_108 : ¬ (own_nn Bb v27 v29)) (hc360_210 : (0 : Int32) < v61) (in7_6 : ¬ (0 : Int32) < 0 ∧ (0 : Int32) < (4 : Int32)) (in15_11 : ¬ (1 : Int32) < 0 ∧ (1 : Int32) < (4 : Int32)) (in23_16 : ¬ (2 : Int32) < 0 ∧ (2 : Int32) < (4 : Int32)) (in31_21 : ¬ (3 : Int32) < 0 ∧ (3 : Int32) < (4 : Int32)) (hBb127 : ∀ i, (Bb i).toInt ≤ 127) (nz39_26 : (5 : Int32) ≠ (0 : Int32)) (nz53_28 : ((5 : Int32) - v27) ≠ (0 : Int32)) (in66_37 : ¬ (0 : Int32) < 0 ∧ (0 : Int32) < (3 : Int32)) (in77_44 : ¬ (1 : Int32) < 0 ∧ (1 : Int32) < (3 : Int32)) (in88_51 : ¬ (2 : Int32) < 0 ∧ (2 : Int32) < (3 : Int32)) (hBp127 : ∀ i, (Bp i).toInt ≤ 127) (hBp0 : ∀ i, 0 ≤ (Bp i).toInt) (nz96_58 : (4 : Int32) ≠ (0 : Int32)) (nz110_60 : ((4 : Int32) - v59) ≠ (0 : Int32)) (HW : own_win v27 v29 (4 : Int32)) (HV : own_win v59 v61 (3 : Int32)) (HP : own_nn Bp v59 v61) (cd120_63 : own_win v27 v29 (4 : Int32)) (cd120_64 : 0 ≤ (0 : Int32).toInt) (cd189_100 : own_win v59 v61 (3 : Int32)) (cd189_101 : own_nn Bp v59 v61) (cd202_171 : own_win v27 v29 (4 : Int32)) (cd202_172 : ¬ own_nn Bb v27 v29) (cd279_178 : own_win v59 v61 (3 : Int32)) (cd279_179 : own_nn Bp v59 v61) (cd305_191 : own_win v59 v61 (3 : Int32)) (cd305_192 : own_nn Bp v59 v61) (cd305_193 : 0 ≤ (0 : Int32).toInt) (cd305_194 : ∀ i, (Bp i).toInt ≤ 127) (cd320_196 : own_win v59 v61 (3 : Int32)) (cd320_197 : own_nn Bp v59 v61) (cd320_198 : 0 ≤ (1 : Int32).toInt) (cd320_199 : ∀ i, (Bp i).toInt ≤ 127) (cd335_201 : own_win v59 v61 (3 : Int32)) (cd335_202 : own_nn Bp v59 v61) (cd335_203 : 0 ≤ (2 : Int32).toInt) (cd335_204 : ∀ i, (Bp i).toInt ≤ 127) (cd350_206 : own_win v59 v61 (3 : Int32)) (cd350_207 : own_nn Bp v59 v61) (cd350_208 : 0 ≤ (3 : Int32).toInt) (cd350_209 : ∀ i, (Bp i).toInt ≤ 127) (cd366_212 : own_win v59 v61 (3 : Int32)) (cd366_213 : ¬ (0 : Int32) < 0 ∧ (0 : Int32) < v61) : ¬ v59 < 0 ∧ v59 < (3 : Int32) := by
  have hp := own_lt.mp hc360_210
  rw [own_z] at hp
  obtain ⟨wa, wb, wc, wd⟩ := id HV
  exact own_in (by omega) (by omega)
set_option maxRecDepth 65536 in
theorem own_pl0_17 {xw : Int32} {xr : Int32} {Bb : Nat → Int32} {Bp : Nat → Int32} {v27 : Int32} {v29 : Int32} {v59 : Int32} {v61 : Int32} {v65 : Int32} {v170_67 : Int32} {v214 : Int32} (hv27 : v27 = ((xw &&& (2147483647 : Int32)) % (5 : Int32))) (hv29 : v29 = ((((xw.toUInt32 >>> ((8 : Int32) &&& 31).toUInt32).toInt32) &&& (2147483647 : Int32)) % ((5 : Int32) - v27))) (hv59 : v59 = ((xr &&& (2147483647 : Int32)) % (4 : Int32))) (hv61 : v61 = ((((xr.toUInt32 >>> ((8 : Int32) &&& 31).toUInt32).toInt32) &&& (2147483647 : Int32)) % ((4 : Int32) - v59))) (hv65 : v65 = (own_ng Bb v27 v29 (0 : Int32))) (hv170_67 : v170_67 = (if v65 = (0 : Int32) then (if (own_ng Bb v27 v29 (1 : Int32)) = (0 : Int32) then (if (own_ng Bb v27 v29 (2 : Int32)) = (0 : Int32) then (if (own_ng Bb v27 v29 (3 : Int32)) = (0 : Int32) then (1 : Int32) else (0 : Int32)) else (0 : Int32)) else (0 : Int32)) else (0 : Int32))) (hv214 : v214 = (own_c (Bp (v59 + (0 : Int32)).toNatClampNeg))) (hk194_108 : ¬ (own_nn Bb v27 v29)) (hc360_210 : (0 : Int32) < v61) (in7_6 : ¬ (0 : Int32) < 0 ∧ (0 : Int32) < (4 : Int32)) (in15_11 : ¬ (1 : Int32) < 0 ∧ (1 : Int32) < (4 : Int32)) (in23_16 : ¬ (2 : Int32) < 0 ∧ (2 : Int32) < (4 : Int32)) (in31_21 : ¬ (3 : Int32) < 0 ∧ (3 : Int32) < (4 : Int32)) (hBb127 : ∀ i, (Bb i).toInt ≤ 127) (nz39_26 : (5 : Int32) ≠ (0 : Int32)) (nz53_28 : ((5 : Int32) - v27) ≠ (0 : Int32)) (in66_37 : ¬ (0 : Int32) < 0 ∧ (0 : Int32) < (3 : Int32)) (in77_44 : ¬ (1 : Int32) < 0 ∧ (1 : Int32) < (3 : Int32)) (in88_51 : ¬ (2 : Int32) < 0 ∧ (2 : Int32) < (3 : Int32)) (hBp127 : ∀ i, (Bp i).toInt ≤ 127) (hBp0 : ∀ i, 0 ≤ (Bp i).toInt) (nz96_58 : (4 : Int32) ≠ (0 : Int32)) (nz110_60 : ((4 : Int32) - v59) ≠ (0 : Int32)) (HW : own_win v27 v29 (4 : Int32)) (HV : own_win v59 v61 (3 : Int32)) (HP : own_nn Bp v59 v61) (cd120_63 : own_win v27 v29 (4 : Int32)) (cd120_64 : 0 ≤ (0 : Int32).toInt) (cd189_100 : own_win v59 v61 (3 : Int32)) (cd189_101 : own_nn Bp v59 v61) (cd202_171 : own_win v27 v29 (4 : Int32)) (cd202_172 : ¬ own_nn Bb v27 v29) (cd279_178 : own_win v59 v61 (3 : Int32)) (cd279_179 : own_nn Bp v59 v61) (cd305_191 : own_win v59 v61 (3 : Int32)) (cd305_192 : own_nn Bp v59 v61) (cd305_193 : 0 ≤ (0 : Int32).toInt) (cd305_194 : ∀ i, (Bp i).toInt ≤ 127) (cd320_196 : own_win v59 v61 (3 : Int32)) (cd320_197 : own_nn Bp v59 v61) (cd320_198 : 0 ≤ (1 : Int32).toInt) (cd320_199 : ∀ i, (Bp i).toInt ≤ 127) (cd335_201 : own_win v59 v61 (3 : Int32)) (cd335_202 : own_nn Bp v59 v61) (cd335_203 : 0 ≤ (2 : Int32).toInt) (cd335_204 : ∀ i, (Bp i).toInt ≤ 127) (cd350_206 : own_win v59 v61 (3 : Int32)) (cd350_207 : own_nn Bp v59 v61) (cd350_208 : 0 ≤ (3 : Int32).toInt) (cd350_209 : ∀ i, (Bp i).toInt ≤ 127) (cd366_212 : own_win v59 v61 (3 : Int32)) (cd366_213 : ¬ (0 : Int32) < 0 ∧ (0 : Int32) < v61) (in373_216 : ¬ v59 < 0 ∧ v59 < (3 : Int32)) : v214 = ((Bp v59.toNatClampNeg).toUInt32.toUInt16.toUInt32.toInt32) := by
  rw [hv214, Int32.add_zero]
  rfl
set_option maxRecDepth 65536 in
theorem own_pl0_18 {xw : Int32} {xr : Int32} {Bb : Nat → Int32} {Bp : Nat → Int32} {v27 : Int32} {v29 : Int32} {v59 : Int32} {v61 : Int32} {v65 : Int32} {v170_67 : Int32} {v214 : Int32} (hv27 : v27 = ((xw &&& (2147483647 : Int32)) % (5 : Int32))) (hv29 : v29 = ((((xw.toUInt32 >>> ((8 : Int32) &&& 31).toUInt32).toInt32) &&& (2147483647 : Int32)) % ((5 : Int32) - v27))) (hv59 : v59 = ((xr &&& (2147483647 : Int32)) % (4 : Int32))) (hv61 : v61 = ((((xr.toUInt32 >>> ((8 : Int32) &&& 31).toUInt32).toInt32) &&& (2147483647 : Int32)) % ((4 : Int32) - v59))) (hv65 : v65 = (own_ng Bb v27 v29 (0 : Int32))) (hv170_67 : v170_67 = (if v65 = (0 : Int32) then (if (own_ng Bb v27 v29 (1 : Int32)) = (0 : Int32) then (if (own_ng Bb v27 v29 (2 : Int32)) = (0 : Int32) then (if (own_ng Bb v27 v29 (3 : Int32)) = (0 : Int32) then (1 : Int32) else (0 : Int32)) else (0 : Int32)) else (0 : Int32)) else (0 : Int32))) (hv214 : v214 = (own_c (Bp (v59 + (0 : Int32)).toNatClampNeg))) (hk194_108 : ¬ (own_nn Bb v27 v29)) (hc360_210 : (0 : Int32) < v61) (in7_6 : ¬ (0 : Int32) < 0 ∧ (0 : Int32) < (4 : Int32)) (in15_11 : ¬ (1 : Int32) < 0 ∧ (1 : Int32) < (4 : Int32)) (in23_16 : ¬ (2 : Int32) < 0 ∧ (2 : Int32) < (4 : Int32)) (in31_21 : ¬ (3 : Int32) < 0 ∧ (3 : Int32) < (4 : Int32)) (hBb127 : ∀ i, (Bb i).toInt ≤ 127) (nz39_26 : (5 : Int32) ≠ (0 : Int32)) (nz53_28 : ((5 : Int32) - v27) ≠ (0 : Int32)) (in66_37 : ¬ (0 : Int32) < 0 ∧ (0 : Int32) < (3 : Int32)) (in77_44 : ¬ (1 : Int32) < 0 ∧ (1 : Int32) < (3 : Int32)) (in88_51 : ¬ (2 : Int32) < 0 ∧ (2 : Int32) < (3 : Int32)) (hBp127 : ∀ i, (Bp i).toInt ≤ 127) (hBp0 : ∀ i, 0 ≤ (Bp i).toInt) (nz96_58 : (4 : Int32) ≠ (0 : Int32)) (nz110_60 : ((4 : Int32) - v59) ≠ (0 : Int32)) (HW : own_win v27 v29 (4 : Int32)) (HV : own_win v59 v61 (3 : Int32)) (HP : own_nn Bp v59 v61) (cd120_63 : own_win v27 v29 (4 : Int32)) (cd120_64 : 0 ≤ (0 : Int32).toInt) (cd189_100 : own_win v59 v61 (3 : Int32)) (cd189_101 : own_nn Bp v59 v61) (cd202_171 : own_win v27 v29 (4 : Int32)) (cd202_172 : ¬ own_nn Bb v27 v29) (cd279_178 : own_win v59 v61 (3 : Int32)) (cd279_179 : own_nn Bp v59 v61) (cd305_191 : own_win v59 v61 (3 : Int32)) (cd305_192 : own_nn Bp v59 v61) (cd305_193 : 0 ≤ (0 : Int32).toInt) (cd305_194 : ∀ i, (Bp i).toInt ≤ 127) (cd320_196 : own_win v59 v61 (3 : Int32)) (cd320_197 : own_nn Bp v59 v61) (cd320_198 : 0 ≤ (1 : Int32).toInt) (cd320_199 : ∀ i, (Bp i).toInt ≤ 127) (cd335_201 : own_win v59 v61 (3 : Int32)) (cd335_202 : own_nn Bp v59 v61) (cd335_203 : 0 ≤ (2 : Int32).toInt) (cd335_204 : ∀ i, (Bp i).toInt ≤ 127) (cd350_206 : own_win v59 v61 (3 : Int32)) (cd350_207 : own_nn Bp v59 v61) (cd350_208 : 0 ≤ (3 : Int32).toInt) (cd350_209 : ∀ i, (Bp i).toInt ≤ 127) (cd366_212 : own_win v59 v61 (3 : Int32)) (cd366_213 : ¬ (0 : Int32) < 0 ∧ (0 : Int32) < v61) (in373_216 : ¬ v59 < 0 ∧ v59 < (3 : Int32)) (cd386_219 : own_win v59 v61 (3 : Int32)) : ¬ (v61 - (1 : Int32)) < 0 ∧ (v61 - (1 : Int32)) < v61 := by
  have hp := own_lt.mp hc360_210
  rw [own_z] at hp
  have e1 : (1 : Int32).toInt = 1 := rfl
  obtain ⟨wa, wb, wc, wd⟩ := id HV
  have q : (v61 - (1 : Int32)).toInt = v61.toInt - 1 := by rw [Jvm.Kit.i32_sub (by omega) (by omega), e1]
  exact own_in (by omega) (by omega)
set_option maxRecDepth 65536 in
theorem own_pl0_19 {xw : Int32} {xr : Int32} {Bb : Nat → Int32} {Bp : Nat → Int32} {v27 : Int32} {v29 : Int32} {v59 : Int32} {v61 : Int32} {v65 : Int32} {v170_67 : Int32} {v214 : Int32} {v221 : Int32} (hv27 : v27 = ((xw &&& (2147483647 : Int32)) % (5 : Int32))) (hv29 : v29 = ((((xw.toUInt32 >>> ((8 : Int32) &&& 31).toUInt32).toInt32) &&& (2147483647 : Int32)) % ((5 : Int32) - v27))) (hv59 : v59 = ((xr &&& (2147483647 : Int32)) % (4 : Int32))) (hv61 : v61 = ((((xr.toUInt32 >>> ((8 : Int32) &&& 31).toUInt32).toInt32) &&& (2147483647 : Int32)) % ((4 : Int32) - v59))) (hv65 : v65 = (own_ng Bb v27 v29 (0 : Int32))) (hv170_67 : v170_67 = (if v65 = (0 : Int32) then (if (own_ng Bb v27 v29 (1 : Int32)) = (0 : Int32) then (if (own_ng Bb v27 v29 (2 : Int32)) = (0 : Int32) then (if (own_ng Bb v27 v29 (3 : Int32)) = (0 : Int32) then (1 : Int32) else (0 : Int32)) else (0 : Int32)) else (0 : Int32)) else (0 : Int32))) (hv214 : v214 = (own_c (Bp (v59 + (0 : Int32)).toNatClampNeg))) (hv221 : v221 = (own_c (Bp (v59 + (v61 - (1 : Int32))).toNatClampNeg))) (hk194_108 : ¬ (own_nn Bb v27 v29)) (hc360_210 : (0 : Int32) < v61) (in7_6 : ¬ (0 : Int32) < 0 ∧ (0 : Int32) < (4 : Int32)) (in15_11 : ¬ (1 : Int32) < 0 ∧ (1 : Int32) < (4 : Int32)) (in23_16 : ¬ (2 : Int32) < 0 ∧ (2 : Int32) < (4 : Int32)) (in31_21 : ¬ (3 : Int32) < 0 ∧ (3 : Int32) < (4 : Int32)) (hBb127 : ∀ i, (Bb i).toInt ≤ 127) (nz39_26 : (5 : Int32) ≠ (0 : Int32)) (nz53_28 : ((5 : Int32) - v27) ≠ (0 : Int32)) (in66_37 : ¬ (0 : Int32) < 0 ∧ (0 : Int32) < (3 : Int32)) (in77_44 : ¬ (1 : Int32) < 0 ∧ (1 : Int32) < (3 : Int32)) (in88_51 : ¬ (2 : Int32) < 0 ∧ (2 : Int32) < (3 : Int32)) (hBp127 : ∀ i, (Bp i).toInt ≤ 127) (hBp0 : ∀ i, 0 ≤ (Bp i).toInt) (nz96_58 : (4 : Int32) ≠ (0 : Int32)) (nz110_60 : ((4 : Int32) - v59) ≠ (0 : Int32)) (HW : own_win v27 v29 (4 : Int32)) (HV : own_win v59 v61 (3 : Int32)) (HP : own_nn Bp v59 v61) (cd120_63 : own_win v27 v29 (4 : Int32)) (cd120_64 : 0 ≤ (0 : Int32).toInt) (cd189_100 : own_win v59 v61 (3 : Int32)) (cd189_101 : own_nn Bp v59 v61) (cd202_171 : own_win v27 v29 (4 : Int32)) (cd202_172 : ¬ own_nn Bb v27 v29) (cd279_178 : own_win v59 v61 (3 : Int32)) (cd279_179 : own_nn Bp v59 v61) (cd305_191 : own_win v59 v61 (3 : Int32)) (cd305_192 : own_nn Bp v59 v61) (cd305_193 : 0 ≤ (0 : Int32).toInt) (cd305_194 : ∀ i, (Bp i).toInt ≤ 127) (cd320_196 : own_win v59 v61 (3 : Int32)) (cd320_197 : own_nn Bp v59 v61) (cd320_198 : 0 ≤ (1 : Int32).toInt) (cd320_199 : ∀ i, (Bp i).toInt ≤ 127) (cd335_201 : own_win v59 v61 (3 : Int32)) (cd335_202 : own_nn Bp v59 v61) (cd335_203 : 0 ≤ (2 : Int32).toInt) (cd335_204 : ∀ i, (Bp i).toInt ≤ 127) (cd350_206 : own_win v59 v61 (3 : Int32)) (cd350_207 : own_nn Bp v59 v61) (cd350_208 : 0 ≤ (3 : Int32).toInt) (cd350_209 : ∀ i, (Bp i).toInt ≤ 127) (cd366_212 : own_win v59 v61 (3 : Int32)) (cd366_213 : ¬ (0 : Int32) < 0 ∧ (0 : Int32) < v61) (in373_216 : ¬ v59 < 0 ∧ v59 < (3 : Int32)) (cd386_219 : own_win v59 v61 (3 : Int32)) (cd386_220 : ¬ (v61 - (1 : Int32)) < 0 ∧ (v61 - (1 : Int32)) < v61) : ¬ ((v59 + v61) - (1 : Int32)) < 0 ∧ ((v59 + v61) - (1 : Int32)) < (3 : Int32) := by
  have hp := own_lt.mp hc360_210
  rw [own_z] at hp
  have e1 : (1 : Int32).toInt = 1 := rfl
  obtain ⟨wa, wb, wc, wd⟩ := id HV
  have s : (v59 + v61).toInt = v59.toInt + v61.toInt := HV.add
  have s1 : ((v59 + v61) - (1 : Int32)).toInt = v59.toInt + v61.toInt - 1 := by rw [Jvm.Kit.i32_sub (by omega) (by omega), s, e1]
  exact own_in (by omega) (by omega)
set_option maxRecDepth 65536 in
theorem own_pl0_20 {xw : Int32} {xr : Int32} {Bb : Nat → Int32} {Bp : Nat → Int32} {v27 : Int32} {v29 : Int32} {v59 : Int32} {v61 : Int32} {v65 : Int32} {v170_67 : Int32} {v214 : Int32} {v221 : Int32} (hv27 : v27 = ((xw &&& (2147483647 : Int32)) % (5 : Int32))) (hv29 : v29 = ((((xw.toUInt32 >>> ((8 : Int32) &&& 31).toUInt32).toInt32) &&& (2147483647 : Int32)) % ((5 : Int32) - v27))) (hv59 : v59 = ((xr &&& (2147483647 : Int32)) % (4 : Int32))) (hv61 : v61 = ((((xr.toUInt32 >>> ((8 : Int32) &&& 31).toUInt32).toInt32) &&& (2147483647 : Int32)) % ((4 : Int32) - v59))) (hv65 : v65 = (own_ng Bb v27 v29 (0 : Int32))) (hv170_67 : v170_67 = (if v65 = (0 : Int32) then (if (own_ng Bb v27 v29 (1 : Int32)) = (0 : Int32) then (if (own_ng Bb v27 v29 (2 : Int32)) = (0 : Int32) then (if (own_ng Bb v27 v29 (3 : Int32)) = (0 : Int32) then (1 : Int32) else (0 : Int32)) else (0 : Int32)) else (0 : Int32)) else (0 : Int32))) (hv214 : v214 = (own_c (Bp (v59 + (0 : Int32)).toNatClampNeg))) (hv221 : v221 = (own_c (Bp (v59 + (v61 - (1 : Int32))).toNatClampNeg))) (hk194_108 : ¬ (own_nn Bb v27 v29)) (hc360_210 : (0 : Int32) < v61) (in7_6 : ¬ (0 : Int32) < 0 ∧ (0 : Int32) < (4 : Int32)) (in15_11 : ¬ (1 : Int32) < 0 ∧ (1 : Int32) < (4 : Int32)) (in23_16 : ¬ (2 : Int32) < 0 ∧ (2 : Int32) < (4 : Int32)) (in31_21 : ¬ (3 : Int32) < 0 ∧ (3 : Int32) < (4 : Int32)) (hBb127 : ∀ i, (Bb i).toInt ≤ 127) (nz39_26 : (5 : Int32) ≠ (0 : Int32)) (nz53_28 : ((5 : Int32) - v27) ≠ (0 : Int32)) (in66_37 : ¬ (0 : Int32) < 0 ∧ (0 : Int32) < (3 : Int32)) (in77_44 : ¬ (1 : Int32) < 0 ∧ (1 : Int32) < (3 : Int32)) (in88_51 : ¬ (2 : Int32) < 0 ∧ (2 : Int32) < (3 : Int32)) (hBp127 : ∀ i, (Bp i).toInt ≤ 127) (hBp0 : ∀ i, 0 ≤ (Bp i).toInt) (nz96_58 : (4 : Int32) ≠ (0 : Int32)) (nz110_60 : ((4 : Int32) - v59) ≠ (0 : Int32)) (HW : own_win v27 v29 (4 : Int32)) (HV : own_win v59 v61 (3 : Int32)) (HP : own_nn Bp v59 v61) (cd120_63 : own_win v27 v29 (4 : Int32)) (cd120_64 : 0 ≤ (0 : Int32).toInt) (cd189_100 : own_win v59 v61 (3 : Int32)) (cd189_101 : own_nn Bp v59 v61) (cd202_171 : own_win v27 v29 (4 : Int32)) (cd202_172 : ¬ own_nn Bb v27 v29) (cd279_178 : own_win v59 v61 (3 : Int32)) (cd279_179 : own_nn Bp v59 v61) (cd305_191 : own_win v59 v61 (3 : Int32)) (cd305_192 : own_nn Bp v59 v61) (cd305_193 : 0 ≤ (0 : Int32).toInt) (cd305_194 : ∀ i, (Bp i).toInt ≤ 127) (cd320_196 : own_win v59 v61 (3 : Int32)) (cd320_197 : own_nn Bp v59 v61) (cd320_198 : 0 ≤ (1 : Int32).toInt) (cd320_199 : ∀ i, (Bp i).toInt ≤ 127) (cd335_201 : own_win v59 v61 (3 : Int32)) (cd335_202 : own_nn Bp v59 v61) (cd335_203 : 0 ≤ (2 : Int32).toInt) (cd335_204 : ∀ i, (Bp i).toInt ≤ 127) (cd350_206 : own_win v59 v61 (3 : Int32)) (cd350_207 : own_nn Bp v59 v61) (cd350_208 : 0 ≤ (3 : Int32).toInt) (cd350_209 : ∀ i, (Bp i).toInt ≤ 127) (cd366_212 : own_win v59 v61 (3 : Int32)) (cd366_213 : ¬ (0 : Int32) < 0 ∧ (0 : Int32) < v61) (in373_216 : ¬ v59 < 0 ∧ v59 < (3 : Int32)) (cd386_219 : own_win v59 v61 (3 : Int32)) (cd386_220 : ¬ (v61 - (1 : Int32)) < 0 ∧ (v61 - (1 : Int32)) < v61) (in398_223 : ¬ ((v59 + v61) - (1 : Int32)) < 0 ∧ ((v59 + v61) - (1 : Int32)) < (3 : Int32)) : v221 = ((Bp ((v59 + v61) - (1 : Int32)).toNatClampNeg).toUInt32.toUInt16.toUInt32.toInt32) := by
  have hp := own_lt.mp hc360_210
  rw [own_z] at hp
  have e1 : (1 : Int32).toInt = 1 := rfl
  obtain ⟨wa, wb, wc, wd⟩ := id HV
  have s : (v59 + v61).toInt = v59.toInt + v61.toInt := HV.add
  have s1 : ((v59 + v61) - (1 : Int32)).toInt = v59.toInt + v61.toInt - 1 := by rw [Jvm.Kit.i32_sub (by omega) (by omega), s, e1]
  have s2 : (v61 - (1 : Int32)).toInt = v61.toInt - 1 := by rw [Jvm.Kit.i32_sub (by omega) (by omega), e1]
  have s3 : (v59 + (v61 - (1 : Int32))) = ((v59 + v61) - (1 : Int32)) := by
    apply Int32.toInt_inj.mp
    rw [s1, Jvm.Kit.i32_add (by omega) (by omega), s2]; omega
  rw [hv221, s3]
  rfl
set_option maxRecDepth 65536 in
set_option maxHeartbeats 40000000 in
theorem rm0 (l : Launch) (Z : State) (a0 : Array Value) (hw : ∀ d ∈ tables_1, d.before a0 Z = true) (ws : List Jvm.Cond) (xa : Int32) (xw : Int32) (xp : Int32) (xr : Int32) (s_us : Addr) (xcs : Int32) (wsf : Value) (s_utf : Addr) (s_iso : Addr) (h0 : Heap) (n0 : Nat) (Z0 : n0 ≤ h0.size) (OL : Old Z n0 h0) (S_std : Sta Z Z.heap "java/nio/charset/StandardCharsets" "US_ASCII" "Ljava/nio/charset/Charset;" (.ref s_us)) (S_utf : Sta Z Z.heap "sun/nio/cs/UTF_8" "INSTANCE" "Lsun/nio/cs/UTF_8;" (.ref s_utf)) (S_iso : Sta Z Z.heap "sun/nio/cs/ISO_8859_1" "INSTANCE" "Lsun/nio/cs/ISO_8859_1;" (.ref s_iso)) (S_us : Sta Z Z.heap "sun/nio/cs/US_ASCII" "INSTANCE" "Lsun/nio/cs/US_ASCII;" (.ref s_us)) (E_utf : Exa Z Z.heap s_utf "sun/nio/cs/UTF_8") (E_iso : Exa Z Z.heap s_iso "sun/nio/cs/ISO_8859_1") (E_us : Exa Z Z.heap s_us "sun/nio/cs/US_ASCII") (S_cs : Sta Z Z.heap "java/lang/String" "COMPACT_STRINGS" "Z" (.int xcs)) (hcs : ¬ (xcs = (0 : Int32))) (S_sf : Sta Z Z.heap "jdk/internal/util/Preconditions" "SIOOBE_FORMATTER" "Ljava/util/function/BiFunction;" wsf) (isr_wsf : wsf.isRef = true) (hheld : Jvm.Lit.constHeld Z "java/lang/String" 7) (hcw : Jvm.Lit.compactW.before a0 Z = true) :
    MetFree l x (head1 (Jvm.Cond.code x code maxLocals ret :: ws) room_1) (fun a U => a = #[(.int xa), (.int xw), (.int xp), (.int xr)] ∧ Z.Warmed39 U.vm ∧ U.heap = h0 ∧ U.vm.interned = Z.vm.interned) (fun _ _ _ _ _ => True) (fun _ U o U' => ∃ v L, o = .returned v ∧ Q0 Z xa xw xp xr s_us xcs wsf s_utf s_iso h0 n0 v U'.heap L ∧ ReturnedEndW U o U' L 7 18) := by
  refine MetFree.of_bodySF (plainFor_of_name pn_0) hisR ?_
  intro p e s m args below meth c s₁ Bd hml0 hP hK
  obtain ⟨rfl, hZ, hh, hin⟩ := hP
  have hx := Bd.exec
  have hby := Bd.bytes
  have hml : c.maxLocals = 18 := hml0
  have hown : s.vm.findClass "com/example/sluice/sluice/engine/source/file/AsciiLineReadInPinLaw" = some m.cls := findClass_of_methodNamed Bd.named
  have hnm := (name_of_methodNamed Bd.named Bd.method).1
  have X0 : Stand p l e room_1 (s.setVm s.vm) m #[(.int xa), (.int xw), (.int xp), (.int xr)] below meth c s₁ [] 0 0 := Stand.of_body Bd
  have e0 : s₁.heap = h0 := by rw [← hh, Bd.state]; rfl
  have N0 := Fr.nil n0
  suffices G : own_Goes p.tables e below (fun o U' => ∃ v L, o = .returned v ∧ Q0 Z xa xw xp xr s_us xcs wsf s_utf s_iso h0 n0 v U'.heap L ∧ ReturnedEndW s o U' L 7 18) s₁ (mkF m 0 #[.val (.int xa), .val (.int xw), .val (.int xp), .val (.int xr), .unset, .unset, .unset, .unset, .unset, .unset, .unset, .unset, .unset, .unset, .unset, .unset, .unset, .unset] []) by
    obtain ⟨t2_, o2_, z1_, z2_, z3_, z4_⟩ := G
    exact ⟨t2_, o2_, castTop (ef_0 m xa xw xp xr) z1_, z2_, z3_, z4_⟩
  generalize hPd : (fun (o : Outcome) (U' : State) => ∃ v L, o = .returned v ∧ Q0 Z xa xw xp xr s_us xcs wsf s_utf s_iso h0 n0 v U'.heap L ∧ ReturnedEndW s o U' L 7 18) = P
  have hS : s.Since s.vm 0 := (State.WarmedH.refl s).since 0
  have hk : 0 ≤ h0.size := Nat.zero_le _
  refine own_Goes.via (T' := s₁) (g' := (mkF m 1 #[.val (.int xa), .val (.int xw), .val (.int xp), .val (.int xr), .unset, .unset, .unset, .unset, .unset, .unset, .unset, .unset, .unset, .unset, .unset, .unset, .unset, .unset] [(.int (4 : Int32))])) (fun t_ k_ => XS.iconst X0.here hx rfl (hb hby at_0) k_) ?_
  obtain ⟨T1, h1, k1, X1, e1, E1, A1, Ea1, st1⟩ := newPE X0 hx hZ (hw _ (List.mem_of_getElem? (i := 0) rfl)) e0 (g := (mkF m 1 #[.val (.int xa), .val (.int xw), .val (.int xp), .val (.int xr), .unset, .unset, .unset, .unset, .unset, .unset, .unset, .unset, .unset, .unset, .unset, .unset, .unset, .unset] [(.int (4 : Int32))])) rfl (hb hby at_1) rfl (by decide) (cap := 4) (by decide) (by decide) (by decide) (by decide) (ad := "[B") (by decide)
  obtain ⟨b1, g1⟩ : ∃ z, z = h0.size := ⟨_, rfl⟩
  rw [← g1] at A1 Ea1 st1
  have O2 : Old Z n0 h1 := OL.ext E1
  have ge_b1 : n0 ≤ b1 := Nat.le_trans Z0 (Nat.le_of_eq g1.symm)
  have sz_b1 : h0.size ≤ b1 := Nat.le_trans ((Keep.refl h0 [])).1 (Nat.le_of_eq g1.symm)
  have sz1 : n0 ≤ h1.size := Nat.le_trans Z0 E1.1
  have hk := Nat.le_trans hk E1.1
  have K1 : Keep h0 h1 [] := ((Keep.refl h0 [])).ext E1
  have E3 : Exa Z h1 b1 "[B" := Ea1
  have V4 : Arv Z h1 b1 k1 .byte (4 : Int32) [(.int (0 : Int32)), (.int (0 : Int32)), (.int (0 : Int32)), (.int (0 : Int32))] (.int (0 : Int32)) := (Arv.new A1 (by decide)).pad (pad_rep [] (.int (0 : Int32)) 4)
  refine own_Goes.via (T' := T1) (g' := (mkF m 3 #[.val (.int xa), .val (.int xw), .val (.int xp), .val (.int xr), .unset, .unset, .unset, .unset, .unset, .unset, .unset, .unset, .unset, .unset, .unset, .unset, .unset, .unset] [(.ref b1)])) (st1) ?_
  refine own_Goes.via (T' := T1) (g' := (mkF m 4 #[.val (.int xa), .val (.int xw), .val (.int xp), .val (.int xr), .unset, .unset, .unset, .unset, .unset, .unset, .unset, .unset, .unset, .unset, .unset, .unset, .unset, .unset] [(.ref b1), (.ref b1)])) (fun t_ k_ => XS.dup X1.here hx rfl (hb hby at_3) rfl rfl k_) ?_
  refine own_Goes.via (T' := T1) (g' := (mkF m 5 #[.val (.int xa), .val (.int xw), .val (.int xp), .val (.int xr), .unset, .unset, .unset, .unset, .unset, .unset, .unset, .unset, .unset, .unset, .unset, .unset, .unset, .unset] [(.int (0 : Int32)), (.ref b1), (.ref b1)])) (fun t_ k_ => XS.iconst X1.here hx rfl (hb hby at_4) k_) ?_
  refine own_Goes.via (T' := T1) (g' := (mkF m 6 #[.val (.int xa), .val (.int xw), .val (.int xp), .val (.int xr), .unset, .unset, .unset, .unset, .unset, .unset, .unset, .unset, .unset, .unset, .unset, .unset, .unset, .unset] [(.int xa), (.int (0 : Int32)), (.ref b1), (.ref b1)])) (fun t_ k_ => XS.iloadN X1.here hx rfl (hb hby at_5) rfl k_) ?_
  refine own_Goes.via (T' := T1) (g' := (mkF m 7 #[.val (.int xa), .val (.int xw), .val (.int xp), .val (.int xr), .unset, .unset, .unset, .unset, .unset, .unset, .unset, .unset, .unset, .unset, .unset, .unset, .unset, .unset] [(.int (xa.toInt8.toInt32)), (.int (0 : Int32)), (.ref b1), (.ref b1)])) (fun t_ k_ => XS.i2b X1.here hx rfl (hb hby at_6) rfl k_) ?_
  obtain ⟨cl5, Ar5, q5, Sl5, Ng5, H5, G5⟩ := id V4
  have in7_6 : ¬ (0 : Int32) < 0 ∧ (0 : Int32) < (4 : Int32) := by first | assumption | decide
  obtain ⟨T5, h5, X5, e5, W5, st5⟩ := stB X1 hx hZ e1 Ar5 (j := (0 : Int32)) (inb_of Sl5 in7_6) (g := (mkF m 7 #[.val (.int xa), .val (.int xw), .val (.int xp), .val (.int xr), .unset, .unset, .unset, .unset, .unset, .unset, .unset, .unset, .unset, .unset, .unset, .unset, .unset, .unset] [(.int (xa.toInt8.toInt32)), (.int (0 : Int32)), (.ref b1), (.ref b1)])) rfl rfl (hb hby at_7)
  have E7 : Exa Z h5 b1 "[B" := E3.wr W5
  have O8 : Old Z n0 h5 := O2.wr W5 ge_b1
  have V9 : Arv Z h5 b1 k1 .byte (4 : Int32) [(.int (nar .byte (xa.toInt8.toInt32))), (.int (0 : Int32)), (.int (0 : Int32)), (.int (0 : Int32))] (.int (0 : Int32)) := Arv.set Ar5 q5 Sl5 Ng5 H5 G5 (fits_nar_byte _) W5 0 rfl (Nat.le_of_ble_eq_true rfl)
  have N5 := Fr.snoc X5 N0 ge_b1
  have sz5 : n0 ≤ h5.size := Nat.le_trans sz1 (Keep.of_wr W5).1
  have hk := Nat.le_trans hk (Keep.of_wr W5).1
  have K5 : Keep h0 h5 [] := (K1).wr W5 (Or.inr sz_b1)
  refine own_Goes.via (T' := T5) (g' := (mkF m 8 #[.val (.int xa), .val (.int xw), .val (.int xp), .val (.int xr), .unset, .unset, .unset, .unset, .unset, .unset, .unset, .unset, .unset, .unset, .unset, .unset, .unset, .unset] [(.ref b1)])) (st5) ?_
  refine own_Goes.via (T' := T5) (g' := (mkF m 9 #[.val (.int xa), .val (.int xw), .val (.int xp), .val (.int xr), .unset, .unset, .unset, .unset, .unset, .unset, .unset, .unset, .unset, .unset, .unset, .unset, .unset, .unset] [(.ref b1), (.ref b1)])) (fun t_ k_ => XS.dup X5.here hx rfl (hb hby at_8) rfl rfl k_) ?_
  refine own_Goes.via (T' := T5) (g' := (mkF m 10 #[.val (.int xa), .val (.int xw), .val (.int xp), .val (.int xr), .unset, .unset, .unset, .unset, .unset, .unset, .unset, .unset, .unset, .unset, .unset, .unset, .unset, .unset] [(.int (1 : Int32)), (.ref b1), (.ref b1)])) (fun t_ k_ => XS.iconst X5.here hx rfl (hb hby at_9) k_) ?_
  refine own_Goes.via (T' := T5) (g' := (mkF m 11 #[.val (.int xa), .val (.int xw), .val (.int xp), .val (.int xr), .unset, .unset, .unset, .unset, .unset, .unset, .unset, .unset, .unset, .unset, .unset, .unset, .unset, .unset] [(.int xa), (.int (1 : Int32)), (.ref b1), (.ref b1)])) (fun t_ k_ => XS.iloadN X5.here hx rfl (hb hby at_10) rfl k_) ?_
  refine own_Goes.via (T' := T5) (g' := (mkF m 13 #[.val (.int xa), .val (.int xw), .val (.int xp), .val (.int xr), .unset, .unset, .unset, .unset, .unset, .unset, .unset, .unset, .unset, .unset, .unset, .unset, .unset, .unset] [(.int (8 : Int32)), (.int xa), (.int (1 : Int32)), (.ref b1), (.ref b1)])) (fun t_ k_ => XS.bipush X5.here hx rfl (hb hby at_11) k_) ?_
  refine own_Goes.via (T' := T5) (g' := (mkF m 14 #[.val (.int xa), .val (.int xw), .val (.int xp), .val (.int xr), .unset, .unset, .unset, .unset, .unset, .unset, .unset, .unset, .unset, .unset, .unset, .unset, .unset, .unset] [(.int (xa >>> ((8 : Int32) &&& 31))), (.int (1 : Int32)), (.ref b1), (.ref b1)])) (fun t_ k_ => XS.ishr X5.here hx rfl (hb hby at_13) rfl k_) ?_
  refine own_Goes.via (T' := T5) (g' := (mkF m 15 #[.val (.int xa), .val (.int xw), .val (.int xp), .val (.int xr), .unset, .unset, .unset, .unset, .unset, .unset, .unset, .unset, .unset, .unset, .unset, .unset, .unset, .unset] [(.int ((xa >>> ((8 : Int32) &&& 31)).toInt8.toInt32)), (.int (1 : Int32)), (.ref b1), (.ref b1)])) (fun t_ k_ => XS.i2b X5.here hx rfl (hb hby at_14) rfl k_) ?_
  obtain ⟨cl10, Ar10, q10, Sl10, Ng10, H10, G10⟩ := id V9
  have in15_11 : ¬ (1 : Int32) < 0 ∧ (1 : Int32) < (4 : Int32) := by first | assumption | decide
  obtain ⟨T10, h10, X10, e10, W10, st10⟩ := stB X5 hx hZ e5 Ar10 (j := (1 : Int32)) (inb_of Sl10 in15_11) (g := (mkF m 15 #[.val (.int xa), .val (.int xw), .val (.int xp), .val (.int xr), .unset, .unset, .unset, .unset, .unset, .unset, .unset, .unset, .unset, .unset, .unset, .unset, .unset, .unset] [(.int ((xa >>> ((8 : Int32) &&& 31)).toInt8.toInt32)), (.int (1 : Int32)), (.ref b1), (.ref b1)])) rfl rfl (hb hby at_15)
  have E12 : Exa Z h10 b1 "[B" := E7.wr W10
  have O13 : Old Z n0 h10 := O8.wr W10 ge_b1
  have V14 : Arv Z h10 b1 k1 .byte (4 : Int32) [(.int (nar .byte (xa.toInt8.toInt32))), (.int (nar .byte ((xa >>> ((8 : Int32) &&& 31)).toInt8.toInt32))), (.int (0 : Int32)), (.int (0 : Int32))] (.int (0 : Int32)) := Arv.set Ar10 q10 Sl10 Ng10 H10 G10 (fits_nar_byte _) W10 1 rfl (Nat.le_of_ble_eq_true rfl)
  have N10 := Fr.snoc X10 N5 ge_b1
  have sz10 : n0 ≤ h10.size := Nat.le_trans sz5 (Keep.of_wr W10).1
  have hk := Nat.le_trans hk (Keep.of_wr W10).1
  have K10 : Keep h0 h10 [] := (K5).wr W10 (Or.inr sz_b1)
  refine own_Goes.via (T' := T10) (g' := (mkF m 16 #[.val (.int xa), .val (.int xw), .val (.int xp), .val (.int xr), .unset, .unset, .unset, .unset, .unset, .unset, .unset, .unset, .unset, .unset, .unset, .unset, .unset, .unset] [(.ref b1)])) (st10) ?_
  refine own_Goes.via (T' := T10) (g' := (mkF m 17 #[.val (.int xa), .val (.int xw), .val (.int xp), .val (.int xr), .unset, .unset, .unset, .unset, .unset, .unset, .unset, .unset, .unset, .unset, .unset, .unset, .unset, .unset] [(.ref b1), (.ref b1)])) (fun t_ k_ => XS.dup X10.here hx rfl (hb hby at_16) rfl rfl k_) ?_
  refine own_Goes.via (T' := T10) (g' := (mkF m 18 #[.val (.int xa), .val (.int xw), .val (.int xp), .val (.int xr), .unset, .unset, .unset, .unset, .unset, .unset, .unset, .unset, .unset, .unset, .unset, .unset, .unset, .unset] [(.int (2 : Int32)), (.ref b1), (.ref b1)])) (fun t_ k_ => XS.iconst X10.here hx rfl (hb hby at_17) k_) ?_
  refine own_Goes.via (T' := T10) (g' := (mkF m 19 #[.val (.int xa), .val (.int xw), .val (.int xp), .val (.int xr), .unset, .unset, .unset, .unset, .unset, .unset, .unset, .unset, .unset, .unset, .unset, .unset, .unset, .unset] [(.int xa), (.int (2 : Int32)), (.ref b1), (.ref b1)])) (fun t_ k_ => XS.iloadN X10.here hx rfl (hb hby at_18) rfl k_) ?_
  refine own_Goes.via (T' := T10) (g' := (mkF m 21 #[.val (.int xa), .val (.int xw), .val (.int xp), .val (.int xr), .unset, .unset, .unset, .unset, .unset, .unset, .unset, .unset, .unset, .unset, .unset, .unset, .unset, .unset] [(.int (16 : Int32)), (.int xa), (.int (2 : Int32)), (.ref b1), (.ref b1)])) (fun t_ k_ => XS.bipush X10.here hx rfl (hb hby at_19) k_) ?_
  refine own_Goes.via (T' := T10) (g' := (mkF m 22 #[.val (.int xa), .val (.int xw), .val (.int xp), .val (.int xr), .unset, .unset, .unset, .unset, .unset, .unset, .unset, .unset, .unset, .unset, .unset, .unset, .unset, .unset] [(.int (xa >>> ((16 : Int32) &&& 31))), (.int (2 : Int32)), (.ref b1), (.ref b1)])) (fun t_ k_ => XS.ishr X10.here hx rfl (hb hby at_21) rfl k_) ?_
  refine own_Goes.via (T' := T10) (g' := (mkF m 23 #[.val (.int xa), .val (.int xw), .val (.int xp), .val (.int xr), .unset, .unset, .unset, .unset, .unset, .unset, .unset, .unset, .unset, .unset, .unset, .unset, .unset, .unset] [(.int ((xa >>> ((16 : Int32) &&& 31)).toInt8.toInt32)), (.int (2 : Int32)), (.ref b1), (.ref b1)])) (fun t_ k_ => XS.i2b X10.here hx rfl (hb hby at_22) rfl k_) ?_
  obtain ⟨cl15, Ar15, q15, Sl15, Ng15, H15, G15⟩ := id V14
  have in23_16 : ¬ (2 : Int32) < 0 ∧ (2 : Int32) < (4 : Int32) := by first | assumption | decide
  obtain ⟨T15, h15, X15, e15, W15, st15⟩ := stB X10 hx hZ e10 Ar15 (j := (2 : Int32)) (inb_of Sl15 in23_16) (g := (mkF m 23 #[.val (.int xa), .val (.int xw), .val (.int xp), .val (.int xr), .unset, .unset, .unset, .unset, .unset, .unset, .unset, .unset, .unset, .unset, .unset, .unset, .unset, .unset] [(.int ((xa >>> ((16 : Int32) &&& 31)).toInt8.toInt32)), (.int (2 : Int32)), (.ref b1), (.ref b1)])) rfl rfl (hb hby at_23)
  have E17 : Exa Z h15 b1 "[B" := E12.wr W15
  have O18 : Old Z n0 h15 := O13.wr W15 ge_b1
  have V19 : Arv Z h15 b1 k1 .byte (4 : Int32) [(.int (nar .byte (xa.toInt8.toInt32))), (.int (nar .byte ((xa >>> ((8 : Int32) &&& 31)).toInt8.toInt32))), (.int (nar .byte ((xa >>> ((16 : Int32) &&& 31)).toInt8.toInt32))), (.int (0 : Int32))] (.int (0 : Int32)) := Arv.set Ar15 q15 Sl15 Ng15 H15 G15 (fits_nar_byte _) W15 2 rfl (Nat.le_of_ble_eq_true rfl)
  have N15 := Fr.snoc X15 N10 ge_b1
  have sz15 : n0 ≤ h15.size := Nat.le_trans sz10 (Keep.of_wr W15).1
  have hk := Nat.le_trans hk (Keep.of_wr W15).1
  have K15 : Keep h0 h15 [] := (K10).wr W15 (Or.inr sz_b1)
  refine own_Goes.via (T' := T15) (g' := (mkF m 24 #[.val (.int xa), .val (.int xw), .val (.int xp), .val (.int xr), .unset, .unset, .unset, .unset, .unset, .unset, .unset, .unset, .unset, .unset, .unset, .unset, .unset, .unset] [(.ref b1)])) (st15) ?_
  refine own_Goes.via (T' := T15) (g' := (mkF m 25 #[.val (.int xa), .val (.int xw), .val (.int xp), .val (.int xr), .unset, .unset, .unset, .unset, .unset, .unset, .unset, .unset, .unset, .unset, .unset, .unset, .unset, .unset] [(.ref b1), (.ref b1)])) (fun t_ k_ => XS.dup X15.here hx rfl (hb hby at_24) rfl rfl k_) ?_
  refine own_Goes.via (T' := T15) (g' := (mkF m 26 #[.val (.int xa), .val (.int xw), .val (.int xp), .val (.int xr), .unset, .unset, .unset, .unset, .unset, .unset, .unset, .unset, .unset, .unset, .unset, .unset, .unset, .unset] [(.int (3 : Int32)), (.ref b1), (.ref b1)])) (fun t_ k_ => XS.iconst X15.here hx rfl (hb hby at_25) k_) ?_
  refine own_Goes.via (T' := T15) (g' := (mkF m 27 #[.val (.int xa), .val (.int xw), .val (.int xp), .val (.int xr), .unset, .unset, .unset, .unset, .unset, .unset, .unset, .unset, .unset, .unset, .unset, .unset, .unset, .unset] [(.int xa), (.int (3 : Int32)), (.ref b1), (.ref b1)])) (fun t_ k_ => XS.iloadN X15.here hx rfl (hb hby at_26) rfl k_) ?_
  refine own_Goes.via (T' := T15) (g' := (mkF m 29 #[.val (.int xa), .val (.int xw), .val (.int xp), .val (.int xr), .unset, .unset, .unset, .unset, .unset, .unset, .unset, .unset, .unset, .unset, .unset, .unset, .unset, .unset] [(.int (24 : Int32)), (.int xa), (.int (3 : Int32)), (.ref b1), (.ref b1)])) (fun t_ k_ => XS.bipush X15.here hx rfl (hb hby at_27) k_) ?_
  refine own_Goes.via (T' := T15) (g' := (mkF m 30 #[.val (.int xa), .val (.int xw), .val (.int xp), .val (.int xr), .unset, .unset, .unset, .unset, .unset, .unset, .unset, .unset, .unset, .unset, .unset, .unset, .unset, .unset] [(.int (xa >>> ((24 : Int32) &&& 31))), (.int (3 : Int32)), (.ref b1), (.ref b1)])) (fun t_ k_ => XS.ishr X15.here hx rfl (hb hby at_29) rfl k_) ?_
  refine own_Goes.via (T' := T15) (g' := (mkF m 31 #[.val (.int xa), .val (.int xw), .val (.int xp), .val (.int xr), .unset, .unset, .unset, .unset, .unset, .unset, .unset, .unset, .unset, .unset, .unset, .unset, .unset, .unset] [(.int ((xa >>> ((24 : Int32) &&& 31)).toInt8.toInt32)), (.int (3 : Int32)), (.ref b1), (.ref b1)])) (fun t_ k_ => XS.i2b X15.here hx rfl (hb hby at_30) rfl k_) ?_
  obtain ⟨cl20, Ar20, q20, Sl20, Ng20, H20, G20⟩ := id V19
  have in31_21 : ¬ (3 : Int32) < 0 ∧ (3 : Int32) < (4 : Int32) := by first | assumption | decide
  obtain ⟨T20, h20, X20, e20, W20, st20⟩ := stB X15 hx hZ e15 Ar20 (j := (3 : Int32)) (inb_of Sl20 in31_21) (g := (mkF m 31 #[.val (.int xa), .val (.int xw), .val (.int xp), .val (.int xr), .unset, .unset, .unset, .unset, .unset, .unset, .unset, .unset, .unset, .unset, .unset, .unset, .unset, .unset] [(.int ((xa >>> ((24 : Int32) &&& 31)).toInt8.toInt32)), (.int (3 : Int32)), (.ref b1), (.ref b1)])) rfl rfl (hb hby at_31)
  have E22 : Exa Z h20 b1 "[B" := E17.wr W20
  have O23 : Old Z n0 h20 := O18.wr W20 ge_b1
  have V24 : Arv Z h20 b1 k1 .byte (4 : Int32) [(.int (nar .byte (xa.toInt8.toInt32))), (.int (nar .byte ((xa >>> ((8 : Int32) &&& 31)).toInt8.toInt32))), (.int (nar .byte ((xa >>> ((16 : Int32) &&& 31)).toInt8.toInt32))), (.int (nar .byte ((xa >>> ((24 : Int32) &&& 31)).toInt8.toInt32)))] (.int (0 : Int32)) := Arv.set Ar20 q20 Sl20 Ng20 H20 G20 (fits_nar_byte _) W20 3 rfl (Nat.le_of_ble_eq_true rfl)
  have N20 := Fr.snoc X20 N15 ge_b1
  have sz20 : n0 ≤ h20.size := Nat.le_trans sz15 (Keep.of_wr W20).1
  have hk := Nat.le_trans hk (Keep.of_wr W20).1
  have K20 : Keep h0 h20 [] := (K15).wr W20 (Or.inr sz_b1)
  refine own_Goes.via (T' := T20) (g' := (mkF m 32 #[.val (.int xa), .val (.int xw), .val (.int xp), .val (.int xr), .unset, .unset, .unset, .unset, .unset, .unset, .unset, .unset, .unset, .unset, .unset, .unset, .unset, .unset] [(.ref b1)])) (st20) ?_
  refine own_Goes.via (T' := T20) (g' := (mkF m 34 #[.val (.int xa), .val (.int xw), .val (.int xp), .val (.int xr), .val (.ref b1), .unset, .unset, .unset, .unset, .unset, .unset, .unset, .unset, .unset, .unset, .unset, .unset, .unset] [])) (fun t_ k_ => XS.astore X20.here hx rfl (hb hby at_32) rfl rfl (l' := #[.val (.int xa), .val (.int xw), .val (.int xp), .val (.int xr), .val (.ref b1), .unset, .unset, .unset, .unset, .unset, .unset, .unset, .unset, .unset, .unset, .unset, .unset, .unset]) rfl k_) ?_
  obtain ⟨Bb, hBb⟩ : ∃ z : Nat → Int32, z = own_l4 (nar .byte (xa.toInt8.toInt32)) (nar .byte ((xa >>> ((8 : Int32) &&& 31)).toInt8.toInt32)) (nar .byte ((xa >>> ((16 : Int32) &&& 31)).toInt8.toInt32)) (nar .byte ((xa >>> ((24 : Int32) &&& 31)).toInt8.toInt32)) := ⟨_, rfl⟩
  have G25 : own_Gi Z h20 b1 .byte (4 : Int32) Bb := (by rw [hBb]; exact own_Gi.of V24 (own_l4_ok _ _ _ _ _))
  have hBb127 : ∀ i, (Bb i).toInt ≤ 127 := by intro i; rw [hBb]; unfold own_l4; (repeat' split) <;> exact (own_byte _).2
  refine own_Goes.via (T' := T20) (g' := (mkF m 35 #[.val (.int xa), .val (.int xw), .val (.int xp), .val (.int xr), .val (.ref b1), .unset, .unset, .unset, .unset, .unset, .unset, .unset, .unset, .unset, .unset, .unset, .unset, .unset] [(.int xw)])) (fun t_ k_ => XS.iloadN X20.here hx rfl (hb hby at_34) rfl k_) ?_
  refine own_Goes.via (T' := T20) (g' := (mkF m 37 #[.val (.int xa), .val (.int xw), .val (.int xp), .val (.int xr), .val (.ref b1), .unset, .unset, .unset, .unset, .unset, .unset, .unset, .unset, .unset, .unset, .unset, .unset, .unset] [(.int (2147483647 : Int32)), (.int xw)])) (X20.ldcInt hx hown (mvT hZ (hw _ (List.mem_of_getElem? (i := 1) rfl))) (g := (mkF m 35 #[.val (.int xa), .val (.int xw), .val (.int xp), .val (.int xr), .val (.ref b1), .unset, .unset, .unset, .unset, .unset, .unset, .unset, .unset, .unset, .unset, .unset, .unset, .unset] [(.int xw)])) rfl (hb hby at_35)) ?_
  refine own_Goes.via (T' := T20) (g' := (mkF m 38 #[.val (.int xa), .val (.int xw), .val (.int xp), .val (.int xr), .val (.ref b1), .unset, .unset, .unset, .unset, .unset, .unset, .unset, .unset, .unset, .unset, .unset, .unset, .unset] [(.int (xw &&& (2147483647 : Int32)))])) (fun t_ k_ => XS.iand X20.here hx rfl (hb hby at_37) rfl k_) ?_
  refine own_Goes.via (T' := T20) (g' := (mkF m 39 #[.val (.int xa), .val (.int xw), .val (.int xp), .val (.int xr), .val (.ref b1), .unset, .unset, .unset, .unset, .unset, .unset, .unset, .unset, .unset, .unset, .unset, .unset, .unset] [(.int (5 : Int32)), (.int (xw &&& (2147483647 : Int32)))])) (fun t_ k_ => XS.iconst X20.here hx rfl (hb hby at_38) k_) ?_
  have nz39_26 : (5 : Int32) ≠ (0 : Int32) := by decide
  refine own_Goes.via (T' := T20) (g' := (mkF m 40 #[.val (.int xa), .val (.int xw), .val (.int xp), .val (.int xr), .val (.ref b1), .unset, .unset, .unset, .unset, .unset, .unset, .unset, .unset, .unset, .unset, .unset, .unset, .unset] [(.int ((xw &&& (2147483647 : Int32)) % (5 : Int32)))])) (fun t_ k_ => iremM X20 hx rfl (hb hby at_39) rfl nz39_26 k_) ?_
  refine own_Goes.via (T' := T20) (g' := (mkF m 42 #[.val (.int xa), .val (.int xw), .val (.int xp), .val (.int xr), .val (.ref b1), .val (.int ((xw &&& (2147483647 : Int32)) % (5 : Int32))), .unset, .unset, .unset, .unset, .unset, .unset, .unset, .unset, .unset, .unset, .unset, .unset] [])) (fun t_ k_ => XS.istore X20.here hx rfl (hb hby at_40) rfl (l' := #[.val (.int xa), .val (.int xw), .val (.int xp), .val (.int xr), .val (.ref b1), .val (.int ((xw &&& (2147483647 : Int32)) % (5 : Int32))), .unset, .unset, .unset, .unset, .unset, .unset, .unset, .unset, .unset, .unset, .unset, .unset]) rfl k_) ?_
  obtain ⟨v27, hv27⟩ : ∃ z : Int32, z = ((xw &&& (2147483647 : Int32)) % (5 : Int32)) := ⟨_, rfl⟩
  rw [← hv27]
  refine own_Goes.via (T' := T20) (g' := (mkF m 43 #[.val (.int xa), .val (.int xw), .val (.int xp), .val (.int xr), .val (.ref b1), .val (.int v27), .unset, .unset, .unset, .unset, .unset, .unset, .unset, .unset, .unset, .unset, .unset, .unset] [(.int xw)])) (fun t_ k_ => XS.iloadN X20.here hx rfl (hb hby at_42) rfl k_) ?_
  refine own_Goes.via (T' := T20) (g' := (mkF m 45 #[.val (.int xa), .val (.int xw), .val (.int xp), .val (.int xr), .val (.ref b1), .val (.int v27), .unset, .unset, .unset, .unset, .unset, .unset, .unset, .unset, .unset, .unset, .unset, .unset] [(.int (8 : Int32)), (.int xw)])) (fun t_ k_ => XS.bipush X20.here hx rfl (hb hby at_43) k_) ?_
  refine own_Goes.via (T' := T20) (g' := (mkF m 46 #[.val (.int xa), .val (.int xw), .val (.int xp), .val (.int xr), .val (.ref b1), .val (.int v27), .unset, .unset, .unset, .unset, .unset, .unset, .unset, .unset, .unset, .unset, .unset, .unset] [(.int ((xw.toUInt32 >>> ((8 : Int32) &&& 31).toUInt32).toInt32))])) (fun t_ k_ => XS.iushr X20.here hx rfl (hb hby at_45) rfl k_) ?_
  refine own_Goes.via (T' := T20) (g' := (mkF m 48 #[.val (.int xa), .val (.int xw), .val (.int xp), .val (.int xr), .val (.ref b1), .val (.int v27), .unset, .unset, .unset, .unset, .unset, .unset, .unset, .unset, .unset, .unset, .unset, .unset] [(.int (2147483647 : Int32)), (.int ((xw.toUInt32 >>> ((8 : Int32) &&& 31).toUInt32).toInt32))])) (X20.ldcInt hx hown (mvT hZ (hw _ (List.mem_of_getElem? (i := 1) rfl))) (g := (mkF m 46 #[.val (.int xa), .val (.int xw), .val (.int xp), .val (.int xr), .val (.ref b1), .val (.int v27), .unset, .unset, .unset, .unset, .unset, .unset, .unset, .unset, .unset, .unset, .unset, .unset] [(.int ((xw.toUInt32 >>> ((8 : Int32) &&& 31).toUInt32).toInt32))])) rfl (hb hby at_46)) ?_
  refine own_Goes.via (T' := T20) (g' := (mkF m 49 #[.val (.int xa), .val (.int xw), .val (.int xp), .val (.int xr), .val (.ref b1), .val (.int v27), .unset, .unset, .unset, .unset, .unset, .unset, .unset, .unset, .unset, .unset, .unset, .unset] [(.int (((xw.toUInt32 >>> ((8 : Int32) &&& 31).toUInt32).toInt32) &&& (2147483647 : Int32)))])) (fun t_ k_ => XS.iand X20.here hx rfl (hb hby at_48) rfl k_) ?_
  refine own_Goes.via (T' := T20) (g' := (mkF m 50 #[.val (.int xa), .val (.int xw), .val (.int xp), .val (.int xr), .val (.ref b1), .val (.int v27), .unset, .unset, .unset, .unset, .unset, .unset, .unset, .unset, .unset, .unset, .unset, .unset] [(.int (5 : Int32)), (.int (((xw.toUInt32 >>> ((8 : Int32) &&& 31).toUInt32).toInt32) &&& (2147483647 : Int32)))])) (fun t_ k_ => XS.iconst X20.here hx rfl (hb hby at_49) k_) ?_
  refine own_Goes.via (T' := T20) (g' := (mkF m 52 #[.val (.int xa), .val (.int xw), .val (.int xp), .val (.int xr), .val (.ref b1), .val (.int v27), .unset, .unset, .unset, .unset, .unset, .unset, .unset, .unset, .unset, .unset, .unset, .unset] [(.int v27), (.int (5 : Int32)), (.int (((xw.toUInt32 >>> ((8 : Int32) &&& 31).toUInt32).toInt32) &&& (2147483647 : Int32)))])) (fun t_ k_ => XS.iload X20.here hx rfl (hb hby at_50) rfl k_) ?_
  refine own_Goes.via (T' := T20) (g' := (mkF m 53 #[.val (.int xa), .val (.int xw), .val (.int xp), .val (.int xr), .val (.ref b1), .val (.int v27), .unset, .unset, .unset, .unset, .unset, .unset, .unset, .unset, .unset, .unset, .unset, .unset] [(.int ((5 : Int32) - v27)), (.int (((xw.toUInt32 >>> ((8 : Int32) &&& 31).toUInt32).toInt32) &&& (2147483647 : Int32)))])) (fun t_ k_ => XS.isub X20.here hx rfl (hb hby at_52) rfl k_) ?_
  have nz53_28 : ((5 : Int32) - v27) ≠ (0 : Int32) := own_pl0_0 hv27 in7_6 in15_11 in23_16 in31_21 hBb127 nz39_26
  refine own_Goes.via (T' := T20) (g' := (mkF m 54 #[.val (.int xa), .val (.int xw), .val (.int xp), .val (.int xr), .val (.ref b1), .val (.int v27), .unset, .unset, .unset, .unset, .unset, .unset, .unset, .unset, .unset, .unset, .unset, .unset] [(.int ((((xw.toUInt32 >>> ((8 : Int32) &&& 31).toUInt32).toInt32) &&& (2147483647 : Int32)) % ((5 : Int32) - v27)))])) (fun t_ k_ => iremM X20 hx rfl (hb hby at_53) rfl nz53_28 k_) ?_
  refine own_Goes.via (T' := T20) (g' := (mkF m 56 #[.val (.int xa), .val (.int xw), .val (.int xp), .val (.int xr), .val (.ref b1), .val (.int v27), .val (.int ((((xw.toUInt32 >>> ((8 : Int32) &&& 31).toUInt32).toInt32) &&& (2147483647 : Int32)) % ((5 : Int32) - v27))), .unset, .unset, .unset, .unset, .unset, .unset, .unset, .unset, .unset, .unset, .unset] [])) (fun t_ k_ => XS.istore X20.here hx rfl (hb hby at_54) rfl (l' := #[.val (.int xa), .val (.int xw), .val (.int xp), .val (.int xr), .val (.ref b1), .val (.int v27), .val (.int ((((xw.toUInt32 >>> ((8 : Int32) &&& 31).toUInt32).toInt32) &&& (2147483647 : Int32)) % ((5 : Int32) - v27))), .unset, .unset, .unset, .unset, .unset, .unset, .unset, .unset, .unset, .unset, .unset]) rfl k_) ?_
  obtain ⟨v29, hv29⟩ : ∃ z : Int32, z = ((((xw.toUInt32 >>> ((8 : Int32) &&& 31).toUInt32).toInt32) &&& (2147483647 : Int32)) % ((5 : Int32) - v27)) := ⟨_, rfl⟩
  rw [← hv29]
  refine own_Goes.via (T' := T20) (g' := (mkF m 57 #[.val (.int xa), .val (.int xw), .val (.int xp), .val (.int xr), .val (.ref b1), .val (.int v27), .val (.int v29), .unset, .unset, .unset, .unset, .unset, .unset, .unset, .unset, .unset, .unset, .unset] [(.int (3 : Int32))])) (fun t_ k_ => XS.iconst X20.here hx rfl (hb hby at_56) k_) ?_
  obtain ⟨T30, h30, k30, X30, e30, E30, A30, Ea30, st30⟩ := newPE X20 hx hZ (hw _ (List.mem_of_getElem? (i := 0) rfl)) e20 (g := (mkF m 57 #[.val (.int xa), .val (.int xw), .val (.int xp), .val (.int xr), .val (.ref b1), .val (.int v27), .val (.int v29), .unset, .unset, .unset, .unset, .unset, .unset, .unset, .unset, .unset, .unset, .unset] [(.int (3 : Int32))])) rfl (hb hby at_57) rfl (by decide) (cap := 3) (by decide) (by decide) (by decide) (by decide) (ad := "[B") (by decide)
  obtain ⟨b30, g30⟩ : ∃ z, z = h20.size := ⟨_, rfl⟩
  rw [← g30] at A30 Ea30 st30
  have ne_b1_b30 : b1 ≠ b30 := Nat.ne_of_lt (Nat.lt_of_lt_of_le E22.lt (Nat.le_of_eq g30.symm))
  have E31 : Exa Z h30 b1 "[B" := E22.ext E30
  have O32 : Old Z n0 h30 := O23.ext E30
  have G33 : own_Gi Z h30 b1 .byte (4 : Int32) Bb := G25.ext E30
  have ge_b30 : n0 ≤ b30 := Nat.le_trans sz20 (Nat.le_of_eq g30.symm)
  have sz_b30 : h0.size ≤ b30 := Nat.le_trans (K20).1 (Nat.le_of_eq g30.symm)
  have sz30 : n0 ≤ h30.size := Nat.le_trans sz20 E30.1
  have hk := Nat.le_trans hk E30.1
  have K30 : Keep h0 h30 [] := (K20).ext E30
  have E34 : Exa Z h30 b30 "[B" := Ea30
  have V35 : Arv Z h30 b30 k30 .byte (3 : Int32) [(.int (0 : Int32)), (.int (0 : Int32)), (.int (0 : Int32))] (.int (0 : Int32)) := (Arv.new A30 (by decide)).pad (pad_rep [] (.int (0 : Int32)) 3)
  refine own_Goes.via (T' := T30) (g' := (mkF m 59 #[.val (.int xa), .val (.int xw), .val (.int xp), .val (.int xr), .val (.ref b1), .val (.int v27), .val (.int v29), .unset, .unset, .unset, .unset, .unset, .unset, .unset, .unset, .unset, .unset, .unset] [(.ref b30)])) (st30) ?_
  refine own_Goes.via (T' := T30) (g' := (mkF m 60 #[.val (.int xa), .val (.int xw), .val (.int xp), .val (.int xr), .val (.ref b1), .val (.int v27), .val (.int v29), .unset, .unset, .unset, .unset, .unset, .unset, .unset, .unset, .unset, .unset, .unset] [(.ref b30), (.ref b30)])) (fun t_ k_ => XS.dup X30.here hx rfl (hb hby at_59) rfl rfl k_) ?_
  refine own_Goes.via (T' := T30) (g' := (mkF m 61 #[.val (.int xa), .val (.int xw), .val (.int xp), .val (.int xr), .val (.ref b1), .val (.int v27), .val (.int v29), .unset, .unset, .unset, .unset, .unset, .unset, .unset, .unset, .unset, .unset, .unset] [(.int (0 : Int32)), (.ref b30), (.ref b30)])) (fun t_ k_ => XS.iconst X30.here hx rfl (hb hby at_60) k_) ?_
  refine own_Goes.via (T' := T30) (g' := (mkF m 62 #[.val (.int xa), .val (.int xw), .val (.int xp), .val (.int xr), .val (.ref b1), .val (.int v27), .val (.int v29), .unset, .unset, .unset, .unset, .unset, .unset, .unset, .unset, .unset, .unset, .unset] [(.int xp), (.int (0 : Int32)), (.ref b30), (.ref b30)])) (fun t_ k_ => XS.iloadN X30.here hx rfl (hb hby at_61) rfl k_) ?_
  refine own_Goes.via (T' := T30) (g' := (mkF m 64 #[.val (.int xa), .val (.int xw), .val (.int xp), .val (.int xr), .val (.ref b1), .val (.int v27), .val (.int v29), .unset, .unset, .unset, .unset, .unset, .unset, .unset, .unset, .unset, .unset, .unset] [(.int (127 : Int32)), (.int xp), (.int (0 : Int32)), (.ref b30), (.ref b30)])) (fun t_ k_ => XS.bipush X30.here hx rfl (hb hby at_62) k_) ?_
  refine own_Goes.via (T' := T30) (g' := (mkF m 65 #[.val (.int xa), .val (.int xw), .val (.int xp), .val (.int xr), .val (.ref b1), .val (.int v27), .val (.int v29), .unset, .unset, .unset, .unset, .unset, .unset, .unset, .unset, .unset, .unset, .unset] [(.int (xp &&& (127 : Int32))), (.int (0 : Int32)), (.ref b30), (.ref b30)])) (fun t_ k_ => XS.iand X30.here hx rfl (hb hby at_64) rfl k_) ?_
  refine own_Goes.via (T' := T30) (g' := (mkF m 66 #[.val (.int xa), .val (.int xw), .val (.int xp), .val (.int xr), .val (.ref b1), .val (.int v27), .val (.int v29), .unset, .unset, .unset, .unset, .unset, .unset, .unset, .unset, .unset, .unset, .unset] [(.int ((xp &&& (127 : Int32)).toInt8.toInt32)), (.int (0 : Int32)), (.ref b30), (.ref b30)])) (fun t_ k_ => XS.i2b X30.here hx rfl (hb hby at_65) rfl k_) ?_
  obtain ⟨cl36, Ar36, q36, Sl36, Ng36, H36, G36⟩ := id V35
  have in66_37 : ¬ (0 : Int32) < 0 ∧ (0 : Int32) < (3 : Int32) := by first | assumption | decide
  obtain ⟨T36, h36, X36, e36, W36, st36⟩ := stB X30 hx hZ e30 Ar36 (j := (0 : Int32)) (inb_of Sl36 in66_37) (g := (mkF m 66 #[.val (.int xa), .val (.int xw), .val (.int xp), .val (.int xr), .val (.ref b1), .val (.int v27), .val (.int v29), .unset, .unset, .unset, .unset, .unset, .unset, .unset, .unset, .unset, .unset, .unset] [(.int ((xp &&& (127 : Int32)).toInt8.toInt32)), (.int (0 : Int32)), (.ref b30), (.ref b30)])) rfl rfl (hb hby at_66)
  have E38 : Exa Z h36 b1 "[B" := E31.wr W36
  have E39 : Exa Z h36 b30 "[B" := E34.wr W36
  have O40 : Old Z n0 h36 := O32.wr W36 ge_b30
  have G41 : own_Gi Z h36 b1 .byte (4 : Int32) Bb := G33.other W36 ne_b1_b30
  have V42 : Arv Z h36 b30 k30 .byte (3 : Int32) [(.int (nar .byte ((xp &&& (127 : Int32)).toInt8.toInt32))), (.int (0 : Int32)), (.int (0 : Int32))] (.int (0 : Int32)) := Arv.set Ar36 q36 Sl36 Ng36 H36 G36 (fits_nar_byte _) W36 0 rfl (Nat.le_of_ble_eq_true rfl)
  have N36 := Fr.snoc X36 N20 ge_b30
  have sz36 : n0 ≤ h36.size := Nat.le_trans sz30 (Keep.of_wr W36).1
  have hk := Nat.le_trans hk (Keep.of_wr W36).1
  have K36 : Keep h0 h36 [] := (K30).wr W36 (Or.inr sz_b30)
  refine own_Goes.via (T' := T36) (g' := (mkF m 67 #[.val (.int xa), .val (.int xw), .val (.int xp), .val (.int xr), .val (.ref b1), .val (.int v27), .val (.int v29), .unset, .unset, .unset, .unset, .unset, .unset, .unset, .unset, .unset, .unset, .unset] [(.ref b30)])) (st36) ?_
  refine own_Goes.via (T' := T36) (g' := (mkF m 68 #[.val (.int xa), .val (.int xw), .val (.int xp), .val (.int xr), .val (.ref b1), .val (.int v27), .val (.int v29), .unset, .unset, .unset, .unset, .unset, .unset, .unset, .unset, .unset, .unset, .unset] [(.ref b30), (.ref b30)])) (fun t_ k_ => XS.dup X36.here hx rfl (hb hby at_67) rfl rfl k_) ?_
  refine own_Goes.via (T' := T36) (g' := (mkF m 69 #[.val (.int xa), .val (.int xw), .val (.int xp), .val (.int xr), .val (.ref b1), .val (.int v27), .val (.int v29), .unset, .unset, .unset, .unset, .unset, .unset, .unset, .unset, .unset, .unset, .unset] [(.int (1 : Int32)), (.ref b30), (.ref b30)])) (fun t_ k_ => XS.iconst X36.here hx rfl (hb hby at_68) k_) ?_
  refine own_Goes.via (T' := T36) (g' := (mkF m 70 #[.val (.int xa), .val (.int xw), .val (.int xp), .val (.int xr), .val (.ref b1), .val (.int v27), .val (.int v29), .unset, .unset, .unset, .unset, .unset, .unset, .unset, .unset, .unset, .unset, .unset] [(.int xp), (.int (1 : Int32)), (.ref b30), (.ref b30)])) (fun t_ k_ => XS.iloadN X36.here hx rfl (hb hby at_69) rfl k_) ?_
  refine own_Goes.via (T' := T36) (g' := (mkF m 72 #[.val (.int xa), .val (.int xw), .val (.int xp), .val (.int xr), .val (.ref b1), .val (.int v27), .val (.int v29), .unset, .unset, .unset, .unset, .unset, .unset, .unset, .unset, .unset, .unset, .unset] [(.int (8 : Int32)), (.int xp), (.int (1 : Int32)), (.ref b30), (.ref b30)])) (fun t_ k_ => XS.bipush X36.here hx rfl (hb hby at_70) k_) ?_
  refine own_Goes.via (T' := T36) (g' := (mkF m 73 #[.val (.int xa), .val (.int xw), .val (.int xp), .val (.int xr), .val (.ref b1), .val (.int v27), .val (.int v29), .unset, .unset, .unset, .unset, .unset, .unset, .unset, .unset, .unset, .unset, .unset] [(.int (xp >>> ((8 : Int32) &&& 31))), (.int (1 : Int32)), (.ref b30), (.ref b30)])) (fun t_ k_ => XS.ishr X36.here hx rfl (hb hby at_72) rfl k_) ?_
  refine own_Goes.via (T' := T36) (g' := (mkF m 75 #[.val (.int xa), .val (.int xw), .val (.int xp), .val (.int xr), .val (.ref b1), .val (.int v27), .val (.int v29), .unset, .unset, .unset, .unset, .unset, .unset, .unset, .unset, .unset, .unset, .unset] [(.int (127 : Int32)), (.int (xp >>> ((8 : Int32) &&& 31))), (.int (1 : Int32)), (.ref b30), (.ref b30)])) (fun t_ k_ => XS.bipush X36.here hx rfl (hb hby at_73) k_) ?_
  refine own_Goes.via (T' := T36) (g' := (mkF m 76 #[.val (.int xa), .val (.int xw), .val (.int xp), .val (.int xr), .val (.ref b1), .val (.int v27), .val (.int v29), .unset, .unset, .unset, .unset, .unset, .unset, .unset, .unset, .unset, .unset, .unset] [(.int ((xp >>> ((8 : Int32) &&& 31)) &&& (127 : Int32))), (.int (1 : Int32)), (.ref b30), (.ref b30)])) (fun t_ k_ => XS.iand X36.here hx rfl (hb hby at_75) rfl k_) ?_
  refine own_Goes.via (T' := T36) (g' := (mkF m 77 #[.val (.int xa), .val (.int xw), .val (.int xp), .val (.int xr), .val (.ref b1), .val (.int v27), .val (.int v29), .unset, .unset, .unset, .unset, .unset, .unset, .unset, .unset, .unset, .unset, .unset] [(.int (((xp >>> ((8 : Int32) &&& 31)) &&& (127 : Int32)).toInt8.toInt32)), (.int (1 : Int32)), (.ref b30), (.ref b30)])) (fun t_ k_ => XS.i2b X36.here hx rfl (hb hby at_76) rfl k_) ?_
  obtain ⟨cl43, Ar43, q43, Sl43, Ng43, H43, G43⟩ := id V42
  have in77_44 : ¬ (1 : Int32) < 0 ∧ (1 : Int32) < (3 : Int32) := by first | assumption | decide
  obtain ⟨T43, h43, X43, e43, W43, st43⟩ := stB X36 hx hZ e36 Ar43 (j := (1 : Int32)) (inb_of Sl43 in77_44) (g := (mkF m 77 #[.val (.int xa), .val (.int xw), .val (.int xp), .val (.int xr), .val (.ref b1), .val (.int v27), .val (.int v29), .unset, .unset, .unset, .unset, .unset, .unset, .unset, .unset, .unset, .unset, .unset] [(.int (((xp >>> ((8 : Int32) &&& 31)) &&& (127 : Int32)).toInt8.toInt32)), (.int (1 : Int32)), (.ref b30), (.ref b30)])) rfl rfl (hb hby at_77)
  have E45 : Exa Z h43 b1 "[B" := E38.wr W43
  have E46 : Exa Z h43 b30 "[B" := E39.wr W43
  have O47 : Old Z n0 h43 := O40.wr W43 ge_b30
  have G48 : own_Gi Z h43 b1 .byte (4 : Int32) Bb := G41.other W43 ne_b1_b30
  have V49 : Arv Z h43 b30 k30 .byte (3 : Int32) [(.int (nar .byte ((xp &&& (127 : Int32)).toInt8.toInt32))), (.int (nar .byte (((xp >>> ((8 : Int32) &&& 31)) &&& (127 : Int32)).toInt8.toInt32))), (.int (0 : Int32))] (.int (0 : Int32)) := Arv.set Ar43 q43 Sl43 Ng43 H43 G43 (fits_nar_byte _) W43 1 rfl (Nat.le_of_ble_eq_true rfl)
  have N43 := Fr.snoc X43 N36 ge_b30
  have sz43 : n0 ≤ h43.size := Nat.le_trans sz36 (Keep.of_wr W43).1
  have hk := Nat.le_trans hk (Keep.of_wr W43).1
  have K43 : Keep h0 h43 [] := (K36).wr W43 (Or.inr sz_b30)
  refine own_Goes.via (T' := T43) (g' := (mkF m 78 #[.val (.int xa), .val (.int xw), .val (.int xp), .val (.int xr), .val (.ref b1), .val (.int v27), .val (.int v29), .unset, .unset, .unset, .unset, .unset, .unset, .unset, .unset, .unset, .unset, .unset] [(.ref b30)])) (st43) ?_
  refine own_Goes.via (T' := T43) (g' := (mkF m 79 #[.val (.int xa), .val (.int xw), .val (.int xp), .val (.int xr), .val (.ref b1), .val (.int v27), .val (.int v29), .unset, .unset, .unset, .unset, .unset, .unset, .unset, .unset, .unset, .unset, .unset] [(.ref b30), (.ref b30)])) (fun t_ k_ => XS.dup X43.here hx rfl (hb hby at_78) rfl rfl k_) ?_
  refine own_Goes.via (T' := T43) (g' := (mkF m 80 #[.val (.int xa), .val (.int xw), .val (.int xp), .val (.int xr), .val (.ref b1), .val (.int v27), .val (.int v29), .unset, .unset, .unset, .unset, .unset, .unset, .unset, .unset, .unset, .unset, .unset] [(.int (2 : Int32)), (.ref b30), (.ref b30)])) (fun t_ k_ => XS.iconst X43.here hx rfl (hb hby at_79) k_) ?_
  refine own_Goes.via (T' := T43) (g' := (mkF m 81 #[.val (.int xa), .val (.int xw), .val (.int xp), .val (.int xr), .val (.ref b1), .val (.int v27), .val (.int v29), .unset, .unset, .unset, .unset, .unset, .unset, .unset, .unset, .unset, .unset, .unset] [(.int xp), (.int (2 : Int32)), (.ref b30), (.ref b30)])) (fun t_ k_ => XS.iloadN X43.here hx rfl (hb hby at_80) rfl k_) ?_
  refine own_Goes.via (T' := T43) (g' := (mkF m 83 #[.val (.int xa), .val (.int xw), .val (.int xp), .val (.int xr), .val (.ref b1), .val (.int v27), .val (.int v29), .unset, .unset, .unset, .unset, .unset, .unset, .unset, .unset, .unset, .unset, .unset] [(.int (16 : Int32)), (.int xp), (.int (2 : Int32)), (.ref b30), (.ref b30)])) (fun t_ k_ => XS.bipush X43.here hx rfl (hb hby at_81) k_) ?_
  refine own_Goes.via (T' := T43) (g' := (mkF m 84 #[.val (.int xa), .val (.int xw), .val (.int xp), .val (.int xr), .val (.ref b1), .val (.int v27), .val (.int v29), .unset, .unset, .unset, .unset, .unset, .unset, .unset, .unset, .unset, .unset, .unset] [(.int (xp >>> ((16 : Int32) &&& 31))), (.int (2 : Int32)), (.ref b30), (.ref b30)])) (fun t_ k_ => XS.ishr X43.here hx rfl (hb hby at_83) rfl k_) ?_
  refine own_Goes.via (T' := T43) (g' := (mkF m 86 #[.val (.int xa), .val (.int xw), .val (.int xp), .val (.int xr), .val (.ref b1), .val (.int v27), .val (.int v29), .unset, .unset, .unset, .unset, .unset, .unset, .unset, .unset, .unset, .unset, .unset] [(.int (127 : Int32)), (.int (xp >>> ((16 : Int32) &&& 31))), (.int (2 : Int32)), (.ref b30), (.ref b30)])) (fun t_ k_ => XS.bipush X43.here hx rfl (hb hby at_84) k_) ?_
  refine own_Goes.via (T' := T43) (g' := (mkF m 87 #[.val (.int xa), .val (.int xw), .val (.int xp), .val (.int xr), .val (.ref b1), .val (.int v27), .val (.int v29), .unset, .unset, .unset, .unset, .unset, .unset, .unset, .unset, .unset, .unset, .unset] [(.int ((xp >>> ((16 : Int32) &&& 31)) &&& (127 : Int32))), (.int (2 : Int32)), (.ref b30), (.ref b30)])) (fun t_ k_ => XS.iand X43.here hx rfl (hb hby at_86) rfl k_) ?_
  refine own_Goes.via (T' := T43) (g' := (mkF m 88 #[.val (.int xa), .val (.int xw), .val (.int xp), .val (.int xr), .val (.ref b1), .val (.int v27), .val (.int v29), .unset, .unset, .unset, .unset, .unset, .unset, .unset, .unset, .unset, .unset, .unset] [(.int (((xp >>> ((16 : Int32) &&& 31)) &&& (127 : Int32)).toInt8.toInt32)), (.int (2 : Int32)), (.ref b30), (.ref b30)])) (fun t_ k_ => XS.i2b X43.here hx rfl (hb hby at_87) rfl k_) ?_
  obtain ⟨cl50, Ar50, q50, Sl50, Ng50, H50, G50⟩ := id V49
  have in88_51 : ¬ (2 : Int32) < 0 ∧ (2 : Int32) < (3 : Int32) := by first | assumption | decide
  obtain ⟨T50, h50, X50, e50, W50, st50⟩ := stB X43 hx hZ e43 Ar50 (j := (2 : Int32)) (inb_of Sl50 in88_51) (g := (mkF m 88 #[.val (.int xa), .val (.int xw), .val (.int xp), .val (.int xr), .val (.ref b1), .val (.int v27), .val (.int v29), .unset, .unset, .unset, .unset, .unset, .unset, .unset, .unset, .unset, .unset, .unset] [(.int (((xp >>> ((16 : Int32) &&& 31)) &&& (127 : Int32)).toInt8.toInt32)), (.int (2 : Int32)), (.ref b30), (.ref b30)])) rfl rfl (hb hby at_88)
  have E52 : Exa Z h50 b1 "[B" := E45.wr W50
  have E53 : Exa Z h50 b30 "[B" := E46.wr W50
  have O54 : Old Z n0 h50 := O47.wr W50 ge_b30
  have G55 : own_Gi Z h50 b1 .byte (4 : Int32) Bb := G48.other W50 ne_b1_b30
  have V56 : Arv Z h50 b30 k30 .byte (3 : Int32) [(.int (nar .byte ((xp &&& (127 : Int32)).toInt8.toInt32))), (.int (nar .byte (((xp >>> ((8 : Int32) &&& 31)) &&& (127 : Int32)).toInt8.toInt32))), (.int (nar .byte (((xp >>> ((16 : Int32) &&& 31)) &&& (127 : Int32)).toInt8.toInt32)))] (.int (0 : Int32)) := Arv.set Ar50 q50 Sl50 Ng50 H50 G50 (fits_nar_byte _) W50 2 rfl (Nat.le_of_ble_eq_true rfl)
  have N50 := Fr.snoc X50 N43 ge_b30
  have sz50 : n0 ≤ h50.size := Nat.le_trans sz43 (Keep.of_wr W50).1
  have hk := Nat.le_trans hk (Keep.of_wr W50).1
  have K50 : Keep h0 h50 [] := (K43).wr W50 (Or.inr sz_b30)
  refine own_Goes.via (T' := T50) (g' := (mkF m 89 #[.val (.int xa), .val (.int xw), .val (.int xp), .val (.int xr), .val (.ref b1), .val (.int v27), .val (.int v29), .unset, .unset, .unset, .unset, .unset, .unset, .unset, .unset, .unset, .unset, .unset] [(.ref b30)])) (st50) ?_
  refine own_Goes.via (T' := T50) (g' := (mkF m 91 #[.val (.int xa), .val (.int xw), .val (.int xp), .val (.int xr), .val (.ref b1), .val (.int v27), .val (.int v29), .val (.ref b30), .unset, .unset, .unset, .unset, .unset, .unset, .unset, .unset, .unset, .unset] [])) (fun t_ k_ => XS.astore X50.here hx rfl (hb hby at_89) rfl rfl (l' := #[.val (.int xa), .val (.int xw), .val (.int xp), .val (.int xr), .val (.ref b1), .val (.int v27), .val (.int v29), .val (.ref b30), .unset, .unset, .unset, .unset, .unset, .unset, .unset, .unset, .unset, .unset]) rfl k_) ?_
  obtain ⟨Bp, hBp⟩ : ∃ z : Nat → Int32, z = own_l3 (nar .byte ((xp &&& (127 : Int32)).toInt8.toInt32)) (nar .byte (((xp >>> ((8 : Int32) &&& 31)) &&& (127 : Int32)).toInt8.toInt32)) (nar .byte (((xp >>> ((16 : Int32) &&& 31)) &&& (127 : Int32)).toInt8.toInt32)) := ⟨_, rfl⟩
  have G57 : own_Gi Z h50 b30 .byte (3 : Int32) Bp := (by rw [hBp]; exact own_Gi.of V56 (own_l3_ok _ _ _ _))
  have hBp127 : ∀ i, (Bp i).toInt ≤ 127 := by intro i; rw [hBp]; unfold own_l3; (repeat' split) <;> exact (own_byte _).2
  have hBp0 : ∀ i, 0 ≤ (Bp i).toInt := by intro i; rw [hBp]; unfold own_l3; (repeat' split) <;> exact own_n127 _
  refine own_Goes.via (T' := T50) (g' := (mkF m 92 #[.val (.int xa), .val (.int xw), .val (.int xp), .val (.int xr), .val (.ref b1), .val (.int v27), .val (.int v29), .val (.ref b30), .unset, .unset, .unset, .unset, .unset, .unset, .unset, .unset, .unset, .unset] [(.int xr)])) (fun t_ k_ => XS.iloadN X50.here hx rfl (hb hby at_91) rfl k_) ?_
  refine own_Goes.via (T' := T50) (g' := (mkF m 94 #[.val (.int xa), .val (.int xw), .val (.int xp), .val (.int xr), .val (.ref b1), .val (.int v27), .val (.int v29), .val (.ref b30), .unset, .unset, .unset, .unset, .unset, .unset, .unset, .unset, .unset, .unset] [(.int (2147483647 : Int32)), (.int xr)])) (X50.ldcInt hx hown (mvT hZ (hw _ (List.mem_of_getElem? (i := 1) rfl))) (g := (mkF m 92 #[.val (.int xa), .val (.int xw), .val (.int xp), .val (.int xr), .val (.ref b1), .val (.int v27), .val (.int v29), .val (.ref b30), .unset, .unset, .unset, .unset, .unset, .unset, .unset, .unset, .unset, .unset] [(.int xr)])) rfl (hb hby at_92)) ?_
  refine own_Goes.via (T' := T50) (g' := (mkF m 95 #[.val (.int xa), .val (.int xw), .val (.int xp), .val (.int xr), .val (.ref b1), .val (.int v27), .val (.int v29), .val (.ref b30), .unset, .unset, .unset, .unset, .unset, .unset, .unset, .unset, .unset, .unset] [(.int (xr &&& (2147483647 : Int32)))])) (fun t_ k_ => XS.iand X50.here hx rfl (hb hby at_94) rfl k_) ?_
  refine own_Goes.via (T' := T50) (g' := (mkF m 96 #[.val (.int xa), .val (.int xw), .val (.int xp), .val (.int xr), .val (.ref b1), .val (.int v27), .val (.int v29), .val (.ref b30), .unset, .unset, .unset, .unset, .unset, .unset, .unset, .unset, .unset, .unset] [(.int (4 : Int32)), (.int (xr &&& (2147483647 : Int32)))])) (fun t_ k_ => XS.iconst X50.here hx rfl (hb hby at_95) k_) ?_
  have nz96_58 : (4 : Int32) ≠ (0 : Int32) := by decide
  refine own_Goes.via (T' := T50) (g' := (mkF m 97 #[.val (.int xa), .val (.int xw), .val (.int xp), .val (.int xr), .val (.ref b1), .val (.int v27), .val (.int v29), .val (.ref b30), .unset, .unset, .unset, .unset, .unset, .unset, .unset, .unset, .unset, .unset] [(.int ((xr &&& (2147483647 : Int32)) % (4 : Int32)))])) (fun t_ k_ => iremM X50 hx rfl (hb hby at_96) rfl nz96_58 k_) ?_
  refine own_Goes.via (T' := T50) (g' := (mkF m 99 #[.val (.int xa), .val (.int xw), .val (.int xp), .val (.int xr), .val (.ref b1), .val (.int v27), .val (.int v29), .val (.ref b30), .val (.int ((xr &&& (2147483647 : Int32)) % (4 : Int32))), .unset, .unset, .unset, .unset, .unset, .unset, .unset, .unset, .unset] [])) (fun t_ k_ => XS.istore X50.here hx rfl (hb hby at_97) rfl (l' := #[.val (.int xa), .val (.int xw), .val (.int xp), .val (.int xr), .val (.ref b1), .val (.int v27), .val (.int v29), .val (.ref b30), .val (.int ((xr &&& (2147483647 : Int32)) % (4 : Int32))), .unset, .unset, .unset, .unset, .unset, .unset, .unset, .unset, .unset]) rfl k_) ?_
  obtain ⟨v59, hv59⟩ : ∃ z : Int32, z = ((xr &&& (2147483647 : Int32)) % (4 : Int32)) := ⟨_, rfl⟩
  rw [← hv59]
  refine own_Goes.via (T' := T50) (g' := (mkF m 100 #[.val (.int xa), .val (.int xw), .val (.int xp), .val (.int xr), .val (.ref b1), .val (.int v27), .val (.int v29), .val (.ref b30), .val (.int v59), .unset, .unset, .unset, .unset, .unset, .unset, .unset, .unset, .unset] [(.int xr)])) (fun t_ k_ => XS.iloadN X50.here hx rfl (hb hby at_99) rfl k_) ?_
  refine own_Goes.via (T' := T50) (g' := (mkF m 102 #[.val (.int xa), .val (.int xw), .val (.int xp), .val (.int xr), .val (.ref b1), .val (.int v27), .val (.int v29), .val (.ref b30), .val (.int v59), .unset, .unset, .unset, .unset, .unset, .unset, .unset, .unset, .unset] [(.int (8 : Int32)), (.int xr)])) (fun t_ k_ => XS.bipush X50.here hx rfl (hb hby at_100) k_) ?_
  refine own_Goes.via (T' := T50) (g' := (mkF m 103 #[.val (.int xa), .val (.int xw), .val (.int xp), .val (.int xr), .val (.ref b1), .val (.int v27), .val (.int v29), .val (.ref b30), .val (.int v59), .unset, .unset, .unset, .unset, .unset, .unset, .unset, .unset, .unset] [(.int ((xr.toUInt32 >>> ((8 : Int32) &&& 31).toUInt32).toInt32))])) (fun t_ k_ => XS.iushr X50.here hx rfl (hb hby at_102) rfl k_) ?_
  refine own_Goes.via (T' := T50) (g' := (mkF m 105 #[.val (.int xa), .val (.int xw), .val (.int xp), .val (.int xr), .val (.ref b1), .val (.int v27), .val (.int v29), .val (.ref b30), .val (.int v59), .unset, .unset, .unset, .unset, .unset, .unset, .unset, .unset, .unset] [(.int (2147483647 : Int32)), (.int ((xr.toUInt32 >>> ((8 : Int32) &&& 31).toUInt32).toInt32))])) (X50.ldcInt hx hown (mvT hZ (hw _ (List.mem_of_getElem? (i := 1) rfl))) (g := (mkF m 103 #[.val (.int xa), .val (.int xw), .val (.int xp), .val (.int xr), .val (.ref b1), .val (.int v27), .val (.int v29), .val (.ref b30), .val (.int v59), .unset, .unset, .unset, .unset, .unset, .unset, .unset, .unset, .unset] [(.int ((xr.toUInt32 >>> ((8 : Int32) &&& 31).toUInt32).toInt32))])) rfl (hb hby at_103)) ?_
  refine own_Goes.via (T' := T50) (g' := (mkF m 106 #[.val (.int xa), .val (.int xw), .val (.int xp), .val (.int xr), .val (.ref b1), .val (.int v27), .val (.int v29), .val (.ref b30), .val (.int v59), .unset, .unset, .unset, .unset, .unset, .unset, .unset, .unset, .unset] [(.int (((xr.toUInt32 >>> ((8 : Int32) &&& 31).toUInt32).toInt32) &&& (2147483647 : Int32)))])) (fun t_ k_ => XS.iand X50.here hx rfl (hb hby at_105) rfl k_) ?_
  refine own_Goes.via (T' := T50) (g' := (mkF m 107 #[.val (.int xa), .val (.int xw), .val (.int xp), .val (.int xr), .val (.ref b1), .val (.int v27), .val (.int v29), .val (.ref b30), .val (.int v59), .unset, .unset, .unset, .unset, .unset, .unset, .unset, .unset, .unset] [(.int (4 : Int32)), (.int (((xr.toUInt32 >>> ((8 : Int32) &&& 31).toUInt32).toInt32) &&& (2147483647 : Int32)))])) (fun t_ k_ => XS.iconst X50.here hx rfl (hb hby at_106) k_) ?_
  refine own_Goes.via (T' := T50) (g' := (mkF m 109 #[.val (.int xa), .val (.int xw), .val (.int xp), .val (.int xr), .val (.ref b1), .val (.int v27), .val (.int v29), .val (.ref b30), .val (.int v59), .unset, .unset, .unset, .unset, .unset, .unset, .unset, .unset, .unset] [(.int v59), (.int (4 : Int32)), (.int (((xr.toUInt32 >>> ((8 : Int32) &&& 31).toUInt32).toInt32) &&& (2147483647 : Int32)))])) (fun t_ k_ => XS.iload X50.here hx rfl (hb hby at_107) rfl k_) ?_
  refine own_Goes.via (T' := T50) (g' := (mkF m 110 #[.val (.int xa), .val (.int xw), .val (.int xp), .val (.int xr), .val (.ref b1), .val (.int v27), .val (.int v29), .val (.ref b30), .val (.int v59), .unset, .unset, .unset, .unset, .unset, .unset, .unset, .unset, .unset] [(.int ((4 : Int32) - v59)), (.int (((xr.toUInt32 >>> ((8 : Int32) &&& 31).toUInt32).toInt32) &&& (2147483647 : Int32)))])) (fun t_ k_ => XS.isub X50.here hx rfl (hb hby at_109) rfl k_) ?_
  have nz110_60 : ((4 : Int32) - v59) ≠ (0 : Int32) := own_pl0_1 hv27 hv29 hv59 in7_6 in15_11 in23_16 in31_21 hBb127 nz39_26 nz53_28 in66_37 in77_44 in88_51 hBp127 hBp0 nz96_58
  refine own_Goes.via (T' := T50) (g' := (mkF m 111 #[.val (.int xa), .val (.int xw), .val (.int xp), .val (.int xr), .val (.ref b1), .val (.int v27), .val (.int v29), .val (.ref b30), .val (.int v59), .unset, .unset, .unset, .unset, .unset, .unset, .unset, .unset, .unset] [(.int ((((xr.toUInt32 >>> ((8 : Int32) &&& 31).toUInt32).toInt32) &&& (2147483647 : Int32)) % ((4 : Int32) - v59)))])) (fun t_ k_ => iremM X50 hx rfl (hb hby at_110) rfl nz110_60 k_) ?_
  refine own_Goes.via (T' := T50) (g' := (mkF m 113 #[.val (.int xa), .val (.int xw), .val (.int xp), .val (.int xr), .val (.ref b1), .val (.int v27), .val (.int v29), .val (.ref b30), .val (.int v59), .val (.int ((((xr.toUInt32 >>> ((8 : Int32) &&& 31).toUInt32).toInt32) &&& (2147483647 : Int32)) % ((4 : Int32) - v59))), .unset, .unset, .unset, .unset, .unset, .unset, .unset, .unset] [])) (fun t_ k_ => XS.istore X50.here hx rfl (hb hby at_111) rfl (l' := #[.val (.int xa), .val (.int xw), .val (.int xp), .val (.int xr), .val (.ref b1), .val (.int v27), .val (.int v29), .val (.ref b30), .val (.int v59), .val (.int ((((xr.toUInt32 >>> ((8 : Int32) &&& 31).toUInt32).toInt32) &&& (2147483647 : Int32)) % ((4 : Int32) - v59))), .unset, .unset, .unset, .unset, .unset, .unset, .unset, .unset]) rfl k_) ?_
  obtain ⟨v61, hv61⟩ : ∃ z : Int32, z = ((((xr.toUInt32 >>> ((8 : Int32) &&& 31).toUInt32).toInt32) &&& (2147483647 : Int32)) % ((4 : Int32) - v59)) := ⟨_, rfl⟩
  rw [← hv61]
  have HW : own_win v27 v29 (4 : Int32) := own_pl0_2 hv27 hv29 hv59 hv61 in7_6 in15_11 in23_16 in31_21 hBb127 nz39_26 nz53_28 in66_37 in77_44 in88_51 hBp127 hBp0 nz96_58 nz110_60
  have HV : own_win v59 v61 (3 : Int32) := own_pl0_3 hv27 hv29 hv59 hv61 in7_6 in15_11 in23_16 in31_21 hBb127 nz39_26 nz53_28 in66_37 in77_44 in88_51 hBp127 hBp0 nz96_58 nz110_60 HW
  have HP : own_nn Bp v59 v61 := own_pl0_4 hv27 hv29 hv59 hv61 in7_6 in15_11 in23_16 in31_21 hBb127 nz39_26 nz53_28 in66_37 in77_44 in88_51 hBp127 hBp0 nz96_58 nz110_60 HW HV
  refine own_Goes.via (T' := T50) (g' := (mkF m 115 #[.val (.int xa), .val (.int xw), .val (.int xp), .val (.int xr), .val (.ref b1), .val (.int v27), .val (.int v29), .val (.ref b30), .val (.int v59), .val (.int v61), .unset, .unset, .unset, .unset, .unset, .unset, .unset, .unset] [(.ref b1)])) (fun t_ k_ => XS.aload X50.here hx rfl (hb hby at_113) rfl rfl k_) ?_
  refine own_Goes.via (T' := T50) (g' := (mkF m 117 #[.val (.int xa), .val (.int xw), .val (.int xp), .val (.int xr), .val (.ref b1), .val (.int v27), .val (.int v29), .val (.ref b30), .val (.int v59), .val (.int v61), .unset, .unset, .unset, .unset, .unset, .unset, .unset, .unset] [(.int v27), (.ref b1)])) (fun t_ k_ => XS.iload X50.here hx rfl (hb hby at_115) rfl k_) ?_
  refine own_Goes.via (T' := T50) (g' := (mkF m 119 #[.val (.int xa), .val (.int xw), .val (.int xp), .val (.int xr), .val (.ref b1), .val (.int v27), .val (.int v29), .val (.ref b30), .val (.int v59), .val (.int v61), .unset, .unset, .unset, .unset, .unset, .unset, .unset, .unset] [(.int v29), (.int v27), (.ref b1)])) (fun t_ k_ => XS.iload X50.here hx rfl (hb hby at_117) rfl k_) ?_
  refine own_Goes.via (T' := T50) (g' := (mkF m 120 #[.val (.int xa), .val (.int xw), .val (.int xp), .val (.int xr), .val (.ref b1), .val (.int v27), .val (.int v29), .val (.ref b30), .val (.int v59), .val (.int v61), .unset, .unset, .unset, .unset, .unset, .unset, .unset, .unset] [(.int (0 : Int32)), (.int v29), (.int v27), (.ref b1)])) (fun t_ k_ => XS.iconst X50.here hx rfl (hb hby at_119) k_) ?_
  have cd120_63 : own_win v27 v29 (4 : Int32) := HW
  have cd120_64 : 0 ≤ (0 : Int32).toInt := by decide
  obtain ⟨_, _, ⟨T62, L62, k62, n62⟩, -, X62, ⟨Lc62, hQ62, l62, y62, z62⟩, st62⟩ := Jvm.LawKit.callS X50 hx (y := (⟨"com/example/sluice/sluice/engine/source/file/AsciiLineReadInPinLaw", "neg", "([BIII)Z"⟩ : MethodName)) hown (mvT hZ (hw _ (List.mem_of_getElem? (i := 2) rfl))) (mvT hZ (hw _ (List.mem_of_getElem? (i := 3) rfl))) (mvT hZ (hw _ (List.mem_of_getElem? (i := 4) rfl))) (mvT hZ (hw _ (List.mem_of_getElem? (i := 5) rfl))) (by decide) (backOf (W := 0) (rm1 l Z a0 hw [] b1 v27 v29 (0 : Int32) (4 : Int32) Bb h50 n0 sz50 G55 cd120_63 cd120_64) hZ (hw _ (List.mem_of_getElem? (i := 5) rfl)) (hw _ (List.mem_of_getElem? (i := 4) rfl)) (by decide) (by decide)) (g := (mkF m 120 #[.val (.int xa), .val (.int xw), .val (.int xp), .val (.int xr), .val (.ref b1), .val (.int v27), .val (.int v29), .val (.ref b30), .val (.int v59), .val (.int v61), .unset, .unset, .unset, .unset, .unset, .unset, .unset, .unset] [(.int (0 : Int32)), (.int v29), (.int v27), (.ref b1)])) rfl (by rw [hml]; rfl) (argsL := [(.ref b1), (.int v27), (.int v29), (.int (0 : Int32))]) (rest := []) (lenOf pd_0_0 rfl) rfl (by show 2 * 0 + _ ≤ _; exact Nat.le_of_eq rfl) (hb hby at_120) (fun _ _ => ⟨rfl, e50, (by decide : 2 + 0 ≤ _), (by decide : 7 + 0 ≤ _)⟩)
  dsimp only [Pt.U, Pt.locs, Pt.cells, Pt.slots] at X62 l62 y62 z62 st62 hQ62
  subst l62 y62 z62
  obtain ⟨rfl, Nq62, hh62⟩ := hQ62
  have N62 := Fr.app N50 Nq62
  refine own_Goes.via (T' := T62) (g' := (mkF m 123 #[.val (.int xa), .val (.int xw), .val (.int xp), .val (.int xr), .val (.ref b1), .val (.int v27), .val (.int v29), .val (.ref b30), .val (.int v59), .val (.int v61), .unset, .unset, .unset, .unset, .unset, .unset, .unset, .unset] [(.int (own_ng Bb v27 v29 (0 : Int32)))])) (st62) ?_
  obtain ⟨v65, hv65⟩ : ∃ z : Int32, z = (own_ng Bb v27 v29 (0 : Int32)) := ⟨_, rfl⟩
  rw [← hv65]
  suffices J170_69 : ∀ (T68 : State) (L68 : List Loc) (X68 : Stand p l e room_1 (s.setVm s.vm) m #[(.int xa), (.int xw), (.int xp), (.int xr)] below meth c T68 L68 2 7) (e68 : T68.heap = h50) (N68 : Fr n0 L68) (v170_67 : Int32) (hv170_67 : v170_67 = (if v65 = (0 : Int32) then (if (own_ng Bb v27 v29 (1 : Int32)) = (0 : Int32) then (if (own_ng Bb v27 v29 (2 : Int32)) = (0 : Int32) then (if (own_ng Bb v27 v29 (3 : Int32)) = (0 : Int32) then (1 : Int32) else (0 : Int32)) else (0 : Int32)) else (0 : Int32)) else (0 : Int32))), own_Goes p.tables e below P T68 (mkF m 170 #[.val (.int xa), .val (.int xw), .val (.int xp), .val (.int xr), .val (.ref b1), .val (.int v27), .val (.int v29), .val (.ref b30), .val (.int v59), .val (.int v61), .unset, .unset, .unset, .unset, .unset, .unset, .unset, .unset] [(.int v170_67)]) by
    by_cases hc123_66 : v65 = (0 : Int32)
    · refine own_Goes.via (T' := T62) (g' := (mkF m 126 #[.val (.int xa), .val (.int xw), .val (.int xp), .val (.int xr), .val (.ref b1), .val (.int v27), .val (.int v29), .val (.ref b30), .val (.int v59), .val (.int v61), .unset, .unset, .unset, .unset, .unset, .unset, .unset, .unset] [])) (fun t_ k_ => XS.ifNo X62.here hx rfl (hb hby at_123) rfl ((if0 _ _).trans (teq hc123_66).2) k_) ?_
      refine own_Goes.via (T' := T62) (g' := (mkF m 128 #[.val (.int xa), .val (.int xw), .val (.int xp), .val (.int xr), .val (.ref b1), .val (.int v27), .val (.int v29), .val (.ref b30), .val (.int v59), .val (.int v61), .unset, .unset, .unset, .unset, .unset, .unset, .unset, .unset] [(.ref b1)])) (fun t_ k_ => XS.aload X62.here hx rfl (hb hby at_126) rfl rfl k_) ?_
      refine own_Goes.via (T' := T62) (g' := (mkF m 130 #[.val (.int xa), .val (.int xw), .val (.int xp), .val (.int xr), .val (.ref b1), .val (.int v27), .val (.int v29), .val (.ref b30), .val (.int v59), .val (.int v61), .unset, .unset, .unset, .unset, .unset, .unset, .unset, .unset] [(.int v27), (.ref b1)])) (fun t_ k_ => XS.iload X62.here hx rfl (hb hby at_128) rfl k_) ?_
      refine own_Goes.via (T' := T62) (g' := (mkF m 132 #[.val (.int xa), .val (.int xw), .val (.int xp), .val (.int xr), .val (.ref b1), .val (.int v27), .val (.int v29), .val (.ref b30), .val (.int v59), .val (.int v61), .unset, .unset, .unset, .unset, .unset, .unset, .unset, .unset] [(.int v29), (.int v27), (.ref b1)])) (fun t_ k_ => XS.iload X62.here hx rfl (hb hby at_130) rfl k_) ?_
      refine own_Goes.via (T' := T62) (g' := (mkF m 133 #[.val (.int xa), .val (.int xw), .val (.int xp), .val (.int xr), .val (.ref b1), .val (.int v27), .val (.int v29), .val (.ref b30), .val (.int v59), .val (.int v61), .unset, .unset, .unset, .unset, .unset, .unset, .unset, .unset] [(.int (1 : Int32)), (.int v29), (.int v27), (.ref b1)])) (fun t_ k_ => XS.iconst X62.here hx rfl (hb hby at_132) k_) ?_
      have cd133_71 : own_win v27 v29 (4 : Int32) := HW
      have cd133_72 : 0 ≤ (1 : Int32).toInt := by decide
      obtain ⟨_, _, ⟨T70, L70, k70, n70⟩, -, X70, ⟨Lc70, hQ70, l70, y70, z70⟩, st70⟩ := Jvm.LawKit.callS X62 hx (y := (⟨"com/example/sluice/sluice/engine/source/file/AsciiLineReadInPinLaw", "neg", "([BIII)Z"⟩ : MethodName)) hown (mvT hZ (hw _ (List.mem_of_getElem? (i := 2) rfl))) (mvT hZ (hw _ (List.mem_of_getElem? (i := 3) rfl))) (mvT hZ (hw _ (List.mem_of_getElem? (i := 4) rfl))) (mvT hZ (hw _ (List.mem_of_getElem? (i := 5) rfl))) (by decide) (backOf (W := 0) (rm1 l Z a0 hw [] b1 v27 v29 (1 : Int32) (4 : Int32) Bb h50 n0 sz50 G55 cd133_71 cd133_72) hZ (hw _ (List.mem_of_getElem? (i := 5) rfl)) (hw _ (List.mem_of_getElem? (i := 4) rfl)) (by decide) (by decide)) (g := (mkF m 133 #[.val (.int xa), .val (.int xw), .val (.int xp), .val (.int xr), .val (.ref b1), .val (.int v27), .val (.int v29), .val (.ref b30), .val (.int v59), .val (.int v61), .unset, .unset, .unset, .unset, .unset, .unset, .unset, .unset] [(.int (1 : Int32)), (.int v29), (.int v27), (.ref b1)])) rfl (by rw [hml]; rfl) (argsL := [(.ref b1), (.int v27), (.int v29), (.int (1 : Int32))]) (rest := []) (lenOf pd_0_0 rfl) rfl (by show 2 * 0 + _ ≤ _; exact Nat.le_of_eq rfl) (hb hby at_133) (fun _ _ => ⟨rfl, hh62, (by decide : 2 + 0 ≤ _), (by decide : 7 + 0 ≤ _)⟩)
      dsimp only [Pt.U, Pt.locs, Pt.cells, Pt.slots] at X70 l70 y70 z70 st70 hQ70
      subst l70 y70 z70
      obtain ⟨rfl, Nq70, hh70⟩ := hQ70
      have N70 := Fr.app N62 Nq70
      refine own_Goes.via (T' := T70) (g' := (mkF m 136 #[.val (.int xa), .val (.int xw), .val (.int xp), .val (.int xr), .val (.ref b1), .val (.int v27), .val (.int v29), .val (.ref b30), .val (.int v59), .val (.int v61), .unset, .unset, .unset, .unset, .unset, .unset, .unset, .unset] [(.int (own_ng Bb v27 v29 (1 : Int32)))])) (st70) ?_
      by_cases hc136_73 : (own_ng Bb v27 v29 (1 : Int32)) = (0 : Int32)
      · refine own_Goes.via (T' := T70) (g' := (mkF m 139 #[.val (.int xa), .val (.int xw), .val (.int xp), .val (.int xr), .val (.ref b1), .val (.int v27), .val (.int v29), .val (.ref b30), .val (.int v59), .val (.int v61), .unset, .unset, .unset, .unset, .unset, .unset, .unset, .unset] [])) (fun t_ k_ => XS.ifNo X70.here hx rfl (hb hby at_136) rfl ((if0 _ _).trans (teq hc136_73).2) k_) ?_
        refine own_Goes.via (T' := T70) (g' := (mkF m 141 #[.val (.int xa), .val (.int xw), .val (.int xp), .val (.int xr), .val (.ref b1), .val (.int v27), .val (.int v29), .val (.ref b30), .val (.int v59), .val (.int v61), .unset, .unset, .unset, .unset, .unset, .unset, .unset, .unset] [(.ref b1)])) (fun t_ k_ => XS.aload X70.here hx rfl (hb hby at_139) rfl rfl k_) ?_
        refine own_Goes.via (T' := T70) (g' := (mkF m 143 #[.val (.int xa), .val (.int xw), .val (.int xp), .val (.int xr), .val (.ref b1), .val (.int v27), .val (.int v29), .val (.ref b30), .val (.int v59), .val (.int v61), .unset, .unset, .unset, .unset, .unset, .unset, .unset, .unset] [(.int v27), (.ref b1)])) (fun t_ k_ => XS.iload X70.here hx rfl (hb hby at_141) rfl k_) ?_
        refine own_Goes.via (T' := T70) (g' := (mkF m 145 #[.val (.int xa), .val (.int xw), .val (.int xp), .val (.int xr), .val (.ref b1), .val (.int v27), .val (.int v29), .val (.ref b30), .val (.int v59), .val (.int v61), .unset, .unset, .unset, .unset, .unset, .unset, .unset, .unset] [(.int v29), (.int v27), (.ref b1)])) (fun t_ k_ => XS.iload X70.here hx rfl (hb hby at_143) rfl k_) ?_
        refine own_Goes.via (T' := T70) (g' := (mkF m 146 #[.val (.int xa), .val (.int xw), .val (.int xp), .val (.int xr), .val (.ref b1), .val (.int v27), .val (.int v29), .val (.ref b30), .val (.int v59), .val (.int v61), .unset, .unset, .unset, .unset, .unset, .unset, .unset, .unset] [(.int (2 : Int32)), (.int v29), (.int v27), (.ref b1)])) (fun t_ k_ => XS.iconst X70.here hx rfl (hb hby at_145) k_) ?_
        have cd146_75 : own_win v27 v29 (4 : Int32) := HW
        have cd146_76 : 0 ≤ (2 : Int32).toInt := by decide
        obtain ⟨_, _, ⟨T74, L74, k74, n74⟩, -, X74, ⟨Lc74, hQ74, l74, y74, z74⟩, st74⟩ := Jvm.LawKit.callS X70 hx (y := (⟨"com/example/sluice/sluice/engine/source/file/AsciiLineReadInPinLaw", "neg", "([BIII)Z"⟩ : MethodName)) hown (mvT hZ (hw _ (List.mem_of_getElem? (i := 2) rfl))) (mvT hZ (hw _ (List.mem_of_getElem? (i := 3) rfl))) (mvT hZ (hw _ (List.mem_of_getElem? (i := 4) rfl))) (mvT hZ (hw _ (List.mem_of_getElem? (i := 5) rfl))) (by decide) (backOf (W := 0) (rm1 l Z a0 hw [] b1 v27 v29 (2 : Int32) (4 : Int32) Bb h50 n0 sz50 G55 cd146_75 cd146_76) hZ (hw _ (List.mem_of_getElem? (i := 5) rfl)) (hw _ (List.mem_of_getElem? (i := 4) rfl)) (by decide) (by decide)) (g := (mkF m 146 #[.val (.int xa), .val (.int xw), .val (.int xp), .val (.int xr), .val (.ref b1), .val (.int v27), .val (.int v29), .val (.ref b30), .val (.int v59), .val (.int v61), .unset, .unset, .unset, .unset, .unset, .unset, .unset, .unset] [(.int (2 : Int32)), (.int v29), (.int v27), (.ref b1)])) rfl (by rw [hml]; rfl) (argsL := [(.ref b1), (.int v27), (.int v29), (.int (2 : Int32))]) (rest := []) (lenOf pd_0_0 rfl) rfl (by show 2 * 0 + _ ≤ _; exact Nat.le_of_eq rfl) (hb hby at_146) (fun _ _ => ⟨rfl, hh70, (by decide : 2 + 0 ≤ _), (by decide : 7 + 0 ≤ _)⟩)
        dsimp only [Pt.U, Pt.locs, Pt.cells, Pt.slots] at X74 l74 y74 z74 st74 hQ74
        subst l74 y74 z74
        obtain ⟨rfl, Nq74, hh74⟩ := hQ74
        have N74 := Fr.app N70 Nq74
        refine own_Goes.via (T' := T74) (g' := (mkF m 149 #[.val (.int xa), .val (.int xw), .val (.int xp), .val (.int xr), .val (.ref b1), .val (.int v27), .val (.int v29), .val (.ref b30), .val (.int v59), .val (.int v61), .unset, .unset, .unset, .unset, .unset, .unset, .unset, .unset] [(.int (own_ng Bb v27 v29 (2 : Int32)))])) (st74) ?_
        by_cases hc149_77 : (own_ng Bb v27 v29 (2 : Int32)) = (0 : Int32)
        · refine own_Goes.via (T' := T74) (g' := (mkF m 152 #[.val (.int xa), .val (.int xw), .val (.int xp), .val (.int xr), .val (.ref b1), .val (.int v27), .val (.int v29), .val (.ref b30), .val (.int v59), .val (.int v61), .unset, .unset, .unset, .unset, .unset, .unset, .unset, .unset] [])) (fun t_ k_ => XS.ifNo X74.here hx rfl (hb hby at_149) rfl ((if0 _ _).trans (teq hc149_77).2) k_) ?_
          refine own_Goes.via (T' := T74) (g' := (mkF m 154 #[.val (.int xa), .val (.int xw), .val (.int xp), .val (.int xr), .val (.ref b1), .val (.int v27), .val (.int v29), .val (.ref b30), .val (.int v59), .val (.int v61), .unset, .unset, .unset, .unset, .unset, .unset, .unset, .unset] [(.ref b1)])) (fun t_ k_ => XS.aload X74.here hx rfl (hb hby at_152) rfl rfl k_) ?_
          refine own_Goes.via (T' := T74) (g' := (mkF m 156 #[.val (.int xa), .val (.int xw), .val (.int xp), .val (.int xr), .val (.ref b1), .val (.int v27), .val (.int v29), .val (.ref b30), .val (.int v59), .val (.int v61), .unset, .unset, .unset, .unset, .unset, .unset, .unset, .unset] [(.int v27), (.ref b1)])) (fun t_ k_ => XS.iload X74.here hx rfl (hb hby at_154) rfl k_) ?_
          refine own_Goes.via (T' := T74) (g' := (mkF m 158 #[.val (.int xa), .val (.int xw), .val (.int xp), .val (.int xr), .val (.ref b1), .val (.int v27), .val (.int v29), .val (.ref b30), .val (.int v59), .val (.int v61), .unset, .unset, .unset, .unset, .unset, .unset, .unset, .unset] [(.int v29), (.int v27), (.ref b1)])) (fun t_ k_ => XS.iload X74.here hx rfl (hb hby at_156) rfl k_) ?_
          refine own_Goes.via (T' := T74) (g' := (mkF m 159 #[.val (.int xa), .val (.int xw), .val (.int xp), .val (.int xr), .val (.ref b1), .val (.int v27), .val (.int v29), .val (.ref b30), .val (.int v59), .val (.int v61), .unset, .unset, .unset, .unset, .unset, .unset, .unset, .unset] [(.int (3 : Int32)), (.int v29), (.int v27), (.ref b1)])) (fun t_ k_ => XS.iconst X74.here hx rfl (hb hby at_158) k_) ?_
          have cd159_79 : own_win v27 v29 (4 : Int32) := HW
          have cd159_80 : 0 ≤ (3 : Int32).toInt := by decide
          obtain ⟨_, _, ⟨T78, L78, k78, n78⟩, -, X78, ⟨Lc78, hQ78, l78, y78, z78⟩, st78⟩ := Jvm.LawKit.callS X74 hx (y := (⟨"com/example/sluice/sluice/engine/source/file/AsciiLineReadInPinLaw", "neg", "([BIII)Z"⟩ : MethodName)) hown (mvT hZ (hw _ (List.mem_of_getElem? (i := 2) rfl))) (mvT hZ (hw _ (List.mem_of_getElem? (i := 3) rfl))) (mvT hZ (hw _ (List.mem_of_getElem? (i := 4) rfl))) (mvT hZ (hw _ (List.mem_of_getElem? (i := 5) rfl))) (by decide) (backOf (W := 0) (rm1 l Z a0 hw [] b1 v27 v29 (3 : Int32) (4 : Int32) Bb h50 n0 sz50 G55 cd159_79 cd159_80) hZ (hw _ (List.mem_of_getElem? (i := 5) rfl)) (hw _ (List.mem_of_getElem? (i := 4) rfl)) (by decide) (by decide)) (g := (mkF m 159 #[.val (.int xa), .val (.int xw), .val (.int xp), .val (.int xr), .val (.ref b1), .val (.int v27), .val (.int v29), .val (.ref b30), .val (.int v59), .val (.int v61), .unset, .unset, .unset, .unset, .unset, .unset, .unset, .unset] [(.int (3 : Int32)), (.int v29), (.int v27), (.ref b1)])) rfl (by rw [hml]; rfl) (argsL := [(.ref b1), (.int v27), (.int v29), (.int (3 : Int32))]) (rest := []) (lenOf pd_0_0 rfl) rfl (by show 2 * 0 + _ ≤ _; exact Nat.le_of_eq rfl) (hb hby at_159) (fun _ _ => ⟨rfl, hh74, (by decide : 2 + 0 ≤ _), (by decide : 7 + 0 ≤ _)⟩)
          dsimp only [Pt.U, Pt.locs, Pt.cells, Pt.slots] at X78 l78 y78 z78 st78 hQ78
          subst l78 y78 z78
          obtain ⟨rfl, Nq78, hh78⟩ := hQ78
          have N78 := Fr.app N74 Nq78
          refine own_Goes.via (T' := T78) (g' := (mkF m 162 #[.val (.int xa), .val (.int xw), .val (.int xp), .val (.int xr), .val (.ref b1), .val (.int v27), .val (.int v29), .val (.ref b30), .val (.int v59), .val (.int v61), .unset, .unset, .unset, .unset, .unset, .unset, .unset, .unset] [(.int (own_ng Bb v27 v29 (3 : Int32)))])) (st78) ?_
          by_cases hc162_81 : (own_ng Bb v27 v29 (3 : Int32)) = (0 : Int32)
          · refine own_Goes.via (T' := T78) (g' := (mkF m 165 #[.val (.int xa), .val (.int xw), .val (.int xp), .val (.int xr), .val (.ref b1), .val (.int v27), .val (.int v29), .val (.ref b30), .val (.int v59), .val (.int v61), .unset, .unset, .unset, .unset, .unset, .unset, .unset, .unset] [])) (fun t_ k_ => XS.ifNo X78.here hx rfl (hb hby at_162) rfl ((if0 _ _).trans (teq hc162_81).2) k_) ?_
            refine own_Goes.via (T' := T78) (g' := (mkF m 166 #[.val (.int xa), .val (.int xw), .val (.int xp), .val (.int xr), .val (.ref b1), .val (.int v27), .val (.int v29), .val (.ref b30), .val (.int v59), .val (.int v61), .unset, .unset, .unset, .unset, .unset, .unset, .unset, .unset] [(.int (1 : Int32))])) (fun t_ k_ => XS.iconst X78.here hx rfl (hb hby at_165) k_) ?_
            refine own_Goes.via (T' := T78) (g' := (mkF m 170 #[.val (.int xa), .val (.int xw), .val (.int xp), .val (.int xr), .val (.ref b1), .val (.int v27), .val (.int v29), .val (.ref b30), .val (.int v59), .val (.int v61), .unset, .unset, .unset, .unset, .unset, .unset, .unset, .unset] [(.int (1 : Int32))])) (fun t_ k_ => XS.goto X78.here hx rfl (pc0 := 166) (pc' := 170) rfl (hb hby at_166) (by decide) (by decide) k_) ?_
            exact J170_69 T78 _ X78 hh78 N78 (1 : Int32) (((if_pos hc123_66).trans ((if_pos hc136_73).trans ((if_pos hc149_77).trans (if_pos hc162_81))))).symm
          · refine own_Goes.via (T' := T78) (g' := (mkF m 169 #[.val (.int xa), .val (.int xw), .val (.int xp), .val (.int xr), .val (.ref b1), .val (.int v27), .val (.int v29), .val (.ref b30), .val (.int v59), .val (.int v61), .unset, .unset, .unset, .unset, .unset, .unset, .unset, .unset] [])) (fun t_ k_ => XS.ifYes X78.here hx rfl (pc0 := 162) (pc' := 169) rfl (hb hby at_162) rfl ((if0 _ _).trans (feq hc162_81).2) (by decide) (by decide) k_) ?_
            refine own_Goes.via (T' := T78) (g' := (mkF m 170 #[.val (.int xa), .val (.int xw), .val (.int xp), .val (.int xr), .val (.ref b1), .val (.int v27), .val (.int v29), .val (.ref b30), .val (.int v59), .val (.int v61), .unset, .unset, .unset, .unset, .unset, .unset, .unset, .unset] [(.int (0 : Int32))])) (fun t_ k_ => XS.iconst X78.here hx rfl (hb hby at_169) k_) ?_
            exact J170_69 T78 _ X78 hh78 N78 (0 : Int32) (((if_pos hc123_66).trans ((if_pos hc136_73).trans ((if_pos hc149_77).trans (if_neg hc162_81))))).symm
        · refine own_Goes.via (T' := T74) (g' := (mkF m 169 #[.val (.int xa), .val (.int xw), .val (.int xp), .val (.int xr), .val (.ref b1), .val (.int v27), .val (.int v29), .val (.ref b30), .val (.int v59), .val (.int v61), .unset, .unset, .unset, .unset, .unset, .unset, .unset, .unset] [])) (fun t_ k_ => XS.ifYes X74.here hx rfl (pc0 := 149) (pc' := 169) rfl (hb hby at_149) rfl ((if0 _ _).trans (feq hc149_77).2) (by decide) (by decide) k_) ?_
          refine own_Goes.via (T' := T74) (g' := (mkF m 170 #[.val (.int xa), .val (.int xw), .val (.int xp), .val (.int xr), .val (.ref b1), .val (.int v27), .val (.int v29), .val (.ref b30), .val (.int v59), .val (.int v61), .unset, .unset, .unset, .unset, .unset, .unset, .unset, .unset] [(.int (0 : Int32))])) (fun t_ k_ => XS.iconst X74.here hx rfl (hb hby at_169) k_) ?_
          exact J170_69 T74 _ X74 hh74 N74 (0 : Int32) (((if_pos hc123_66).trans ((if_pos hc136_73).trans (if_neg hc149_77)))).symm
      · refine own_Goes.via (T' := T70) (g' := (mkF m 169 #[.val (.int xa), .val (.int xw), .val (.int xp), .val (.int xr), .val (.ref b1), .val (.int v27), .val (.int v29), .val (.ref b30), .val (.int v59), .val (.int v61), .unset, .unset, .unset, .unset, .unset, .unset, .unset, .unset] [])) (fun t_ k_ => XS.ifYes X70.here hx rfl (pc0 := 136) (pc' := 169) rfl (hb hby at_136) rfl ((if0 _ _).trans (feq hc136_73).2) (by decide) (by decide) k_) ?_
        refine own_Goes.via (T' := T70) (g' := (mkF m 170 #[.val (.int xa), .val (.int xw), .val (.int xp), .val (.int xr), .val (.ref b1), .val (.int v27), .val (.int v29), .val (.ref b30), .val (.int v59), .val (.int v61), .unset, .unset, .unset, .unset, .unset, .unset, .unset, .unset] [(.int (0 : Int32))])) (fun t_ k_ => XS.iconst X70.here hx rfl (hb hby at_169) k_) ?_
        exact J170_69 T70 _ X70 hh70 N70 (0 : Int32) (((if_pos hc123_66).trans (if_neg hc136_73))).symm
    · refine own_Goes.via (T' := T62) (g' := (mkF m 169 #[.val (.int xa), .val (.int xw), .val (.int xp), .val (.int xr), .val (.ref b1), .val (.int v27), .val (.int v29), .val (.ref b30), .val (.int v59), .val (.int v61), .unset, .unset, .unset, .unset, .unset, .unset, .unset, .unset] [])) (fun t_ k_ => XS.ifYes X62.here hx rfl (pc0 := 123) (pc' := 169) rfl (hb hby at_123) rfl ((if0 _ _).trans (feq hc123_66).2) (by decide) (by decide) k_) ?_
      refine own_Goes.via (T' := T62) (g' := (mkF m 170 #[.val (.int xa), .val (.int xw), .val (.int xp), .val (.int xr), .val (.ref b1), .val (.int v27), .val (.int v29), .val (.ref b30), .val (.int v59), .val (.int v61), .unset, .unset, .unset, .unset, .unset, .unset, .unset, .unset] [(.int (0 : Int32))])) (fun t_ k_ => XS.iconst X62.here hx rfl (hb hby at_169) k_) ?_
      exact J170_69 T62 _ X62 hh62 N62 (0 : Int32) ((if_neg hc123_66)).symm
  intro T68 L68 X68 e68 N68 v170_67 hv170_67
  refine own_Goes.via (T' := T68) (g' := (mkF m 172 #[.val (.int xa), .val (.int xw), .val (.int xp), .val (.int xr), .val (.ref b1), .val (.int v27), .val (.int v29), .val (.ref b30), .val (.int v59), .val (.int v61), .val (.int v170_67), .unset, .unset, .unset, .unset, .unset, .unset, .unset] [])) (fun t_ k_ => XS.istore X68.here hx rfl (hb hby at_170) rfl (l' := #[.val (.int xa), .val (.int xw), .val (.int xp), .val (.int xr), .val (.ref b1), .val (.int v27), .val (.int v29), .val (.ref b30), .val (.int v59), .val (.int v61), .val (.int v170_67), .unset, .unset, .unset, .unset, .unset, .unset, .unset]) rfl k_) ?_
  obtain ⟨T82, h82, X82, e82, E82, A82, D82, -, st82⟩ := newO X68 hx hZ hown (hw _ (List.mem_of_getElem? (i := 6) rfl)) (hw _ (List.mem_of_getElem? (i := 7) rfl)) (hw _ (List.mem_of_getElem? (i := 8) rfl)) e68 (g := (mkF m 172 #[.val (.int xa), .val (.int xw), .val (.int xp), .val (.int xr), .val (.ref b1), .val (.int v27), .val (.int v29), .val (.ref b30), .val (.int v59), .val (.int v61), .val (.int v170_67), .unset, .unset, .unset, .unset, .unset, .unset, .unset] [])) rfl (hb hby at_172) (by decide) (by decide)
  obtain ⟨b82, g82⟩ : ∃ z, z = h50.size := ⟨_, rfl⟩
  rw [← g82] at A82 D82 st82
  have ne_b1_b82 : b1 ≠ b82 := Nat.ne_of_lt (Nat.lt_of_lt_of_le E52.lt (Nat.le_of_eq g82.symm))
  have ne_b30_b82 : b30 ≠ b82 := Nat.ne_of_lt (Nat.lt_of_lt_of_le E53.lt (Nat.le_of_eq g82.symm))
  have E83 : Exa Z h82 b1 "[B" := E52.ext E82
  have E84 : Exa Z h82 b30 "[B" := E53.ext E82
  have O85 : Old Z n0 h82 := O54.ext E82
  have G86 : own_Gi Z h82 b1 .byte (4 : Int32) Bb := G55.ext E82
  have G87 : own_Gi Z h82 b30 .byte (3 : Int32) Bp := G57.ext E82
  have ge_b82 : n0 ≤ b82 := Nat.le_trans sz50 (Nat.le_of_eq g82.symm)
  have sz_b82 : h0.size ≤ b82 := Nat.le_trans (K50).1 (Nat.le_of_eq g82.symm)
  have sz82 : n0 ≤ h82.size := Nat.le_trans sz50 E82.1
  have hk := Nat.le_trans hk E82.1
  have K82 : Keep h0 h82 [] := (K50).ext E82
  have E88 : Exa Z h82 b82 "com/example/sluice/sluice/engine/source/file/AsciiLine" := A82
  have F89 : Fld Z h82 b82 "com/example/sluice/sluice/engine/source/file/AsciiLine" "bytes" "[B" .null := D82 (Or.inl (hw _ (List.mem_of_getElem? (i := 16) rfl))) (ty := (.array .byte)) (by decide)
  have F90 : Fld Z h82 b82 "com/example/sluice/sluice/engine/source/file/AsciiLine" "offset" "I" (.int (0 : Int32)) := D82 (Or.inl (hw _ (List.mem_of_getElem? (i := 23) rfl))) (ty := .int) (by decide)
  have F91 : Fld Z h82 b82 "com/example/sluice/sluice/engine/source/file/AsciiLine" "length" "I" (.int (0 : Int32)) := D82 (Or.inl (hw _ (List.mem_of_getElem? (i := 25) rfl))) (ty := .int) (by decide)
  refine own_Goes.via (T' := T82) (g' := (mkF m 175 #[.val (.int xa), .val (.int xw), .val (.int xp), .val (.int xr), .val (.ref b1), .val (.int v27), .val (.int v29), .val (.ref b30), .val (.int v59), .val (.int v61), .val (.int v170_67), .unset, .unset, .unset, .unset, .unset, .unset, .unset] [(.ref b82)])) (st82) ?_
  refine own_Goes.via (T' := T82) (g' := (mkF m 176 #[.val (.int xa), .val (.int xw), .val (.int xp), .val (.int xr), .val (.ref b1), .val (.int v27), .val (.int v29), .val (.ref b30), .val (.int v59), .val (.int v61), .val (.int v170_67), .unset, .unset, .unset, .unset, .unset, .unset, .unset] [(.ref b82), (.ref b82)])) (fun t_ k_ => XS.dup X82.here hx rfl (hb hby at_175) rfl rfl k_) ?_
  obtain ⟨_, _, ⟨T92, L92, k92, n92⟩, -, X92, ⟨Lc92, hQ92, l92, y92, z92⟩, st92⟩ := X82.specialBack hx (y := (⟨"com/example/sluice/sluice/engine/source/file/AsciiLine", "<init>", "()V"⟩ : MethodName)) rfl hown (mvT hZ (hw _ (List.mem_of_getElem? (i := 9) rfl))) (mvT hZ (hw _ (List.mem_of_getElem? (i := 10) rfl))) (mvT hZ (hw _ (List.mem_of_getElem? (i := 11) rfl))) (by decide) (backOf (W := 1) (rm2 l Z a0 hw [] b82 h82 n0 sz82 E88 F89 F90 F91 ge_b82) hZ (hw _ (List.mem_of_getElem? (i := 11) rfl)) (hw _ (List.mem_of_getElem? (i := 8) rfl)) (by decide) (by decide)) (g := (mkF m 176 #[.val (.int xa), .val (.int xw), .val (.int xp), .val (.int xr), .val (.ref b1), .val (.int v27), .val (.int v29), .val (.ref b30), .val (.int v59), .val (.int v61), .val (.int v170_67), .unset, .unset, .unset, .unset, .unset, .unset, .unset] [(.ref b82), (.ref b82)])) rfl (by rw [hml]; rfl) (Steps.refl _) (a := b82) (argsL := []) (rest := [(.ref b82)]) (lenOf pd_0_1 rfl) rfl (by show 2 * 0 + _ ≤ _; exact Nat.le_of_eq rfl) (hb hby at_176) (fun _ _ => ⟨rfl, e82, (by decide : 3 + 1 ≤ _), (by decide : 10 + 0 ≤ _)⟩)
  dsimp only [Pt.U, Pt.locs, Pt.cells, Pt.slots] at X92 l92 y92 z92 st92 hQ92
  subst l92 y92 z92
  obtain ⟨bz_92, rfl, Nq92, Kq92, pf92_0, pf92_1, pf92_2⟩ := hQ92
  have N92 := Fr.app N68 Nq92
  have E93 : Exa Z T92.heap b1 "[B" := E83.keep Kq92
  have E94 : Exa Z T92.heap b30 "[B" := E84.keep Kq92
  have E95 : Exa Z T92.heap b82 "com/example/sluice/sluice/engine/source/file/AsciiLine" := E88.keep Kq92
  have O96 : Old Z n0 T92.heap := O85.keep Kq92 (allS ge_b82 all0)
  have G97 : own_Gi Z T92.heap b1 .byte (4 : Int32) Bb := G86.keep Kq92 (ninS ne_b1_b82 nin0)
  have G98 : own_Gi Z T92.heap b30 .byte (3 : Int32) Bp := G87.keep Kq92 (ninS ne_b30_b82 nin0)
  have sz92 : n0 ≤ T92.heap.size := Nat.le_trans sz82 Kq92.1
  have hk := Nat.le_trans hk Kq92.1
  have K92 : Keep h0 T92.heap [] := (K82).trans Kq92 (allS (Or.inr sz_b82) all0)
  refine own_Goes.via (T' := T92) (g' := (mkF m 179 #[.val (.int xa), .val (.int xw), .val (.int xp), .val (.int xr), .val (.ref b1), .val (.int v27), .val (.int v29), .val (.ref b30), .val (.int v59), .val (.int v61), .val (.int v170_67), .unset, .unset, .unset, .unset, .unset, .unset, .unset] [(.ref b82)])) (fun t_ k_ => st92.trans k_) ?_
  refine own_Goes.via (T' := T92) (g' := (mkF m 181 #[.val (.int xa), .val (.int xw), .val (.int xp), .val (.int xr), .val (.ref b1), .val (.int v27), .val (.int v29), .val (.ref b30), .val (.int v59), .val (.int v61), .val (.int v170_67), .val (.ref b82), .unset, .unset, .unset, .unset, .unset, .unset] [])) (fun t_ k_ => XS.astore X92.here hx rfl (hb hby at_179) rfl rfl (l' := #[.val (.int xa), .val (.int xw), .val (.int xp), .val (.int xr), .val (.ref b1), .val (.int v27), .val (.int v29), .val (.ref b30), .val (.int v59), .val (.int v61), .val (.int v170_67), .val (.ref b82), .unset, .unset, .unset, .unset, .unset, .unset]) rfl k_) ?_
  refine own_Goes.via (T' := T92) (g' := (mkF m 183 #[.val (.int xa), .val (.int xw), .val (.int xp), .val (.int xr), .val (.ref b1), .val (.int v27), .val (.int v29), .val (.ref b30), .val (.int v59), .val (.int v61), .val (.int v170_67), .val (.ref b82), .unset, .unset, .unset, .unset, .unset, .unset] [(.ref b82)])) (fun t_ k_ => XS.aload X92.here hx rfl (hb hby at_181) rfl rfl k_) ?_
  refine own_Goes.via (T' := T92) (g' := (mkF m 185 #[.val (.int xa), .val (.int xw), .val (.int xp), .val (.int xr), .val (.ref b1), .val (.int v27), .val (.int v29), .val (.ref b30), .val (.int v59), .val (.int v61), .val (.int v170_67), .val (.ref b82), .unset, .unset, .unset, .unset, .unset, .unset] [(.ref b30), (.ref b82)])) (fun t_ k_ => XS.aload X92.here hx rfl (hb hby at_183) rfl rfl k_) ?_
  refine own_Goes.via (T' := T92) (g' := (mkF m 187 #[.val (.int xa), .val (.int xw), .val (.int xp), .val (.int xr), .val (.ref b1), .val (.int v27), .val (.int v29), .val (.ref b30), .val (.int v59), .val (.int v61), .val (.int v170_67), .val (.ref b82), .unset, .unset, .unset, .unset, .unset, .unset] [(.int v59), (.ref b30), (.ref b82)])) (fun t_ k_ => XS.iload X92.here hx rfl (hb hby at_185) rfl k_) ?_
  refine own_Goes.via (T' := T92) (g' := (mkF m 189 #[.val (.int xa), .val (.int xw), .val (.int xp), .val (.int xr), .val (.ref b1), .val (.int v27), .val (.int v29), .val (.ref b30), .val (.int v59), .val (.int v61), .val (.int v170_67), .val (.ref b82), .unset, .unset, .unset, .unset, .unset, .unset] [(.int v61), (.int v59), (.ref b30), (.ref b82)])) (fun t_ k_ => XS.iload X92.here hx rfl (hb hby at_187) rfl k_) ?_
  have cd189_100 : own_win v59 v61 (3 : Int32) := HV
  have cd189_101 : own_nn Bp v59 v61 := HP
  obtain ⟨cq99, kq99, q99a, q99b, q99c⟩ := isOf hZ rfl E95
  obtain ⟨_, _, ⟨T99, L99, k99, n99⟩, -, X99, ⟨Lc99, hQ99, l99, y99, z99⟩, st99⟩ := X92.virtualBack hx (y := (⟨"com/example/sluice/sluice/engine/source/file/AsciiLine", "readIn", "([BII)Z"⟩ : MethodName)) (z := (⟨"com/example/sluice/sluice/engine/source/file/AsciiLine", "readIn", "([BII)Z"⟩ : MethodName)) hown (mvT hZ (hw _ (List.mem_of_getElem? (i := 17) rfl))) (mvT hZ (hw _ (List.mem_of_getElem? (i := 18) rfl))) (notFace_of_selects (args := #[]) (mvT hZ (hw _ (List.mem_of_getElem? (i := 20) rfl)))) (mvT hZ (hw _ (List.mem_of_getElem? (i := 20) rfl))) (mvT hZ (hw _ (List.mem_of_getElem? (i := 19) rfl))) (by decide) (backOf (W := 0) (rm4a l Z a0 hw [] b82 b30 v59 v61 bz_92 (0 : Int32) (0 : Int32) (3 : Int32) Bp T92.heap n0 sz92 E95 E94 pf92_0 pf92_1 pf92_2 G98 ge_b82 cd189_100 cd189_101) hZ (hw _ (List.mem_of_getElem? (i := 21) rfl)) (hw _ (List.mem_of_getElem? (i := 8) rfl)) (by decide) (by decide)) q99a q99c (g := (mkF m 189 #[.val (.int xa), .val (.int xw), .val (.int xp), .val (.int xr), .val (.ref b1), .val (.int v27), .val (.int v29), .val (.ref b30), .val (.int v59), .val (.int v61), .val (.int v170_67), .val (.ref b82), .unset, .unset, .unset, .unset, .unset, .unset] [(.int v61), (.int v59), (.ref b30), (.ref b82)])) rfl (by rw [hml]; rfl) (Steps.refl _) (argsL := [(.ref b30), (.int v59), (.int v61)]) (rest := []) (lenOf pd_0_2 rfl) rfl (by show 2 * 0 + _ ≤ _; exact Nat.le_of_eq rfl) (hb hby at_189) (fun _ _ => ⟨rfl, rfl, (by decide : 4 + 0 ≤ _), (by decide : 10 + 0 ≤ _)⟩)
  dsimp only [Pt.U, Pt.locs, Pt.cells, Pt.slots] at X99 l99 y99 z99 st99 hQ99
  subst l99 y99 z99
  obtain ⟨rfl, Nq99, Kq99, pf99_0, pf99_1, pf99_2⟩ := hQ99
  have N99 := Fr.app N92 Nq99
  have E102 : Exa Z T99.heap b1 "[B" := E93.keep Kq99
  have E103 : Exa Z T99.heap b30 "[B" := E94.keep Kq99
  have E104 : Exa Z T99.heap b82 "com/example/sluice/sluice/engine/source/file/AsciiLine" := E95.keep Kq99
  have O105 : Old Z n0 T99.heap := O96.keep Kq99 (allS ge_b82 all0)
  have G106 : own_Gi Z T99.heap b1 .byte (4 : Int32) Bb := G97.keep Kq99 (ninS ne_b1_b82 nin0)
  have G107 : own_Gi Z T99.heap b30 .byte (3 : Int32) Bp := G98.keep Kq99 (ninS ne_b30_b82 nin0)
  have sz99 : n0 ≤ T99.heap.size := Nat.le_trans sz92 Kq99.1
  have hk := Nat.le_trans hk Kq99.1
  have K99 : Keep h0 T99.heap [] := (K92).trans Kq99 (allS (Or.inr sz_b82) all0)
  refine own_Goes.via (T' := T99) (g' := (mkF m 192 #[.val (.int xa), .val (.int xw), .val (.int xp), .val (.int xr), .val (.ref b1), .val (.int v27), .val (.int v29), .val (.ref b30), .val (.int v59), .val (.int v61), .val (.int v170_67), .val (.ref b82), .unset, .unset, .unset, .unset, .unset, .unset] [(.int (1 : Int32))])) (fun t_ k_ => st99.trans k_) ?_
  refine own_Goes.via (T' := T99) (g' := (mkF m 194 #[.val (.int xa), .val (.int xw), .val (.int xp), .val (.int xr), .val (.ref b1), .val (.int v27), .val (.int v29), .val (.ref b30), .val (.int v59), .val (.int v61), .val (.int v170_67), .val (.ref b82), .val (.int (1 : Int32)), .unset, .unset, .unset, .unset, .unset] [])) (fun t_ k_ => XS.istore X99.here hx rfl (hb hby at_192) rfl (l' := #[.val (.int xa), .val (.int xw), .val (.int xp), .val (.int xr), .val (.ref b1), .val (.int v27), .val (.int v29), .val (.ref b30), .val (.int v59), .val (.int v61), .val (.int v170_67), .val (.ref b82), .val (.int (1 : Int32)), .unset, .unset, .unset, .unset, .unset]) rfl k_) ?_
  by_cases hk194_108 : own_nn Bb v27 v29
  · refine own_Goes.via (T' := T99) (g' := (mkF m 196 #[.val (.int xa), .val (.int xw), .val (.int xp), .val (.int xr), .val (.ref b1), .val (.int v27), .val (.int v29), .val (.ref b30), .val (.int v59), .val (.int v61), .val (.int v170_67), .val (.ref b82), .val (.int (1 : Int32)), .unset, .unset, .unset, .unset, .unset] [(.ref b82)])) (fun t_ k_ => XS.aload X99.here hx rfl (hb hby at_194) rfl rfl k_) ?_
    refine own_Goes.via (T' := T99) (g' := (mkF m 198 #[.val (.int xa), .val (.int xw), .val (.int xp), .val (.int xr), .val (.ref b1), .val (.int v27), .val (.int v29), .val (.ref b30), .val (.int v59), .val (.int v61), .val (.int v170_67), .val (.ref b82), .val (.int (1 : Int32)), .unset, .unset, .unset, .unset, .unset] [(.ref b1), (.ref b82)])) (fun t_ k_ => XS.aload X99.here hx rfl (hb hby at_196) rfl rfl k_) ?_
    refine own_Goes.via (T' := T99) (g' := (mkF m 200 #[.val (.int xa), .val (.int xw), .val (.int xp), .val (.int xr), .val (.ref b1), .val (.int v27), .val (.int v29), .val (.ref b30), .val (.int v59), .val (.int v61), .val (.int v170_67), .val (.ref b82), .val (.int (1 : Int32)), .unset, .unset, .unset, .unset, .unset] [(.int v27), (.ref b1), (.ref b82)])) (fun t_ k_ => XS.iload X99.here hx rfl (hb hby at_198) rfl k_) ?_
    refine own_Goes.via (T' := T99) (g' := (mkF m 202 #[.val (.int xa), .val (.int xw), .val (.int xp), .val (.int xr), .val (.ref b1), .val (.int v27), .val (.int v29), .val (.ref b30), .val (.int v59), .val (.int v61), .val (.int v170_67), .val (.ref b82), .val (.int (1 : Int32)), .unset, .unset, .unset, .unset, .unset] [(.int v29), (.int v27), (.ref b1), (.ref b82)])) (fun t_ k_ => XS.iload X99.here hx rfl (hb hby at_200) rfl k_) ?_
    have cd202_110 : own_win v27 v29 (4 : Int32) := HW
    have cd202_111 : own_nn Bb v27 v29 := hk194_108
    obtain ⟨cq109, kq109, q109a, q109b, q109c⟩ := isOf hZ rfl E104
    obtain ⟨_, _, ⟨T109, L109, k109, n109⟩, -, X109, ⟨Lc109, hQ109, l109, y109, z109⟩, st109⟩ := X99.virtualBack hx (y := (⟨"com/example/sluice/sluice/engine/source/file/AsciiLine", "readIn", "([BII)Z"⟩ : MethodName)) (z := (⟨"com/example/sluice/sluice/engine/source/file/AsciiLine", "readIn", "([BII)Z"⟩ : MethodName)) hown (mvT hZ (hw _ (List.mem_of_getElem? (i := 17) rfl))) (mvT hZ (hw _ (List.mem_of_getElem? (i := 18) rfl))) (notFace_of_selects (args := #[]) (mvT hZ (hw _ (List.mem_of_getElem? (i := 20) rfl)))) (mvT hZ (hw _ (List.mem_of_getElem? (i := 20) rfl))) (mvT hZ (hw _ (List.mem_of_getElem? (i := 19) rfl))) (by decide) (backOf (W := 0) (rm4a l Z a0 hw [] b82 b1 v27 v29 b30 v59 v61 (4 : Int32) Bb T99.heap n0 sz99 E104 E102 pf99_0 pf99_1 pf99_2 G106 ge_b82 cd202_110 cd202_111) hZ (hw _ (List.mem_of_getElem? (i := 21) rfl)) (hw _ (List.mem_of_getElem? (i := 8) rfl)) (by decide) (by decide)) q109a q109c (g := (mkF m 202 #[.val (.int xa), .val (.int xw), .val (.int xp), .val (.int xr), .val (.ref b1), .val (.int v27), .val (.int v29), .val (.ref b30), .val (.int v59), .val (.int v61), .val (.int v170_67), .val (.ref b82), .val (.int (1 : Int32)), .unset, .unset, .unset, .unset, .unset] [(.int v29), (.int v27), (.ref b1), (.ref b82)])) rfl (by rw [hml]; rfl) (Steps.refl _) (argsL := [(.ref b1), (.int v27), (.int v29)]) (rest := []) (lenOf pd_0_2 rfl) rfl (by show 2 * 0 + _ ≤ _; exact Nat.le_of_eq rfl) (hb hby at_202) (fun _ _ => ⟨rfl, rfl, (by decide : 4 + 0 ≤ _), (by decide : 10 + 0 ≤ _)⟩)
    dsimp only [Pt.U, Pt.locs, Pt.cells, Pt.slots] at X109 l109 y109 z109 st109 hQ109
    subst l109 y109 z109
    obtain ⟨rfl, Nq109, Kq109, pf109_0, pf109_1, pf109_2⟩ := hQ109
    have N109 := Fr.app N99 Nq109
    have E112 : Exa Z T109.heap b1 "[B" := E102.keep Kq109
    have E113 : Exa Z T109.heap b30 "[B" := E103.keep Kq109
    have E114 : Exa Z T109.heap b82 "com/example/sluice/sluice/engine/source/file/AsciiLine" := E104.keep Kq109
    have O115 : Old Z n0 T109.heap := O105.keep Kq109 (allS ge_b82 all0)
    have G116 : own_Gi Z T109.heap b1 .byte (4 : Int32) Bb := G106.keep Kq109 (ninS ne_b1_b82 nin0)
    have G117 : own_Gi Z T109.heap b30 .byte (3 : Int32) Bp := G107.keep Kq109 (ninS ne_b30_b82 nin0)
    have sz109 : n0 ≤ T109.heap.size := Nat.le_trans sz99 Kq109.1
    have hk := Nat.le_trans hk Kq109.1
    have K109 : Keep h0 T109.heap [] := (K99).trans Kq109 (allS (Or.inr sz_b82) all0)
    refine own_Goes.via (T' := T109) (g' := (mkF m 205 #[.val (.int xa), .val (.int xw), .val (.int xp), .val (.int xr), .val (.ref b1), .val (.int v27), .val (.int v29), .val (.ref b30), .val (.int v59), .val (.int v61), .val (.int v170_67), .val (.ref b82), .val (.int (1 : Int32)), .unset, .unset, .unset, .unset, .unset] [(.int (1 : Int32))])) (fun t_ k_ => st109.trans k_) ?_
    refine own_Goes.via (T' := T109) (g' := (mkF m 207 #[.val (.int xa), .val (.int xw), .val (.int xp), .val (.int xr), .val (.ref b1), .val (.int v27), .val (.int v29), .val (.ref b30), .val (.int v59), .val (.int v61), .val (.int v170_67), .val (.ref b82), .val (.int (1 : Int32)), .val (.int (1 : Int32)), .unset, .unset, .unset, .unset] [])) (fun t_ k_ => XS.istore X109.here hx rfl (hb hby at_205) rfl (l' := #[.val (.int xa), .val (.int xw), .val (.int xp), .val (.int xr), .val (.ref b1), .val (.int v27), .val (.int v29), .val (.ref b30), .val (.int v59), .val (.int v61), .val (.int v170_67), .val (.ref b82), .val (.int (1 : Int32)), .val (.int (1 : Int32)), .unset, .unset, .unset, .unset]) rfl k_) ?_
    refine own_Goes.via (T' := T109) (g' := (mkF m 209 #[.val (.int xa), .val (.int xw), .val (.int xp), .val (.int xr), .val (.ref b1), .val (.int v27), .val (.int v29), .val (.ref b30), .val (.int v59), .val (.int v61), .val (.int v170_67), .val (.ref b82), .val (.int (1 : Int32)), .val (.int (1 : Int32)), .unset, .unset, .unset, .unset] [(.int v170_67)])) (fun t_ k_ => XS.iload X109.here hx rfl (hb hby at_207) rfl k_) ?_
    have hd209_118 : ¬ (v170_67 = (0 : Int32)) := own_pl0_5 hv27 hv29 hv59 hv61 hv65 hv170_67 hk194_108 in7_6 in15_11 in23_16 in31_21 hBb127 nz39_26 nz53_28 in66_37 in77_44 in88_51 hBp127 hBp0 nz96_58 nz110_60 HW HV HP cd120_63 cd120_64 cd189_100 cd189_101 cd202_110 cd202_111
    refine own_Goes.via (T' := T109) (g' := (mkF m 212 #[.val (.int xa), .val (.int xw), .val (.int xp), .val (.int xr), .val (.ref b1), .val (.int v27), .val (.int v29), .val (.ref b30), .val (.int v59), .val (.int v61), .val (.int v170_67), .val (.ref b82), .val (.int (1 : Int32)), .val (.int (1 : Int32)), .unset, .unset, .unset, .unset] [])) (fun t_ k_ => XS.ifNo X109.here hx rfl (hb hby at_209) rfl ((if0 _ _).trans (feq hd209_118).1) k_) ?_
    refine own_Goes.via (T' := T109) (g' := (mkF m 214 #[.val (.int xa), .val (.int xw), .val (.int xp), .val (.int xr), .val (.ref b1), .val (.int v27), .val (.int v29), .val (.ref b30), .val (.int v59), .val (.int v61), .val (.int v170_67), .val (.ref b82), .val (.int (1 : Int32)), .val (.int (1 : Int32)), .unset, .unset, .unset, .unset] [(.ref b1)])) (fun t_ k_ => XS.aload X109.here hx rfl (hb hby at_212) rfl rfl k_) ?_
    refine own_Goes.via (T' := T109) (g' := (mkF m 219 #[.val (.int xa), .val (.int xw), .val (.int xp), .val (.int xr), .val (.ref b1), .val (.int v27), .val (.int v29), .val (.ref b30), .val (.int v59), .val (.int v61), .val (.int v170_67), .val (.ref b82), .val (.int (1 : Int32)), .val (.int (1 : Int32)), .unset, .unset, .unset, .unset] [(.ref b1)])) (fun t_ k_ => XS.goto X109.here hx rfl (pc0 := 214) (pc' := 219) rfl (hb hby at_214) (by decide) (by decide) k_) ?_
    refine own_Goes.via (T' := T109) (g' := (mkF m 221 #[.val (.int xa), .val (.int xw), .val (.int xp), .val (.int xr), .val (.ref b1), .val (.int v27), .val (.int v29), .val (.ref b30), .val (.int v59), .val (.int v61), .val (.int v170_67), .val (.ref b82), .val (.int (1 : Int32)), .val (.int (1 : Int32)), .val (.ref b1), .unset, .unset, .unset] [])) (fun t_ k_ => XS.astore X109.here hx rfl (hb hby at_219) rfl rfl (l' := #[.val (.int xa), .val (.int xw), .val (.int xp), .val (.int xr), .val (.ref b1), .val (.int v27), .val (.int v29), .val (.ref b30), .val (.int v59), .val (.int v61), .val (.int v170_67), .val (.ref b82), .val (.int (1 : Int32)), .val (.int (1 : Int32)), .val (.ref b1), .unset, .unset, .unset]) rfl k_) ?_
    refine own_Goes.via (T' := T109) (g' := (mkF m 223 #[.val (.int xa), .val (.int xw), .val (.int xp), .val (.int xr), .val (.ref b1), .val (.int v27), .val (.int v29), .val (.ref b30), .val (.int v59), .val (.int v61), .val (.int v170_67), .val (.ref b82), .val (.int (1 : Int32)), .val (.int (1 : Int32)), .val (.ref b1), .unset, .unset, .unset] [(.int v170_67)])) (fun t_ k_ => XS.iload X109.here hx rfl (hb hby at_221) rfl k_) ?_
    refine own_Goes.via (T' := T109) (g' := (mkF m 226 #[.val (.int xa), .val (.int xw), .val (.int xp), .val (.int xr), .val (.ref b1), .val (.int v27), .val (.int v29), .val (.ref b30), .val (.int v59), .val (.int v61), .val (.int v170_67), .val (.ref b82), .val (.int (1 : Int32)), .val (.int (1 : Int32)), .val (.ref b1), .unset, .unset, .unset] [])) (fun t_ k_ => XS.ifNo X109.here hx rfl (hb hby at_223) rfl ((if0 _ _).trans (feq hd209_118).1) k_) ?_
    refine own_Goes.via (T' := T109) (g' := (mkF m 228 #[.val (.int xa), .val (.int xw), .val (.int xp), .val (.int xr), .val (.ref b1), .val (.int v27), .val (.int v29), .val (.ref b30), .val (.int v59), .val (.int v61), .val (.int v170_67), .val (.ref b82), .val (.int (1 : Int32)), .val (.int (1 : Int32)), .val (.ref b1), .unset, .unset, .unset] [(.int v27)])) (fun t_ k_ => XS.iload X109.here hx rfl (hb hby at_226) rfl k_) ?_
    refine own_Goes.via (T' := T109) (g' := (mkF m 233 #[.val (.int xa), .val (.int xw), .val (.int xp), .val (.int xr), .val (.ref b1), .val (.int v27), .val (.int v29), .val (.ref b30), .val (.int v59), .val (.int v61), .val (.int v170_67), .val (.ref b82), .val (.int (1 : Int32)), .val (.int (1 : Int32)), .val (.ref b1), .unset, .unset, .unset] [(.int v27)])) (fun t_ k_ => XS.goto X109.here hx rfl (pc0 := 228) (pc' := 233) rfl (hb hby at_228) (by decide) (by decide) k_) ?_
    refine own_Goes.via (T' := T109) (g' := (mkF m 235 #[.val (.int xa), .val (.int xw), .val (.int xp), .val (.int xr), .val (.ref b1), .val (.int v27), .val (.int v29), .val (.ref b30), .val (.int v59), .val (.int v61), .val (.int v170_67), .val (.ref b82), .val (.int (1 : Int32)), .val (.int (1 : Int32)), .val (.ref b1), .val (.int v27), .unset, .unset] [])) (fun t_ k_ => XS.istore X109.here hx rfl (hb hby at_233) rfl (l' := #[.val (.int xa), .val (.int xw), .val (.int xp), .val (.int xr), .val (.ref b1), .val (.int v27), .val (.int v29), .val (.ref b30), .val (.int v59), .val (.int v61), .val (.int v170_67), .val (.ref b82), .val (.int (1 : Int32)), .val (.int (1 : Int32)), .val (.ref b1), .val (.int v27), .unset, .unset]) rfl k_) ?_
    refine own_Goes.via (T' := T109) (g' := (mkF m 237 #[.val (.int xa), .val (.int xw), .val (.int xp), .val (.int xr), .val (.ref b1), .val (.int v27), .val (.int v29), .val (.ref b30), .val (.int v59), .val (.int v61), .val (.int v170_67), .val (.ref b82), .val (.int (1 : Int32)), .val (.int (1 : Int32)), .val (.ref b1), .val (.int v27), .unset, .unset] [(.int v170_67)])) (fun t_ k_ => XS.iload X109.here hx rfl (hb hby at_235) rfl k_) ?_
    refine own_Goes.via (T' := T109) (g' := (mkF m 240 #[.val (.int xa), .val (.int xw), .val (.int xp), .val (.int xr), .val (.ref b1), .val (.int v27), .val (.int v29), .val (.ref b30), .val (.int v59), .val (.int v61), .val (.int v170_67), .val (.ref b82), .val (.int (1 : Int32)), .val (.int (1 : Int32)), .val (.ref b1), .val (.int v27), .unset, .unset] [])) (fun t_ k_ => XS.ifNo X109.here hx rfl (hb hby at_237) rfl ((if0 _ _).trans (feq hd209_118).1) k_) ?_
    refine own_Goes.via (T' := T109) (g' := (mkF m 242 #[.val (.int xa), .val (.int xw), .val (.int xp), .val (.int xr), .val (.ref b1), .val (.int v27), .val (.int v29), .val (.ref b30), .val (.int v59), .val (.int v61), .val (.int v170_67), .val (.ref b82), .val (.int (1 : Int32)), .val (.int (1 : Int32)), .val (.ref b1), .val (.int v27), .unset, .unset] [(.int v29)])) (fun t_ k_ => XS.iload X109.here hx rfl (hb hby at_240) rfl k_) ?_
    refine own_Goes.via (T' := T109) (g' := (mkF m 247 #[.val (.int xa), .val (.int xw), .val (.int xp), .val (.int xr), .val (.ref b1), .val (.int v27), .val (.int v29), .val (.ref b30), .val (.int v59), .val (.int v61), .val (.int v170_67), .val (.ref b82), .val (.int (1 : Int32)), .val (.int (1 : Int32)), .val (.ref b1), .val (.int v27), .unset, .unset] [(.int v29)])) (fun t_ k_ => XS.goto X109.here hx rfl (pc0 := 242) (pc' := 247) rfl (hb hby at_242) (by decide) (by decide) k_) ?_
    refine own_Goes.via (T' := T109) (g' := (mkF m 249 #[.val (.int xa), .val (.int xw), .val (.int xp), .val (.int xr), .val (.ref b1), .val (.int v27), .val (.int v29), .val (.ref b30), .val (.int v59), .val (.int v61), .val (.int v170_67), .val (.ref b82), .val (.int (1 : Int32)), .val (.int (1 : Int32)), .val (.ref b1), .val (.int v27), .val (.int v29), .unset] [])) (fun t_ k_ => XS.istore X109.here hx rfl (hb hby at_247) rfl (l' := #[.val (.int xa), .val (.int xw), .val (.int xp), .val (.int xr), .val (.ref b1), .val (.int v27), .val (.int v29), .val (.ref b30), .val (.int v59), .val (.int v61), .val (.int v170_67), .val (.ref b82), .val (.int (1 : Int32)), .val (.int (1 : Int32)), .val (.ref b1), .val (.int v27), .val (.int v29), .unset]) rfl k_) ?_
    refine own_Goes.via (T' := T109) (g' := (mkF m 251 #[.val (.int xa), .val (.int xw), .val (.int xp), .val (.int xr), .val (.ref b1), .val (.int v27), .val (.int v29), .val (.ref b30), .val (.int v59), .val (.int v61), .val (.int v170_67), .val (.ref b82), .val (.int (1 : Int32)), .val (.int (1 : Int32)), .val (.ref b1), .val (.int v27), .val (.int v29), .unset] [(.int (1 : Int32))])) (fun t_ k_ => XS.iload X109.here hx rfl (hb hby at_249) rfl k_) ?_
    refine own_Goes.via (T' := T109) (g' := (mkF m 256 #[.val (.int xa), .val (.int xw), .val (.int xp), .val (.int xr), .val (.ref b1), .val (.int v27), .val (.int v29), .val (.ref b30), .val (.int v59), .val (.int v61), .val (.int v170_67), .val (.ref b82), .val (.int (1 : Int32)), .val (.int (1 : Int32)), .val (.ref b1), .val (.int v27), .val (.int v29), .unset] [])) (fun t_ k_ => XS.ifYes X109.here hx rfl (pc0 := 251) (pc' := 256) rfl (hb hby at_251) rfl ((if0 _ _).trans (feq (by decide : ¬ ((1 : Int32) = (0 : Int32)))).2) (by decide) (by decide) k_) ?_
    refine own_Goes.via (T' := T109) (g' := (mkF m 258 #[.val (.int xa), .val (.int xw), .val (.int xp), .val (.int xr), .val (.ref b1), .val (.int v27), .val (.int v29), .val (.ref b30), .val (.int v59), .val (.int v61), .val (.int v170_67), .val (.ref b82), .val (.int (1 : Int32)), .val (.int (1 : Int32)), .val (.ref b1), .val (.int v27), .val (.int v29), .unset] [(.int (1 : Int32))])) (fun t_ k_ => XS.iload X109.here hx rfl (hb hby at_256) rfl k_) ?_
    refine own_Goes.via (T' := T109) (g' := (mkF m 260 #[.val (.int xa), .val (.int xw), .val (.int xp), .val (.int xr), .val (.ref b1), .val (.int v27), .val (.int v29), .val (.ref b30), .val (.int v59), .val (.int v61), .val (.int v170_67), .val (.ref b82), .val (.int (1 : Int32)), .val (.int (1 : Int32)), .val (.ref b1), .val (.int v27), .val (.int v29), .unset] [(.int v170_67), (.int (1 : Int32))])) (fun t_ k_ => XS.iload X109.here hx rfl (hb hby at_258) rfl k_) ?_
    have hd260_119 : (1 : Int32) = v170_67 := own_pl0_6 hv27 hv29 hv59 hv61 hv65 hv170_67 hk194_108 in7_6 in15_11 in23_16 in31_21 hBb127 nz39_26 nz53_28 in66_37 in77_44 in88_51 hBp127 hBp0 nz96_58 nz110_60 HW HV HP cd120_63 cd120_64 cd189_100 cd189_101 cd202_110 cd202_111
    refine own_Goes.via (T' := T109) (g' := (mkF m 265 #[.val (.int xa), .val (.int xw), .val (.int xp), .val (.int xr), .val (.ref b1), .val (.int v27), .val (.int v29), .val (.ref b30), .val (.int v59), .val (.int v61), .val (.int v170_67), .val (.ref b82), .val (.int (1 : Int32)), .val (.int (1 : Int32)), .val (.ref b1), .val (.int v27), .val (.int v29), .unset] [])) (fun t_ k_ => XS.icmpYes X109.here hx rfl (pc0 := 260) (pc' := 265) rfl (hb hby at_260) rfl (teq hd260_119).1 (by decide) (by decide) k_) ?_
    refine own_Goes.via (T' := T109) (g' := (mkF m 267 #[.val (.int xa), .val (.int xw), .val (.int xp), .val (.int xr), .val (.ref b1), .val (.int v27), .val (.int v29), .val (.ref b30), .val (.int v59), .val (.int v61), .val (.int v170_67), .val (.ref b82), .val (.int (1 : Int32)), .val (.int (1 : Int32)), .val (.ref b1), .val (.int v27), .val (.int v29), .unset] [(.ref b82)])) (fun t_ k_ => XS.aload X109.here hx rfl (hb hby at_265) rfl rfl k_) ?_
    obtain ⟨cq120, kq120, q120a, q120b, q120c⟩ := isOf hZ rfl E114
    obtain ⟨_, _, ⟨T120, L120, k120, n120⟩, -, X120, ⟨Lc120, hQ120, l120, y120, z120⟩, st120⟩ := X109.virtualBack hx (y := (⟨"com/example/sluice/sluice/engine/source/file/AsciiLine", "length", "()I"⟩ : MethodName)) (z := (⟨"com/example/sluice/sluice/engine/source/file/AsciiLine", "length", "()I"⟩ : MethodName)) hown (mvT hZ (hw _ (List.mem_of_getElem? (i := 26) rfl))) (mvT hZ (hw _ (List.mem_of_getElem? (i := 27) rfl))) (notFace_of_selects (args := #[]) (mvT hZ (hw _ (List.mem_of_getElem? (i := 29) rfl)))) (mvT hZ (hw _ (List.mem_of_getElem? (i := 29) rfl))) (mvT hZ (hw _ (List.mem_of_getElem? (i := 28) rfl))) (by decide) (backOf (W := 0) (rm5 l Z a0 hw [] b82 v29 T109.heap n0 sz109 pf109_2) hZ (hw _ (List.mem_of_getElem? (i := 30) rfl)) (hw _ (List.mem_of_getElem? (i := 8) rfl)) (by decide) (by decide)) q120a q120c (g := (mkF m 267 #[.val (.int xa), .val (.int xw), .val (.int xp), .val (.int xr), .val (.ref b1), .val (.int v27), .val (.int v29), .val (.ref b30), .val (.int v59), .val (.int v61), .val (.int v170_67), .val (.ref b82), .val (.int (1 : Int32)), .val (.int (1 : Int32)), .val (.ref b1), .val (.int v27), .val (.int v29), .unset] [(.ref b82)])) rfl (by rw [hml]; rfl) (Steps.refl _) (argsL := []) (rest := []) (lenOf pd_0_3 rfl) rfl (by show 2 * 0 + _ ≤ _; exact Nat.le_of_eq rfl) (hb hby at_267) (fun _ _ => ⟨rfl, rfl, (by decide : 4 + 0 ≤ _), (by decide : 10 + 0 ≤ _)⟩)
    dsimp only [Pt.U, Pt.locs, Pt.cells, Pt.slots] at X120 l120 y120 z120 st120 hQ120
    subst l120 y120 z120
    obtain ⟨rfl, Nq120, hh120⟩ := hQ120
    have N120 := Fr.app N109 Nq120
    refine own_Goes.via (T' := T120) (g' := (mkF m 270 #[.val (.int xa), .val (.int xw), .val (.int xp), .val (.int xr), .val (.ref b1), .val (.int v27), .val (.int v29), .val (.ref b30), .val (.int v59), .val (.int v61), .val (.int v170_67), .val (.ref b82), .val (.int (1 : Int32)), .val (.int (1 : Int32)), .val (.ref b1), .val (.int v27), .val (.int v29), .unset] [(.int v29)])) (fun t_ k_ => st120.trans k_) ?_
    refine own_Goes.via (T' := T120) (g' := (mkF m 272 #[.val (.int xa), .val (.int xw), .val (.int xp), .val (.int xr), .val (.ref b1), .val (.int v27), .val (.int v29), .val (.ref b30), .val (.int v59), .val (.int v61), .val (.int v170_67), .val (.ref b82), .val (.int (1 : Int32)), .val (.int (1 : Int32)), .val (.ref b1), .val (.int v27), .val (.int v29), .unset] [(.int v29), (.int v29)])) (fun t_ k_ => XS.iload X120.here hx rfl (hb hby at_270) rfl k_) ?_
    have hd272_121 : v29 = v29 := rfl
    refine own_Goes.via (T' := T120) (g' := (mkF m 277 #[.val (.int xa), .val (.int xw), .val (.int xp), .val (.int xr), .val (.ref b1), .val (.int v27), .val (.int v29), .val (.ref b30), .val (.int v59), .val (.int v61), .val (.int v170_67), .val (.ref b82), .val (.int (1 : Int32)), .val (.int (1 : Int32)), .val (.ref b1), .val (.int v27), .val (.int v29), .unset] [])) (fun t_ k_ => XS.icmpYes X120.here hx rfl (pc0 := 272) (pc' := 277) rfl (hb hby at_272) rfl (teq hd272_121).1 (by decide) (by decide) k_) ?_
    refine own_Goes.via (T' := T120) (g' := (mkF m 279 #[.val (.int xa), .val (.int xw), .val (.int xp), .val (.int xr), .val (.ref b1), .val (.int v27), .val (.int v29), .val (.ref b30), .val (.int v59), .val (.int v61), .val (.int v170_67), .val (.ref b82), .val (.int (1 : Int32)), .val (.int (1 : Int32)), .val (.ref b1), .val (.int v27), .val (.int v29), .unset] [(.ref b82)])) (fun t_ k_ => XS.aload X120.here hx rfl (hb hby at_277) rfl rfl k_) ?_
    have cd279_123 : own_win v27 v29 (4 : Int32) := HW
    have cd279_124 : own_nn Bb v27 v29 := hk194_108
    obtain ⟨cq122, kq122, q122a, q122b, q122c⟩ := isOf hZ hh120 E114
    obtain ⟨_, _, ⟨T122, L122, k122, n122⟩, -, X122, hs122, hg122, ⟨Lc122, hQ122, l122, y122, z122⟩, st122⟩ := X120.virtualBackS hx (y := (⟨"com/example/sluice/sluice/engine/source/file/AsciiLine", "toString", "()Ljava/lang/String;"⟩ : MethodName)) (z := (⟨"com/example/sluice/sluice/engine/source/file/AsciiLine", "toString", "()Ljava/lang/String;"⟩ : MethodName)) hown (mvT hZ (hw _ (List.mem_of_getElem? (i := 31) rfl))) (mvT hZ (hw _ (List.mem_of_getElem? (i := 32) rfl))) (notFace_of_selects (args := #[]) (mvT hZ (hw _ (List.mem_of_getElem? (i := 34) rfl)))) (mvT hZ (hw _ (List.mem_of_getElem? (i := 34) rfl))) (mvT hZ (hw _ (List.mem_of_getElem? (i := 33) rfl))) (by decide) (own_backSI (W := 0) (rm6 l Z a0 hw [] b82 s_us xcs wsf s_utf s_iso b1 v27 v29 (4 : Int32) Bb T109.heap n0 sz109 E114 E112 pf109_0 pf109_1 pf109_2 G116 O115 cd279_123 cd279_124 S_std S_utf S_iso S_us E_utf E_iso E_us S_cs hcs S_sf isr_wsf hheld hcw) hZ hin (hw _ (List.mem_of_getElem? (i := 35) rfl)) (hw _ (List.mem_of_getElem? (i := 8) rfl)) (by decide) (by decide)) q122a q122c (g := (mkF m 279 #[.val (.int xa), .val (.int xw), .val (.int xp), .val (.int xr), .val (.ref b1), .val (.int v27), .val (.int v29), .val (.ref b30), .val (.int v59), .val (.int v61), .val (.int v170_67), .val (.ref b82), .val (.int (1 : Int32)), .val (.int (1 : Int32)), .val (.ref b1), .val (.int v27), .val (.int v29), .unset] [(.ref b82)])) rfl (by rw [hml]; rfl) (Steps.refl _) (argsL := []) (rest := []) (lenOf pd_0_4 rfl) rfl (by show 2 * 0 + _ ≤ _; exact Nat.le_of_eq rfl) (hb hby at_279) (fun _ _ => ⟨rfl, hh120, (by decide : 4 + 3 ≤ _), (by decide : 10 + 8 ≤ _)⟩)
    dsimp only [Pt.U, Pt.locs, Pt.cells, Pt.slots] at X122 l122 y122 z122 st122 hQ122 hs122 hg122
    obtain ⟨X122, hS, hZ, hown⟩ := rebS hS (n1 := T120.heap.size) (by rw [hh120]; exact hk) X122 hs122 hg122 hZ hown
    have hk := Nat.le_refl T122.heap.size
    subst l122 y122 z122
    obtain ⟨bs_122, bz_122, rfl, Nq122, Kq122, pf122_0, pf122_1, pf122_2, pf122_3⟩ := hQ122
    have N122 := Fr.app N120 Nq122
    have E125 : Exa Z T122.heap b1 "[B" := E112.keep Kq122
    have E126 : Exa Z T122.heap b30 "[B" := E113.keep Kq122
    have E127 : Exa Z T122.heap b82 "com/example/sluice/sluice/engine/source/file/AsciiLine" := E114.keep Kq122
    have O128 : Old Z n0 T122.heap := O115.keep Kq122 all0
    have G129 : own_Gi Z T122.heap b1 .byte (4 : Int32) Bb := G116.keep Kq122 nin0
    have G130 : own_Gi Z T122.heap b30 .byte (3 : Int32) Bp := G117.keep Kq122 nin0
    have F131 : Fld Z T122.heap b82 "com/example/sluice/sluice/engine/source/file/AsciiLine" "bytes" "[B" (.ref b1) := pf109_0.keep Kq122 nin0
    have F132 : Fld Z T122.heap b82 "com/example/sluice/sluice/engine/source/file/AsciiLine" "offset" "I" (.int v27) := pf109_1.keep Kq122 nin0
    have F133 : Fld Z T122.heap b82 "com/example/sluice/sluice/engine/source/file/AsciiLine" "length" "I" (.int v29) := pf109_2.keep Kq122 nin0
    have sz122 : n0 ≤ T122.heap.size := Nat.le_trans sz109 Kq122.1
    have K122 : Keep h0 T122.heap [] := (K109).trans Kq122 all0
    refine own_Goes.via (T' := T122) (g' := (mkF m 282 #[.val (.int xa), .val (.int xw), .val (.int xp), .val (.int xr), .val (.ref b1), .val (.int v27), .val (.int v29), .val (.ref b30), .val (.int v59), .val (.int v61), .val (.int v170_67), .val (.ref b82), .val (.int (1 : Int32)), .val (.int (1 : Int32)), .val (.ref b1), .val (.int v27), .val (.int v29), .unset] [(.ref bs_122)])) (fun t_ k_ => st122.trans k_) ?_
    refine own_Goes.via (T' := T122) (g' := (mkF m 284 #[.val (.int xa), .val (.int xw), .val (.int xp), .val (.int xr), .val (.ref b1), .val (.int v27), .val (.int v29), .val (.ref b30), .val (.int v59), .val (.int v61), .val (.int v170_67), .val (.ref b82), .val (.int (1 : Int32)), .val (.int (1 : Int32)), .val (.ref b1), .val (.int v27), .val (.int v29), .val (.ref bs_122)] [])) (fun t_ k_ => XS.astore X122.here hx rfl (hb hby at_282) rfl rfl (l' := #[.val (.int xa), .val (.int xw), .val (.int xp), .val (.int xr), .val (.ref b1), .val (.int v27), .val (.int v29), .val (.ref b30), .val (.int v59), .val (.int v61), .val (.int v170_67), .val (.ref b82), .val (.int (1 : Int32)), .val (.int (1 : Int32)), .val (.ref b1), .val (.int v27), .val (.int v29), .val (.ref bs_122)]) rfl k_) ?_
    refine own_Goes.via (T' := T122) (g' := (mkF m 286 #[.val (.int xa), .val (.int xw), .val (.int xp), .val (.int xr), .val (.ref b1), .val (.int v27), .val (.int v29), .val (.ref b30), .val (.int v59), .val (.int v61), .val (.int v170_67), .val (.ref b82), .val (.int (1 : Int32)), .val (.int (1 : Int32)), .val (.ref b1), .val (.int v27), .val (.int v29), .val (.ref bs_122)] [(.ref bs_122)])) (fun t_ k_ => XS.aload X122.here hx rfl (hb hby at_284) rfl rfl k_) ?_
    obtain ⟨cq134, kq134, q134a, q134b, q134c⟩ := isOf hZ rfl pf122_0
    obtain ⟨_, _, ⟨T134, L134, k134, n134⟩, -, X134, ⟨Lc134, hQ134, l134, y134, z134⟩, st134⟩ := X122.virtualBack hx (y := (⟨"java/lang/String", "length", "()I"⟩ : MethodName)) (z := (⟨"java/lang/String", "length", "()I"⟩ : MethodName)) hown (mvT hZ (hw _ (List.mem_of_getElem? (i := 70) rfl))) (mvT hZ (hw _ (List.mem_of_getElem? (i := 71) rfl))) (notFace_of_selects (args := #[]) (mvT hZ (hw _ (List.mem_of_getElem? (i := 73) rfl)))) (mvT hZ (hw _ (List.mem_of_getElem? (i := 73) rfl))) (mvT hZ (hw _ (List.mem_of_getElem? (i := 72) rfl))) (by decide) (backOf (W := 0) (rm12 l Z a0 hw [] bs_122 xcs bz_122 v29 (own_sh Bb v27.toNatClampNeg) T122.heap n0 sz122 pf122_0 pf122_1 pf122_2 pf122_3 O128 S_cs hcs) hZ (hw _ (List.mem_of_getElem? (i := 74) rfl)) (hw _ (List.mem_of_getElem? (i := 38) rfl)) (by decide) (by decide)) q134a q134c (g := (mkF m 286 #[.val (.int xa), .val (.int xw), .val (.int xp), .val (.int xr), .val (.ref b1), .val (.int v27), .val (.int v29), .val (.ref b30), .val (.int v59), .val (.int v61), .val (.int v170_67), .val (.ref b82), .val (.int (1 : Int32)), .val (.int (1 : Int32)), .val (.ref b1), .val (.int v27), .val (.int v29), .val (.ref bs_122)] [(.ref bs_122)])) rfl (by rw [hml]; rfl) (Steps.refl _) (argsL := []) (rest := []) (lenOf pd_0_3 rfl) rfl (by show 2 * 0 + _ ≤ _; exact Nat.le_of_eq rfl) (hb hby at_286) (fun _ _ => ⟨rfl, rfl, (by decide : 7 + 0 ≤ _), (by decide : 18 + 0 ≤ _)⟩)
    dsimp only [Pt.U, Pt.locs, Pt.cells, Pt.slots] at X134 l134 y134 z134 st134 hQ134
    subst l134 y134 z134
    obtain ⟨rfl, Nq134, hh134⟩ := hQ134
    have N134 := Fr.app N122 Nq134
    refine own_Goes.via (T' := T134) (g' := (mkF m 289 #[.val (.int xa), .val (.int xw), .val (.int xp), .val (.int xr), .val (.ref b1), .val (.int v27), .val (.int v29), .val (.ref b30), .val (.int v59), .val (.int v61), .val (.int v170_67), .val (.ref b82), .val (.int (1 : Int32)), .val (.int (1 : Int32)), .val (.ref b1), .val (.int v27), .val (.int v29), .val (.ref bs_122)] [(.int v29)])) (fun t_ k_ => st134.trans k_) ?_
    refine own_Goes.via (T' := T134) (g' := (mkF m 291 #[.val (.int xa), .val (.int xw), .val (.int xp), .val (.int xr), .val (.ref b1), .val (.int v27), .val (.int v29), .val (.ref b30), .val (.int v59), .val (.int v61), .val (.int v170_67), .val (.ref b82), .val (.int (1 : Int32)), .val (.int (1 : Int32)), .val (.ref b1), .val (.int v27), .val (.int v29), .val (.ref bs_122)] [(.int v29), (.int v29)])) (fun t_ k_ => XS.iload X134.here hx rfl (hb hby at_289) rfl k_) ?_
    refine own_Goes.via (T' := T134) (g' := (mkF m 296 #[.val (.int xa), .val (.int xw), .val (.int xp), .val (.int xr), .val (.ref b1), .val (.int v27), .val (.int v29), .val (.ref b30), .val (.int v59), .val (.int v61), .val (.int v170_67), .val (.ref b82), .val (.int (1 : Int32)), .val (.int (1 : Int32)), .val (.ref b1), .val (.int v27), .val (.int v29), .val (.ref bs_122)] [])) (fun t_ k_ => XS.icmpYes X134.here hx rfl (pc0 := 291) (pc' := 296) rfl (hb hby at_291) rfl (teq hd272_121).1 (by decide) (by decide) k_) ?_
    refine own_Goes.via (T' := T134) (g' := (mkF m 298 #[.val (.int xa), .val (.int xw), .val (.int xp), .val (.int xr), .val (.ref b1), .val (.int v27), .val (.int v29), .val (.ref b30), .val (.int v59), .val (.int v61), .val (.int v170_67), .val (.ref b82), .val (.int (1 : Int32)), .val (.int (1 : Int32)), .val (.ref b1), .val (.int v27), .val (.int v29), .val (.ref bs_122)] [(.ref bs_122)])) (fun t_ k_ => XS.aload X134.here hx rfl (hb hby at_296) rfl rfl k_) ?_
    refine own_Goes.via (T' := T134) (g' := (mkF m 300 #[.val (.int xa), .val (.int xw), .val (.int xp), .val (.int xr), .val (.ref b1), .val (.int v27), .val (.int v29), .val (.ref b30), .val (.int v59), .val (.int v61), .val (.int v170_67), .val (.ref b82), .val (.int (1 : Int32)), .val (.int (1 : Int32)), .val (.ref b1), .val (.int v27), .val (.int v29), .val (.ref bs_122)] [(.ref b1), (.ref bs_122)])) (fun t_ k_ => XS.aload X134.here hx rfl (hb hby at_298) rfl rfl k_) ?_
    refine own_Goes.via (T' := T134) (g' := (mkF m 302 #[.val (.int xa), .val (.int xw), .val (.int xp), .val (.int xr), .val (.ref b1), .val (.int v27), .val (.int v29), .val (.ref b30), .val (.int v59), .val (.int v61), .val (.int v170_67), .val (.ref b82), .val (.int (1 : Int32)), .val (.int (1 : Int32)), .val (.ref b1), .val (.int v27), .val (.int v29), .val (.ref bs_122)] [(.int v27), (.ref b1), (.ref bs_122)])) (fun t_ k_ => XS.iload X134.here hx rfl (hb hby at_300) rfl k_) ?_
    refine own_Goes.via (T' := T134) (g' := (mkF m 304 #[.val (.int xa), .val (.int xw), .val (.int xp), .val (.int xr), .val (.ref b1), .val (.int v27), .val (.int v29), .val (.ref b30), .val (.int v59), .val (.int v61), .val (.int v170_67), .val (.ref b82), .val (.int (1 : Int32)), .val (.int (1 : Int32)), .val (.ref b1), .val (.int v27), .val (.int v29), .val (.ref bs_122)] [(.int v29), (.int v27), (.ref b1), (.ref bs_122)])) (fun t_ k_ => XS.iload X134.here hx rfl (hb hby at_302) rfl k_) ?_
    refine own_Goes.via (T' := T134) (g' := (mkF m 305 #[.val (.int xa), .val (.int xw), .val (.int xp), .val (.int xr), .val (.ref b1), .val (.int v27), .val (.int v29), .val (.ref b30), .val (.int v59), .val (.int v61), .val (.int v170_67), .val (.ref b82), .val (.int (1 : Int32)), .val (.int (1 : Int32)), .val (.ref b1), .val (.int v27), .val (.int v29), .val (.ref bs_122)] [(.int (0 : Int32)), (.int v29), (.int v27), (.ref b1), (.ref bs_122)])) (fun t_ k_ => XS.iconst X134.here hx rfl (hb hby at_304) k_) ?_
    have cd305_136 : own_win v27 v29 (4 : Int32) := HW
    have cd305_137 : own_nn Bb v27 v29 := hk194_108
    have cd305_138 : 0 ≤ (0 : Int32).toInt := by decide
    have cd305_139 : ∀ i, (Bb i).toInt ≤ 127 := hBb127
    obtain ⟨_, _, ⟨T135, L135, k135, n135⟩, -, X135, ⟨Lc135, hQ135, l135, y135, z135⟩, st135⟩ := Jvm.LawKit.callS X134 hx (y := (⟨"com/example/sluice/sluice/engine/source/file/AsciiLineReadInPinLaw", "same", "(Ljava/lang/String;[BIII)Z"⟩ : MethodName)) hown (mvT hZ (hw _ (List.mem_of_getElem? (i := 81) rfl))) (mvT hZ (hw _ (List.mem_of_getElem? (i := 82) rfl))) (mvT hZ (hw _ (List.mem_of_getElem? (i := 4) rfl))) (mvT hZ (hw _ (List.mem_of_getElem? (i := 83) rfl))) (by decide) (backOf (W := 0) (rm14 l Z a0 hw [] bs_122 b1 v27 v29 (0 : Int32) xcs wsf bz_122 (4 : Int32) Bb T122.heap n0 sz122 pf122_0 pf122_1 pf122_2 pf122_3 G129 O128 cd305_136 cd305_137 cd305_138 cd305_139 S_cs hcs S_sf isr_wsf) hZ (hw _ (List.mem_of_getElem? (i := 83) rfl)) (hw _ (List.mem_of_getElem? (i := 4) rfl)) (by decide) (by decide)) (g := (mkF m 305 #[.val (.int xa), .val (.int xw), .val (.int xp), .val (.int xr), .val (.ref b1), .val (.int v27), .val (.int v29), .val (.ref b30), .val (.int v59), .val (.int v61), .val (.int v170_67), .val (.ref b82), .val (.int (1 : Int32)), .val (.int (1 : Int32)), .val (.ref b1), .val (.int v27), .val (.int v29), .val (.ref bs_122)] [(.int (0 : Int32)), (.int v29), (.int v27), (.ref b1), (.ref bs_122)])) rfl (by rw [hml]; rfl) (argsL := [(.ref bs_122), (.ref b1), (.int v27), (.int v29), (.int (0 : Int32))]) (rest := []) (lenOf pd_0_5 rfl) rfl (by show 2 * 0 + _ ≤ _; exact Nat.le_of_eq rfl) (hb hby at_305) (fun _ _ => ⟨rfl, hh134, (by decide : 7 + 0 ≤ _), (by decide : 18 + 0 ≤ _)⟩)
    dsimp only [Pt.U, Pt.locs, Pt.cells, Pt.slots] at X135 l135 y135 z135 st135 hQ135
    subst l135 y135 z135
    obtain ⟨rfl, Nq135, hh135⟩ := hQ135
    have N135 := Fr.app N134 Nq135
    refine own_Goes.via (T' := T135) (g' := (mkF m 308 #[.val (.int xa), .val (.int xw), .val (.int xp), .val (.int xr), .val (.ref b1), .val (.int v27), .val (.int v29), .val (.ref b30), .val (.int v59), .val (.int v61), .val (.int v170_67), .val (.ref b82), .val (.int (1 : Int32)), .val (.int (1 : Int32)), .val (.ref b1), .val (.int v27), .val (.int v29), .val (.ref bs_122)] [(.int (1 : Int32))])) (st135) ?_
    refine own_Goes.via (T' := T135) (g' := (mkF m 311 #[.val (.int xa), .val (.int xw), .val (.int xp), .val (.int xr), .val (.ref b1), .val (.int v27), .val (.int v29), .val (.ref b30), .val (.int v59), .val (.int v61), .val (.int v170_67), .val (.ref b82), .val (.int (1 : Int32)), .val (.int (1 : Int32)), .val (.ref b1), .val (.int v27), .val (.int v29), .val (.ref bs_122)] [])) (fun t_ k_ => XS.ifNo X135.here hx rfl (hb hby at_308) rfl ((if0 _ _).trans (feq (by decide : ¬ ((1 : Int32) = (0 : Int32)))).1) k_) ?_
    refine own_Goes.via (T' := T135) (g' := (mkF m 313 #[.val (.int xa), .val (.int xw), .val (.int xp), .val (.int xr), .val (.ref b1), .val (.int v27), .val (.int v29), .val (.ref b30), .val (.int v59), .val (.int v61), .val (.int v170_67), .val (.ref b82), .val (.int (1 : Int32)), .val (.int (1 : Int32)), .val (.ref b1), .val (.int v27), .val (.int v29), .val (.ref bs_122)] [(.ref bs_122)])) (fun t_ k_ => XS.aload X135.here hx rfl (hb hby at_311) rfl rfl k_) ?_
    refine own_Goes.via (T' := T135) (g' := (mkF m 315 #[.val (.int xa), .val (.int xw), .val (.int xp), .val (.int xr), .val (.ref b1), .val (.int v27), .val (.int v29), .val (.ref b30), .val (.int v59), .val (.int v61), .val (.int v170_67), .val (.ref b82), .val (.int (1 : Int32)), .val (.int (1 : Int32)), .val (.ref b1), .val (.int v27), .val (.int v29), .val (.ref bs_122)] [(.ref b1), (.ref bs_122)])) (fun t_ k_ => XS.aload X135.here hx rfl (hb hby at_313) rfl rfl k_) ?_
    refine own_Goes.via (T' := T135) (g' := (mkF m 317 #[.val (.int xa), .val (.int xw), .val (.int xp), .val (.int xr), .val (.ref b1), .val (.int v27), .val (.int v29), .val (.ref b30), .val (.int v59), .val (.int v61), .val (.int v170_67), .val (.ref b82), .val (.int (1 : Int32)), .val (.int (1 : Int32)), .val (.ref b1), .val (.int v27), .val (.int v29), .val (.ref bs_122)] [(.int v27), (.ref b1), (.ref bs_122)])) (fun t_ k_ => XS.iload X135.here hx rfl (hb hby at_315) rfl k_) ?_
    refine own_Goes.via (T' := T135) (g' := (mkF m 319 #[.val (.int xa), .val (.int xw), .val (.int xp), .val (.int xr), .val (.ref b1), .val (.int v27), .val (.int v29), .val (.ref b30), .val (.int v59), .val (.int v61), .val (.int v170_67), .val (.ref b82), .val (.int (1 : Int32)), .val (.int (1 : Int32)), .val (.ref b1), .val (.int v27), .val (.int v29), .val (.ref bs_122)] [(.int v29), (.int v27), (.ref b1), (.ref bs_122)])) (fun t_ k_ => XS.iload X135.here hx rfl (hb hby at_317) rfl k_) ?_
    refine own_Goes.via (T' := T135) (g' := (mkF m 320 #[.val (.int xa), .val (.int xw), .val (.int xp), .val (.int xr), .val (.ref b1), .val (.int v27), .val (.int v29), .val (.ref b30), .val (.int v59), .val (.int v61), .val (.int v170_67), .val (.ref b82), .val (.int (1 : Int32)), .val (.int (1 : Int32)), .val (.ref b1), .val (.int v27), .val (.int v29), .val (.ref bs_122)] [(.int (1 : Int32)), (.int v29), (.int v27), (.ref b1), (.ref bs_122)])) (fun t_ k_ => XS.iconst X135.here hx rfl (hb hby at_319) k_) ?_
    have cd320_141 : own_win v27 v29 (4 : Int32) := HW
    have cd320_142 : own_nn Bb v27 v29 := hk194_108
    have cd320_143 : 0 ≤ (1 : Int32).toInt := by decide
    have cd320_144 : ∀ i, (Bb i).toInt ≤ 127 := hBb127
    obtain ⟨_, _, ⟨T140, L140, k140, n140⟩, -, X140, ⟨Lc140, hQ140, l140, y140, z140⟩, st140⟩ := Jvm.LawKit.callS X135 hx (y := (⟨"com/example/sluice/sluice/engine/source/file/AsciiLineReadInPinLaw", "same", "(Ljava/lang/String;[BIII)Z"⟩ : MethodName)) hown (mvT hZ (hw _ (List.mem_of_getElem? (i := 81) rfl))) (mvT hZ (hw _ (List.mem_of_getElem? (i := 82) rfl))) (mvT hZ (hw _ (List.mem_of_getElem? (i := 4) rfl))) (mvT hZ (hw _ (List.mem_of_getElem? (i := 83) rfl))) (by decide) (backOf (W := 0) (rm14 l Z a0 hw [] bs_122 b1 v27 v29 (1 : Int32) xcs wsf bz_122 (4 : Int32) Bb T122.heap n0 sz122 pf122_0 pf122_1 pf122_2 pf122_3 G129 O128 cd320_141 cd320_142 cd320_143 cd320_144 S_cs hcs S_sf isr_wsf) hZ (hw _ (List.mem_of_getElem? (i := 83) rfl)) (hw _ (List.mem_of_getElem? (i := 4) rfl)) (by decide) (by decide)) (g := (mkF m 320 #[.val (.int xa), .val (.int xw), .val (.int xp), .val (.int xr), .val (.ref b1), .val (.int v27), .val (.int v29), .val (.ref b30), .val (.int v59), .val (.int v61), .val (.int v170_67), .val (.ref b82), .val (.int (1 : Int32)), .val (.int (1 : Int32)), .val (.ref b1), .val (.int v27), .val (.int v29), .val (.ref bs_122)] [(.int (1 : Int32)), (.int v29), (.int v27), (.ref b1), (.ref bs_122)])) rfl (by rw [hml]; rfl) (argsL := [(.ref bs_122), (.ref b1), (.int v27), (.int v29), (.int (1 : Int32))]) (rest := []) (lenOf pd_0_5 rfl) rfl (by show 2 * 0 + _ ≤ _; exact Nat.le_of_eq rfl) (hb hby at_320) (fun _ _ => ⟨rfl, hh135, (by decide : 7 + 0 ≤ _), (by decide : 18 + 0 ≤ _)⟩)
    dsimp only [Pt.U, Pt.locs, Pt.cells, Pt.slots] at X140 l140 y140 z140 st140 hQ140
    subst l140 y140 z140
    obtain ⟨rfl, Nq140, hh140⟩ := hQ140
    have N140 := Fr.app N135 Nq140
    refine own_Goes.via (T' := T140) (g' := (mkF m 323 #[.val (.int xa), .val (.int xw), .val (.int xp), .val (.int xr), .val (.ref b1), .val (.int v27), .val (.int v29), .val (.ref b30), .val (.int v59), .val (.int v61), .val (.int v170_67), .val (.ref b82), .val (.int (1 : Int32)), .val (.int (1 : Int32)), .val (.ref b1), .val (.int v27), .val (.int v29), .val (.ref bs_122)] [(.int (1 : Int32))])) (st140) ?_
    refine own_Goes.via (T' := T140) (g' := (mkF m 326 #[.val (.int xa), .val (.int xw), .val (.int xp), .val (.int xr), .val (.ref b1), .val (.int v27), .val (.int v29), .val (.ref b30), .val (.int v59), .val (.int v61), .val (.int v170_67), .val (.ref b82), .val (.int (1 : Int32)), .val (.int (1 : Int32)), .val (.ref b1), .val (.int v27), .val (.int v29), .val (.ref bs_122)] [])) (fun t_ k_ => XS.ifNo X140.here hx rfl (hb hby at_323) rfl ((if0 _ _).trans (feq (by decide : ¬ ((1 : Int32) = (0 : Int32)))).1) k_) ?_
    refine own_Goes.via (T' := T140) (g' := (mkF m 328 #[.val (.int xa), .val (.int xw), .val (.int xp), .val (.int xr), .val (.ref b1), .val (.int v27), .val (.int v29), .val (.ref b30), .val (.int v59), .val (.int v61), .val (.int v170_67), .val (.ref b82), .val (.int (1 : Int32)), .val (.int (1 : Int32)), .val (.ref b1), .val (.int v27), .val (.int v29), .val (.ref bs_122)] [(.ref bs_122)])) (fun t_ k_ => XS.aload X140.here hx rfl (hb hby at_326) rfl rfl k_) ?_
    refine own_Goes.via (T' := T140) (g' := (mkF m 330 #[.val (.int xa), .val (.int xw), .val (.int xp), .val (.int xr), .val (.ref b1), .val (.int v27), .val (.int v29), .val (.ref b30), .val (.int v59), .val (.int v61), .val (.int v170_67), .val (.ref b82), .val (.int (1 : Int32)), .val (.int (1 : Int32)), .val (.ref b1), .val (.int v27), .val (.int v29), .val (.ref bs_122)] [(.ref b1), (.ref bs_122)])) (fun t_ k_ => XS.aload X140.here hx rfl (hb hby at_328) rfl rfl k_) ?_
    refine own_Goes.via (T' := T140) (g' := (mkF m 332 #[.val (.int xa), .val (.int xw), .val (.int xp), .val (.int xr), .val (.ref b1), .val (.int v27), .val (.int v29), .val (.ref b30), .val (.int v59), .val (.int v61), .val (.int v170_67), .val (.ref b82), .val (.int (1 : Int32)), .val (.int (1 : Int32)), .val (.ref b1), .val (.int v27), .val (.int v29), .val (.ref bs_122)] [(.int v27), (.ref b1), (.ref bs_122)])) (fun t_ k_ => XS.iload X140.here hx rfl (hb hby at_330) rfl k_) ?_
    refine own_Goes.via (T' := T140) (g' := (mkF m 334 #[.val (.int xa), .val (.int xw), .val (.int xp), .val (.int xr), .val (.ref b1), .val (.int v27), .val (.int v29), .val (.ref b30), .val (.int v59), .val (.int v61), .val (.int v170_67), .val (.ref b82), .val (.int (1 : Int32)), .val (.int (1 : Int32)), .val (.ref b1), .val (.int v27), .val (.int v29), .val (.ref bs_122)] [(.int v29), (.int v27), (.ref b1), (.ref bs_122)])) (fun t_ k_ => XS.iload X140.here hx rfl (hb hby at_332) rfl k_) ?_
    refine own_Goes.via (T' := T140) (g' := (mkF m 335 #[.val (.int xa), .val (.int xw), .val (.int xp), .val (.int xr), .val (.ref b1), .val (.int v27), .val (.int v29), .val (.ref b30), .val (.int v59), .val (.int v61), .val (.int v170_67), .val (.ref b82), .val (.int (1 : Int32)), .val (.int (1 : Int32)), .val (.ref b1), .val (.int v27), .val (.int v29), .val (.ref bs_122)] [(.int (2 : Int32)), (.int v29), (.int v27), (.ref b1), (.ref bs_122)])) (fun t_ k_ => XS.iconst X140.here hx rfl (hb hby at_334) k_) ?_
    have cd335_146 : own_win v27 v29 (4 : Int32) := HW
    have cd335_147 : own_nn Bb v27 v29 := hk194_108
    have cd335_148 : 0 ≤ (2 : Int32).toInt := by decide
    have cd335_149 : ∀ i, (Bb i).toInt ≤ 127 := hBb127
    obtain ⟨_, _, ⟨T145, L145, k145, n145⟩, -, X145, ⟨Lc145, hQ145, l145, y145, z145⟩, st145⟩ := Jvm.LawKit.callS X140 hx (y := (⟨"com/example/sluice/sluice/engine/source/file/AsciiLineReadInPinLaw", "same", "(Ljava/lang/String;[BIII)Z"⟩ : MethodName)) hown (mvT hZ (hw _ (List.mem_of_getElem? (i := 81) rfl))) (mvT hZ (hw _ (List.mem_of_getElem? (i := 82) rfl))) (mvT hZ (hw _ (List.mem_of_getElem? (i := 4) rfl))) (mvT hZ (hw _ (List.mem_of_getElem? (i := 83) rfl))) (by decide) (backOf (W := 0) (rm14 l Z a0 hw [] bs_122 b1 v27 v29 (2 : Int32) xcs wsf bz_122 (4 : Int32) Bb T122.heap n0 sz122 pf122_0 pf122_1 pf122_2 pf122_3 G129 O128 cd335_146 cd335_147 cd335_148 cd335_149 S_cs hcs S_sf isr_wsf) hZ (hw _ (List.mem_of_getElem? (i := 83) rfl)) (hw _ (List.mem_of_getElem? (i := 4) rfl)) (by decide) (by decide)) (g := (mkF m 335 #[.val (.int xa), .val (.int xw), .val (.int xp), .val (.int xr), .val (.ref b1), .val (.int v27), .val (.int v29), .val (.ref b30), .val (.int v59), .val (.int v61), .val (.int v170_67), .val (.ref b82), .val (.int (1 : Int32)), .val (.int (1 : Int32)), .val (.ref b1), .val (.int v27), .val (.int v29), .val (.ref bs_122)] [(.int (2 : Int32)), (.int v29), (.int v27), (.ref b1), (.ref bs_122)])) rfl (by rw [hml]; rfl) (argsL := [(.ref bs_122), (.ref b1), (.int v27), (.int v29), (.int (2 : Int32))]) (rest := []) (lenOf pd_0_5 rfl) rfl (by show 2 * 0 + _ ≤ _; exact Nat.le_of_eq rfl) (hb hby at_335) (fun _ _ => ⟨rfl, hh140, (by decide : 7 + 0 ≤ _), (by decide : 18 + 0 ≤ _)⟩)
    dsimp only [Pt.U, Pt.locs, Pt.cells, Pt.slots] at X145 l145 y145 z145 st145 hQ145
    subst l145 y145 z145
    obtain ⟨rfl, Nq145, hh145⟩ := hQ145
    have N145 := Fr.app N140 Nq145
    refine own_Goes.via (T' := T145) (g' := (mkF m 338 #[.val (.int xa), .val (.int xw), .val (.int xp), .val (.int xr), .val (.ref b1), .val (.int v27), .val (.int v29), .val (.ref b30), .val (.int v59), .val (.int v61), .val (.int v170_67), .val (.ref b82), .val (.int (1 : Int32)), .val (.int (1 : Int32)), .val (.ref b1), .val (.int v27), .val (.int v29), .val (.ref bs_122)] [(.int (1 : Int32))])) (st145) ?_
    refine own_Goes.via (T' := T145) (g' := (mkF m 341 #[.val (.int xa), .val (.int xw), .val (.int xp), .val (.int xr), .val (.ref b1), .val (.int v27), .val (.int v29), .val (.ref b30), .val (.int v59), .val (.int v61), .val (.int v170_67), .val (.ref b82), .val (.int (1 : Int32)), .val (.int (1 : Int32)), .val (.ref b1), .val (.int v27), .val (.int v29), .val (.ref bs_122)] [])) (fun t_ k_ => XS.ifNo X145.here hx rfl (hb hby at_338) rfl ((if0 _ _).trans (feq (by decide : ¬ ((1 : Int32) = (0 : Int32)))).1) k_) ?_
    refine own_Goes.via (T' := T145) (g' := (mkF m 343 #[.val (.int xa), .val (.int xw), .val (.int xp), .val (.int xr), .val (.ref b1), .val (.int v27), .val (.int v29), .val (.ref b30), .val (.int v59), .val (.int v61), .val (.int v170_67), .val (.ref b82), .val (.int (1 : Int32)), .val (.int (1 : Int32)), .val (.ref b1), .val (.int v27), .val (.int v29), .val (.ref bs_122)] [(.ref bs_122)])) (fun t_ k_ => XS.aload X145.here hx rfl (hb hby at_341) rfl rfl k_) ?_
    refine own_Goes.via (T' := T145) (g' := (mkF m 345 #[.val (.int xa), .val (.int xw), .val (.int xp), .val (.int xr), .val (.ref b1), .val (.int v27), .val (.int v29), .val (.ref b30), .val (.int v59), .val (.int v61), .val (.int v170_67), .val (.ref b82), .val (.int (1 : Int32)), .val (.int (1 : Int32)), .val (.ref b1), .val (.int v27), .val (.int v29), .val (.ref bs_122)] [(.ref b1), (.ref bs_122)])) (fun t_ k_ => XS.aload X145.here hx rfl (hb hby at_343) rfl rfl k_) ?_
    refine own_Goes.via (T' := T145) (g' := (mkF m 347 #[.val (.int xa), .val (.int xw), .val (.int xp), .val (.int xr), .val (.ref b1), .val (.int v27), .val (.int v29), .val (.ref b30), .val (.int v59), .val (.int v61), .val (.int v170_67), .val (.ref b82), .val (.int (1 : Int32)), .val (.int (1 : Int32)), .val (.ref b1), .val (.int v27), .val (.int v29), .val (.ref bs_122)] [(.int v27), (.ref b1), (.ref bs_122)])) (fun t_ k_ => XS.iload X145.here hx rfl (hb hby at_345) rfl k_) ?_
    refine own_Goes.via (T' := T145) (g' := (mkF m 349 #[.val (.int xa), .val (.int xw), .val (.int xp), .val (.int xr), .val (.ref b1), .val (.int v27), .val (.int v29), .val (.ref b30), .val (.int v59), .val (.int v61), .val (.int v170_67), .val (.ref b82), .val (.int (1 : Int32)), .val (.int (1 : Int32)), .val (.ref b1), .val (.int v27), .val (.int v29), .val (.ref bs_122)] [(.int v29), (.int v27), (.ref b1), (.ref bs_122)])) (fun t_ k_ => XS.iload X145.here hx rfl (hb hby at_347) rfl k_) ?_
    refine own_Goes.via (T' := T145) (g' := (mkF m 350 #[.val (.int xa), .val (.int xw), .val (.int xp), .val (.int xr), .val (.ref b1), .val (.int v27), .val (.int v29), .val (.ref b30), .val (.int v59), .val (.int v61), .val (.int v170_67), .val (.ref b82), .val (.int (1 : Int32)), .val (.int (1 : Int32)), .val (.ref b1), .val (.int v27), .val (.int v29), .val (.ref bs_122)] [(.int (3 : Int32)), (.int v29), (.int v27), (.ref b1), (.ref bs_122)])) (fun t_ k_ => XS.iconst X145.here hx rfl (hb hby at_349) k_) ?_
    have cd350_151 : own_win v27 v29 (4 : Int32) := HW
    have cd350_152 : own_nn Bb v27 v29 := hk194_108
    have cd350_153 : 0 ≤ (3 : Int32).toInt := by decide
    have cd350_154 : ∀ i, (Bb i).toInt ≤ 127 := hBb127
    obtain ⟨_, _, ⟨T150, L150, k150, n150⟩, -, X150, ⟨Lc150, hQ150, l150, y150, z150⟩, st150⟩ := Jvm.LawKit.callS X145 hx (y := (⟨"com/example/sluice/sluice/engine/source/file/AsciiLineReadInPinLaw", "same", "(Ljava/lang/String;[BIII)Z"⟩ : MethodName)) hown (mvT hZ (hw _ (List.mem_of_getElem? (i := 81) rfl))) (mvT hZ (hw _ (List.mem_of_getElem? (i := 82) rfl))) (mvT hZ (hw _ (List.mem_of_getElem? (i := 4) rfl))) (mvT hZ (hw _ (List.mem_of_getElem? (i := 83) rfl))) (by decide) (backOf (W := 0) (rm14 l Z a0 hw [] bs_122 b1 v27 v29 (3 : Int32) xcs wsf bz_122 (4 : Int32) Bb T122.heap n0 sz122 pf122_0 pf122_1 pf122_2 pf122_3 G129 O128 cd350_151 cd350_152 cd350_153 cd350_154 S_cs hcs S_sf isr_wsf) hZ (hw _ (List.mem_of_getElem? (i := 83) rfl)) (hw _ (List.mem_of_getElem? (i := 4) rfl)) (by decide) (by decide)) (g := (mkF m 350 #[.val (.int xa), .val (.int xw), .val (.int xp), .val (.int xr), .val (.ref b1), .val (.int v27), .val (.int v29), .val (.ref b30), .val (.int v59), .val (.int v61), .val (.int v170_67), .val (.ref b82), .val (.int (1 : Int32)), .val (.int (1 : Int32)), .val (.ref b1), .val (.int v27), .val (.int v29), .val (.ref bs_122)] [(.int (3 : Int32)), (.int v29), (.int v27), (.ref b1), (.ref bs_122)])) rfl (by rw [hml]; rfl) (argsL := [(.ref bs_122), (.ref b1), (.int v27), (.int v29), (.int (3 : Int32))]) (rest := []) (lenOf pd_0_5 rfl) rfl (by show 2 * 0 + _ ≤ _; exact Nat.le_of_eq rfl) (hb hby at_350) (fun _ _ => ⟨rfl, hh145, (by decide : 7 + 0 ≤ _), (by decide : 18 + 0 ≤ _)⟩)
    dsimp only [Pt.U, Pt.locs, Pt.cells, Pt.slots] at X150 l150 y150 z150 st150 hQ150
    subst l150 y150 z150
    obtain ⟨rfl, Nq150, hh150⟩ := hQ150
    have N150 := Fr.app N145 Nq150
    refine own_Goes.via (T' := T150) (g' := (mkF m 353 #[.val (.int xa), .val (.int xw), .val (.int xp), .val (.int xr), .val (.ref b1), .val (.int v27), .val (.int v29), .val (.ref b30), .val (.int v59), .val (.int v61), .val (.int v170_67), .val (.ref b82), .val (.int (1 : Int32)), .val (.int (1 : Int32)), .val (.ref b1), .val (.int v27), .val (.int v29), .val (.ref bs_122)] [(.int (1 : Int32))])) (st150) ?_
    refine own_Goes.via (T' := T150) (g' := (mkF m 358 #[.val (.int xa), .val (.int xw), .val (.int xp), .val (.int xr), .val (.ref b1), .val (.int v27), .val (.int v29), .val (.ref b30), .val (.int v59), .val (.int v61), .val (.int v170_67), .val (.ref b82), .val (.int (1 : Int32)), .val (.int (1 : Int32)), .val (.ref b1), .val (.int v27), .val (.int v29), .val (.ref bs_122)] [])) (fun t_ k_ => XS.ifYes X150.here hx rfl (pc0 := 353) (pc' := 358) rfl (hb hby at_353) rfl ((if0 _ _).trans (feq (by decide : ¬ ((1 : Int32) = (0 : Int32)))).2) (by decide) (by decide) k_) ?_
    refine own_Goes.via (T' := T150) (g' := (mkF m 360 #[.val (.int xa), .val (.int xw), .val (.int xp), .val (.int xr), .val (.ref b1), .val (.int v27), .val (.int v29), .val (.ref b30), .val (.int v59), .val (.int v61), .val (.int v170_67), .val (.ref b82), .val (.int (1 : Int32)), .val (.int (1 : Int32)), .val (.ref b1), .val (.int v27), .val (.int v29), .val (.ref bs_122)] [(.int v29)])) (fun t_ k_ => XS.iload X150.here hx rfl (hb hby at_358) rfl k_) ?_
    by_cases hc360_155 : (0 : Int32) < v29
    · refine own_Goes.via (T' := T150) (g' := (mkF m 363 #[.val (.int xa), .val (.int xw), .val (.int xp), .val (.int xr), .val (.ref b1), .val (.int v27), .val (.int v29), .val (.ref b30), .val (.int v59), .val (.int v61), .val (.int v170_67), .val (.ref b82), .val (.int (1 : Int32)), .val (.int (1 : Int32)), .val (.ref b1), .val (.int v27), .val (.int v29), .val (.ref bs_122)] [])) (fun t_ k_ => XS.ifNo X150.here hx rfl (hb hby at_360) rfl ((if0 _ _).trans (tlt hc360_155).2.2.2) k_) ?_
      refine own_Goes.via (T' := T150) (g' := (mkF m 365 #[.val (.int xa), .val (.int xw), .val (.int xp), .val (.int xr), .val (.ref b1), .val (.int v27), .val (.int v29), .val (.ref b30), .val (.int v59), .val (.int v61), .val (.int v170_67), .val (.ref b82), .val (.int (1 : Int32)), .val (.int (1 : Int32)), .val (.ref b1), .val (.int v27), .val (.int v29), .val (.ref bs_122)] [(.ref b82)])) (fun t_ k_ => XS.aload X150.here hx rfl (hb hby at_363) rfl rfl k_) ?_
      refine own_Goes.via (T' := T150) (g' := (mkF m 366 #[.val (.int xa), .val (.int xw), .val (.int xp), .val (.int xr), .val (.ref b1), .val (.int v27), .val (.int v29), .val (.ref b30), .val (.int v59), .val (.int v61), .val (.int v170_67), .val (.ref b82), .val (.int (1 : Int32)), .val (.int (1 : Int32)), .val (.ref b1), .val (.int v27), .val (.int v29), .val (.ref bs_122)] [(.int (0 : Int32)), (.ref b82)])) (fun t_ k_ => XS.iconst X150.here hx rfl (hb hby at_365) k_) ?_
      have cd366_157 : own_win v27 v29 (4 : Int32) := HW
      have cd366_158 : ¬ (0 : Int32) < 0 ∧ (0 : Int32) < v29 := own_pl0_7 hv27 hv29 hv59 hv61 hv65 hv170_67 hk194_108 hc360_155 in7_6 in15_11 in23_16 in31_21 hBb127 nz39_26 nz53_28 in66_37 in77_44 in88_51 hBp127 hBp0 nz96_58 nz110_60 HW HV HP cd120_63 cd120_64 cd189_100 cd189_101 cd202_110 cd202_111 cd279_123 cd279_124 cd305_136 cd305_137 cd305_138 cd305_139 cd320_141 cd320_142 cd320_143 cd320_144 cd335_146 cd335_147 cd335_148 cd335_149 cd350_151 cd350_152 cd350_153 cd350_154 cd366_157
      obtain ⟨cq156, kq156, q156a, q156b, q156c⟩ := isOf hZ hh150 E127
      obtain ⟨_, _, ⟨T156, L156, k156, n156⟩, -, X156, ⟨Lc156, hQ156, l156, y156, z156⟩, st156⟩ := X150.virtualBack hx (y := (⟨"com/example/sluice/sluice/engine/source/file/AsciiLine", "charAt", "(I)C"⟩ : MethodName)) (z := (⟨"com/example/sluice/sluice/engine/source/file/AsciiLine", "charAt", "(I)C"⟩ : MethodName)) hown (mvT hZ (hw _ (List.mem_of_getElem? (i := 135) rfl))) (mvT hZ (hw _ (List.mem_of_getElem? (i := 136) rfl))) (notFace_of_selects (args := #[]) (mvT hZ (hw _ (List.mem_of_getElem? (i := 138) rfl)))) (mvT hZ (hw _ (List.mem_of_getElem? (i := 138) rfl))) (mvT hZ (hw _ (List.mem_of_getElem? (i := 137) rfl))) (by decide) (backOf (W := 0) (rm26 l Z a0 hw [] b82 (0 : Int32) b1 v27 v29 (4 : Int32) Bb T122.heap n0 sz122 F131 F132 F133 G129 cd366_157 cd366_158) hZ (hw _ (List.mem_of_getElem? (i := 139) rfl)) (hw _ (List.mem_of_getElem? (i := 8) rfl)) (by decide) (by decide)) q156a q156c (g := (mkF m 366 #[.val (.int xa), .val (.int xw), .val (.int xp), .val (.int xr), .val (.ref b1), .val (.int v27), .val (.int v29), .val (.ref b30), .val (.int v59), .val (.int v61), .val (.int v170_67), .val (.ref b82), .val (.int (1 : Int32)), .val (.int (1 : Int32)), .val (.ref b1), .val (.int v27), .val (.int v29), .val (.ref bs_122)] [(.int (0 : Int32)), (.ref b82)])) rfl (by rw [hml]; rfl) (Steps.refl _) (argsL := [(.int (0 : Int32))]) (rest := []) (lenOf pd_0_6 rfl) rfl (by show 2 * 0 + _ ≤ _; exact Nat.le_of_eq rfl) (hb hby at_366) (fun _ _ => ⟨rfl, hh150, (by decide : 7 + 0 ≤ _), (by decide : 18 + 0 ≤ _)⟩)
      dsimp only [Pt.U, Pt.locs, Pt.cells, Pt.slots] at X156 l156 y156 z156 st156 hQ156
      subst l156 y156 z156
      obtain ⟨rfl, Nq156, hh156⟩ := hQ156
      have N156 := Fr.app N150 Nq156
      refine own_Goes.via (T' := T156) (g' := (mkF m 369 #[.val (.int xa), .val (.int xw), .val (.int xp), .val (.int xr), .val (.ref b1), .val (.int v27), .val (.int v29), .val (.ref b30), .val (.int v59), .val (.int v61), .val (.int v170_67), .val (.ref b82), .val (.int (1 : Int32)), .val (.int (1 : Int32)), .val (.ref b1), .val (.int v27), .val (.int v29), .val (.ref bs_122)] [(.int (own_c (Bb (v27 + (0 : Int32)).toNatClampNeg)))])) (fun t_ k_ => st156.trans k_) ?_
      obtain ⟨v159, hv159⟩ : ∃ z : Int32, z = (own_c (Bb (v27 + (0 : Int32)).toNatClampNeg)) := ⟨_, rfl⟩
      rw [← hv159]
      refine own_Goes.via (T' := T156) (g' := (mkF m 371 #[.val (.int xa), .val (.int xw), .val (.int xp), .val (.int xr), .val (.ref b1), .val (.int v27), .val (.int v29), .val (.ref b30), .val (.int v59), .val (.int v61), .val (.int v170_67), .val (.ref b82), .val (.int (1 : Int32)), .val (.int (1 : Int32)), .val (.ref b1), .val (.int v27), .val (.int v29), .val (.ref bs_122)] [(.ref b1), (.int v159)])) (fun t_ k_ => XS.aload X156.here hx rfl (hb hby at_369) rfl rfl k_) ?_
      refine own_Goes.via (T' := T156) (g' := (mkF m 373 #[.val (.int xa), .val (.int xw), .val (.int xp), .val (.int xr), .val (.ref b1), .val (.int v27), .val (.int v29), .val (.ref b30), .val (.int v59), .val (.int v61), .val (.int v170_67), .val (.ref b82), .val (.int (1 : Int32)), .val (.int (1 : Int32)), .val (.ref b1), .val (.int v27), .val (.int v29), .val (.ref bs_122)] [(.int v27), (.ref b1), (.int v159)])) (fun t_ k_ => XS.iload X156.here hx rfl (hb hby at_371) rfl k_) ?_
      have in373_161 : ¬ v27 < 0 ∧ v27 < (4 : Int32) := own_pl0_8 hv27 hv29 hv59 hv61 hv65 hv170_67 hv159 hk194_108 hc360_155 in7_6 in15_11 in23_16 in31_21 hBb127 nz39_26 nz53_28 in66_37 in77_44 in88_51 hBp127 hBp0 nz96_58 nz110_60 HW HV HP cd120_63 cd120_64 cd189_100 cd189_101 cd202_110 cd202_111 cd279_123 cd279_124 cd305_136 cd305_137 cd305_138 cd305_139 cd320_141 cd320_142 cd320_143 cd320_144 cd335_146 cd335_147 cd335_148 cd335_149 cd350_151 cd350_152 cd350_153 cd350_154 cd366_157 cd366_158
      obtain ⟨cl160, Ar160, Sl160, at160⟩ := G129.rd in373_161
      refine own_Goes.via (T' := T156) (g' := (mkF m 374 #[.val (.int xa), .val (.int xw), .val (.int xp), .val (.int xr), .val (.ref b1), .val (.int v27), .val (.int v29), .val (.ref b30), .val (.int v59), .val (.int v61), .val (.int v170_67), .val (.ref b82), .val (.int (1 : Int32)), .val (.int (1 : Int32)), .val (.ref b1), .val (.int v27), .val (.int v29), .val (.ref bs_122)] [(.int (Bb v27.toNatClampNeg)), (.int v159)])) (fun t_ k_ => X156.baloadBytes hx (j := v27) (v := (.int (Bb v27.toNatClampNeg))) (by rw [hh156]; exact Ar160.1) (State.isArrayOf_alike hZ.alike Ar160.2.1) Ar160.2.2 (inb_of Sl160 in373_161) at160 (g := (mkF m 373 #[.val (.int xa), .val (.int xw), .val (.int xp), .val (.int xr), .val (.ref b1), .val (.int v27), .val (.int v29), .val (.ref b30), .val (.int v59), .val (.int v61), .val (.int v170_67), .val (.ref b82), .val (.int (1 : Int32)), .val (.int (1 : Int32)), .val (.ref b1), .val (.int v27), .val (.int v29), .val (.ref bs_122)] [(.int v27), (.ref b1), (.int v159)])) rfl rfl (hb hby at_373) _ k_) ?_
      refine own_Goes.via (T' := T156) (g' := (mkF m 375 #[.val (.int xa), .val (.int xw), .val (.int xp), .val (.int xr), .val (.ref b1), .val (.int v27), .val (.int v29), .val (.ref b30), .val (.int v59), .val (.int v61), .val (.int v170_67), .val (.ref b82), .val (.int (1 : Int32)), .val (.int (1 : Int32)), .val (.ref b1), .val (.int v27), .val (.int v29), .val (.ref bs_122)] [(.int ((Bb v27.toNatClampNeg).toUInt32.toUInt16.toUInt32.toInt32)), (.int v159)])) (fun t_ k_ => XS.i2c X156.here hx rfl (hb hby at_374) rfl k_) ?_
      have hd375_162 : v159 = ((Bb v27.toNatClampNeg).toUInt32.toUInt16.toUInt32.toInt32) := own_pl0_9 hv27 hv29 hv59 hv61 hv65 hv170_67 hv159 hk194_108 hc360_155 in7_6 in15_11 in23_16 in31_21 hBb127 nz39_26 nz53_28 in66_37 in77_44 in88_51 hBp127 hBp0 nz96_58 nz110_60 HW HV HP cd120_63 cd120_64 cd189_100 cd189_101 cd202_110 cd202_111 cd279_123 cd279_124 cd305_136 cd305_137 cd305_138 cd305_139 cd320_141 cd320_142 cd320_143 cd320_144 cd335_146 cd335_147 cd335_148 cd335_149 cd350_151 cd350_152 cd350_153 cd350_154 cd366_157 cd366_158 in373_161
      refine own_Goes.via (T' := T156) (g' := (mkF m 380 #[.val (.int xa), .val (.int xw), .val (.int xp), .val (.int xr), .val (.ref b1), .val (.int v27), .val (.int v29), .val (.ref b30), .val (.int v59), .val (.int v61), .val (.int v170_67), .val (.ref b82), .val (.int (1 : Int32)), .val (.int (1 : Int32)), .val (.ref b1), .val (.int v27), .val (.int v29), .val (.ref bs_122)] [])) (fun t_ k_ => XS.icmpYes X156.here hx rfl (pc0 := 375) (pc' := 380) rfl (hb hby at_375) rfl (teq hd375_162).1 (by decide) (by decide) k_) ?_
      refine own_Goes.via (T' := T156) (g' := (mkF m 382 #[.val (.int xa), .val (.int xw), .val (.int xp), .val (.int xr), .val (.ref b1), .val (.int v27), .val (.int v29), .val (.ref b30), .val (.int v59), .val (.int v61), .val (.int v170_67), .val (.ref b82), .val (.int (1 : Int32)), .val (.int (1 : Int32)), .val (.ref b1), .val (.int v27), .val (.int v29), .val (.ref bs_122)] [(.ref b82)])) (fun t_ k_ => XS.aload X156.here hx rfl (hb hby at_380) rfl rfl k_) ?_
      refine own_Goes.via (T' := T156) (g' := (mkF m 384 #[.val (.int xa), .val (.int xw), .val (.int xp), .val (.int xr), .val (.ref b1), .val (.int v27), .val (.int v29), .val (.ref b30), .val (.int v59), .val (.int v61), .val (.int v170_67), .val (.ref b82), .val (.int (1 : Int32)), .val (.int (1 : Int32)), .val (.ref b1), .val (.int v27), .val (.int v29), .val (.ref bs_122)] [(.int v29), (.ref b82)])) (fun t_ k_ => XS.iload X156.here hx rfl (hb hby at_382) rfl k_) ?_
      refine own_Goes.via (T' := T156) (g' := (mkF m 385 #[.val (.int xa), .val (.int xw), .val (.int xp), .val (.int xr), .val (.ref b1), .val (.int v27), .val (.int v29), .val (.ref b30), .val (.int v59), .val (.int v61), .val (.int v170_67), .val (.ref b82), .val (.int (1 : Int32)), .val (.int (1 : Int32)), .val (.ref b1), .val (.int v27), .val (.int v29), .val (.ref bs_122)] [(.int (1 : Int32)), (.int v29), (.ref b82)])) (fun t_ k_ => XS.iconst X156.here hx rfl (hb hby at_384) k_) ?_
      refine own_Goes.via (T' := T156) (g' := (mkF m 386 #[.val (.int xa), .val (.int xw), .val (.int xp), .val (.int xr), .val (.ref b1), .val (.int v27), .val (.int v29), .val (.ref b30), .val (.int v59), .val (.int v61), .val (.int v170_67), .val (.ref b82), .val (.int (1 : Int32)), .val (.int (1 : Int32)), .val (.ref b1), .val (.int v27), .val (.int v29), .val (.ref bs_122)] [(.int (v29 - (1 : Int32))), (.ref b82)])) (fun t_ k_ => XS.isub X156.here hx rfl (hb hby at_385) rfl k_) ?_
      have cd386_164 : own_win v27 v29 (4 : Int32) := HW
      have cd386_165 : ¬ (v29 - (1 : Int32)) < 0 ∧ (v29 - (1 : Int32)) < v29 := own_pl0_10 hv27 hv29 hv59 hv61 hv65 hv170_67 hv159 hk194_108 hc360_155 in7_6 in15_11 in23_16 in31_21 hBb127 nz39_26 nz53_28 in66_37 in77_44 in88_51 hBp127 hBp0 nz96_58 nz110_60 HW HV HP cd120_63 cd120_64 cd189_100 cd189_101 cd202_110 cd202_111 cd279_123 cd279_124 cd305_136 cd305_137 cd305_138 cd305_139 cd320_141 cd320_142 cd320_143 cd320_144 cd335_146 cd335_147 cd335_148 cd335_149 cd350_151 cd350_152 cd350_153 cd350_154 cd366_157 cd366_158 in373_161 cd386_164
      obtain ⟨cq163, kq163, q163a, q163b, q163c⟩ := isOf hZ hh156 E127
      obtain ⟨_, _, ⟨T163, L163, k163, n163⟩, -, X163, ⟨Lc163, hQ163, l163, y163, z163⟩, st163⟩ := X156.virtualBack hx (y := (⟨"com/example/sluice/sluice/engine/source/file/AsciiLine", "charAt", "(I)C"⟩ : MethodName)) (z := (⟨"com/example/sluice/sluice/engine/source/file/AsciiLine", "charAt", "(I)C"⟩ : MethodName)) hown (mvT hZ (hw _ (List.mem_of_getElem? (i := 135) rfl))) (mvT hZ (hw _ (List.mem_of_getElem? (i := 136) rfl))) (notFace_of_selects (args := #[]) (mvT hZ (hw _ (List.mem_of_getElem? (i := 138) rfl)))) (mvT hZ (hw _ (List.mem_of_getElem? (i := 138) rfl))) (mvT hZ (hw _ (List.mem_of_getElem? (i := 137) rfl))) (by decide) (backOf (W := 0) (rm26 l Z a0 hw [] b82 (v29 - (1 : Int32)) b1 v27 v29 (4 : Int32) Bb T122.heap n0 sz122 F131 F132 F133 G129 cd386_164 cd386_165) hZ (hw _ (List.mem_of_getElem? (i := 139) rfl)) (hw _ (List.mem_of_getElem? (i := 8) rfl)) (by decide) (by decide)) q163a q163c (g := (mkF m 386 #[.val (.int xa), .val (.int xw), .val (.int xp), .val (.int xr), .val (.ref b1), .val (.int v27), .val (.int v29), .val (.ref b30), .val (.int v59), .val (.int v61), .val (.int v170_67), .val (.ref b82), .val (.int (1 : Int32)), .val (.int (1 : Int32)), .val (.ref b1), .val (.int v27), .val (.int v29), .val (.ref bs_122)] [(.int (v29 - (1 : Int32))), (.ref b82)])) rfl (by rw [hml]; rfl) (Steps.refl _) (argsL := [(.int (v29 - (1 : Int32)))]) (rest := []) (lenOf pd_0_6 rfl) rfl (by show 2 * 0 + _ ≤ _; exact Nat.le_of_eq rfl) (hb hby at_386) (fun _ _ => ⟨rfl, hh156, (by decide : 7 + 0 ≤ _), (by decide : 18 + 0 ≤ _)⟩)
      dsimp only [Pt.U, Pt.locs, Pt.cells, Pt.slots] at X163 l163 y163 z163 st163 hQ163
      subst l163 y163 z163
      obtain ⟨rfl, Nq163, hh163⟩ := hQ163
      have N163 := Fr.app N156 Nq163
      refine own_Goes.via (T' := T163) (g' := (mkF m 389 #[.val (.int xa), .val (.int xw), .val (.int xp), .val (.int xr), .val (.ref b1), .val (.int v27), .val (.int v29), .val (.ref b30), .val (.int v59), .val (.int v61), .val (.int v170_67), .val (.ref b82), .val (.int (1 : Int32)), .val (.int (1 : Int32)), .val (.ref b1), .val (.int v27), .val (.int v29), .val (.ref bs_122)] [(.int (own_c (Bb (v27 + (v29 - (1 : Int32))).toNatClampNeg)))])) (fun t_ k_ => st163.trans k_) ?_
      obtain ⟨v166, hv166⟩ : ∃ z : Int32, z = (own_c (Bb (v27 + (v29 - (1 : Int32))).toNatClampNeg)) := ⟨_, rfl⟩
      rw [← hv166]
      refine own_Goes.via (T' := T163) (g' := (mkF m 391 #[.val (.int xa), .val (.int xw), .val (.int xp), .val (.int xr), .val (.ref b1), .val (.int v27), .val (.int v29), .val (.ref b30), .val (.int v59), .val (.int v61), .val (.int v170_67), .val (.ref b82), .val (.int (1 : Int32)), .val (.int (1 : Int32)), .val (.ref b1), .val (.int v27), .val (.int v29), .val (.ref bs_122)] [(.ref b1), (.int v166)])) (fun t_ k_ => XS.aload X163.here hx rfl (hb hby at_389) rfl rfl k_) ?_
      refine own_Goes.via (T' := T163) (g' := (mkF m 393 #[.val (.int xa), .val (.int xw), .val (.int xp), .val (.int xr), .val (.ref b1), .val (.int v27), .val (.int v29), .val (.ref b30), .val (.int v59), .val (.int v61), .val (.int v170_67), .val (.ref b82), .val (.int (1 : Int32)), .val (.int (1 : Int32)), .val (.ref b1), .val (.int v27), .val (.int v29), .val (.ref bs_122)] [(.int v27), (.ref b1), (.int v166)])) (fun t_ k_ => XS.iload X163.here hx rfl (hb hby at_391) rfl k_) ?_
      refine own_Goes.via (T' := T163) (g' := (mkF m 395 #[.val (.int xa), .val (.int xw), .val (.int xp), .val (.int xr), .val (.ref b1), .val (.int v27), .val (.int v29), .val (.ref b30), .val (.int v59), .val (.int v61), .val (.int v170_67), .val (.ref b82), .val (.int (1 : Int32)), .val (.int (1 : Int32)), .val (.ref b1), .val (.int v27), .val (.int v29), .val (.ref bs_122)] [(.int v29), (.int v27), (.ref b1), (.int v166)])) (fun t_ k_ => XS.iload X163.here hx rfl (hb hby at_393) rfl k_) ?_
      refine own_Goes.via (T' := T163) (g' := (mkF m 396 #[.val (.int xa), .val (.int xw), .val (.int xp), .val (.int xr), .val (.ref b1), .val (.int v27), .val (.int v29), .val (.ref b30), .val (.int v59), .val (.int v61), .val (.int v170_67), .val (.ref b82), .val (.int (1 : Int32)), .val (.int (1 : Int32)), .val (.ref b1), .val (.int v27), .val (.int v29), .val (.ref bs_122)] [(.int (v27 + v29)), (.ref b1), (.int v166)])) (fun t_ k_ => XS.iadd X163.here hx rfl (hb hby at_395) rfl k_) ?_
      refine own_Goes.via (T' := T163) (g' := (mkF m 397 #[.val (.int xa), .val (.int xw), .val (.int xp), .val (.int xr), .val (.ref b1), .val (.int v27), .val (.int v29), .val (.ref b30), .val (.int v59), .val (.int v61), .val (.int v170_67), .val (.ref b82), .val (.int (1 : Int32)), .val (.int (1 : Int32)), .val (.ref b1), .val (.int v27), .val (.int v29), .val (.ref bs_122)] [(.int (1 : Int32)), (.int (v27 + v29)), (.ref b1), (.int v166)])) (fun t_ k_ => XS.iconst X163.here hx rfl (hb hby at_396) k_) ?_
      refine own_Goes.via (T' := T163) (g' := (mkF m 398 #[.val (.int xa), .val (.int xw), .val (.int xp), .val (.int xr), .val (.ref b1), .val (.int v27), .val (.int v29), .val (.ref b30), .val (.int v59), .val (.int v61), .val (.int v170_67), .val (.ref b82), .val (.int (1 : Int32)), .val (.int (1 : Int32)), .val (.ref b1), .val (.int v27), .val (.int v29), .val (.ref bs_122)] [(.int ((v27 + v29) - (1 : Int32))), (.ref b1), (.int v166)])) (fun t_ k_ => XS.isub X163.here hx rfl (hb hby at_397) rfl k_) ?_
      have in398_168 : ¬ ((v27 + v29) - (1 : Int32)) < 0 ∧ ((v27 + v29) - (1 : Int32)) < (4 : Int32) := own_pl0_11 hv27 hv29 hv59 hv61 hv65 hv170_67 hv159 hv166 hk194_108 hc360_155 in7_6 in15_11 in23_16 in31_21 hBb127 nz39_26 nz53_28 in66_37 in77_44 in88_51 hBp127 hBp0 nz96_58 nz110_60 HW HV HP cd120_63 cd120_64 cd189_100 cd189_101 cd202_110 cd202_111 cd279_123 cd279_124 cd305_136 cd305_137 cd305_138 cd305_139 cd320_141 cd320_142 cd320_143 cd320_144 cd335_146 cd335_147 cd335_148 cd335_149 cd350_151 cd350_152 cd350_153 cd350_154 cd366_157 cd366_158 in373_161 cd386_164 cd386_165
      obtain ⟨cl167, Ar167, Sl167, at167⟩ := G129.rd in398_168
      refine own_Goes.via (T' := T163) (g' := (mkF m 399 #[.val (.int xa), .val (.int xw), .val (.int xp), .val (.int xr), .val (.ref b1), .val (.int v27), .val (.int v29), .val (.ref b30), .val (.int v59), .val (.int v61), .val (.int v170_67), .val (.ref b82), .val (.int (1 : Int32)), .val (.int (1 : Int32)), .val (.ref b1), .val (.int v27), .val (.int v29), .val (.ref bs_122)] [(.int (Bb ((v27 + v29) - (1 : Int32)).toNatClampNeg)), (.int v166)])) (fun t_ k_ => X163.baloadBytes hx (j := ((v27 + v29) - (1 : Int32))) (v := (.int (Bb ((v27 + v29) - (1 : Int32)).toNatClampNeg))) (by rw [hh163]; exact Ar167.1) (State.isArrayOf_alike hZ.alike Ar167.2.1) Ar167.2.2 (inb_of Sl167 in398_168) at167 (g := (mkF m 398 #[.val (.int xa), .val (.int xw), .val (.int xp), .val (.int xr), .val (.ref b1), .val (.int v27), .val (.int v29), .val (.ref b30), .val (.int v59), .val (.int v61), .val (.int v170_67), .val (.ref b82), .val (.int (1 : Int32)), .val (.int (1 : Int32)), .val (.ref b1), .val (.int v27), .val (.int v29), .val (.ref bs_122)] [(.int ((v27 + v29) - (1 : Int32))), (.ref b1), (.int v166)])) rfl rfl (hb hby at_398) _ k_) ?_
      refine own_Goes.via (T' := T163) (g' := (mkF m 400 #[.val (.int xa), .val (.int xw), .val (.int xp), .val (.int xr), .val (.ref b1), .val (.int v27), .val (.int v29), .val (.ref b30), .val (.int v59), .val (.int v61), .val (.int v170_67), .val (.ref b82), .val (.int (1 : Int32)), .val (.int (1 : Int32)), .val (.ref b1), .val (.int v27), .val (.int v29), .val (.ref bs_122)] [(.int ((Bb ((v27 + v29) - (1 : Int32)).toNatClampNeg).toUInt32.toUInt16.toUInt32.toInt32)), (.int v166)])) (fun t_ k_ => XS.i2c X163.here hx rfl (hb hby at_399) rfl k_) ?_
      have hd400_169 : v166 = ((Bb ((v27 + v29) - (1 : Int32)).toNatClampNeg).toUInt32.toUInt16.toUInt32.toInt32) := own_pl0_12 hv27 hv29 hv59 hv61 hv65 hv170_67 hv159 hv166 hk194_108 hc360_155 in7_6 in15_11 in23_16 in31_21 hBb127 nz39_26 nz53_28 in66_37 in77_44 in88_51 hBp127 hBp0 nz96_58 nz110_60 HW HV HP cd120_63 cd120_64 cd189_100 cd189_101 cd202_110 cd202_111 cd279_123 cd279_124 cd305_136 cd305_137 cd305_138 cd305_139 cd320_141 cd320_142 cd320_143 cd320_144 cd335_146 cd335_147 cd335_148 cd335_149 cd350_151 cd350_152 cd350_153 cd350_154 cd366_157 cd366_158 in373_161 cd386_164 cd386_165 in398_168
      refine own_Goes.via (T' := T163) (g' := (mkF m 405 #[.val (.int xa), .val (.int xw), .val (.int xp), .val (.int xr), .val (.ref b1), .val (.int v27), .val (.int v29), .val (.ref b30), .val (.int v59), .val (.int v61), .val (.int v170_67), .val (.ref b82), .val (.int (1 : Int32)), .val (.int (1 : Int32)), .val (.ref b1), .val (.int v27), .val (.int v29), .val (.ref bs_122)] [])) (fun t_ k_ => XS.icmpYes X163.here hx rfl (pc0 := 400) (pc' := 405) rfl (hb hby at_400) rfl (teq hd400_169).1 (by decide) (by decide) k_) ?_
      refine own_Goes.via (T' := T163) (g' := (mkF m 406 #[.val (.int xa), .val (.int xw), .val (.int xp), .val (.int xr), .val (.ref b1), .val (.int v27), .val (.int v29), .val (.ref b30), .val (.int v59), .val (.int v61), .val (.int v170_67), .val (.ref b82), .val (.int (1 : Int32)), .val (.int (1 : Int32)), .val (.ref b1), .val (.int v27), .val (.int v29), .val (.ref bs_122)] [(.int (1 : Int32))])) (fun t_ k_ => XS.iconst X163.here hx rfl (hb hby at_405) k_) ?_
      obtain ⟨fs, hr, hrun, hended, hE⟩ := leaveW X163 hS (by rw [hh163]; exact hk) (v := some (.int 1)) (fun h => by rw [Bd.returns] at h; cases h)
      refine own_Goes.fin (retN X163 hx (t := .boolean) Bd.returns (by simp) (hb hby at_406) hr) hrun hended ?_
      subst hPd
      refine ⟨_, _, rfl, ?_, hE.1, hE.2.1, hE.2.2.1, hE.2.2.2.mono (by decide) (by decide)⟩
      show Q0 Z xa xw xp xr s_us xcs wsf s_utf s_iso h0 n0 _ T163.heap _
      rw [hh163]
      exact ⟨rfl, N163⟩
    · refine own_Goes.via (T' := T150) (g' := (mkF m 405 #[.val (.int xa), .val (.int xw), .val (.int xp), .val (.int xr), .val (.ref b1), .val (.int v27), .val (.int v29), .val (.ref b30), .val (.int v59), .val (.int v61), .val (.int v170_67), .val (.ref b82), .val (.int (1 : Int32)), .val (.int (1 : Int32)), .val (.ref b1), .val (.int v27), .val (.int v29), .val (.ref bs_122)] [])) (fun t_ k_ => XS.ifYes X150.here hx rfl (pc0 := 360) (pc' := 405) rfl (hb hby at_360) rfl ((if0 _ _).trans (flt hc360_155).2.2.2) (by decide) (by decide) k_) ?_
      refine own_Goes.via (T' := T150) (g' := (mkF m 406 #[.val (.int xa), .val (.int xw), .val (.int xp), .val (.int xr), .val (.ref b1), .val (.int v27), .val (.int v29), .val (.ref b30), .val (.int v59), .val (.int v61), .val (.int v170_67), .val (.ref b82), .val (.int (1 : Int32)), .val (.int (1 : Int32)), .val (.ref b1), .val (.int v27), .val (.int v29), .val (.ref bs_122)] [(.int (1 : Int32))])) (fun t_ k_ => XS.iconst X150.here hx rfl (hb hby at_405) k_) ?_
      obtain ⟨fs, hr, hrun, hended, hE⟩ := leaveW X150 hS (by rw [hh150]; exact hk) (v := some (.int 1)) (fun h => by rw [Bd.returns] at h; cases h)
      refine own_Goes.fin (retN X150 hx (t := .boolean) Bd.returns (by simp) (hb hby at_406) hr) hrun hended ?_
      subst hPd
      refine ⟨_, _, rfl, ?_, hE.1, hE.2.1, hE.2.2.1, hE.2.2.2.mono (by decide) (by decide)⟩
      show Q0 Z xa xw xp xr s_us xcs wsf s_utf s_iso h0 n0 _ T150.heap _
      rw [hh150]
      exact ⟨rfl, N150⟩
  · refine own_Goes.via (T' := T99) (g' := (mkF m 196 #[.val (.int xa), .val (.int xw), .val (.int xp), .val (.int xr), .val (.ref b1), .val (.int v27), .val (.int v29), .val (.ref b30), .val (.int v59), .val (.int v61), .val (.int v170_67), .val (.ref b82), .val (.int (1 : Int32)), .unset, .unset, .unset, .unset, .unset] [(.ref b82)])) (fun t_ k_ => XS.aload X99.here hx rfl (hb hby at_194) rfl rfl k_) ?_
    refine own_Goes.via (T' := T99) (g' := (mkF m 198 #[.val (.int xa), .val (.int xw), .val (.int xp), .val (.int xr), .val (.ref b1), .val (.int v27), .val (.int v29), .val (.ref b30), .val (.int v59), .val (.int v61), .val (.int v170_67), .val (.ref b82), .val (.int (1 : Int32)), .unset, .unset, .unset, .unset, .unset] [(.ref b1), (.ref b82)])) (fun t_ k_ => XS.aload X99.here hx rfl (hb hby at_196) rfl rfl k_) ?_
    refine own_Goes.via (T' := T99) (g' := (mkF m 200 #[.val (.int xa), .val (.int xw), .val (.int xp), .val (.int xr), .val (.ref b1), .val (.int v27), .val (.int v29), .val (.ref b30), .val (.int v59), .val (.int v61), .val (.int v170_67), .val (.ref b82), .val (.int (1 : Int32)), .unset, .unset, .unset, .unset, .unset] [(.int v27), (.ref b1), (.ref b82)])) (fun t_ k_ => XS.iload X99.here hx rfl (hb hby at_198) rfl k_) ?_
    refine own_Goes.via (T' := T99) (g' := (mkF m 202 #[.val (.int xa), .val (.int xw), .val (.int xp), .val (.int xr), .val (.ref b1), .val (.int v27), .val (.int v29), .val (.ref b30), .val (.int v59), .val (.int v61), .val (.int v170_67), .val (.ref b82), .val (.int (1 : Int32)), .unset, .unset, .unset, .unset, .unset] [(.int v29), (.int v27), (.ref b1), (.ref b82)])) (fun t_ k_ => XS.iload X99.here hx rfl (hb hby at_200) rfl k_) ?_
    have cd202_171 : own_win v27 v29 (4 : Int32) := HW
    have cd202_172 : ¬ own_nn Bb v27 v29 := hk194_108
    obtain ⟨cq170, kq170, q170a, q170b, q170c⟩ := isOf hZ rfl E104
    obtain ⟨_, _, ⟨T170, L170, k170, n170⟩, -, X170, ⟨Lc170, hQ170, l170, y170, z170⟩, st170⟩ := X99.virtualBack hx (y := (⟨"com/example/sluice/sluice/engine/source/file/AsciiLine", "readIn", "([BII)Z"⟩ : MethodName)) (z := (⟨"com/example/sluice/sluice/engine/source/file/AsciiLine", "readIn", "([BII)Z"⟩ : MethodName)) hown (mvT hZ (hw _ (List.mem_of_getElem? (i := 17) rfl))) (mvT hZ (hw _ (List.mem_of_getElem? (i := 18) rfl))) (notFace_of_selects (args := #[]) (mvT hZ (hw _ (List.mem_of_getElem? (i := 20) rfl)))) (mvT hZ (hw _ (List.mem_of_getElem? (i := 20) rfl))) (mvT hZ (hw _ (List.mem_of_getElem? (i := 19) rfl))) (by decide) (backOf (W := 0) (rm4b l Z a0 hw [] b82 b1 v27 v29 (4 : Int32) Bb T99.heap n0 sz99 G106 cd202_171 cd202_172) hZ (hw _ (List.mem_of_getElem? (i := 21) rfl)) (hw _ (List.mem_of_getElem? (i := 8) rfl)) (by decide) (by decide)) q170a q170c (g := (mkF m 202 #[.val (.int xa), .val (.int xw), .val (.int xp), .val (.int xr), .val (.ref b1), .val (.int v27), .val (.int v29), .val (.ref b30), .val (.int v59), .val (.int v61), .val (.int v170_67), .val (.ref b82), .val (.int (1 : Int32)), .unset, .unset, .unset, .unset, .unset] [(.int v29), (.int v27), (.ref b1), (.ref b82)])) rfl (by rw [hml]; rfl) (Steps.refl _) (argsL := [(.ref b1), (.int v27), (.int v29)]) (rest := []) (lenOf pd_0_2 rfl) rfl (by show 2 * 0 + _ ≤ _; exact Nat.le_of_eq rfl) (hb hby at_202) (fun _ _ => ⟨rfl, rfl, (by decide : 4 + 0 ≤ _), (by decide : 10 + 0 ≤ _)⟩)
    dsimp only [Pt.U, Pt.locs, Pt.cells, Pt.slots] at X170 l170 y170 z170 st170 hQ170
    subst l170 y170 z170
    obtain ⟨rfl, Nq170, hh170⟩ := hQ170
    have N170 := Fr.app N99 Nq170
    refine own_Goes.via (T' := T170) (g' := (mkF m 205 #[.val (.int xa), .val (.int xw), .val (.int xp), .val (.int xr), .val (.ref b1), .val (.int v27), .val (.int v29), .val (.ref b30), .val (.int v59), .val (.int v61), .val (.int v170_67), .val (.ref b82), .val (.int (1 : Int32)), .unset, .unset, .unset, .unset, .unset] [(.int (0 : Int32))])) (fun t_ k_ => st170.trans k_) ?_
    refine own_Goes.via (T' := T170) (g' := (mkF m 207 #[.val (.int xa), .val (.int xw), .val (.int xp), .val (.int xr), .val (.ref b1), .val (.int v27), .val (.int v29), .val (.ref b30), .val (.int v59), .val (.int v61), .val (.int v170_67), .val (.ref b82), .val (.int (1 : Int32)), .val (.int (0 : Int32)), .unset, .unset, .unset, .unset] [])) (fun t_ k_ => XS.istore X170.here hx rfl (hb hby at_205) rfl (l' := #[.val (.int xa), .val (.int xw), .val (.int xp), .val (.int xr), .val (.ref b1), .val (.int v27), .val (.int v29), .val (.ref b30), .val (.int v59), .val (.int v61), .val (.int v170_67), .val (.ref b82), .val (.int (1 : Int32)), .val (.int (0 : Int32)), .unset, .unset, .unset, .unset]) rfl k_) ?_
    refine own_Goes.via (T' := T170) (g' := (mkF m 209 #[.val (.int xa), .val (.int xw), .val (.int xp), .val (.int xr), .val (.ref b1), .val (.int v27), .val (.int v29), .val (.ref b30), .val (.int v59), .val (.int v61), .val (.int v170_67), .val (.ref b82), .val (.int (1 : Int32)), .val (.int (0 : Int32)), .unset, .unset, .unset, .unset] [(.int v170_67)])) (fun t_ k_ => XS.iload X170.here hx rfl (hb hby at_207) rfl k_) ?_
    have hd209_173 : v170_67 = (0 : Int32) := own_pl0_13 hv27 hv29 hv59 hv61 hv65 hv170_67 hk194_108 in7_6 in15_11 in23_16 in31_21 hBb127 nz39_26 nz53_28 in66_37 in77_44 in88_51 hBp127 hBp0 nz96_58 nz110_60 HW HV HP cd120_63 cd120_64 cd189_100 cd189_101 cd202_171 cd202_172
    refine own_Goes.via (T' := T170) (g' := (mkF m 217 #[.val (.int xa), .val (.int xw), .val (.int xp), .val (.int xr), .val (.ref b1), .val (.int v27), .val (.int v29), .val (.ref b30), .val (.int v59), .val (.int v61), .val (.int v170_67), .val (.ref b82), .val (.int (1 : Int32)), .val (.int (0 : Int32)), .unset, .unset, .unset, .unset] [])) (fun t_ k_ => XS.ifYes X170.here hx rfl (pc0 := 209) (pc' := 217) rfl (hb hby at_209) rfl ((if0 _ _).trans (teq hd209_173).1) (by decide) (by decide) k_) ?_
    refine own_Goes.via (T' := T170) (g' := (mkF m 219 #[.val (.int xa), .val (.int xw), .val (.int xp), .val (.int xr), .val (.ref b1), .val (.int v27), .val (.int v29), .val (.ref b30), .val (.int v59), .val (.int v61), .val (.int v170_67), .val (.ref b82), .val (.int (1 : Int32)), .val (.int (0 : Int32)), .unset, .unset, .unset, .unset] [(.ref b30)])) (fun t_ k_ => XS.aload X170.here hx rfl (hb hby at_217) rfl rfl k_) ?_
    refine own_Goes.via (T' := T170) (g' := (mkF m 221 #[.val (.int xa), .val (.int xw), .val (.int xp), .val (.int xr), .val (.ref b1), .val (.int v27), .val (.int v29), .val (.ref b30), .val (.int v59), .val (.int v61), .val (.int v170_67), .val (.ref b82), .val (.int (1 : Int32)), .val (.int (0 : Int32)), .val (.ref b30), .unset, .unset, .unset] [])) (fun t_ k_ => XS.astore X170.here hx rfl (hb hby at_219) rfl rfl (l' := #[.val (.int xa), .val (.int xw), .val (.int xp), .val (.int xr), .val (.ref b1), .val (.int v27), .val (.int v29), .val (.ref b30), .val (.int v59), .val (.int v61), .val (.int v170_67), .val (.ref b82), .val (.int (1 : Int32)), .val (.int (0 : Int32)), .val (.ref b30), .unset, .unset, .unset]) rfl k_) ?_
    refine own_Goes.via (T' := T170) (g' := (mkF m 223 #[.val (.int xa), .val (.int xw), .val (.int xp), .val (.int xr), .val (.ref b1), .val (.int v27), .val (.int v29), .val (.ref b30), .val (.int v59), .val (.int v61), .val (.int v170_67), .val (.ref b82), .val (.int (1 : Int32)), .val (.int (0 : Int32)), .val (.ref b30), .unset, .unset, .unset] [(.int v170_67)])) (fun t_ k_ => XS.iload X170.here hx rfl (hb hby at_221) rfl k_) ?_
    refine own_Goes.via (T' := T170) (g' := (mkF m 231 #[.val (.int xa), .val (.int xw), .val (.int xp), .val (.int xr), .val (.ref b1), .val (.int v27), .val (.int v29), .val (.ref b30), .val (.int v59), .val (.int v61), .val (.int v170_67), .val (.ref b82), .val (.int (1 : Int32)), .val (.int (0 : Int32)), .val (.ref b30), .unset, .unset, .unset] [])) (fun t_ k_ => XS.ifYes X170.here hx rfl (pc0 := 223) (pc' := 231) rfl (hb hby at_223) rfl ((if0 _ _).trans (teq hd209_173).1) (by decide) (by decide) k_) ?_
    refine own_Goes.via (T' := T170) (g' := (mkF m 233 #[.val (.int xa), .val (.int xw), .val (.int xp), .val (.int xr), .val (.ref b1), .val (.int v27), .val (.int v29), .val (.ref b30), .val (.int v59), .val (.int v61), .val (.int v170_67), .val (.ref b82), .val (.int (1 : Int32)), .val (.int (0 : Int32)), .val (.ref b30), .unset, .unset, .unset] [(.int v59)])) (fun t_ k_ => XS.iload X170.here hx rfl (hb hby at_231) rfl k_) ?_
    refine own_Goes.via (T' := T170) (g' := (mkF m 235 #[.val (.int xa), .val (.int xw), .val (.int xp), .val (.int xr), .val (.ref b1), .val (.int v27), .val (.int v29), .val (.ref b30), .val (.int v59), .val (.int v61), .val (.int v170_67), .val (.ref b82), .val (.int (1 : Int32)), .val (.int (0 : Int32)), .val (.ref b30), .val (.int v59), .unset, .unset] [])) (fun t_ k_ => XS.istore X170.here hx rfl (hb hby at_233) rfl (l' := #[.val (.int xa), .val (.int xw), .val (.int xp), .val (.int xr), .val (.ref b1), .val (.int v27), .val (.int v29), .val (.ref b30), .val (.int v59), .val (.int v61), .val (.int v170_67), .val (.ref b82), .val (.int (1 : Int32)), .val (.int (0 : Int32)), .val (.ref b30), .val (.int v59), .unset, .unset]) rfl k_) ?_
    refine own_Goes.via (T' := T170) (g' := (mkF m 237 #[.val (.int xa), .val (.int xw), .val (.int xp), .val (.int xr), .val (.ref b1), .val (.int v27), .val (.int v29), .val (.ref b30), .val (.int v59), .val (.int v61), .val (.int v170_67), .val (.ref b82), .val (.int (1 : Int32)), .val (.int (0 : Int32)), .val (.ref b30), .val (.int v59), .unset, .unset] [(.int v170_67)])) (fun t_ k_ => XS.iload X170.here hx rfl (hb hby at_235) rfl k_) ?_
    refine own_Goes.via (T' := T170) (g' := (mkF m 245 #[.val (.int xa), .val (.int xw), .val (.int xp), .val (.int xr), .val (.ref b1), .val (.int v27), .val (.int v29), .val (.ref b30), .val (.int v59), .val (.int v61), .val (.int v170_67), .val (.ref b82), .val (.int (1 : Int32)), .val (.int (0 : Int32)), .val (.ref b30), .val (.int v59), .unset, .unset] [])) (fun t_ k_ => XS.ifYes X170.here hx rfl (pc0 := 237) (pc' := 245) rfl (hb hby at_237) rfl ((if0 _ _).trans (teq hd209_173).1) (by decide) (by decide) k_) ?_
    refine own_Goes.via (T' := T170) (g' := (mkF m 247 #[.val (.int xa), .val (.int xw), .val (.int xp), .val (.int xr), .val (.ref b1), .val (.int v27), .val (.int v29), .val (.ref b30), .val (.int v59), .val (.int v61), .val (.int v170_67), .val (.ref b82), .val (.int (1 : Int32)), .val (.int (0 : Int32)), .val (.ref b30), .val (.int v59), .unset, .unset] [(.int v61)])) (fun t_ k_ => XS.iload X170.here hx rfl (hb hby at_245) rfl k_) ?_
    refine own_Goes.via (T' := T170) (g' := (mkF m 249 #[.val (.int xa), .val (.int xw), .val (.int xp), .val (.int xr), .val (.ref b1), .val (.int v27), .val (.int v29), .val (.ref b30), .val (.int v59), .val (.int v61), .val (.int v170_67), .val (.ref b82), .val (.int (1 : Int32)), .val (.int (0 : Int32)), .val (.ref b30), .val (.int v59), .val (.int v61), .unset] [])) (fun t_ k_ => XS.istore X170.here hx rfl (hb hby at_247) rfl (l' := #[.val (.int xa), .val (.int xw), .val (.int xp), .val (.int xr), .val (.ref b1), .val (.int v27), .val (.int v29), .val (.ref b30), .val (.int v59), .val (.int v61), .val (.int v170_67), .val (.ref b82), .val (.int (1 : Int32)), .val (.int (0 : Int32)), .val (.ref b30), .val (.int v59), .val (.int v61), .unset]) rfl k_) ?_
    refine own_Goes.via (T' := T170) (g' := (mkF m 251 #[.val (.int xa), .val (.int xw), .val (.int xp), .val (.int xr), .val (.ref b1), .val (.int v27), .val (.int v29), .val (.ref b30), .val (.int v59), .val (.int v61), .val (.int v170_67), .val (.ref b82), .val (.int (1 : Int32)), .val (.int (0 : Int32)), .val (.ref b30), .val (.int v59), .val (.int v61), .unset] [(.int (1 : Int32))])) (fun t_ k_ => XS.iload X170.here hx rfl (hb hby at_249) rfl k_) ?_
    refine own_Goes.via (T' := T170) (g' := (mkF m 256 #[.val (.int xa), .val (.int xw), .val (.int xp), .val (.int xr), .val (.ref b1), .val (.int v27), .val (.int v29), .val (.ref b30), .val (.int v59), .val (.int v61), .val (.int v170_67), .val (.ref b82), .val (.int (1 : Int32)), .val (.int (0 : Int32)), .val (.ref b30), .val (.int v59), .val (.int v61), .unset] [])) (fun t_ k_ => XS.ifYes X170.here hx rfl (pc0 := 251) (pc' := 256) rfl (hb hby at_251) rfl ((if0 _ _).trans (feq (by decide : ¬ ((1 : Int32) = (0 : Int32)))).2) (by decide) (by decide) k_) ?_
    refine own_Goes.via (T' := T170) (g' := (mkF m 258 #[.val (.int xa), .val (.int xw), .val (.int xp), .val (.int xr), .val (.ref b1), .val (.int v27), .val (.int v29), .val (.ref b30), .val (.int v59), .val (.int v61), .val (.int v170_67), .val (.ref b82), .val (.int (1 : Int32)), .val (.int (0 : Int32)), .val (.ref b30), .val (.int v59), .val (.int v61), .unset] [(.int (0 : Int32))])) (fun t_ k_ => XS.iload X170.here hx rfl (hb hby at_256) rfl k_) ?_
    refine own_Goes.via (T' := T170) (g' := (mkF m 260 #[.val (.int xa), .val (.int xw), .val (.int xp), .val (.int xr), .val (.ref b1), .val (.int v27), .val (.int v29), .val (.ref b30), .val (.int v59), .val (.int v61), .val (.int v170_67), .val (.ref b82), .val (.int (1 : Int32)), .val (.int (0 : Int32)), .val (.ref b30), .val (.int v59), .val (.int v61), .unset] [(.int v170_67), (.int (0 : Int32))])) (fun t_ k_ => XS.iload X170.here hx rfl (hb hby at_258) rfl k_) ?_
    have hd260_174 : (0 : Int32) = v170_67 := own_pl0_14 hv27 hv29 hv59 hv61 hv65 hv170_67 hk194_108 in7_6 in15_11 in23_16 in31_21 hBb127 nz39_26 nz53_28 in66_37 in77_44 in88_51 hBp127 hBp0 nz96_58 nz110_60 HW HV HP cd120_63 cd120_64 cd189_100 cd189_101 cd202_171 cd202_172
    refine own_Goes.via (T' := T170) (g' := (mkF m 265 #[.val (.int xa), .val (.int xw), .val (.int xp), .val (.int xr), .val (.ref b1), .val (.int v27), .val (.int v29), .val (.ref b30), .val (.int v59), .val (.int v61), .val (.int v170_67), .val (.ref b82), .val (.int (1 : Int32)), .val (.int (0 : Int32)), .val (.ref b30), .val (.int v59), .val (.int v61), .unset] [])) (fun t_ k_ => XS.icmpYes X170.here hx rfl (pc0 := 260) (pc' := 265) rfl (hb hby at_260) rfl (teq hd260_174).1 (by decide) (by decide) k_) ?_
    refine own_Goes.via (T' := T170) (g' := (mkF m 267 #[.val (.int xa), .val (.int xw), .val (.int xp), .val (.int xr), .val (.ref b1), .val (.int v27), .val (.int v29), .val (.ref b30), .val (.int v59), .val (.int v61), .val (.int v170_67), .val (.ref b82), .val (.int (1 : Int32)), .val (.int (0 : Int32)), .val (.ref b30), .val (.int v59), .val (.int v61), .unset] [(.ref b82)])) (fun t_ k_ => XS.aload X170.here hx rfl (hb hby at_265) rfl rfl k_) ?_
    obtain ⟨cq175, kq175, q175a, q175b, q175c⟩ := isOf hZ hh170 E104
    obtain ⟨_, _, ⟨T175, L175, k175, n175⟩, -, X175, ⟨Lc175, hQ175, l175, y175, z175⟩, st175⟩ := X170.virtualBack hx (y := (⟨"com/example/sluice/sluice/engine/source/file/AsciiLine", "length", "()I"⟩ : MethodName)) (z := (⟨"com/example/sluice/sluice/engine/source/file/AsciiLine", "length", "()I"⟩ : MethodName)) hown (mvT hZ (hw _ (List.mem_of_getElem? (i := 26) rfl))) (mvT hZ (hw _ (List.mem_of_getElem? (i := 27) rfl))) (notFace_of_selects (args := #[]) (mvT hZ (hw _ (List.mem_of_getElem? (i := 29) rfl)))) (mvT hZ (hw _ (List.mem_of_getElem? (i := 29) rfl))) (mvT hZ (hw _ (List.mem_of_getElem? (i := 28) rfl))) (by decide) (backOf (W := 0) (rm5 l Z a0 hw [] b82 v61 T99.heap n0 sz99 pf99_2) hZ (hw _ (List.mem_of_getElem? (i := 30) rfl)) (hw _ (List.mem_of_getElem? (i := 8) rfl)) (by decide) (by decide)) q175a q175c (g := (mkF m 267 #[.val (.int xa), .val (.int xw), .val (.int xp), .val (.int xr), .val (.ref b1), .val (.int v27), .val (.int v29), .val (.ref b30), .val (.int v59), .val (.int v61), .val (.int v170_67), .val (.ref b82), .val (.int (1 : Int32)), .val (.int (0 : Int32)), .val (.ref b30), .val (.int v59), .val (.int v61), .unset] [(.ref b82)])) rfl (by rw [hml]; rfl) (Steps.refl _) (argsL := []) (rest := []) (lenOf pd_0_3 rfl) rfl (by show 2 * 0 + _ ≤ _; exact Nat.le_of_eq rfl) (hb hby at_267) (fun _ _ => ⟨rfl, hh170, (by decide : 4 + 0 ≤ _), (by decide : 10 + 0 ≤ _)⟩)
    dsimp only [Pt.U, Pt.locs, Pt.cells, Pt.slots] at X175 l175 y175 z175 st175 hQ175
    subst l175 y175 z175
    obtain ⟨rfl, Nq175, hh175⟩ := hQ175
    have N175 := Fr.app N170 Nq175
    refine own_Goes.via (T' := T175) (g' := (mkF m 270 #[.val (.int xa), .val (.int xw), .val (.int xp), .val (.int xr), .val (.ref b1), .val (.int v27), .val (.int v29), .val (.ref b30), .val (.int v59), .val (.int v61), .val (.int v170_67), .val (.ref b82), .val (.int (1 : Int32)), .val (.int (0 : Int32)), .val (.ref b30), .val (.int v59), .val (.int v61), .unset] [(.int v61)])) (fun t_ k_ => st175.trans k_) ?_
    refine own_Goes.via (T' := T175) (g' := (mkF m 272 #[.val (.int xa), .val (.int xw), .val (.int xp), .val (.int xr), .val (.ref b1), .val (.int v27), .val (.int v29), .val (.ref b30), .val (.int v59), .val (.int v61), .val (.int v170_67), .val (.ref b82), .val (.int (1 : Int32)), .val (.int (0 : Int32)), .val (.ref b30), .val (.int v59), .val (.int v61), .unset] [(.int v61), (.int v61)])) (fun t_ k_ => XS.iload X175.here hx rfl (hb hby at_270) rfl k_) ?_
    have hd272_176 : v61 = v61 := rfl
    refine own_Goes.via (T' := T175) (g' := (mkF m 277 #[.val (.int xa), .val (.int xw), .val (.int xp), .val (.int xr), .val (.ref b1), .val (.int v27), .val (.int v29), .val (.ref b30), .val (.int v59), .val (.int v61), .val (.int v170_67), .val (.ref b82), .val (.int (1 : Int32)), .val (.int (0 : Int32)), .val (.ref b30), .val (.int v59), .val (.int v61), .unset] [])) (fun t_ k_ => XS.icmpYes X175.here hx rfl (pc0 := 272) (pc' := 277) rfl (hb hby at_272) rfl (teq hd272_176).1 (by decide) (by decide) k_) ?_
    refine own_Goes.via (T' := T175) (g' := (mkF m 279 #[.val (.int xa), .val (.int xw), .val (.int xp), .val (.int xr), .val (.ref b1), .val (.int v27), .val (.int v29), .val (.ref b30), .val (.int v59), .val (.int v61), .val (.int v170_67), .val (.ref b82), .val (.int (1 : Int32)), .val (.int (0 : Int32)), .val (.ref b30), .val (.int v59), .val (.int v61), .unset] [(.ref b82)])) (fun t_ k_ => XS.aload X175.here hx rfl (hb hby at_277) rfl rfl k_) ?_
    have cd279_178 : own_win v59 v61 (3 : Int32) := HV
    have cd279_179 : own_nn Bp v59 v61 := HP
    obtain ⟨cq177, kq177, q177a, q177b, q177c⟩ := isOf hZ hh175 E104
    obtain ⟨_, _, ⟨T177, L177, k177, n177⟩, -, X177, hs177, hg177, ⟨Lc177, hQ177, l177, y177, z177⟩, st177⟩ := X175.virtualBackS hx (y := (⟨"com/example/sluice/sluice/engine/source/file/AsciiLine", "toString", "()Ljava/lang/String;"⟩ : MethodName)) (z := (⟨"com/example/sluice/sluice/engine/source/file/AsciiLine", "toString", "()Ljava/lang/String;"⟩ : MethodName)) hown (mvT hZ (hw _ (List.mem_of_getElem? (i := 31) rfl))) (mvT hZ (hw _ (List.mem_of_getElem? (i := 32) rfl))) (notFace_of_selects (args := #[]) (mvT hZ (hw _ (List.mem_of_getElem? (i := 34) rfl)))) (mvT hZ (hw _ (List.mem_of_getElem? (i := 34) rfl))) (mvT hZ (hw _ (List.mem_of_getElem? (i := 33) rfl))) (by decide) (own_backSI (W := 0) (rm6 l Z a0 hw [] b82 s_us xcs wsf s_utf s_iso b30 v59 v61 (3 : Int32) Bp T99.heap n0 sz99 E104 E103 pf99_0 pf99_1 pf99_2 G107 O105 cd279_178 cd279_179 S_std S_utf S_iso S_us E_utf E_iso E_us S_cs hcs S_sf isr_wsf hheld hcw) hZ hin (hw _ (List.mem_of_getElem? (i := 35) rfl)) (hw _ (List.mem_of_getElem? (i := 8) rfl)) (by decide) (by decide)) q177a q177c (g := (mkF m 279 #[.val (.int xa), .val (.int xw), .val (.int xp), .val (.int xr), .val (.ref b1), .val (.int v27), .val (.int v29), .val (.ref b30), .val (.int v59), .val (.int v61), .val (.int v170_67), .val (.ref b82), .val (.int (1 : Int32)), .val (.int (0 : Int32)), .val (.ref b30), .val (.int v59), .val (.int v61), .unset] [(.ref b82)])) rfl (by rw [hml]; rfl) (Steps.refl _) (argsL := []) (rest := []) (lenOf pd_0_4 rfl) rfl (by show 2 * 0 + _ ≤ _; exact Nat.le_of_eq rfl) (hb hby at_279) (fun _ _ => ⟨rfl, hh175, (by decide : 4 + 3 ≤ _), (by decide : 10 + 8 ≤ _)⟩)
    dsimp only [Pt.U, Pt.locs, Pt.cells, Pt.slots] at X177 l177 y177 z177 st177 hQ177 hs177 hg177
    obtain ⟨X177, hS, hZ, hown⟩ := rebS hS (n1 := T175.heap.size) (by rw [hh175]; exact hk) X177 hs177 hg177 hZ hown
    have hk := Nat.le_refl T177.heap.size
    subst l177 y177 z177
    obtain ⟨bs_177, bz_177, rfl, Nq177, Kq177, pf177_0, pf177_1, pf177_2, pf177_3⟩ := hQ177
    have N177 := Fr.app N175 Nq177
    have E180 : Exa Z T177.heap b1 "[B" := E102.keep Kq177
    have E181 : Exa Z T177.heap b30 "[B" := E103.keep Kq177
    have E182 : Exa Z T177.heap b82 "com/example/sluice/sluice/engine/source/file/AsciiLine" := E104.keep Kq177
    have O183 : Old Z n0 T177.heap := O105.keep Kq177 all0
    have G184 : own_Gi Z T177.heap b1 .byte (4 : Int32) Bb := G106.keep Kq177 nin0
    have G185 : own_Gi Z T177.heap b30 .byte (3 : Int32) Bp := G107.keep Kq177 nin0
    have F186 : Fld Z T177.heap b82 "com/example/sluice/sluice/engine/source/file/AsciiLine" "bytes" "[B" (.ref b30) := pf99_0.keep Kq177 nin0
    have F187 : Fld Z T177.heap b82 "com/example/sluice/sluice/engine/source/file/AsciiLine" "offset" "I" (.int v59) := pf99_1.keep Kq177 nin0
    have F188 : Fld Z T177.heap b82 "com/example/sluice/sluice/engine/source/file/AsciiLine" "length" "I" (.int v61) := pf99_2.keep Kq177 nin0
    have sz177 : n0 ≤ T177.heap.size := Nat.le_trans sz99 Kq177.1
    have K177 : Keep h0 T177.heap [] := (K99).trans Kq177 all0
    refine own_Goes.via (T' := T177) (g' := (mkF m 282 #[.val (.int xa), .val (.int xw), .val (.int xp), .val (.int xr), .val (.ref b1), .val (.int v27), .val (.int v29), .val (.ref b30), .val (.int v59), .val (.int v61), .val (.int v170_67), .val (.ref b82), .val (.int (1 : Int32)), .val (.int (0 : Int32)), .val (.ref b30), .val (.int v59), .val (.int v61), .unset] [(.ref bs_177)])) (fun t_ k_ => st177.trans k_) ?_
    refine own_Goes.via (T' := T177) (g' := (mkF m 284 #[.val (.int xa), .val (.int xw), .val (.int xp), .val (.int xr), .val (.ref b1), .val (.int v27), .val (.int v29), .val (.ref b30), .val (.int v59), .val (.int v61), .val (.int v170_67), .val (.ref b82), .val (.int (1 : Int32)), .val (.int (0 : Int32)), .val (.ref b30), .val (.int v59), .val (.int v61), .val (.ref bs_177)] [])) (fun t_ k_ => XS.astore X177.here hx rfl (hb hby at_282) rfl rfl (l' := #[.val (.int xa), .val (.int xw), .val (.int xp), .val (.int xr), .val (.ref b1), .val (.int v27), .val (.int v29), .val (.ref b30), .val (.int v59), .val (.int v61), .val (.int v170_67), .val (.ref b82), .val (.int (1 : Int32)), .val (.int (0 : Int32)), .val (.ref b30), .val (.int v59), .val (.int v61), .val (.ref bs_177)]) rfl k_) ?_
    refine own_Goes.via (T' := T177) (g' := (mkF m 286 #[.val (.int xa), .val (.int xw), .val (.int xp), .val (.int xr), .val (.ref b1), .val (.int v27), .val (.int v29), .val (.ref b30), .val (.int v59), .val (.int v61), .val (.int v170_67), .val (.ref b82), .val (.int (1 : Int32)), .val (.int (0 : Int32)), .val (.ref b30), .val (.int v59), .val (.int v61), .val (.ref bs_177)] [(.ref bs_177)])) (fun t_ k_ => XS.aload X177.here hx rfl (hb hby at_284) rfl rfl k_) ?_
    obtain ⟨cq189, kq189, q189a, q189b, q189c⟩ := isOf hZ rfl pf177_0
    obtain ⟨_, _, ⟨T189, L189, k189, n189⟩, -, X189, ⟨Lc189, hQ189, l189, y189, z189⟩, st189⟩ := X177.virtualBack hx (y := (⟨"java/lang/String", "length", "()I"⟩ : MethodName)) (z := (⟨"java/lang/String", "length", "()I"⟩ : MethodName)) hown (mvT hZ (hw _ (List.mem_of_getElem? (i := 70) rfl))) (mvT hZ (hw _ (List.mem_of_getElem? (i := 71) rfl))) (notFace_of_selects (args := #[]) (mvT hZ (hw _ (List.mem_of_getElem? (i := 73) rfl)))) (mvT hZ (hw _ (List.mem_of_getElem? (i := 73) rfl))) (mvT hZ (hw _ (List.mem_of_getElem? (i := 72) rfl))) (by decide) (backOf (W := 0) (rm12 l Z a0 hw [] bs_177 xcs bz_177 v61 (own_sh Bp v59.toNatClampNeg) T177.heap n0 sz177 pf177_0 pf177_1 pf177_2 pf177_3 O183 S_cs hcs) hZ (hw _ (List.mem_of_getElem? (i := 74) rfl)) (hw _ (List.mem_of_getElem? (i := 38) rfl)) (by decide) (by decide)) q189a q189c (g := (mkF m 286 #[.val (.int xa), .val (.int xw), .val (.int xp), .val (.int xr), .val (.ref b1), .val (.int v27), .val (.int v29), .val (.ref b30), .val (.int v59), .val (.int v61), .val (.int v170_67), .val (.ref b82), .val (.int (1 : Int32)), .val (.int (0 : Int32)), .val (.ref b30), .val (.int v59), .val (.int v61), .val (.ref bs_177)] [(.ref bs_177)])) rfl (by rw [hml]; rfl) (Steps.refl _) (argsL := []) (rest := []) (lenOf pd_0_3 rfl) rfl (by show 2 * 0 + _ ≤ _; exact Nat.le_of_eq rfl) (hb hby at_286) (fun _ _ => ⟨rfl, rfl, (by decide : 7 + 0 ≤ _), (by decide : 18 + 0 ≤ _)⟩)
    dsimp only [Pt.U, Pt.locs, Pt.cells, Pt.slots] at X189 l189 y189 z189 st189 hQ189
    subst l189 y189 z189
    obtain ⟨rfl, Nq189, hh189⟩ := hQ189
    have N189 := Fr.app N177 Nq189
    refine own_Goes.via (T' := T189) (g' := (mkF m 289 #[.val (.int xa), .val (.int xw), .val (.int xp), .val (.int xr), .val (.ref b1), .val (.int v27), .val (.int v29), .val (.ref b30), .val (.int v59), .val (.int v61), .val (.int v170_67), .val (.ref b82), .val (.int (1 : Int32)), .val (.int (0 : Int32)), .val (.ref b30), .val (.int v59), .val (.int v61), .val (.ref bs_177)] [(.int v61)])) (fun t_ k_ => st189.trans k_) ?_
    refine own_Goes.via (T' := T189) (g' := (mkF m 291 #[.val (.int xa), .val (.int xw), .val (.int xp), .val (.int xr), .val (.ref b1), .val (.int v27), .val (.int v29), .val (.ref b30), .val (.int v59), .val (.int v61), .val (.int v170_67), .val (.ref b82), .val (.int (1 : Int32)), .val (.int (0 : Int32)), .val (.ref b30), .val (.int v59), .val (.int v61), .val (.ref bs_177)] [(.int v61), (.int v61)])) (fun t_ k_ => XS.iload X189.here hx rfl (hb hby at_289) rfl k_) ?_
    refine own_Goes.via (T' := T189) (g' := (mkF m 296 #[.val (.int xa), .val (.int xw), .val (.int xp), .val (.int xr), .val (.ref b1), .val (.int v27), .val (.int v29), .val (.ref b30), .val (.int v59), .val (.int v61), .val (.int v170_67), .val (.ref b82), .val (.int (1 : Int32)), .val (.int (0 : Int32)), .val (.ref b30), .val (.int v59), .val (.int v61), .val (.ref bs_177)] [])) (fun t_ k_ => XS.icmpYes X189.here hx rfl (pc0 := 291) (pc' := 296) rfl (hb hby at_291) rfl (teq hd272_176).1 (by decide) (by decide) k_) ?_
    refine own_Goes.via (T' := T189) (g' := (mkF m 298 #[.val (.int xa), .val (.int xw), .val (.int xp), .val (.int xr), .val (.ref b1), .val (.int v27), .val (.int v29), .val (.ref b30), .val (.int v59), .val (.int v61), .val (.int v170_67), .val (.ref b82), .val (.int (1 : Int32)), .val (.int (0 : Int32)), .val (.ref b30), .val (.int v59), .val (.int v61), .val (.ref bs_177)] [(.ref bs_177)])) (fun t_ k_ => XS.aload X189.here hx rfl (hb hby at_296) rfl rfl k_) ?_
    refine own_Goes.via (T' := T189) (g' := (mkF m 300 #[.val (.int xa), .val (.int xw), .val (.int xp), .val (.int xr), .val (.ref b1), .val (.int v27), .val (.int v29), .val (.ref b30), .val (.int v59), .val (.int v61), .val (.int v170_67), .val (.ref b82), .val (.int (1 : Int32)), .val (.int (0 : Int32)), .val (.ref b30), .val (.int v59), .val (.int v61), .val (.ref bs_177)] [(.ref b30), (.ref bs_177)])) (fun t_ k_ => XS.aload X189.here hx rfl (hb hby at_298) rfl rfl k_) ?_
    refine own_Goes.via (T' := T189) (g' := (mkF m 302 #[.val (.int xa), .val (.int xw), .val (.int xp), .val (.int xr), .val (.ref b1), .val (.int v27), .val (.int v29), .val (.ref b30), .val (.int v59), .val (.int v61), .val (.int v170_67), .val (.ref b82), .val (.int (1 : Int32)), .val (.int (0 : Int32)), .val (.ref b30), .val (.int v59), .val (.int v61), .val (.ref bs_177)] [(.int v59), (.ref b30), (.ref bs_177)])) (fun t_ k_ => XS.iload X189.here hx rfl (hb hby at_300) rfl k_) ?_
    refine own_Goes.via (T' := T189) (g' := (mkF m 304 #[.val (.int xa), .val (.int xw), .val (.int xp), .val (.int xr), .val (.ref b1), .val (.int v27), .val (.int v29), .val (.ref b30), .val (.int v59), .val (.int v61), .val (.int v170_67), .val (.ref b82), .val (.int (1 : Int32)), .val (.int (0 : Int32)), .val (.ref b30), .val (.int v59), .val (.int v61), .val (.ref bs_177)] [(.int v61), (.int v59), (.ref b30), (.ref bs_177)])) (fun t_ k_ => XS.iload X189.here hx rfl (hb hby at_302) rfl k_) ?_
    refine own_Goes.via (T' := T189) (g' := (mkF m 305 #[.val (.int xa), .val (.int xw), .val (.int xp), .val (.int xr), .val (.ref b1), .val (.int v27), .val (.int v29), .val (.ref b30), .val (.int v59), .val (.int v61), .val (.int v170_67), .val (.ref b82), .val (.int (1 : Int32)), .val (.int (0 : Int32)), .val (.ref b30), .val (.int v59), .val (.int v61), .val (.ref bs_177)] [(.int (0 : Int32)), (.int v61), (.int v59), (.ref b30), (.ref bs_177)])) (fun t_ k_ => XS.iconst X189.here hx rfl (hb hby at_304) k_) ?_
    have cd305_191 : own_win v59 v61 (3 : Int32) := HV
    have cd305_192 : own_nn Bp v59 v61 := HP
    have cd305_193 : 0 ≤ (0 : Int32).toInt := by decide
    have cd305_194 : ∀ i, (Bp i).toInt ≤ 127 := hBp127
    obtain ⟨_, _, ⟨T190, L190, k190, n190⟩, -, X190, ⟨Lc190, hQ190, l190, y190, z190⟩, st190⟩ := Jvm.LawKit.callS X189 hx (y := (⟨"com/example/sluice/sluice/engine/source/file/AsciiLineReadInPinLaw", "same", "(Ljava/lang/String;[BIII)Z"⟩ : MethodName)) hown (mvT hZ (hw _ (List.mem_of_getElem? (i := 81) rfl))) (mvT hZ (hw _ (List.mem_of_getElem? (i := 82) rfl))) (mvT hZ (hw _ (List.mem_of_getElem? (i := 4) rfl))) (mvT hZ (hw _ (List.mem_of_getElem? (i := 83) rfl))) (by decide) (backOf (W := 0) (rm14 l Z a0 hw [] bs_177 b30 v59 v61 (0 : Int32) xcs wsf bz_177 (3 : Int32) Bp T177.heap n0 sz177 pf177_0 pf177_1 pf177_2 pf177_3 G185 O183 cd305_191 cd305_192 cd305_193 cd305_194 S_cs hcs S_sf isr_wsf) hZ (hw _ (List.mem_of_getElem? (i := 83) rfl)) (hw _ (List.mem_of_getElem? (i := 4) rfl)) (by decide) (by decide)) (g := (mkF m 305 #[.val (.int xa), .val (.int xw), .val (.int xp), .val (.int xr), .val (.ref b1), .val (.int v27), .val (.int v29), .val (.ref b30), .val (.int v59), .val (.int v61), .val (.int v170_67), .val (.ref b82), .val (.int (1 : Int32)), .val (.int (0 : Int32)), .val (.ref b30), .val (.int v59), .val (.int v61), .val (.ref bs_177)] [(.int (0 : Int32)), (.int v61), (.int v59), (.ref b30), (.ref bs_177)])) rfl (by rw [hml]; rfl) (argsL := [(.ref bs_177), (.ref b30), (.int v59), (.int v61), (.int (0 : Int32))]) (rest := []) (lenOf pd_0_5 rfl) rfl (by show 2 * 0 + _ ≤ _; exact Nat.le_of_eq rfl) (hb hby at_305) (fun _ _ => ⟨rfl, hh189, (by decide : 7 + 0 ≤ _), (by decide : 18 + 0 ≤ _)⟩)
    dsimp only [Pt.U, Pt.locs, Pt.cells, Pt.slots] at X190 l190 y190 z190 st190 hQ190
    subst l190 y190 z190
    obtain ⟨rfl, Nq190, hh190⟩ := hQ190
    have N190 := Fr.app N189 Nq190
    refine own_Goes.via (T' := T190) (g' := (mkF m 308 #[.val (.int xa), .val (.int xw), .val (.int xp), .val (.int xr), .val (.ref b1), .val (.int v27), .val (.int v29), .val (.ref b30), .val (.int v59), .val (.int v61), .val (.int v170_67), .val (.ref b82), .val (.int (1 : Int32)), .val (.int (0 : Int32)), .val (.ref b30), .val (.int v59), .val (.int v61), .val (.ref bs_177)] [(.int (1 : Int32))])) (st190) ?_
    refine own_Goes.via (T' := T190) (g' := (mkF m 311 #[.val (.int xa), .val (.int xw), .val (.int xp), .val (.int xr), .val (.ref b1), .val (.int v27), .val (.int v29), .val (.ref b30), .val (.int v59), .val (.int v61), .val (.int v170_67), .val (.ref b82), .val (.int (1 : Int32)), .val (.int (0 : Int32)), .val (.ref b30), .val (.int v59), .val (.int v61), .val (.ref bs_177)] [])) (fun t_ k_ => XS.ifNo X190.here hx rfl (hb hby at_308) rfl ((if0 _ _).trans (feq (by decide : ¬ ((1 : Int32) = (0 : Int32)))).1) k_) ?_
    refine own_Goes.via (T' := T190) (g' := (mkF m 313 #[.val (.int xa), .val (.int xw), .val (.int xp), .val (.int xr), .val (.ref b1), .val (.int v27), .val (.int v29), .val (.ref b30), .val (.int v59), .val (.int v61), .val (.int v170_67), .val (.ref b82), .val (.int (1 : Int32)), .val (.int (0 : Int32)), .val (.ref b30), .val (.int v59), .val (.int v61), .val (.ref bs_177)] [(.ref bs_177)])) (fun t_ k_ => XS.aload X190.here hx rfl (hb hby at_311) rfl rfl k_) ?_
    refine own_Goes.via (T' := T190) (g' := (mkF m 315 #[.val (.int xa), .val (.int xw), .val (.int xp), .val (.int xr), .val (.ref b1), .val (.int v27), .val (.int v29), .val (.ref b30), .val (.int v59), .val (.int v61), .val (.int v170_67), .val (.ref b82), .val (.int (1 : Int32)), .val (.int (0 : Int32)), .val (.ref b30), .val (.int v59), .val (.int v61), .val (.ref bs_177)] [(.ref b30), (.ref bs_177)])) (fun t_ k_ => XS.aload X190.here hx rfl (hb hby at_313) rfl rfl k_) ?_
    refine own_Goes.via (T' := T190) (g' := (mkF m 317 #[.val (.int xa), .val (.int xw), .val (.int xp), .val (.int xr), .val (.ref b1), .val (.int v27), .val (.int v29), .val (.ref b30), .val (.int v59), .val (.int v61), .val (.int v170_67), .val (.ref b82), .val (.int (1 : Int32)), .val (.int (0 : Int32)), .val (.ref b30), .val (.int v59), .val (.int v61), .val (.ref bs_177)] [(.int v59), (.ref b30), (.ref bs_177)])) (fun t_ k_ => XS.iload X190.here hx rfl (hb hby at_315) rfl k_) ?_
    refine own_Goes.via (T' := T190) (g' := (mkF m 319 #[.val (.int xa), .val (.int xw), .val (.int xp), .val (.int xr), .val (.ref b1), .val (.int v27), .val (.int v29), .val (.ref b30), .val (.int v59), .val (.int v61), .val (.int v170_67), .val (.ref b82), .val (.int (1 : Int32)), .val (.int (0 : Int32)), .val (.ref b30), .val (.int v59), .val (.int v61), .val (.ref bs_177)] [(.int v61), (.int v59), (.ref b30), (.ref bs_177)])) (fun t_ k_ => XS.iload X190.here hx rfl (hb hby at_317) rfl k_) ?_
    refine own_Goes.via (T' := T190) (g' := (mkF m 320 #[.val (.int xa), .val (.int xw), .val (.int xp), .val (.int xr), .val (.ref b1), .val (.int v27), .val (.int v29), .val (.ref b30), .val (.int v59), .val (.int v61), .val (.int v170_67), .val (.ref b82), .val (.int (1 : Int32)), .val (.int (0 : Int32)), .val (.ref b30), .val (.int v59), .val (.int v61), .val (.ref bs_177)] [(.int (1 : Int32)), (.int v61), (.int v59), (.ref b30), (.ref bs_177)])) (fun t_ k_ => XS.iconst X190.here hx rfl (hb hby at_319) k_) ?_
    have cd320_196 : own_win v59 v61 (3 : Int32) := HV
    have cd320_197 : own_nn Bp v59 v61 := HP
    have cd320_198 : 0 ≤ (1 : Int32).toInt := by decide
    have cd320_199 : ∀ i, (Bp i).toInt ≤ 127 := hBp127
    obtain ⟨_, _, ⟨T195, L195, k195, n195⟩, -, X195, ⟨Lc195, hQ195, l195, y195, z195⟩, st195⟩ := Jvm.LawKit.callS X190 hx (y := (⟨"com/example/sluice/sluice/engine/source/file/AsciiLineReadInPinLaw", "same", "(Ljava/lang/String;[BIII)Z"⟩ : MethodName)) hown (mvT hZ (hw _ (List.mem_of_getElem? (i := 81) rfl))) (mvT hZ (hw _ (List.mem_of_getElem? (i := 82) rfl))) (mvT hZ (hw _ (List.mem_of_getElem? (i := 4) rfl))) (mvT hZ (hw _ (List.mem_of_getElem? (i := 83) rfl))) (by decide) (backOf (W := 0) (rm14 l Z a0 hw [] bs_177 b30 v59 v61 (1 : Int32) xcs wsf bz_177 (3 : Int32) Bp T177.heap n0 sz177 pf177_0 pf177_1 pf177_2 pf177_3 G185 O183 cd320_196 cd320_197 cd320_198 cd320_199 S_cs hcs S_sf isr_wsf) hZ (hw _ (List.mem_of_getElem? (i := 83) rfl)) (hw _ (List.mem_of_getElem? (i := 4) rfl)) (by decide) (by decide)) (g := (mkF m 320 #[.val (.int xa), .val (.int xw), .val (.int xp), .val (.int xr), .val (.ref b1), .val (.int v27), .val (.int v29), .val (.ref b30), .val (.int v59), .val (.int v61), .val (.int v170_67), .val (.ref b82), .val (.int (1 : Int32)), .val (.int (0 : Int32)), .val (.ref b30), .val (.int v59), .val (.int v61), .val (.ref bs_177)] [(.int (1 : Int32)), (.int v61), (.int v59), (.ref b30), (.ref bs_177)])) rfl (by rw [hml]; rfl) (argsL := [(.ref bs_177), (.ref b30), (.int v59), (.int v61), (.int (1 : Int32))]) (rest := []) (lenOf pd_0_5 rfl) rfl (by show 2 * 0 + _ ≤ _; exact Nat.le_of_eq rfl) (hb hby at_320) (fun _ _ => ⟨rfl, hh190, (by decide : 7 + 0 ≤ _), (by decide : 18 + 0 ≤ _)⟩)
    dsimp only [Pt.U, Pt.locs, Pt.cells, Pt.slots] at X195 l195 y195 z195 st195 hQ195
    subst l195 y195 z195
    obtain ⟨rfl, Nq195, hh195⟩ := hQ195
    have N195 := Fr.app N190 Nq195
    refine own_Goes.via (T' := T195) (g' := (mkF m 323 #[.val (.int xa), .val (.int xw), .val (.int xp), .val (.int xr), .val (.ref b1), .val (.int v27), .val (.int v29), .val (.ref b30), .val (.int v59), .val (.int v61), .val (.int v170_67), .val (.ref b82), .val (.int (1 : Int32)), .val (.int (0 : Int32)), .val (.ref b30), .val (.int v59), .val (.int v61), .val (.ref bs_177)] [(.int (1 : Int32))])) (st195) ?_
    refine own_Goes.via (T' := T195) (g' := (mkF m 326 #[.val (.int xa), .val (.int xw), .val (.int xp), .val (.int xr), .val (.ref b1), .val (.int v27), .val (.int v29), .val (.ref b30), .val (.int v59), .val (.int v61), .val (.int v170_67), .val (.ref b82), .val (.int (1 : Int32)), .val (.int (0 : Int32)), .val (.ref b30), .val (.int v59), .val (.int v61), .val (.ref bs_177)] [])) (fun t_ k_ => XS.ifNo X195.here hx rfl (hb hby at_323) rfl ((if0 _ _).trans (feq (by decide : ¬ ((1 : Int32) = (0 : Int32)))).1) k_) ?_
    refine own_Goes.via (T' := T195) (g' := (mkF m 328 #[.val (.int xa), .val (.int xw), .val (.int xp), .val (.int xr), .val (.ref b1), .val (.int v27), .val (.int v29), .val (.ref b30), .val (.int v59), .val (.int v61), .val (.int v170_67), .val (.ref b82), .val (.int (1 : Int32)), .val (.int (0 : Int32)), .val (.ref b30), .val (.int v59), .val (.int v61), .val (.ref bs_177)] [(.ref bs_177)])) (fun t_ k_ => XS.aload X195.here hx rfl (hb hby at_326) rfl rfl k_) ?_
    refine own_Goes.via (T' := T195) (g' := (mkF m 330 #[.val (.int xa), .val (.int xw), .val (.int xp), .val (.int xr), .val (.ref b1), .val (.int v27), .val (.int v29), .val (.ref b30), .val (.int v59), .val (.int v61), .val (.int v170_67), .val (.ref b82), .val (.int (1 : Int32)), .val (.int (0 : Int32)), .val (.ref b30), .val (.int v59), .val (.int v61), .val (.ref bs_177)] [(.ref b30), (.ref bs_177)])) (fun t_ k_ => XS.aload X195.here hx rfl (hb hby at_328) rfl rfl k_) ?_
    refine own_Goes.via (T' := T195) (g' := (mkF m 332 #[.val (.int xa), .val (.int xw), .val (.int xp), .val (.int xr), .val (.ref b1), .val (.int v27), .val (.int v29), .val (.ref b30), .val (.int v59), .val (.int v61), .val (.int v170_67), .val (.ref b82), .val (.int (1 : Int32)), .val (.int (0 : Int32)), .val (.ref b30), .val (.int v59), .val (.int v61), .val (.ref bs_177)] [(.int v59), (.ref b30), (.ref bs_177)])) (fun t_ k_ => XS.iload X195.here hx rfl (hb hby at_330) rfl k_) ?_
    refine own_Goes.via (T' := T195) (g' := (mkF m 334 #[.val (.int xa), .val (.int xw), .val (.int xp), .val (.int xr), .val (.ref b1), .val (.int v27), .val (.int v29), .val (.ref b30), .val (.int v59), .val (.int v61), .val (.int v170_67), .val (.ref b82), .val (.int (1 : Int32)), .val (.int (0 : Int32)), .val (.ref b30), .val (.int v59), .val (.int v61), .val (.ref bs_177)] [(.int v61), (.int v59), (.ref b30), (.ref bs_177)])) (fun t_ k_ => XS.iload X195.here hx rfl (hb hby at_332) rfl k_) ?_
    refine own_Goes.via (T' := T195) (g' := (mkF m 335 #[.val (.int xa), .val (.int xw), .val (.int xp), .val (.int xr), .val (.ref b1), .val (.int v27), .val (.int v29), .val (.ref b30), .val (.int v59), .val (.int v61), .val (.int v170_67), .val (.ref b82), .val (.int (1 : Int32)), .val (.int (0 : Int32)), .val (.ref b30), .val (.int v59), .val (.int v61), .val (.ref bs_177)] [(.int (2 : Int32)), (.int v61), (.int v59), (.ref b30), (.ref bs_177)])) (fun t_ k_ => XS.iconst X195.here hx rfl (hb hby at_334) k_) ?_
    have cd335_201 : own_win v59 v61 (3 : Int32) := HV
    have cd335_202 : own_nn Bp v59 v61 := HP
    have cd335_203 : 0 ≤ (2 : Int32).toInt := by decide
    have cd335_204 : ∀ i, (Bp i).toInt ≤ 127 := hBp127
    obtain ⟨_, _, ⟨T200, L200, k200, n200⟩, -, X200, ⟨Lc200, hQ200, l200, y200, z200⟩, st200⟩ := Jvm.LawKit.callS X195 hx (y := (⟨"com/example/sluice/sluice/engine/source/file/AsciiLineReadInPinLaw", "same", "(Ljava/lang/String;[BIII)Z"⟩ : MethodName)) hown (mvT hZ (hw _ (List.mem_of_getElem? (i := 81) rfl))) (mvT hZ (hw _ (List.mem_of_getElem? (i := 82) rfl))) (mvT hZ (hw _ (List.mem_of_getElem? (i := 4) rfl))) (mvT hZ (hw _ (List.mem_of_getElem? (i := 83) rfl))) (by decide) (backOf (W := 0) (rm14 l Z a0 hw [] bs_177 b30 v59 v61 (2 : Int32) xcs wsf bz_177 (3 : Int32) Bp T177.heap n0 sz177 pf177_0 pf177_1 pf177_2 pf177_3 G185 O183 cd335_201 cd335_202 cd335_203 cd335_204 S_cs hcs S_sf isr_wsf) hZ (hw _ (List.mem_of_getElem? (i := 83) rfl)) (hw _ (List.mem_of_getElem? (i := 4) rfl)) (by decide) (by decide)) (g := (mkF m 335 #[.val (.int xa), .val (.int xw), .val (.int xp), .val (.int xr), .val (.ref b1), .val (.int v27), .val (.int v29), .val (.ref b30), .val (.int v59), .val (.int v61), .val (.int v170_67), .val (.ref b82), .val (.int (1 : Int32)), .val (.int (0 : Int32)), .val (.ref b30), .val (.int v59), .val (.int v61), .val (.ref bs_177)] [(.int (2 : Int32)), (.int v61), (.int v59), (.ref b30), (.ref bs_177)])) rfl (by rw [hml]; rfl) (argsL := [(.ref bs_177), (.ref b30), (.int v59), (.int v61), (.int (2 : Int32))]) (rest := []) (lenOf pd_0_5 rfl) rfl (by show 2 * 0 + _ ≤ _; exact Nat.le_of_eq rfl) (hb hby at_335) (fun _ _ => ⟨rfl, hh195, (by decide : 7 + 0 ≤ _), (by decide : 18 + 0 ≤ _)⟩)
    dsimp only [Pt.U, Pt.locs, Pt.cells, Pt.slots] at X200 l200 y200 z200 st200 hQ200
    subst l200 y200 z200
    obtain ⟨rfl, Nq200, hh200⟩ := hQ200
    have N200 := Fr.app N195 Nq200
    refine own_Goes.via (T' := T200) (g' := (mkF m 338 #[.val (.int xa), .val (.int xw), .val (.int xp), .val (.int xr), .val (.ref b1), .val (.int v27), .val (.int v29), .val (.ref b30), .val (.int v59), .val (.int v61), .val (.int v170_67), .val (.ref b82), .val (.int (1 : Int32)), .val (.int (0 : Int32)), .val (.ref b30), .val (.int v59), .val (.int v61), .val (.ref bs_177)] [(.int (1 : Int32))])) (st200) ?_
    refine own_Goes.via (T' := T200) (g' := (mkF m 341 #[.val (.int xa), .val (.int xw), .val (.int xp), .val (.int xr), .val (.ref b1), .val (.int v27), .val (.int v29), .val (.ref b30), .val (.int v59), .val (.int v61), .val (.int v170_67), .val (.ref b82), .val (.int (1 : Int32)), .val (.int (0 : Int32)), .val (.ref b30), .val (.int v59), .val (.int v61), .val (.ref bs_177)] [])) (fun t_ k_ => XS.ifNo X200.here hx rfl (hb hby at_338) rfl ((if0 _ _).trans (feq (by decide : ¬ ((1 : Int32) = (0 : Int32)))).1) k_) ?_
    refine own_Goes.via (T' := T200) (g' := (mkF m 343 #[.val (.int xa), .val (.int xw), .val (.int xp), .val (.int xr), .val (.ref b1), .val (.int v27), .val (.int v29), .val (.ref b30), .val (.int v59), .val (.int v61), .val (.int v170_67), .val (.ref b82), .val (.int (1 : Int32)), .val (.int (0 : Int32)), .val (.ref b30), .val (.int v59), .val (.int v61), .val (.ref bs_177)] [(.ref bs_177)])) (fun t_ k_ => XS.aload X200.here hx rfl (hb hby at_341) rfl rfl k_) ?_
    refine own_Goes.via (T' := T200) (g' := (mkF m 345 #[.val (.int xa), .val (.int xw), .val (.int xp), .val (.int xr), .val (.ref b1), .val (.int v27), .val (.int v29), .val (.ref b30), .val (.int v59), .val (.int v61), .val (.int v170_67), .val (.ref b82), .val (.int (1 : Int32)), .val (.int (0 : Int32)), .val (.ref b30), .val (.int v59), .val (.int v61), .val (.ref bs_177)] [(.ref b30), (.ref bs_177)])) (fun t_ k_ => XS.aload X200.here hx rfl (hb hby at_343) rfl rfl k_) ?_
    refine own_Goes.via (T' := T200) (g' := (mkF m 347 #[.val (.int xa), .val (.int xw), .val (.int xp), .val (.int xr), .val (.ref b1), .val (.int v27), .val (.int v29), .val (.ref b30), .val (.int v59), .val (.int v61), .val (.int v170_67), .val (.ref b82), .val (.int (1 : Int32)), .val (.int (0 : Int32)), .val (.ref b30), .val (.int v59), .val (.int v61), .val (.ref bs_177)] [(.int v59), (.ref b30), (.ref bs_177)])) (fun t_ k_ => XS.iload X200.here hx rfl (hb hby at_345) rfl k_) ?_
    refine own_Goes.via (T' := T200) (g' := (mkF m 349 #[.val (.int xa), .val (.int xw), .val (.int xp), .val (.int xr), .val (.ref b1), .val (.int v27), .val (.int v29), .val (.ref b30), .val (.int v59), .val (.int v61), .val (.int v170_67), .val (.ref b82), .val (.int (1 : Int32)), .val (.int (0 : Int32)), .val (.ref b30), .val (.int v59), .val (.int v61), .val (.ref bs_177)] [(.int v61), (.int v59), (.ref b30), (.ref bs_177)])) (fun t_ k_ => XS.iload X200.here hx rfl (hb hby at_347) rfl k_) ?_
    refine own_Goes.via (T' := T200) (g' := (mkF m 350 #[.val (.int xa), .val (.int xw), .val (.int xp), .val (.int xr), .val (.ref b1), .val (.int v27), .val (.int v29), .val (.ref b30), .val (.int v59), .val (.int v61), .val (.int v170_67), .val (.ref b82), .val (.int (1 : Int32)), .val (.int (0 : Int32)), .val (.ref b30), .val (.int v59), .val (.int v61), .val (.ref bs_177)] [(.int (3 : Int32)), (.int v61), (.int v59), (.ref b30), (.ref bs_177)])) (fun t_ k_ => XS.iconst X200.here hx rfl (hb hby at_349) k_) ?_
    have cd350_206 : own_win v59 v61 (3 : Int32) := HV
    have cd350_207 : own_nn Bp v59 v61 := HP
    have cd350_208 : 0 ≤ (3 : Int32).toInt := by decide
    have cd350_209 : ∀ i, (Bp i).toInt ≤ 127 := hBp127
    obtain ⟨_, _, ⟨T205, L205, k205, n205⟩, -, X205, ⟨Lc205, hQ205, l205, y205, z205⟩, st205⟩ := Jvm.LawKit.callS X200 hx (y := (⟨"com/example/sluice/sluice/engine/source/file/AsciiLineReadInPinLaw", "same", "(Ljava/lang/String;[BIII)Z"⟩ : MethodName)) hown (mvT hZ (hw _ (List.mem_of_getElem? (i := 81) rfl))) (mvT hZ (hw _ (List.mem_of_getElem? (i := 82) rfl))) (mvT hZ (hw _ (List.mem_of_getElem? (i := 4) rfl))) (mvT hZ (hw _ (List.mem_of_getElem? (i := 83) rfl))) (by decide) (backOf (W := 0) (rm14 l Z a0 hw [] bs_177 b30 v59 v61 (3 : Int32) xcs wsf bz_177 (3 : Int32) Bp T177.heap n0 sz177 pf177_0 pf177_1 pf177_2 pf177_3 G185 O183 cd350_206 cd350_207 cd350_208 cd350_209 S_cs hcs S_sf isr_wsf) hZ (hw _ (List.mem_of_getElem? (i := 83) rfl)) (hw _ (List.mem_of_getElem? (i := 4) rfl)) (by decide) (by decide)) (g := (mkF m 350 #[.val (.int xa), .val (.int xw), .val (.int xp), .val (.int xr), .val (.ref b1), .val (.int v27), .val (.int v29), .val (.ref b30), .val (.int v59), .val (.int v61), .val (.int v170_67), .val (.ref b82), .val (.int (1 : Int32)), .val (.int (0 : Int32)), .val (.ref b30), .val (.int v59), .val (.int v61), .val (.ref bs_177)] [(.int (3 : Int32)), (.int v61), (.int v59), (.ref b30), (.ref bs_177)])) rfl (by rw [hml]; rfl) (argsL := [(.ref bs_177), (.ref b30), (.int v59), (.int v61), (.int (3 : Int32))]) (rest := []) (lenOf pd_0_5 rfl) rfl (by show 2 * 0 + _ ≤ _; exact Nat.le_of_eq rfl) (hb hby at_350) (fun _ _ => ⟨rfl, hh200, (by decide : 7 + 0 ≤ _), (by decide : 18 + 0 ≤ _)⟩)
    dsimp only [Pt.U, Pt.locs, Pt.cells, Pt.slots] at X205 l205 y205 z205 st205 hQ205
    subst l205 y205 z205
    obtain ⟨rfl, Nq205, hh205⟩ := hQ205
    have N205 := Fr.app N200 Nq205
    refine own_Goes.via (T' := T205) (g' := (mkF m 353 #[.val (.int xa), .val (.int xw), .val (.int xp), .val (.int xr), .val (.ref b1), .val (.int v27), .val (.int v29), .val (.ref b30), .val (.int v59), .val (.int v61), .val (.int v170_67), .val (.ref b82), .val (.int (1 : Int32)), .val (.int (0 : Int32)), .val (.ref b30), .val (.int v59), .val (.int v61), .val (.ref bs_177)] [(.int (1 : Int32))])) (st205) ?_
    refine own_Goes.via (T' := T205) (g' := (mkF m 358 #[.val (.int xa), .val (.int xw), .val (.int xp), .val (.int xr), .val (.ref b1), .val (.int v27), .val (.int v29), .val (.ref b30), .val (.int v59), .val (.int v61), .val (.int v170_67), .val (.ref b82), .val (.int (1 : Int32)), .val (.int (0 : Int32)), .val (.ref b30), .val (.int v59), .val (.int v61), .val (.ref bs_177)] [])) (fun t_ k_ => XS.ifYes X205.here hx rfl (pc0 := 353) (pc' := 358) rfl (hb hby at_353) rfl ((if0 _ _).trans (feq (by decide : ¬ ((1 : Int32) = (0 : Int32)))).2) (by decide) (by decide) k_) ?_
    refine own_Goes.via (T' := T205) (g' := (mkF m 360 #[.val (.int xa), .val (.int xw), .val (.int xp), .val (.int xr), .val (.ref b1), .val (.int v27), .val (.int v29), .val (.ref b30), .val (.int v59), .val (.int v61), .val (.int v170_67), .val (.ref b82), .val (.int (1 : Int32)), .val (.int (0 : Int32)), .val (.ref b30), .val (.int v59), .val (.int v61), .val (.ref bs_177)] [(.int v61)])) (fun t_ k_ => XS.iload X205.here hx rfl (hb hby at_358) rfl k_) ?_
    by_cases hc360_210 : (0 : Int32) < v61
    · refine own_Goes.via (T' := T205) (g' := (mkF m 363 #[.val (.int xa), .val (.int xw), .val (.int xp), .val (.int xr), .val (.ref b1), .val (.int v27), .val (.int v29), .val (.ref b30), .val (.int v59), .val (.int v61), .val (.int v170_67), .val (.ref b82), .val (.int (1 : Int32)), .val (.int (0 : Int32)), .val (.ref b30), .val (.int v59), .val (.int v61), .val (.ref bs_177)] [])) (fun t_ k_ => XS.ifNo X205.here hx rfl (hb hby at_360) rfl ((if0 _ _).trans (tlt hc360_210).2.2.2) k_) ?_
      refine own_Goes.via (T' := T205) (g' := (mkF m 365 #[.val (.int xa), .val (.int xw), .val (.int xp), .val (.int xr), .val (.ref b1), .val (.int v27), .val (.int v29), .val (.ref b30), .val (.int v59), .val (.int v61), .val (.int v170_67), .val (.ref b82), .val (.int (1 : Int32)), .val (.int (0 : Int32)), .val (.ref b30), .val (.int v59), .val (.int v61), .val (.ref bs_177)] [(.ref b82)])) (fun t_ k_ => XS.aload X205.here hx rfl (hb hby at_363) rfl rfl k_) ?_
      refine own_Goes.via (T' := T205) (g' := (mkF m 366 #[.val (.int xa), .val (.int xw), .val (.int xp), .val (.int xr), .val (.ref b1), .val (.int v27), .val (.int v29), .val (.ref b30), .val (.int v59), .val (.int v61), .val (.int v170_67), .val (.ref b82), .val (.int (1 : Int32)), .val (.int (0 : Int32)), .val (.ref b30), .val (.int v59), .val (.int v61), .val (.ref bs_177)] [(.int (0 : Int32)), (.ref b82)])) (fun t_ k_ => XS.iconst X205.here hx rfl (hb hby at_365) k_) ?_
      have cd366_212 : own_win v59 v61 (3 : Int32) := HV
      have cd366_213 : ¬ (0 : Int32) < 0 ∧ (0 : Int32) < v61 := own_pl0_15 hv27 hv29 hv59 hv61 hv65 hv170_67 hk194_108 hc360_210 in7_6 in15_11 in23_16 in31_21 hBb127 nz39_26 nz53_28 in66_37 in77_44 in88_51 hBp127 hBp0 nz96_58 nz110_60 HW HV HP cd120_63 cd120_64 cd189_100 cd189_101 cd202_171 cd202_172 cd279_178 cd279_179 cd305_191 cd305_192 cd305_193 cd305_194 cd320_196 cd320_197 cd320_198 cd320_199 cd335_201 cd335_202 cd335_203 cd335_204 cd350_206 cd350_207 cd350_208 cd350_209 cd366_212
      obtain ⟨cq211, kq211, q211a, q211b, q211c⟩ := isOf hZ hh205 E182
      obtain ⟨_, _, ⟨T211, L211, k211, n211⟩, -, X211, ⟨Lc211, hQ211, l211, y211, z211⟩, st211⟩ := X205.virtualBack hx (y := (⟨"com/example/sluice/sluice/engine/source/file/AsciiLine", "charAt", "(I)C"⟩ : MethodName)) (z := (⟨"com/example/sluice/sluice/engine/source/file/AsciiLine", "charAt", "(I)C"⟩ : MethodName)) hown (mvT hZ (hw _ (List.mem_of_getElem? (i := 135) rfl))) (mvT hZ (hw _ (List.mem_of_getElem? (i := 136) rfl))) (notFace_of_selects (args := #[]) (mvT hZ (hw _ (List.mem_of_getElem? (i := 138) rfl)))) (mvT hZ (hw _ (List.mem_of_getElem? (i := 138) rfl))) (mvT hZ (hw _ (List.mem_of_getElem? (i := 137) rfl))) (by decide) (backOf (W := 0) (rm26 l Z a0 hw [] b82 (0 : Int32) b30 v59 v61 (3 : Int32) Bp T177.heap n0 sz177 F186 F187 F188 G185 cd366_212 cd366_213) hZ (hw _ (List.mem_of_getElem? (i := 139) rfl)) (hw _ (List.mem_of_getElem? (i := 8) rfl)) (by decide) (by decide)) q211a q211c (g := (mkF m 366 #[.val (.int xa), .val (.int xw), .val (.int xp), .val (.int xr), .val (.ref b1), .val (.int v27), .val (.int v29), .val (.ref b30), .val (.int v59), .val (.int v61), .val (.int v170_67), .val (.ref b82), .val (.int (1 : Int32)), .val (.int (0 : Int32)), .val (.ref b30), .val (.int v59), .val (.int v61), .val (.ref bs_177)] [(.int (0 : Int32)), (.ref b82)])) rfl (by rw [hml]; rfl) (Steps.refl _) (argsL := [(.int (0 : Int32))]) (rest := []) (lenOf pd_0_6 rfl) rfl (by show 2 * 0 + _ ≤ _; exact Nat.le_of_eq rfl) (hb hby at_366) (fun _ _ => ⟨rfl, hh205, (by decide : 7 + 0 ≤ _), (by decide : 18 + 0 ≤ _)⟩)
      dsimp only [Pt.U, Pt.locs, Pt.cells, Pt.slots] at X211 l211 y211 z211 st211 hQ211
      subst l211 y211 z211
      obtain ⟨rfl, Nq211, hh211⟩ := hQ211
      have N211 := Fr.app N205 Nq211
      refine own_Goes.via (T' := T211) (g' := (mkF m 369 #[.val (.int xa), .val (.int xw), .val (.int xp), .val (.int xr), .val (.ref b1), .val (.int v27), .val (.int v29), .val (.ref b30), .val (.int v59), .val (.int v61), .val (.int v170_67), .val (.ref b82), .val (.int (1 : Int32)), .val (.int (0 : Int32)), .val (.ref b30), .val (.int v59), .val (.int v61), .val (.ref bs_177)] [(.int (own_c (Bp (v59 + (0 : Int32)).toNatClampNeg)))])) (fun t_ k_ => st211.trans k_) ?_
      obtain ⟨v214, hv214⟩ : ∃ z : Int32, z = (own_c (Bp (v59 + (0 : Int32)).toNatClampNeg)) := ⟨_, rfl⟩
      rw [← hv214]
      refine own_Goes.via (T' := T211) (g' := (mkF m 371 #[.val (.int xa), .val (.int xw), .val (.int xp), .val (.int xr), .val (.ref b1), .val (.int v27), .val (.int v29), .val (.ref b30), .val (.int v59), .val (.int v61), .val (.int v170_67), .val (.ref b82), .val (.int (1 : Int32)), .val (.int (0 : Int32)), .val (.ref b30), .val (.int v59), .val (.int v61), .val (.ref bs_177)] [(.ref b30), (.int v214)])) (fun t_ k_ => XS.aload X211.here hx rfl (hb hby at_369) rfl rfl k_) ?_
      refine own_Goes.via (T' := T211) (g' := (mkF m 373 #[.val (.int xa), .val (.int xw), .val (.int xp), .val (.int xr), .val (.ref b1), .val (.int v27), .val (.int v29), .val (.ref b30), .val (.int v59), .val (.int v61), .val (.int v170_67), .val (.ref b82), .val (.int (1 : Int32)), .val (.int (0 : Int32)), .val (.ref b30), .val (.int v59), .val (.int v61), .val (.ref bs_177)] [(.int v59), (.ref b30), (.int v214)])) (fun t_ k_ => XS.iload X211.here hx rfl (hb hby at_371) rfl k_) ?_
      have in373_216 : ¬ v59 < 0 ∧ v59 < (3 : Int32) := own_pl0_16 hv27 hv29 hv59 hv61 hv65 hv170_67 hv214 hk194_108 hc360_210 in7_6 in15_11 in23_16 in31_21 hBb127 nz39_26 nz53_28 in66_37 in77_44 in88_51 hBp127 hBp0 nz96_58 nz110_60 HW HV HP cd120_63 cd120_64 cd189_100 cd189_101 cd202_171 cd202_172 cd279_178 cd279_179 cd305_191 cd305_192 cd305_193 cd305_194 cd320_196 cd320_197 cd320_198 cd320_199 cd335_201 cd335_202 cd335_203 cd335_204 cd350_206 cd350_207 cd350_208 cd350_209 cd366_212 cd366_213
      obtain ⟨cl215, Ar215, Sl215, at215⟩ := G185.rd in373_216
      refine own_Goes.via (T' := T211) (g' := (mkF m 374 #[.val (.int xa), .val (.int xw), .val (.int xp), .val (.int xr), .val (.ref b1), .val (.int v27), .val (.int v29), .val (.ref b30), .val (.int v59), .val (.int v61), .val (.int v170_67), .val (.ref b82), .val (.int (1 : Int32)), .val (.int (0 : Int32)), .val (.ref b30), .val (.int v59), .val (.int v61), .val (.ref bs_177)] [(.int (Bp v59.toNatClampNeg)), (.int v214)])) (fun t_ k_ => X211.baloadBytes hx (j := v59) (v := (.int (Bp v59.toNatClampNeg))) (by rw [hh211]; exact Ar215.1) (State.isArrayOf_alike hZ.alike Ar215.2.1) Ar215.2.2 (inb_of Sl215 in373_216) at215 (g := (mkF m 373 #[.val (.int xa), .val (.int xw), .val (.int xp), .val (.int xr), .val (.ref b1), .val (.int v27), .val (.int v29), .val (.ref b30), .val (.int v59), .val (.int v61), .val (.int v170_67), .val (.ref b82), .val (.int (1 : Int32)), .val (.int (0 : Int32)), .val (.ref b30), .val (.int v59), .val (.int v61), .val (.ref bs_177)] [(.int v59), (.ref b30), (.int v214)])) rfl rfl (hb hby at_373) _ k_) ?_
      refine own_Goes.via (T' := T211) (g' := (mkF m 375 #[.val (.int xa), .val (.int xw), .val (.int xp), .val (.int xr), .val (.ref b1), .val (.int v27), .val (.int v29), .val (.ref b30), .val (.int v59), .val (.int v61), .val (.int v170_67), .val (.ref b82), .val (.int (1 : Int32)), .val (.int (0 : Int32)), .val (.ref b30), .val (.int v59), .val (.int v61), .val (.ref bs_177)] [(.int ((Bp v59.toNatClampNeg).toUInt32.toUInt16.toUInt32.toInt32)), (.int v214)])) (fun t_ k_ => XS.i2c X211.here hx rfl (hb hby at_374) rfl k_) ?_
      have hd375_217 : v214 = ((Bp v59.toNatClampNeg).toUInt32.toUInt16.toUInt32.toInt32) := own_pl0_17 hv27 hv29 hv59 hv61 hv65 hv170_67 hv214 hk194_108 hc360_210 in7_6 in15_11 in23_16 in31_21 hBb127 nz39_26 nz53_28 in66_37 in77_44 in88_51 hBp127 hBp0 nz96_58 nz110_60 HW HV HP cd120_63 cd120_64 cd189_100 cd189_101 cd202_171 cd202_172 cd279_178 cd279_179 cd305_191 cd305_192 cd305_193 cd305_194 cd320_196 cd320_197 cd320_198 cd320_199 cd335_201 cd335_202 cd335_203 cd335_204 cd350_206 cd350_207 cd350_208 cd350_209 cd366_212 cd366_213 in373_216
      refine own_Goes.via (T' := T211) (g' := (mkF m 380 #[.val (.int xa), .val (.int xw), .val (.int xp), .val (.int xr), .val (.ref b1), .val (.int v27), .val (.int v29), .val (.ref b30), .val (.int v59), .val (.int v61), .val (.int v170_67), .val (.ref b82), .val (.int (1 : Int32)), .val (.int (0 : Int32)), .val (.ref b30), .val (.int v59), .val (.int v61), .val (.ref bs_177)] [])) (fun t_ k_ => XS.icmpYes X211.here hx rfl (pc0 := 375) (pc' := 380) rfl (hb hby at_375) rfl (teq hd375_217).1 (by decide) (by decide) k_) ?_
      refine own_Goes.via (T' := T211) (g' := (mkF m 382 #[.val (.int xa), .val (.int xw), .val (.int xp), .val (.int xr), .val (.ref b1), .val (.int v27), .val (.int v29), .val (.ref b30), .val (.int v59), .val (.int v61), .val (.int v170_67), .val (.ref b82), .val (.int (1 : Int32)), .val (.int (0 : Int32)), .val (.ref b30), .val (.int v59), .val (.int v61), .val (.ref bs_177)] [(.ref b82)])) (fun t_ k_ => XS.aload X211.here hx rfl (hb hby at_380) rfl rfl k_) ?_
      refine own_Goes.via (T' := T211) (g' := (mkF m 384 #[.val (.int xa), .val (.int xw), .val (.int xp), .val (.int xr), .val (.ref b1), .val (.int v27), .val (.int v29), .val (.ref b30), .val (.int v59), .val (.int v61), .val (.int v170_67), .val (.ref b82), .val (.int (1 : Int32)), .val (.int (0 : Int32)), .val (.ref b30), .val (.int v59), .val (.int v61), .val (.ref bs_177)] [(.int v61), (.ref b82)])) (fun t_ k_ => XS.iload X211.here hx rfl (hb hby at_382) rfl k_) ?_
      refine own_Goes.via (T' := T211) (g' := (mkF m 385 #[.val (.int xa), .val (.int xw), .val (.int xp), .val (.int xr), .val (.ref b1), .val (.int v27), .val (.int v29), .val (.ref b30), .val (.int v59), .val (.int v61), .val (.int v170_67), .val (.ref b82), .val (.int (1 : Int32)), .val (.int (0 : Int32)), .val (.ref b30), .val (.int v59), .val (.int v61), .val (.ref bs_177)] [(.int (1 : Int32)), (.int v61), (.ref b82)])) (fun t_ k_ => XS.iconst X211.here hx rfl (hb hby at_384) k_) ?_
      refine own_Goes.via (T' := T211) (g' := (mkF m 386 #[.val (.int xa), .val (.int xw), .val (.int xp), .val (.int xr), .val (.ref b1), .val (.int v27), .val (.int v29), .val (.ref b30), .val (.int v59), .val (.int v61), .val (.int v170_67), .val (.ref b82), .val (.int (1 : Int32)), .val (.int (0 : Int32)), .val (.ref b30), .val (.int v59), .val (.int v61), .val (.ref bs_177)] [(.int (v61 - (1 : Int32))), (.ref b82)])) (fun t_ k_ => XS.isub X211.here hx rfl (hb hby at_385) rfl k_) ?_
      have cd386_219 : own_win v59 v61 (3 : Int32) := HV
      have cd386_220 : ¬ (v61 - (1 : Int32)) < 0 ∧ (v61 - (1 : Int32)) < v61 := own_pl0_18 hv27 hv29 hv59 hv61 hv65 hv170_67 hv214 hk194_108 hc360_210 in7_6 in15_11 in23_16 in31_21 hBb127 nz39_26 nz53_28 in66_37 in77_44 in88_51 hBp127 hBp0 nz96_58 nz110_60 HW HV HP cd120_63 cd120_64 cd189_100 cd189_101 cd202_171 cd202_172 cd279_178 cd279_179 cd305_191 cd305_192 cd305_193 cd305_194 cd320_196 cd320_197 cd320_198 cd320_199 cd335_201 cd335_202 cd335_203 cd335_204 cd350_206 cd350_207 cd350_208 cd350_209 cd366_212 cd366_213 in373_216 cd386_219
      obtain ⟨cq218, kq218, q218a, q218b, q218c⟩ := isOf hZ hh211 E182
      obtain ⟨_, _, ⟨T218, L218, k218, n218⟩, -, X218, ⟨Lc218, hQ218, l218, y218, z218⟩, st218⟩ := X211.virtualBack hx (y := (⟨"com/example/sluice/sluice/engine/source/file/AsciiLine", "charAt", "(I)C"⟩ : MethodName)) (z := (⟨"com/example/sluice/sluice/engine/source/file/AsciiLine", "charAt", "(I)C"⟩ : MethodName)) hown (mvT hZ (hw _ (List.mem_of_getElem? (i := 135) rfl))) (mvT hZ (hw _ (List.mem_of_getElem? (i := 136) rfl))) (notFace_of_selects (args := #[]) (mvT hZ (hw _ (List.mem_of_getElem? (i := 138) rfl)))) (mvT hZ (hw _ (List.mem_of_getElem? (i := 138) rfl))) (mvT hZ (hw _ (List.mem_of_getElem? (i := 137) rfl))) (by decide) (backOf (W := 0) (rm26 l Z a0 hw [] b82 (v61 - (1 : Int32)) b30 v59 v61 (3 : Int32) Bp T177.heap n0 sz177 F186 F187 F188 G185 cd386_219 cd386_220) hZ (hw _ (List.mem_of_getElem? (i := 139) rfl)) (hw _ (List.mem_of_getElem? (i := 8) rfl)) (by decide) (by decide)) q218a q218c (g := (mkF m 386 #[.val (.int xa), .val (.int xw), .val (.int xp), .val (.int xr), .val (.ref b1), .val (.int v27), .val (.int v29), .val (.ref b30), .val (.int v59), .val (.int v61), .val (.int v170_67), .val (.ref b82), .val (.int (1 : Int32)), .val (.int (0 : Int32)), .val (.ref b30), .val (.int v59), .val (.int v61), .val (.ref bs_177)] [(.int (v61 - (1 : Int32))), (.ref b82)])) rfl (by rw [hml]; rfl) (Steps.refl _) (argsL := [(.int (v61 - (1 : Int32)))]) (rest := []) (lenOf pd_0_6 rfl) rfl (by show 2 * 0 + _ ≤ _; exact Nat.le_of_eq rfl) (hb hby at_386) (fun _ _ => ⟨rfl, hh211, (by decide : 7 + 0 ≤ _), (by decide : 18 + 0 ≤ _)⟩)
      dsimp only [Pt.U, Pt.locs, Pt.cells, Pt.slots] at X218 l218 y218 z218 st218 hQ218
      subst l218 y218 z218
      obtain ⟨rfl, Nq218, hh218⟩ := hQ218
      have N218 := Fr.app N211 Nq218
      refine own_Goes.via (T' := T218) (g' := (mkF m 389 #[.val (.int xa), .val (.int xw), .val (.int xp), .val (.int xr), .val (.ref b1), .val (.int v27), .val (.int v29), .val (.ref b30), .val (.int v59), .val (.int v61), .val (.int v170_67), .val (.ref b82), .val (.int (1 : Int32)), .val (.int (0 : Int32)), .val (.ref b30), .val (.int v59), .val (.int v61), .val (.ref bs_177)] [(.int (own_c (Bp (v59 + (v61 - (1 : Int32))).toNatClampNeg)))])) (fun t_ k_ => st218.trans k_) ?_
      obtain ⟨v221, hv221⟩ : ∃ z : Int32, z = (own_c (Bp (v59 + (v61 - (1 : Int32))).toNatClampNeg)) := ⟨_, rfl⟩
      rw [← hv221]
      refine own_Goes.via (T' := T218) (g' := (mkF m 391 #[.val (.int xa), .val (.int xw), .val (.int xp), .val (.int xr), .val (.ref b1), .val (.int v27), .val (.int v29), .val (.ref b30), .val (.int v59), .val (.int v61), .val (.int v170_67), .val (.ref b82), .val (.int (1 : Int32)), .val (.int (0 : Int32)), .val (.ref b30), .val (.int v59), .val (.int v61), .val (.ref bs_177)] [(.ref b30), (.int v221)])) (fun t_ k_ => XS.aload X218.here hx rfl (hb hby at_389) rfl rfl k_) ?_
      refine own_Goes.via (T' := T218) (g' := (mkF m 393 #[.val (.int xa), .val (.int xw), .val (.int xp), .val (.int xr), .val (.ref b1), .val (.int v27), .val (.int v29), .val (.ref b30), .val (.int v59), .val (.int v61), .val (.int v170_67), .val (.ref b82), .val (.int (1 : Int32)), .val (.int (0 : Int32)), .val (.ref b30), .val (.int v59), .val (.int v61), .val (.ref bs_177)] [(.int v59), (.ref b30), (.int v221)])) (fun t_ k_ => XS.iload X218.here hx rfl (hb hby at_391) rfl k_) ?_
      refine own_Goes.via (T' := T218) (g' := (mkF m 395 #[.val (.int xa), .val (.int xw), .val (.int xp), .val (.int xr), .val (.ref b1), .val (.int v27), .val (.int v29), .val (.ref b30), .val (.int v59), .val (.int v61), .val (.int v170_67), .val (.ref b82), .val (.int (1 : Int32)), .val (.int (0 : Int32)), .val (.ref b30), .val (.int v59), .val (.int v61), .val (.ref bs_177)] [(.int v61), (.int v59), (.ref b30), (.int v221)])) (fun t_ k_ => XS.iload X218.here hx rfl (hb hby at_393) rfl k_) ?_
      refine own_Goes.via (T' := T218) (g' := (mkF m 396 #[.val (.int xa), .val (.int xw), .val (.int xp), .val (.int xr), .val (.ref b1), .val (.int v27), .val (.int v29), .val (.ref b30), .val (.int v59), .val (.int v61), .val (.int v170_67), .val (.ref b82), .val (.int (1 : Int32)), .val (.int (0 : Int32)), .val (.ref b30), .val (.int v59), .val (.int v61), .val (.ref bs_177)] [(.int (v59 + v61)), (.ref b30), (.int v221)])) (fun t_ k_ => XS.iadd X218.here hx rfl (hb hby at_395) rfl k_) ?_
      refine own_Goes.via (T' := T218) (g' := (mkF m 397 #[.val (.int xa), .val (.int xw), .val (.int xp), .val (.int xr), .val (.ref b1), .val (.int v27), .val (.int v29), .val (.ref b30), .val (.int v59), .val (.int v61), .val (.int v170_67), .val (.ref b82), .val (.int (1 : Int32)), .val (.int (0 : Int32)), .val (.ref b30), .val (.int v59), .val (.int v61), .val (.ref bs_177)] [(.int (1 : Int32)), (.int (v59 + v61)), (.ref b30), (.int v221)])) (fun t_ k_ => XS.iconst X218.here hx rfl (hb hby at_396) k_) ?_
      refine own_Goes.via (T' := T218) (g' := (mkF m 398 #[.val (.int xa), .val (.int xw), .val (.int xp), .val (.int xr), .val (.ref b1), .val (.int v27), .val (.int v29), .val (.ref b30), .val (.int v59), .val (.int v61), .val (.int v170_67), .val (.ref b82), .val (.int (1 : Int32)), .val (.int (0 : Int32)), .val (.ref b30), .val (.int v59), .val (.int v61), .val (.ref bs_177)] [(.int ((v59 + v61) - (1 : Int32))), (.ref b30), (.int v221)])) (fun t_ k_ => XS.isub X218.here hx rfl (hb hby at_397) rfl k_) ?_
      have in398_223 : ¬ ((v59 + v61) - (1 : Int32)) < 0 ∧ ((v59 + v61) - (1 : Int32)) < (3 : Int32) := own_pl0_19 hv27 hv29 hv59 hv61 hv65 hv170_67 hv214 hv221 hk194_108 hc360_210 in7_6 in15_11 in23_16 in31_21 hBb127 nz39_26 nz53_28 in66_37 in77_44 in88_51 hBp127 hBp0 nz96_58 nz110_60 HW HV HP cd120_63 cd120_64 cd189_100 cd189_101 cd202_171 cd202_172 cd279_178 cd279_179 cd305_191 cd305_192 cd305_193 cd305_194 cd320_196 cd320_197 cd320_198 cd320_199 cd335_201 cd335_202 cd335_203 cd335_204 cd350_206 cd350_207 cd350_208 cd350_209 cd366_212 cd366_213 in373_216 cd386_219 cd386_220
      obtain ⟨cl222, Ar222, Sl222, at222⟩ := G185.rd in398_223
      refine own_Goes.via (T' := T218) (g' := (mkF m 399 #[.val (.int xa), .val (.int xw), .val (.int xp), .val (.int xr), .val (.ref b1), .val (.int v27), .val (.int v29), .val (.ref b30), .val (.int v59), .val (.int v61), .val (.int v170_67), .val (.ref b82), .val (.int (1 : Int32)), .val (.int (0 : Int32)), .val (.ref b30), .val (.int v59), .val (.int v61), .val (.ref bs_177)] [(.int (Bp ((v59 + v61) - (1 : Int32)).toNatClampNeg)), (.int v221)])) (fun t_ k_ => X218.baloadBytes hx (j := ((v59 + v61) - (1 : Int32))) (v := (.int (Bp ((v59 + v61) - (1 : Int32)).toNatClampNeg))) (by rw [hh218]; exact Ar222.1) (State.isArrayOf_alike hZ.alike Ar222.2.1) Ar222.2.2 (inb_of Sl222 in398_223) at222 (g := (mkF m 398 #[.val (.int xa), .val (.int xw), .val (.int xp), .val (.int xr), .val (.ref b1), .val (.int v27), .val (.int v29), .val (.ref b30), .val (.int v59), .val (.int v61), .val (.int v170_67), .val (.ref b82), .val (.int (1 : Int32)), .val (.int (0 : Int32)), .val (.ref b30), .val (.int v59), .val (.int v61), .val (.ref bs_177)] [(.int ((v59 + v61) - (1 : Int32))), (.ref b30), (.int v221)])) rfl rfl (hb hby at_398) _ k_) ?_
      refine own_Goes.via (T' := T218) (g' := (mkF m 400 #[.val (.int xa), .val (.int xw), .val (.int xp), .val (.int xr), .val (.ref b1), .val (.int v27), .val (.int v29), .val (.ref b30), .val (.int v59), .val (.int v61), .val (.int v170_67), .val (.ref b82), .val (.int (1 : Int32)), .val (.int (0 : Int32)), .val (.ref b30), .val (.int v59), .val (.int v61), .val (.ref bs_177)] [(.int ((Bp ((v59 + v61) - (1 : Int32)).toNatClampNeg).toUInt32.toUInt16.toUInt32.toInt32)), (.int v221)])) (fun t_ k_ => XS.i2c X218.here hx rfl (hb hby at_399) rfl k_) ?_
      have hd400_224 : v221 = ((Bp ((v59 + v61) - (1 : Int32)).toNatClampNeg).toUInt32.toUInt16.toUInt32.toInt32) := own_pl0_20 hv27 hv29 hv59 hv61 hv65 hv170_67 hv214 hv221 hk194_108 hc360_210 in7_6 in15_11 in23_16 in31_21 hBb127 nz39_26 nz53_28 in66_37 in77_44 in88_51 hBp127 hBp0 nz96_58 nz110_60 HW HV HP cd120_63 cd120_64 cd189_100 cd189_101 cd202_171 cd202_172 cd279_178 cd279_179 cd305_191 cd305_192 cd305_193 cd305_194 cd320_196 cd320_197 cd320_198 cd320_199 cd335_201 cd335_202 cd335_203 cd335_204 cd350_206 cd350_207 cd350_208 cd350_209 cd366_212 cd366_213 in373_216 cd386_219 cd386_220 in398_223
      refine own_Goes.via (T' := T218) (g' := (mkF m 405 #[.val (.int xa), .val (.int xw), .val (.int xp), .val (.int xr), .val (.ref b1), .val (.int v27), .val (.int v29), .val (.ref b30), .val (.int v59), .val (.int v61), .val (.int v170_67), .val (.ref b82), .val (.int (1 : Int32)), .val (.int (0 : Int32)), .val (.ref b30), .val (.int v59), .val (.int v61), .val (.ref bs_177)] [])) (fun t_ k_ => XS.icmpYes X218.here hx rfl (pc0 := 400) (pc' := 405) rfl (hb hby at_400) rfl (teq hd400_224).1 (by decide) (by decide) k_) ?_
      refine own_Goes.via (T' := T218) (g' := (mkF m 406 #[.val (.int xa), .val (.int xw), .val (.int xp), .val (.int xr), .val (.ref b1), .val (.int v27), .val (.int v29), .val (.ref b30), .val (.int v59), .val (.int v61), .val (.int v170_67), .val (.ref b82), .val (.int (1 : Int32)), .val (.int (0 : Int32)), .val (.ref b30), .val (.int v59), .val (.int v61), .val (.ref bs_177)] [(.int (1 : Int32))])) (fun t_ k_ => XS.iconst X218.here hx rfl (hb hby at_405) k_) ?_
      obtain ⟨fs, hr, hrun, hended, hE⟩ := leaveW X218 hS (by rw [hh218]; exact hk) (v := some (.int 1)) (fun h => by rw [Bd.returns] at h; cases h)
      refine own_Goes.fin (retN X218 hx (t := .boolean) Bd.returns (by simp) (hb hby at_406) hr) hrun hended ?_
      subst hPd
      refine ⟨_, _, rfl, ?_, hE.1, hE.2.1, hE.2.2.1, hE.2.2.2.mono (by decide) (by decide)⟩
      show Q0 Z xa xw xp xr s_us xcs wsf s_utf s_iso h0 n0 _ T218.heap _
      rw [hh218]
      exact ⟨rfl, N218⟩
    · refine own_Goes.via (T' := T205) (g' := (mkF m 405 #[.val (.int xa), .val (.int xw), .val (.int xp), .val (.int xr), .val (.ref b1), .val (.int v27), .val (.int v29), .val (.ref b30), .val (.int v59), .val (.int v61), .val (.int v170_67), .val (.ref b82), .val (.int (1 : Int32)), .val (.int (0 : Int32)), .val (.ref b30), .val (.int v59), .val (.int v61), .val (.ref bs_177)] [])) (fun t_ k_ => XS.ifYes X205.here hx rfl (pc0 := 360) (pc' := 405) rfl (hb hby at_360) rfl ((if0 _ _).trans (flt hc360_210).2.2.2) (by decide) (by decide) k_) ?_
      refine own_Goes.via (T' := T205) (g' := (mkF m 406 #[.val (.int xa), .val (.int xw), .val (.int xp), .val (.int xr), .val (.ref b1), .val (.int v27), .val (.int v29), .val (.ref b30), .val (.int v59), .val (.int v61), .val (.int v170_67), .val (.ref b82), .val (.int (1 : Int32)), .val (.int (0 : Int32)), .val (.ref b30), .val (.int v59), .val (.int v61), .val (.ref bs_177)] [(.int (1 : Int32))])) (fun t_ k_ => XS.iconst X205.here hx rfl (hb hby at_405) k_) ?_
      obtain ⟨fs, hr, hrun, hended, hE⟩ := leaveW X205 hS (by rw [hh205]; exact hk) (v := some (.int 1)) (fun h => by rw [Bd.returns] at h; cases h)
      refine own_Goes.fin (retN X205 hx (t := .boolean) Bd.returns (by simp) (hb hby at_406) hr) hrun hended ?_
      subst hPd
      refine ⟨_, _, rfl, ?_, hE.1, hE.2.1, hE.2.2.1, hE.2.2.2.mono (by decide) (by decide)⟩
      show Q0 Z xa xw xp xr s_us xcs wsf s_utf s_iso h0 n0 _ T205.heap _
      rw [hh205]
      exact ⟨rfl, N205⟩
set_option maxRecDepth 65536 in
set_option maxHeartbeats 40000000 in
theorem comes_1 {Post : Tables → Env → Array Value → State → Outcome → State → Prop} (hpost : ∀ tb e args s v u, (limb_1_1.after args s (.returned v) u = true ∧ limb_1_2.after args s (.returned v) u = true ∧ True) → ReturnedEndW s (.returned v) u (Jvm.fieldLocs frame_1_writes args s ++ Jvm.arrayLocs frame_1_arrays args s ++ Jvm.staticLocs frame_1_statics s) 24 1152 → Post tb e args s (.returned v) u) :
    ArmFor flags0 classFile x code maxLocals ret World_1 tables_1 room_1 Calls_1 rest_1 Pre_1 Post := by
  intro l hfl _ _ p e ha hc hk s m args below hf hA hF happ hP
  obtain ⟨hcalls, hrest, hpre⟩ := hP
  obtain ⟨-, -, -, hnamed, -, -, -, hat⟩ := (Spec.applies_iff hf).mp happ
  obtain ⟨hg, hn⟩ := and_e (Cond.before_iff.mp (show (Jvm.Cond.and given_1 narrow_1).before args s = true from hpre))
  obtain ⟨g1, g2⟩ := and_e hg
  obtain ⟨g3, g4⟩ := and_e g2
  obtain ⟨g5, g6⟩ := and_e g4
  obtain ⟨g7, g8⟩ := and_e g6
  obtain ⟨w0, w1, w2, w3, rfl⟩ : ∃ w0 w1 w2 w3 : Value, args = #[w0, w1, w2, w3] := by
    have hs : args.size = 4 := by simpa [Cond.value, given_1] using g1
    obtain ⟨L⟩ := args
    match L, hs with
    | [w0, w1, w2, w3], _ => exact ⟨w0, w1, w2, w3, rfl⟩
  have hw := fun d (hd : d ∈ tables_1) => atoms_spec (ws := Jvm.Cond.code x code maxLocals ret :: tables_1) hat d (List.mem_cons_of_mem _ hd)
  have hfit : Fit s := fun {y c} hc i hi => by
    obtain ⟨ha, rfl⟩ := Array.getElem?_eq_some_iff.mp hc
    have q := List.all_eq_true.mp ((Array.all_eq_true_iff_forall_mem.mp hF) _ (Array.getElem_mem ha)) i (List.mem_range.mpr hi)
    simpa [Array.getElem?_eq_getElem hi] using q
  obtain ⟨hsets, hown0⟩ := atoms_of _ (rest_1_c_eq ▸ (show rest_1_c.before _ s = true from hrest))
  have hr0 := Cond.before_iff.mp hown0
  obtain ⟨i0, ei0⟩ := is_v g3
  obtain rfl : w0 = (.int i0) := Option.some.inj ei0
  obtain ⟨i1, ei1⟩ := is_v g5
  obtain rfl : w1 = (.int i1) := Option.some.inj ei1
  obtain ⟨i2, ei2⟩ := is_v g7
  obtain rfl : w2 = (.int i2) := Option.some.inj ei2
  obtain ⟨i3, ei3⟩ := is_v g8
  obtain rfl : w3 = (.int i3) := Option.some.inj ei3
  have j1 : (Cond.initializedFor "java/nio/charset/StandardCharsets" "US_ASCII" "Ljava/nio/charset/Charset;").before #[Value.int i0, Value.int i1, Value.int i2, Value.int i3] s = true := (hsets _ (List.mem_of_getElem? (i := 1) rfl))
  have j4 : (Cond.eq (Term.static "java/nio/charset/StandardCharsets" "US_ASCII" "Ljava/nio/charset/Charset;") (Term.static "sun/nio/cs/US_ASCII" "INSTANCE" "Lsun/nio/cs/US_ASCII;")).before #[Value.int i0, Value.int i1, Value.int i2, Value.int i3] s = true := (hsets _ (List.mem_of_getElem? (i := 4) rfl))
  have j6 : (Cond.initializedFor "java/lang/String" "COMPACT_STRINGS" "Z").before #[Value.int i0, Value.int i1, Value.int i2, Value.int i3] s = true := (hsets _ (List.mem_of_getElem? (i := 6) rfl))
  have j7 : (Cond.isInt (Term.static "java/lang/String" "COMPACT_STRINGS" "Z")).before #[Value.int i0, Value.int i1, Value.int i2, Value.int i3] s = true := (hsets _ (List.mem_of_getElem? (i := 7) rfl))
  have j8 : (Cond.not (Cond.eq (Term.static "java/lang/String" "COMPACT_STRINGS" "Z") (Term.int (0 : Int32)))).before #[Value.int i0, Value.int i1, Value.int i2, Value.int i3] s = true := (hsets _ (List.mem_of_getElem? (i := 8) rfl))
  have j13 : (Cond.initializedFor "jdk/internal/util/Preconditions" "SIOOBE_FORMATTER" "Ljava/util/function/BiFunction;").before #[Value.int i0, Value.int i1, Value.int i2, Value.int i3] s = true := (hsets _ (List.mem_of_getElem? (i := 13) rfl))
  have j14 : (Cond.isRef (Term.static "jdk/internal/util/Preconditions" "SIOOBE_FORMATTER" "Ljava/util/function/BiFunction;")).before #[Value.int i0, Value.int i1, Value.int i2, Value.int i3] s = true := (hsets _ (List.mem_of_getElem? (i := 14) rfl))
  have j16 : (Cond.initializedFor "sun/nio/cs/UTF_8" "INSTANCE" "Lsun/nio/cs/UTF_8;").before #[Value.int i0, Value.int i1, Value.int i2, Value.int i3] s = true := (hsets _ (List.mem_of_getElem? (i := 16) rfl))
  have j17 : (Cond.exactly (Term.static "sun/nio/cs/UTF_8" "INSTANCE" "Lsun/nio/cs/UTF_8;") "sun/nio/cs/UTF_8").before #[Value.int i0, Value.int i1, Value.int i2, Value.int i3] s = true := (hsets _ (List.mem_of_getElem? (i := 17) rfl))
  have j19 : (Cond.initializedFor "sun/nio/cs/ISO_8859_1" "INSTANCE" "Lsun/nio/cs/ISO_8859_1;").before #[Value.int i0, Value.int i1, Value.int i2, Value.int i3] s = true := (hsets _ (List.mem_of_getElem? (i := 19) rfl))
  have j20 : (Cond.exactly (Term.static "sun/nio/cs/ISO_8859_1" "INSTANCE" "Lsun/nio/cs/ISO_8859_1;") "sun/nio/cs/ISO_8859_1").before #[Value.int i0, Value.int i1, Value.int i2, Value.int i3] s = true := (hsets _ (List.mem_of_getElem? (i := 20) rfl))
  have j22 : (Cond.initializedFor "sun/nio/cs/US_ASCII" "INSTANCE" "Lsun/nio/cs/US_ASCII;").before #[Value.int i0, Value.int i1, Value.int i2, Value.int i3] s = true := (hsets _ (List.mem_of_getElem? (i := 22) rfl))
  have j23 : (Cond.exactly (Term.static "sun/nio/cs/US_ASCII" "INSTANCE" "Lsun/nio/cs/US_ASCII;") "sun/nio/cs/US_ASCII").before #[Value.int i0, Value.int i1, Value.int i2, Value.int i3] s = true := (hsets _ (List.mem_of_getElem? (i := 23) rfl))
  obtain ⟨s_us, ev_us⟩ := exa_v (Cond.before_iff.mp j23)
  have E_us : Exa s s.heap s_us "sun/nio/cs/US_ASCII" := Exa.start ev_us (Cond.before_iff.mp j23)
  have S_us : Sta s s.heap "sun/nio/cs/US_ASCII" "INSTANCE" "Lsun/nio/cs/US_ASCII;" (.ref s_us) := Sta.start ev_us (Or.inl j22)
  have ev_std := own_eqRef (Cond.before_iff.mp j4) ev_us
  have S_std : Sta s s.heap "java/nio/charset/StandardCharsets" "US_ASCII" "Ljava/nio/charset/Charset;" (.ref s_us) := Sta.start ev_std (Or.inl j1)
  obtain ⟨s_utf, ev_utf⟩ := exa_v (Cond.before_iff.mp j17)
  have E_utf : Exa s s.heap s_utf "sun/nio/cs/UTF_8" := Exa.start ev_utf (Cond.before_iff.mp j17)
  have S_utf : Sta s s.heap "sun/nio/cs/UTF_8" "INSTANCE" "Lsun/nio/cs/UTF_8;" (.ref s_utf) := Sta.start ev_utf (Or.inl j16)
  obtain ⟨s_iso, ev_iso⟩ := exa_v (Cond.before_iff.mp j20)
  have E_iso : Exa s s.heap s_iso "sun/nio/cs/ISO_8859_1" := Exa.start ev_iso (Cond.before_iff.mp j20)
  have S_iso : Sta s s.heap "sun/nio/cs/ISO_8859_1" "INSTANCE" "Lsun/nio/cs/ISO_8859_1;" (.ref s_iso) := Sta.start ev_iso (Or.inl j19)
  obtain ⟨xcs, ev_cs⟩ := is_v (Cond.before_iff.mp j7)
  have S_cs : Sta s s.heap "java/lang/String" "COMPACT_STRINGS" "Z" (.int xcs) := Sta.start ev_cs (Or.inl j6)
  have hcs : ¬ (xcs = (0 : Int32)) := fun q => by
    have u := Cond.before_iff.mp j8
    subst q
    simp only [Cond.value, ev_cs, Term.int_eval] at u
    simp at u
  obtain ⟨wsf, ev_sf, isr_wsf⟩ := own_isRef (Cond.before_iff.mp j14)
  have S_sf : Sta s s.heap "jdk/internal/util/Preconditions" "SIOOBE_FORMATTER" "Ljava/util/function/BiFunction;" wsf := Sta.start ev_sf (Or.inl j13)
  have hheld : Jvm.Lit.constHeld s "java/lang/String" 7 := hcalls.1 ("java/lang/String", 7) (List.mem_cons_self ..)
  have hcw : Jvm.Lit.compactW.before #[Value.int i0, Value.int i1, Value.int i2, Value.int i3] s = true := j8
  obtain ⟨n, o, h1, h2, h3, _, L, rfl, ⟨rfl, N⟩, hq⟩ := rm0 l s _ hw tables_1 i0 i1 i2 i3 s_us xcs wsf s_utf s_iso s.heap s.heap.size (Nat.le_refl _) (Old.start s) S_std S_utf S_iso S_us E_utf E_iso E_us S_cs hcs S_sf isr_wsf hheld hcw p e ha hc hk s m _ below hf ((Spec.applies_iff_loose hf).mp happ).1 ⟨rfl, State.Warmed39.refl s, rfl, rfl⟩ trivial
  refine ⟨n, _, h1, h2, h3, hpost _ _ _ _ _ _ ⟨Cond.after_iff.mpr rfl, Cond.after_iff.mpr (eq_i res_at (Term.int_eval (1)) rfl), trivial⟩ ⟨hq.1, hq.2.1, hq.2.2.1, (hq.2.2.2.sift fun y hy => Or.inr (N y hy)).mono (by decide) (by decide)⟩⟩
theorem main_1_1 : Claimed_1_1 := comes_1 fun _ _ _ _ _ _ h hF => ⟨h.1, hF⟩
theorem main_1_2 : Claimed_1_2 := comes_1 fun _ _ _ _ _ _ h hF => ⟨h.2.1, hF⟩
end Jvm.Pilot.@@N@@
namespace Jvm.Pilot.@@N@@
open Jvm Jvm.ClassFile Sem Op Lib Jvm.Free Jvm.Stand Jvm.Pilot.@@N@@.Jvm.D
/-! MADE BY PROGRAM (witnessworld.py) out of the Statement's table words and the real class files: 29 classes; the members and pool entries that the words name. The judged class is class 1, her method 1. -/
namespace start1
open Jvm.ClassFile
def u (s : String) : CpInfo := .utf8 (stringToUtf16 s)
/-- a pool by its gaps: so many unusable entries, then the entry; so many at the end -/
def gap : Nat → List CpInfo → List CpInfo
  | 0, r => r
  | n + 1, r => .unusable :: gap n r
def poolList (es : List (Nat × CpInfo)) (last : Nat) : List CpInfo := es.foldr (fun e r => gap e.1 (e.2 :: r)) (gap last [])
def pool (es : List (Nat × CpInfo)) (last : Nat) : Array CpInfo := ⟨poolList es last⟩
def fileOf (pool : Array CpInfo) (this : Nat) (attrs : Array Attribute := #[]) (ms : Array MethodInfo := #[]) (fl : Nat := 33) (sup : Nat := 0) (ifs : Array Nat := #[]) (fds : Array FieldInfo := #[]) : ClassFile where
  minorVersion := 0
  majorVersion := 65
  constantPool := pool
  accessFlags := fl
  thisClass := this
  superClass := sup
  interfaces := ifs
  fields := fds
  methods := ms
  attributes := attrs
def plain (name : String) (sup : Option ClassId) : Class where
  name := name
  kind := .ordinary
  loader := none
  accessFlags := 33
  super := sup
  interfaces := #[]
  cf := none
  fields := #[]
  methods := #[]
  instanceTypes := #[]
  staticTypes := #[]
  resolved := #[]
  callSites := []
  init := .initialized
  statics := none
  mirror := none

def pool0 : Array CpInfo := pool [(5, u "<init>"), (0, u "()V"), (1, .class_ 10), (1, u "java/lang/Object"), (85, u "clone"), (0, u "()Ljava/lang/Object;")] 26

def k0c0 : Code := { maxStack := 0, maxLocals := 1, code := object_method_1_code, exceptionTable := #[], attributes := #[] }
def k0m0 : Method := { name := "<init>", desc := "()V", sig := { parameters := [], returnType := none }, accessFlags := 1, code := some k0c0 }
def k0m1 : Method := { name := "clone", desc := "()Ljava/lang/Object;", sig := { parameters := [], returnType := some (.object "java/lang/Object") }, accessFlags := 260, code := none }
/-- java/lang/Object -/
def k0 : Class := { plain "java/lang/Object" none with
  accessFlags := 33
  interfaces := #[]
  cf := some (fileOf pool0 8 #[] #[{ accessFlags := 1, nameIndex := 5, descriptorIndex := 6, attributes := #[] }, { accessFlags := 260, nameIndex := 96, descriptorIndex := 97, attributes := #[] }] 33 0 #[] #[])
  fields := #[]
  methods := #[k0m0, k0m1]
  instanceTypes := #[]
  staticTypes := #[]
  resolved := Array.replicate 124 none
  statics := none }

def pool1 : Array CpInfo := pool [(2, .class_ 4), (0, .nameAndType 5 6), (0, u "java/lang/Object"), (0, u "<init>"), (0, u "()V"), (0, .integer 2147483647), (0, .methodref 9 10), (0, .class_ 11), (0, .nameAndType 12 13), (0, u "com/example/sluice/sluice/engine/source/file/AsciiLineReadInPinLaw"), (0, u "neg"), (0, u "([BIII)Z"), (0, .class_ 15), (0, u "com/example/sluice/sluice/engine/source/file/AsciiLine"), (0, .methodref 14 3), (0, .methodref 14 18), (0, .nameAndType 19 20), (0, u "readIn"), (0, u "([BII)Z"), (0, .methodref 14 22), (0, .nameAndType 23 24), (0, u "length"), (0, u "()I"), (0, .methodref 14 26), (0, .nameAndType 27 28), (0, u "toString"), (0, u "()Ljava/lang/String;"), (0, .methodref 30 22), (0, .class_ 31), (0, u "java/lang/String"), (0, .methodref 9 33), (0, .nameAndType 34 35), (0, u "same"), (0, u "(Ljava/lang/String;[BIII)Z"), (0, .methodref 14 37), (0, .nameAndType 38 39), (0, u "charAt"), (0, u "(I)C"), (0, .methodref 30 37), (2, u "law"), (0, u "(IIII)Z")] 5

def k1m0 : Method := { name := "<init>", desc := "()V", sig := { parameters := [], returnType := none }, accessFlags := 1, code := none }
def k1c1 : Code := { maxStack := 5, maxLocals := 18, code := code, exceptionTable := #[], attributes := #[] }
def k1m1 : Method := { name := "law", desc := "(IIII)Z", sig := { parameters := [.int, .int, .int, .int], returnType := some .boolean }, accessFlags := 9, code := some k1c1 }
def k1c2 : Code := { maxStack := 3, maxLocals := 4, code := method_3_code, exceptionTable := #[], attributes := #[] }
def k1m2 : Method := { name := "neg", desc := "([BIII)Z", sig := { parameters := [(.array .byte), .int, .int, .int], returnType := some .boolean }, accessFlags := 10, code := some k1c2 }
def k1c3 : Code := { maxStack := 4, maxLocals := 5, code := method_4_code, exceptionTable := #[], attributes := #[] }
def k1m3 : Method := { name := "same", desc := "(Ljava/lang/String;[BIII)Z", sig := { parameters := [(.object "java/lang/String"), (.array .byte), .int, .int, .int], returnType := some .boolean }, accessFlags := 10, code := some k1c3 }
/-- com/example/sluice/sluice/engine/source/file/AsciiLineReadInPinLaw -/
def k1 : Class := { plain "com/example/sluice/sluice/engine/source/file/AsciiLineReadInPinLaw" (some 0) with
  accessFlags := 49
  interfaces := #[]
  cf := some (fileOf pool1 9 #[] #[{ accessFlags := 1, nameIndex := 5, descriptorIndex := 6, attributes := #[] }, { accessFlags := 9, nameIndex := 43, descriptorIndex := 44, attributes := #[] }, { accessFlags := 10, nameIndex := 12, descriptorIndex := 13, attributes := #[] }, { accessFlags := 10, nameIndex := 34, descriptorIndex := 35, attributes := #[] }] 49 2 #[] #[])
  fields := #[]
  methods := #[k1m0, k1m1, k1m2, k1m3]
  instanceTypes := #[]
  staticTypes := #[]
  resolved := Array.replicate 50 none
  statics := none }

def pool2 : Array CpInfo := pool [(2, .class_ 4), (1, u "java/lang/CharSequence"), (42, .class_ 48), (0, u "java/lang/CharSequence$1CodePointIterator"), (10, .class_ 60), (0, u "java/lang/CharSequence$1CharIterator"), (5, .class_ 67), (0, u "java/lang/Object")] 63

/-- java/lang/CharSequence -/
def k2 : Class := { plain "java/lang/CharSequence" (some 0) with
  accessFlags := 1537
  interfaces := #[]
  cf := some (fileOf pool2 2 #[.nestMembers #[47, 59]] #[] 1537 66 #[] #[])
  fields := #[]
  methods := #[]
  instanceTypes := #[]
  staticTypes := #[]
  resolved := Array.replicate 131 none
  statics := none }

def pool3 : Array CpInfo := pool [(1, .methodref 2 3), (0, .class_ 4), (0, .nameAndType 5 6), (0, u "java/lang/Object"), (0, u "<init>"), (0, u "()V"), (0, .fieldref 8 9), (0, .class_ 10), (0, .nameAndType 11 12), (0, u "com/example/sluice/sluice/engine/source/file/AsciiLine"), (0, u "bytes"), (0, u "[B"), (0, .fieldref 8 14), (0, .nameAndType 15 16), (0, u "offset"), (0, u "I"), (0, .fieldref 8 18), (0, .nameAndType 19 16), (0, u "length"), (0, .methodref 21 22), (0, .class_ 23), (0, .nameAndType 24 25), (0, u "java/util/Objects"), (0, u "checkIndex"), (0, u "(II)I"), (4, .class_ 31), (0, u "java/lang/String"), (0, .fieldref 33 34), (0, .class_ 35), (0, .nameAndType 36 37), (0, u "java/nio/charset/StandardCharsets"), (0, u "US_ASCII"), (0, u "Ljava/nio/charset/Charset;"), (0, .methodref 30 39), (0, .nameAndType 5 40), (0, u "([BIILjava/nio/charset/Charset;)V"), (0, .class_ 42), (0, u "java/lang/CharSequence"), (2, u "readIn"), (0, u "([BII)Z"), (1, u "()I"), (0, u "charAt"), (0, u "(I)C"), (2, u "toString"), (0, u "()Ljava/lang/String;")] 2

def k3c0 : Code := { maxStack := 2, maxLocals := 1, code := prog_128_method_1_code, exceptionTable := #[], attributes := #[] }
def k3m0 : Method := { name := "<init>", desc := "()V", sig := { parameters := [], returnType := none }, accessFlags := 0, code := some k3c0 }
def k3c1 : Code := { maxStack := 3, maxLocals := 5, code := prog_128_method_2_code, exceptionTable := #[], attributes := #[] }
def k3m1 : Method := { name := "readIn", desc := "([BII)Z", sig := { parameters := [(.array .byte), .int, .int], returnType := some .boolean }, accessFlags := 0, code := some k3c1 }
def k3c2 : Code := { maxStack := 1, maxLocals := 1, code := prog_128_method_3_code, exceptionTable := #[], attributes := #[] }
def k3m2 : Method := { name := "length", desc := "()I", sig := { parameters := [], returnType := some .int }, accessFlags := 1, code := some k3c2 }
def k3c3 : Code := { maxStack := 4, maxLocals := 2, code := prog_128_method_4_code, exceptionTable := #[], attributes := #[] }
def k3m3 : Method := { name := "charAt", desc := "(I)C", sig := { parameters := [.int], returnType := some .char }, accessFlags := 1, code := some k3c3 }
def k3c4 : Code := { maxStack := 6, maxLocals := 1, code := prog_128_method_6_code, exceptionTable := #[], attributes := #[] }
def k3m4 : Method := { name := "toString", desc := "()Ljava/lang/String;", sig := { parameters := [], returnType := some (.object "java/lang/String") }, accessFlags := 1, code := some k3c4 }
/-- com/example/sluice/sluice/engine/source/file/AsciiLine -/
def k3 : Class := { plain "com/example/sluice/sluice/engine/source/file/AsciiLine" (some 0) with
  accessFlags := 48
  interfaces := #[2]
  cf := some (fileOf pool3 8 #[] #[{ accessFlags := 0, nameIndex := 5, descriptorIndex := 6, attributes := #[] }, { accessFlags := 0, nameIndex := 45, descriptorIndex := 46, attributes := #[] }, { accessFlags := 1, nameIndex := 19, descriptorIndex := 48, attributes := #[] }, { accessFlags := 1, nameIndex := 49, descriptorIndex := 50, attributes := #[] }, { accessFlags := 1, nameIndex := 53, descriptorIndex := 54, attributes := #[] }] 48 2 #[41] #[{ accessFlags := 2, nameIndex := 11, descriptorIndex := 12, attributes := #[] }, { accessFlags := 2, nameIndex := 15, descriptorIndex := 16, attributes := #[] }, { accessFlags := 2, nameIndex := 19, descriptorIndex := 16, attributes := #[] }])
  fields := #[{ name := "bytes", type := (.array .byte), accessFlags := 2, slot := 0, constantValue := 0 }, { name := "offset", type := .int, accessFlags := 2, slot := 1, constantValue := 0 }, { name := "length", type := .int, accessFlags := 2, slot := 2, constantValue := 0 }]
  methods := #[k3m0, k3m1, k3m2, k3m3, k3m4]
  instanceTypes := #[(.array .byte), .int, .int]
  staticTypes := #[]
  resolved := Array.replicate 57 none
  statics := none }

def pool4 : Array CpInfo := pool [(1, .class_ 2), (0, u "java/io/Serializable"), (0, .class_ 4), (0, u "java/lang/Object")] 2

/-- java/io/Serializable -/
def k4 : Class := { plain "java/io/Serializable" (some 0) with
  accessFlags := 1537
  interfaces := #[]
  cf := some (fileOf pool4 1 #[] #[] 1537 3 #[] #[])
  fields := #[]
  methods := #[]
  instanceTypes := #[]
  staticTypes := #[]
  resolved := Array.replicate 7 none
  statics := none }

def pool5 : Array CpInfo := pool [(1, .class_ 2), (0, u "java/lang/Comparable"), (0, .class_ 4), (0, u "java/lang/Object")] 7

/-- java/lang/Comparable -/
def k5 : Class := { plain "java/lang/Comparable" (some 0) with
  accessFlags := 1537
  interfaces := #[]
  cf := some (fileOf pool5 1 #[] #[] 1537 3 #[] #[])
  fields := #[]
  methods := #[]
  instanceTypes := #[]
  staticTypes := #[]
  resolved := Array.replicate 12 none
  statics := none }

def pool6 : Array CpInfo := pool [(1, .class_ 2), (0, u "java/lang/constant/Constable"), (0, .class_ 4), (0, u "java/lang/Object")] 6

/-- java/lang/constant/Constable -/
def k6 : Class := { plain "java/lang/constant/Constable" (some 0) with
  accessFlags := 1537
  interfaces := #[]
  cf := some (fileOf pool6 1 #[] #[] 1537 3 #[] #[])
  fields := #[]
  methods := #[]
  instanceTypes := #[]
  staticTypes := #[]
  resolved := Array.replicate 11 none
  statics := none }

def pool7 : Array CpInfo := pool [(1, .class_ 2), (0, u "java/lang/constant/ConstantDesc"), (0, .class_ 4), (0, u "java/lang/Object")] 32

/-- java/lang/constant/ConstantDesc -/
def k7 : Class := { plain "java/lang/constant/ConstantDesc" (some 0) with
  accessFlags := 1537
  interfaces := #[]
  cf := some (fileOf pool7 1 #[] #[] 1537 3 #[] #[])
  fields := #[]
  methods := #[]
  instanceTypes := #[]
  staticTypes := #[]
  resolved := Array.replicate 37 none
  statics := none }

def pool8 : Array CpInfo := pool [(1, .methodref 2 3), (0, .class_ 4), (0, .nameAndType 5 6), (0, u "java/lang/Object"), (0, u "<init>"), (0, u "()V"), (0, .string 8), (0, u ""), (0, .fieldref 10 11), (0, .class_ 12), (0, .nameAndType 13 14), (0, u "java/lang/String"), (0, u "value"), (0, u "[B"), (0, .fieldref 10 16), (0, .nameAndType 17 18), (0, u "coder"), (0, u "B"), (2, u "hash"), (0, u "I"), (2, u "hashIsZero"), (0, u "Z"), (7, .methodref 10 35), (0, .nameAndType 36 37), (0, u "checkBoundsOffCount"), (0, u "(III)I"), (0, .fieldref 10 39), (0, .nameAndType 40 26), (0, u "COMPACT_STRINGS"), (13, .methodref 55 56), (0, .class_ 57), (0, .nameAndType 58 59), (0, u "java/util/Arrays"), (0, u "copyOfRange"), (0, u "([BII)[B"), (15, .methodref 10 76), (0, .nameAndType 5 77), (0, u "(Ljava/nio/charset/Charset;[BII)V"), (0, .methodref 79 80), (0, .class_ 81), (0, .nameAndType 82 83), (0, u "java/util/Objects"), (0, u "requireNonNull"), (0, u "(Ljava/lang/Object;)Ljava/lang/Object;"), (0, .class_ 85), (0, u "java/nio/charset/Charset"), (0, .fieldref 87 88), (0, .class_ 89), (0, .nameAndType 90 91), (0, u "sun/nio/cs/UTF_8"), (0, u "INSTANCE"), (0, u "Lsun/nio/cs/UTF_8;"), (1, .class_ 95), (1, u "java/lang/StringCoding"), (11, .class_ 109), (1, u "java/lang/StringLatin1"), (6, .fieldref 117 118), (0, .class_ 119), (0, .nameAndType 90 120), (0, u "sun/nio/cs/ISO_8859_1"), (0, u "Lsun/nio/cs/ISO_8859_1;"), (2, .fieldref 124 125), (0, .class_ 126), (0, .nameAndType 90 127), (0, u "sun/nio/cs/US_ASCII"), (0, u "Lsun/nio/cs/US_ASCII;"), (0, .methodref 93 129), (0, .nameAndType 130 131), (0, u "hasNegatives"), (0, u "([BII)Z"), (10, u "()Z"), (95, u "([BIILjava/nio/charset/Charset;)V"), (95, u "()I"), (0, .methodref 10 336), (0, .nameAndType 17 337), (0, u "()B"), (25, u "([BI)C"), (27, u "(II)V"), (35, u "(I)C"), (64, .methodref 10 493), (0, .nameAndType 494 142), (0, u "isLatin1"), (0, .methodref 107 496), (0, .nameAndType 497 363), (0, u "charAt"), (3, u "checkIndex"), (5, u "length"), (67, .class_ 576), (0, u "java/lang/CharSequence"), (22, u "CASE_INSENSITIVE_ORDER"), (0, u "Ljava/util/Comparator;"), (452, .fieldref 1054 1055), (0, .class_ 1056), (0, .nameAndType 1057 1058), (0, u "jdk/internal/util/Preconditions"), (0, u "SIOOBE_FORMATTER"), (0, u "Ljava/util/function/BiFunction;"), (0, .methodref 1054 1060), (0, .nameAndType 501 1061), (0, u "(IILjava/util/function/BiFunction;)I"), (2, u "(IIILjava/util/function/BiFunction;)I"), (0, .methodref 1054 1066), (0, .nameAndType 1067 1064), (0, u "checkFromIndexSize"), (33, u "serialPersistentFields"), (0, u "[Ljava/io/ObjectStreamField;"), (0, .class_ 1104), (0, u "java/lang/String$CaseInsensitiveComparator"), (1, .class_ 1107), (0, u "java/io/Serializable"), (0, .class_ 1109), (0, u "java/lang/Comparable"), (0, .class_ 1111), (0, u "java/lang/constant/Constable"), (0, .class_ 1113), (0, u "java/lang/constant/ConstantDesc"), (2, u "serialVersionUID"), (0, u "J"), (3, u "REPL"), (0, u "C"), (2, u "LATIN1"), (1, u "UTF16")] 323

def k8m0 : Method := { name := "<init>", desc := "()V", sig := { parameters := [], returnType := none }, accessFlags := 1, code := none }
def k8c1 : Code := { maxStack := 6, maxLocals := 5, code := jdk_42_method_10_code, exceptionTable := #[], attributes := #[] }
def k8m1 : Method := { name := "<init>", desc := "([BIILjava/nio/charset/Charset;)V", sig := { parameters := [(.array .byte), .int, .int, (.object "java/nio/charset/Charset")], returnType := none }, accessFlags := 1, code := some k8c1 }
def k8c2 : Code := { maxStack := 6, maxLocals := 11, code := jdk_42_method_11_code, exceptionTable := #[{ startPc := 800, endPc := 813, handlerPc := 816, catchType := 202 }], attributes := #[] }
def k8m2 : Method := { name := "<init>", desc := "(Ljava/nio/charset/Charset;[BII)V", sig := { parameters := [(.object "java/nio/charset/Charset"), (.array .byte), .int, .int], returnType := none }, accessFlags := 2, code := some k8c2 }
def k8c3 : Code := { maxStack := 2, maxLocals := 1, code := jdk_42_method_54_code, exceptionTable := #[], attributes := #[] }
def k8m3 : Method := { name := "length", desc := "()I", sig := { parameters := [], returnType := some .int }, accessFlags := 1, code := some k8c3 }
def k8c4 : Code := { maxStack := 2, maxLocals := 2, code := jdk_42_method_56_code, exceptionTable := #[], attributes := #[] }
def k8m4 : Method := { name := "charAt", desc := "(I)C", sig := { parameters := [.int], returnType := some .char }, accessFlags := 1, code := some k8c4 }
def k8c5 : Code := { maxStack := 1, maxLocals := 1, code := jdk_42_method_152_code, exceptionTable := #[], attributes := #[] }
def k8m5 : Method := { name := "coder", desc := "()B", sig := { parameters := [], returnType := some .byte }, accessFlags := 0, code := some k8c5 }
def k8c6 : Code := { maxStack := 1, maxLocals := 1, code := jdk_42_method_154_code, exceptionTable := #[], attributes := #[] }
def k8m6 : Method := { name := "isLatin1", desc := "()Z", sig := { parameters := [], returnType := some .boolean }, accessFlags := 0, code := some k8c6 }
def k8c7 : Code := { maxStack := 3, maxLocals := 2, code := jdk_42_method_155_code, exceptionTable := #[], attributes := #[] }
def k8m7 : Method := { name := "checkIndex", desc := "(II)V", sig := { parameters := [.int, .int], returnType := none }, accessFlags := 8, code := some k8c7 }
def k8c8 : Code := { maxStack := 4, maxLocals := 3, code := jdk_42_method_157_code, exceptionTable := #[], attributes := #[] }
def k8m8 : Method := { name := "checkBoundsOffCount", desc := "(III)I", sig := { parameters := [.int, .int, .int], returnType := some .int }, accessFlags := 8, code := some k8c8 }
/-- java/lang/String -/
def k8 : Class := { plain "java/lang/String" (some 0) with
  accessFlags := 49
  interfaces := #[4, 5, 2, 6, 7]
  cf := some (fileOf pool8 10 #[.nestMembers #[1103]] #[{ accessFlags := 1, nameIndex := 5, descriptorIndex := 6, attributes := #[] }, { accessFlags := 1, nameIndex := 5, descriptorIndex := 238, attributes := #[] }, { accessFlags := 2, nameIndex := 5, descriptorIndex := 77, attributes := #[] }, { accessFlags := 1, nameIndex := 507, descriptorIndex := 334, attributes := #[] }, { accessFlags := 1, nameIndex := 497, descriptorIndex := 427, attributes := #[] }, { accessFlags := 0, nameIndex := 17, descriptorIndex := 337, attributes := #[] }, { accessFlags := 0, nameIndex := 494, descriptorIndex := 142, attributes := #[] }, { accessFlags := 8, nameIndex := 501, descriptorIndex := 391, attributes := #[] }, { accessFlags := 8, nameIndex := 36, descriptorIndex := 37, attributes := #[] }] 49 2 #[1106, 1108, 575, 1110, 1112] #[{ accessFlags := 18, nameIndex := 13, descriptorIndex := 14, attributes := #[] }, { accessFlags := 18, nameIndex := 17, descriptorIndex := 18, attributes := #[] }, { accessFlags := 2, nameIndex := 21, descriptorIndex := 22, attributes := #[] }, { accessFlags := 2, nameIndex := 25, descriptorIndex := 26, attributes := #[] }, { accessFlags := 26, nameIndex := 1116, descriptorIndex := 1117, attributes := #[] }, { accessFlags := 24, nameIndex := 40, descriptorIndex := 26, attributes := #[] }, { accessFlags := 26, nameIndex := 1101, descriptorIndex := 1102, attributes := #[] }, { accessFlags := 26, nameIndex := 1121, descriptorIndex := 1122, attributes := #[] }, { accessFlags := 25, nameIndex := 599, descriptorIndex := 600, attributes := #[] }, { accessFlags := 24, nameIndex := 1125, descriptorIndex := 18, attributes := #[] }, { accessFlags := 24, nameIndex := 1127, descriptorIndex := 18, attributes := #[] }])
  fields := #[{ name := "value", type := (.array .byte), accessFlags := 18, slot := 0, constantValue := 0 }, { name := "coder", type := .byte, accessFlags := 18, slot := 1, constantValue := 0 }, { name := "hash", type := .int, accessFlags := 2, slot := 2, constantValue := 0 }, { name := "hashIsZero", type := .boolean, accessFlags := 2, slot := 3, constantValue := 0 }, { name := "serialVersionUID", type := .long, accessFlags := 26, slot := 0, constantValue := 0 }, { name := "COMPACT_STRINGS", type := .boolean, accessFlags := 24, slot := 1, constantValue := 0 }, { name := "serialPersistentFields", type := (.array (.object "java/io/ObjectStreamField")), accessFlags := 26, slot := 2, constantValue := 0 }, { name := "REPL", type := .char, accessFlags := 26, slot := 3, constantValue := 0 }, { name := "CASE_INSENSITIVE_ORDER", type := (.object "java/util/Comparator"), accessFlags := 25, slot := 4, constantValue := 0 }, { name := "LATIN1", type := .byte, accessFlags := 24, slot := 5, constantValue := 0 }, { name := "UTF16", type := .byte, accessFlags := 24, slot := 6, constantValue := 0 }]
  methods := #[k8m0, k8m1, k8m2, k8m3, k8m4, k8m5, k8m6, k8m7, k8m8]
  instanceTypes := #[(.array .byte), .byte, .int, .boolean]
  staticTypes := #[.long, .boolean, (.array (.object "java/io/ObjectStreamField")), .char, (.object "java/util/Comparator"), .byte, .byte]
  resolved := Array.replicate 1451 none
  statics := some 0 }

def pool9 : Array CpInfo := pool [(2, .class_ 4), (1, u "java/lang/Object"), (0, u "<init>"), (0, u "()V"), (14, .class_ 23), (1, u "java/nio/charset/StandardCharsets"), (0, u "US_ASCII"), (0, u "Ljava/nio/charset/Charset;"), (7, u "ISO_8859_1"), (7, u "UTF_8"), (5, u "UTF_16BE"), (5, u "UTF_16LE"), (5, u "UTF_16")] 8

def k9m0 : Method := { name := "<init>", desc := "()V", sig := { parameters := [], returnType := none }, accessFlags := 2, code := none }
/-- java/nio/charset/StandardCharsets -/
def k9 : Class := { plain "java/nio/charset/StandardCharsets" (some 0) with
  accessFlags := 49
  interfaces := #[]
  cf := some (fileOf pool9 21 #[] #[{ accessFlags := 2, nameIndex := 5, descriptorIndex := 6, attributes := #[] }] 49 2 #[] #[{ accessFlags := 25, nameIndex := 24, descriptorIndex := 25, attributes := #[] }, { accessFlags := 25, nameIndex := 33, descriptorIndex := 25, attributes := #[] }, { accessFlags := 25, nameIndex := 41, descriptorIndex := 25, attributes := #[] }, { accessFlags := 25, nameIndex := 47, descriptorIndex := 25, attributes := #[] }, { accessFlags := 25, nameIndex := 53, descriptorIndex := 25, attributes := #[] }, { accessFlags := 25, nameIndex := 59, descriptorIndex := 25, attributes := #[] }])
  fields := #[{ name := "US_ASCII", type := (.object "java/nio/charset/Charset"), accessFlags := 25, slot := 0, constantValue := 0 }, { name := "ISO_8859_1", type := (.object "java/nio/charset/Charset"), accessFlags := 25, slot := 1, constantValue := 0 }, { name := "UTF_8", type := (.object "java/nio/charset/Charset"), accessFlags := 25, slot := 2, constantValue := 0 }, { name := "UTF_16BE", type := (.object "java/nio/charset/Charset"), accessFlags := 25, slot := 3, constantValue := 0 }, { name := "UTF_16LE", type := (.object "java/nio/charset/Charset"), accessFlags := 25, slot := 4, constantValue := 0 }, { name := "UTF_16", type := (.object "java/nio/charset/Charset"), accessFlags := 25, slot := 5, constantValue := 0 }]
  methods := #[k9m0]
  instanceTypes := #[]
  staticTypes := #[(.object "java/nio/charset/Charset"), (.object "java/nio/charset/Charset"), (.object "java/nio/charset/Charset"), (.object "java/nio/charset/Charset"), (.object "java/nio/charset/Charset"), (.object "java/nio/charset/Charset")]
  resolved := Array.replicate 68 none
  statics := some 1 }

def pool10 : Array CpInfo := pool [(2, .class_ 4), (1, u "java/lang/Object"), (0, u "<init>"), (0, u "()V"), (35, .class_ 44), (1, u "java/util/Objects"), (0, u "requireNonNull"), (0, u "(Ljava/lang/Object;)Ljava/lang/Object;"), (58, .methodref 106 107), (0, .class_ 108), (0, .nameAndType 109 110), (0, u "jdk/internal/util/Preconditions"), (0, u "checkIndex"), (0, u "(IILjava/util/function/BiFunction;)I"), (60, u "(II)I")] 12

def k10m0 : Method := { name := "<init>", desc := "()V", sig := { parameters := [], returnType := none }, accessFlags := 2, code := none }
def k10c1 : Code := { maxStack := 2, maxLocals := 1, code := jdk_31_method_10_code, exceptionTable := #[], attributes := #[] }
def k10m1 : Method := { name := "requireNonNull", desc := "(Ljava/lang/Object;)Ljava/lang/Object;", sig := { parameters := [(.object "java/lang/Object")], returnType := some (.object "java/lang/Object") }, accessFlags := 9, code := some k10c1 }
def k10c2 : Code := { maxStack := 3, maxLocals := 2, code := jdk_31_method_17_code, exceptionTable := #[], attributes := #[] }
def k10m2 : Method := { name := "checkIndex", desc := "(II)I", sig := { parameters := [.int, .int], returnType := some .int }, accessFlags := 9, code := some k10c2 }
/-- java/util/Objects -/
def k10 : Class := { plain "java/util/Objects" (some 0) with
  accessFlags := 49
  interfaces := #[]
  cf := some (fileOf pool10 42 #[] #[{ accessFlags := 2, nameIndex := 5, descriptorIndex := 6, attributes := #[] }, { accessFlags := 9, nameIndex := 45, descriptorIndex := 46, attributes := #[] }, { accessFlags := 9, nameIndex := 109, descriptorIndex := 171, attributes := #[] }] 49 2 #[] #[])
  fields := #[]
  methods := #[k10m0, k10m1, k10m2]
  instanceTypes := #[]
  staticTypes := #[]
  resolved := Array.replicate 184 none
  statics := none }

def pool11 : Array CpInfo := pool [(18, .class_ 20), (1, u "java/nio/charset/Charset"), (0, u "cache1"), (0, u "[Ljava/lang/Object;"), (2, u "cache2"), (0, .class_ 27), (0, u "java/lang/Object"), (0, .class_ 29), (0, u "java/nio/charset/Charset$1"), (4, .class_ 36), (1, u "java/nio/charset/Charset$ThreadTrackHolder"), (21, .class_ 59), (0, u "java/nio/charset/Charset$2"), (11, .class_ 73), (1, u "java/nio/charset/Charset$ExtendedProviderHolder"), (22, u "standardProvider"), (0, u "Ljava/nio/charset/spi/CharsetProvider;"), (29, u "name"), (7, .class_ 136), (0, u "java/nio/charset/Charset$3"), (5, u "defaultCharset"), (0, u "Ljava/nio/charset/Charset;"), (14, u "zeroAliases"), (0, u "[Ljava/lang/String;"), (29, u "Ljava/lang/String;"), (2, u "aliases"), (2, u "aliasSet"), (0, u "Ljava/util/Set;"), (82, .class_ 280), (0, u "java/lang/Comparable"), (84, .class_ 366), (0, u "java/nio/charset/Charset$ExtendedProviderHolder$1")] 3

/-- java/nio/charset/Charset -/
def k11 : Class := { plain "java/nio/charset/Charset" (some 0) with
  accessFlags := 1057
  interfaces := #[5]
  cf := some (fileOf pool11 18 #[.nestMembers #[71, 365, 34, 135, 58, 28]] #[] 1057 26 #[279] #[{ accessFlags := 26, nameIndex := 96, descriptorIndex := 97, attributes := #[] }, { accessFlags := 26, nameIndex := 158, descriptorIndex := 159, attributes := #[] }, { accessFlags := 74, nameIndex := 21, descriptorIndex := 22, attributes := #[] }, { accessFlags := 74, nameIndex := 25, descriptorIndex := 22, attributes := #[] }, { accessFlags := 10, nameIndex := 142, descriptorIndex := 143, attributes := #[] }, { accessFlags := 18, nameIndex := 127, descriptorIndex := 189, attributes := #[] }, { accessFlags := 18, nameIndex := 192, descriptorIndex := 159, attributes := #[] }, { accessFlags := 2, nameIndex := 195, descriptorIndex := 196, attributes := #[] }])
  fields := #[{ name := "standardProvider", type := (.object "java/nio/charset/spi/CharsetProvider"), accessFlags := 26, slot := 0, constantValue := 0 }, { name := "zeroAliases", type := (.array (.object "java/lang/String")), accessFlags := 26, slot := 1, constantValue := 0 }, { name := "cache1", type := (.array (.object "java/lang/Object")), accessFlags := 74, slot := 2, constantValue := 0 }, { name := "cache2", type := (.array (.object "java/lang/Object")), accessFlags := 74, slot := 3, constantValue := 0 }, { name := "defaultCharset", type := (.object "java/nio/charset/Charset"), accessFlags := 10, slot := 4, constantValue := 0 }, { name := "name", type := (.object "java/lang/String"), accessFlags := 18, slot := 0, constantValue := 0 }, { name := "aliases", type := (.array (.object "java/lang/String")), accessFlags := 18, slot := 1, constantValue := 0 }, { name := "aliasSet", type := (.object "java/util/Set"), accessFlags := 2, slot := 2, constantValue := 0 }]
  methods := #[]
  instanceTypes := #[(.object "java/lang/String"), (.array (.object "java/lang/String")), (.object "java/util/Set")]
  staticTypes := #[(.object "java/nio/charset/spi/CharsetProvider"), (.array (.object "java/lang/String")), (.array (.object "java/lang/Object")), (.array (.object "java/lang/Object")), (.object "java/nio/charset/Charset")]
  resolved := Array.replicate 370 none
  statics := none }

def pool12 : Array CpInfo := pool [(1, .class_ 2), (0, u "sun/nio/cs/HistoricallyNamedCharset"), (0, .class_ 4), (0, u "java/lang/Object")] 4

/-- sun/nio/cs/HistoricallyNamedCharset -/
def k12 : Class := { plain "sun/nio/cs/HistoricallyNamedCharset" (some 0) with
  accessFlags := 1537
  interfaces := #[]
  cf := some (fileOf pool12 1 #[] #[] 1537 3 #[] #[])
  fields := #[]
  methods := #[]
  instanceTypes := #[]
  staticTypes := #[]
  resolved := Array.replicate 9 none
  statics := none }

def pool13 : Array CpInfo := pool [(10, .class_ 12), (1, u "java/nio/charset/Charset"), (0, u "<init>"), (3, .class_ 18), (0, u "sun/nio/cs/US_ASCII"), (0, .class_ 20), (0, u "sun/nio/cs/US_ASCII$Decoder"), (3, .class_ 25), (0, u "sun/nio/cs/US_ASCII$Encoder"), (3, u "()V"), (2, u "INSTANCE"), (0, u "Lsun/nio/cs/US_ASCII;"), (8, u "JLA"), (0, u "Ljdk/internal/access/JavaLangAccess;"), (0, .class_ 45), (0, u "sun/nio/cs/HistoricallyNamedCharset")] 21

def k13m0 : Method := { name := "<init>", desc := "()V", sig := { parameters := [], returnType := none }, accessFlags := 1, code := none }
/-- sun/nio/cs/US_ASCII -/
def k13 : Class := { plain "sun/nio/cs/US_ASCII" (some 11) with
  accessFlags := 33
  interfaces := #[12]
  cf := some (fileOf pool13 17 #[.nestMembers #[24, 19]] #[{ accessFlags := 1, nameIndex := 13, descriptorIndex := 29, attributes := #[] }] 33 10 #[44] #[{ accessFlags := 25, nameIndex := 32, descriptorIndex := 33, attributes := #[] }, { accessFlags := 26, nameIndex := 42, descriptorIndex := 43, attributes := #[] }])
  fields := #[{ name := "INSTANCE", type := (.object "sun/nio/cs/US_ASCII"), accessFlags := 25, slot := 0, constantValue := 0 }, { name := "JLA", type := (.object "jdk/internal/access/JavaLangAccess"), accessFlags := 26, slot := 1, constantValue := 0 }]
  methods := #[k13m0]
  instanceTypes := #[(.object "java/lang/String"), (.array (.object "java/lang/String")), (.object "java/util/Set")]
  staticTypes := #[(.object "sun/nio/cs/US_ASCII"), (.object "jdk/internal/access/JavaLangAccess")]
  resolved := Array.replicate 67 none
  statics := some 2 }

def pool14 : Array CpInfo := pool [(2, .class_ 4), (1, u "java/lang/Object"), (0, u "<init>"), (0, u "()V"), (17, .class_ 26), (1, u "jdk/internal/util/Preconditions"), (6, u "checkIndex"), (15, u "checkFromIndexSize"), (5, .class_ 56), (0, u "jdk/internal/util/Preconditions$4"), (57, .class_ 115), (0, u "jdk/internal/util/Preconditions$1"), (7, u "SIOOBE_FORMATTER"), (0, u "Ljava/util/function/BiFunction;"), (0, .class_ 126), (0, u "jdk/internal/util/Preconditions$2"), (3, u "AIOOBE_FORMATTER"), (0, .class_ 132), (0, u "jdk/internal/util/Preconditions$3"), (3, u "IOOBE_FORMATTER"), (41, u "(IILjava/util/function/BiFunction;)I"), (4, u "(IIILjava/util/function/BiFunction;)I")] 10

def k14m0 : Method := { name := "<init>", desc := "()V", sig := { parameters := [], returnType := none }, accessFlags := 1, code := none }
def k14c1 : Code := { maxStack := 3, maxLocals := 3, code := jdk_41_method_11_code, exceptionTable := #[], attributes := #[] }
def k14m1 : Method := { name := "checkIndex", desc := "(IILjava/util/function/BiFunction;)I", sig := { parameters := [.int, .int, (.object "java/util/function/BiFunction")], returnType := some .int }, accessFlags := 9, code := some k14c1 }
def k14c2 : Code := { maxStack := 4, maxLocals := 4, code := jdk_41_method_13_code, exceptionTable := #[], attributes := #[] }
def k14m2 : Method := { name := "checkFromIndexSize", desc := "(IIILjava/util/function/BiFunction;)I", sig := { parameters := [.int, .int, .int, (.object "java/util/function/BiFunction")], returnType := some .int }, accessFlags := 9, code := some k14c2 }
/-- jdk/internal/util/Preconditions -/
def k14 : Class := { plain "jdk/internal/util/Preconditions" (some 0) with
  accessFlags := 33
  interfaces := #[]
  cf := some (fileOf pool14 24 #[.nestMembers #[55, 131, 125, 114]] #[{ accessFlags := 1, nameIndex := 5, descriptorIndex := 6, attributes := #[] }, { accessFlags := 9, nameIndex := 33, descriptorIndex := 178, attributes := #[] }, { accessFlags := 9, nameIndex := 49, descriptorIndex := 183, attributes := #[] }] 33 2 #[] #[{ accessFlags := 25, nameIndex := 123, descriptorIndex := 124, attributes := #[] }, { accessFlags := 25, nameIndex := 130, descriptorIndex := 124, attributes := #[] }, { accessFlags := 25, nameIndex := 136, descriptorIndex := 124, attributes := #[] }])
  fields := #[{ name := "SIOOBE_FORMATTER", type := (.object "java/util/function/BiFunction"), accessFlags := 25, slot := 0, constantValue := 0 }, { name := "AIOOBE_FORMATTER", type := (.object "java/util/function/BiFunction"), accessFlags := 25, slot := 1, constantValue := 0 }, { name := "IOOBE_FORMATTER", type := (.object "java/util/function/BiFunction"), accessFlags := 25, slot := 2, constantValue := 0 }]
  methods := #[k14m0, k14m1, k14m2]
  instanceTypes := #[]
  staticTypes := #[(.object "java/util/function/BiFunction"), (.object "java/util/function/BiFunction"), (.object "java/util/function/BiFunction")]
  resolved := Array.replicate 194 none
  statics := some 3 }

def pool15 : Array CpInfo := pool [(2, .class_ 4), (1, u "java/nio/charset/Charset"), (130, .class_ 136), (0, u "sun/nio/cs/Unicode"), (0, .class_ 138), (0, u "sun/nio/cs/HistoricallyNamedCharset")] 15

/-- sun/nio/cs/Unicode -/
def k15 : Class := { plain "sun/nio/cs/Unicode" (some 11) with
  accessFlags := 1056
  interfaces := #[12]
  cf := some (fileOf pool15 135 #[] #[] 1056 2 #[137] #[])
  fields := #[]
  methods := #[]
  instanceTypes := #[(.object "java/lang/String"), (.array (.object "java/lang/String")), (.object "java/util/Set")]
  staticTypes := #[]
  resolved := Array.replicate 154 none
  statics := none }

def pool16 : Array CpInfo := pool [(10, .class_ 12), (1, u "sun/nio/cs/Unicode"), (0, u "<init>"), (3, .class_ 18), (0, u "sun/nio/cs/UTF_8$Decoder"), (3, .class_ 23), (0, u "sun/nio/cs/UTF_8$Encoder"), (15, .class_ 40), (0, u "sun/nio/cs/UTF_8"), (2, u "()V"), (2, u "INSTANCE"), (0, u "Lsun/nio/cs/UTF_8;"), (8, u "JLA"), (0, u "Ljdk/internal/access/JavaLangAccess;")] 26

def k16m0 : Method := { name := "<init>", desc := "()V", sig := { parameters := [], returnType := none }, accessFlags := 1, code := none }
/-- sun/nio/cs/UTF_8 -/
def k16 : Class := { plain "sun/nio/cs/UTF_8" (some 15) with
  accessFlags := 49
  interfaces := #[]
  cf := some (fileOf pool16 39 #[.nestMembers #[22, 17]] #[{ accessFlags := 1, nameIndex := 13, descriptorIndex := 43, attributes := #[] }] 49 10 #[] #[{ accessFlags := 25, nameIndex := 46, descriptorIndex := 47, attributes := #[] }, { accessFlags := 26, nameIndex := 56, descriptorIndex := 57, attributes := #[] }])
  fields := #[{ name := "INSTANCE", type := (.object "sun/nio/cs/UTF_8"), accessFlags := 25, slot := 0, constantValue := 0 }, { name := "JLA", type := (.object "jdk/internal/access/JavaLangAccess"), accessFlags := 26, slot := 1, constantValue := 0 }]
  methods := #[k16m0]
  instanceTypes := #[(.object "java/lang/String"), (.array (.object "java/lang/String")), (.object "java/util/Set")]
  staticTypes := #[(.object "sun/nio/cs/UTF_8"), (.object "jdk/internal/access/JavaLangAccess")]
  resolved := Array.replicate 84 none
  statics := some 4 }

def pool17 : Array CpInfo := pool [(10, .class_ 12), (1, u "java/nio/charset/Charset"), (0, u "<init>"), (5, .class_ 20), (0, u "sun/nio/cs/ISO_8859_1"), (0, .class_ 22), (0, u "sun/nio/cs/ISO_8859_1$Decoder"), (3, .class_ 27), (0, u "sun/nio/cs/ISO_8859_1$Encoder"), (3, u "()V"), (2, u "INSTANCE"), (0, u "Lsun/nio/cs/ISO_8859_1;"), (0, .class_ 37), (0, u "sun/nio/cs/HistoricallyNamedCharset")] 22

def k17m0 : Method := { name := "<init>", desc := "()V", sig := { parameters := [], returnType := none }, accessFlags := 1, code := none }
/-- sun/nio/cs/ISO_8859_1 -/
def k17 : Class := { plain "sun/nio/cs/ISO_8859_1" (some 11) with
  accessFlags := 33
  interfaces := #[12]
  cf := some (fileOf pool17 19 #[.nestMembers #[26, 21]] #[{ accessFlags := 1, nameIndex := 13, descriptorIndex := 31, attributes := #[] }] 33 10 #[36] #[{ accessFlags := 25, nameIndex := 34, descriptorIndex := 35, attributes := #[] }])
  fields := #[{ name := "INSTANCE", type := (.object "sun/nio/cs/ISO_8859_1"), accessFlags := 25, slot := 0, constantValue := 0 }]
  methods := #[k17m0]
  instanceTypes := #[(.object "java/lang/String"), (.array (.object "java/lang/String")), (.object "java/util/Set")]
  staticTypes := #[(.object "sun/nio/cs/ISO_8859_1")]
  resolved := Array.replicate 60 none
  statics := some 5 }

def pool18 : Array CpInfo := pool [(2, .class_ 4), (1, u "java/lang/Object"), (0, u "<init>"), (0, u "()V"), (0, .methodref 8 9), (0, .class_ 10), (0, .nameAndType 11 12), (0, u "java/lang/StringCoding"), (0, u "countPositives"), (0, u "([BII)I"), (11, u "hasNegatives"), (0, u "([BII)Z")] 23

def k18m0 : Method := { name := "<init>", desc := "()V", sig := { parameters := [], returnType := none }, accessFlags := 2, code := none }
def k18c1 : Code := { maxStack := 3, maxLocals := 3, code := jdk_123_method_2_code, exceptionTable := #[], attributes := #[] }
def k18m1 : Method := { name := "hasNegatives", desc := "([BII)Z", sig := { parameters := [(.array .byte), .int, .int], returnType := some .boolean }, accessFlags := 9, code := some k18c1 }
def k18c2 : Code := { maxStack := 2, maxLocals := 5, code := jdk_123_method_3_code, exceptionTable := #[], attributes := #[] }
def k18m2 : Method := { name := "countPositives", desc := "([BII)I", sig := { parameters := [(.array .byte), .int, .int], returnType := some .int }, accessFlags := 9, code := some k18c2 }
/-- java/lang/StringCoding -/
def k18 : Class := { plain "java/lang/StringCoding" (some 0) with
  accessFlags := 32
  interfaces := #[]
  cf := some (fileOf pool18 8 #[] #[{ accessFlags := 2, nameIndex := 5, descriptorIndex := 6, attributes := #[] }, { accessFlags := 9, nameIndex := 24, descriptorIndex := 25, attributes := #[] }, { accessFlags := 9, nameIndex := 11, descriptorIndex := 12, attributes := #[] }] 32 2 #[] #[])
  fields := #[]
  methods := #[k18m0, k18m1, k18m2]
  instanceTypes := #[]
  staticTypes := #[]
  resolved := Array.replicate 49 none
  statics := none }

def pool19 : Array CpInfo := pool [(2, .class_ 4), (1, u "java/lang/Object"), (0, u "<init>"), (0, u "()V"), (7, .class_ 16), (1, u "java/util/Arrays"), (57, .class_ 76), (1, u "java/util/Arrays$NaturalOrder"), (32, u "()Ljava/lang/Object;"), (3, .class_ 115), (1, u "java/util/Arrays$LegacyMergeSort"), (1, u "Z"), (10, .nameAndType 129 109), (0, u "clone"), (9, u "copyOfRange"), (10, .methodref 151 152), (0, .class_ 153), (0, .nameAndType 154 155), (0, u "java/lang/System"), (0, u "arraycopy"), (0, u "(Ljava/lang/Object;ILjava/lang/Object;II)V"), (148, .methodref 305 306), (0, .class_ 307), (0, .nameAndType 308 309), (0, u "java/lang/Math"), (0, u "min"), (0, u "(II)I"), (0, .methodref 311 128), (0, .class_ 312), (0, u "[B"), (26, .methodref 14 340), (0, .nameAndType 341 342), (0, u "copyOfRangeByte"), (0, u "([BII)[B"), (0, .methodref 14 344), (0, .nameAndType 345 346), (0, u "checkLength"), (0, u "(II)V"), (28, .class_ 376), (0, u "java/util/Arrays$ArrayList"), (68, u "$assertionsDisabled"), (269, u "MIN_ARRAY_SORT_GRAN"), (0, u "I"), (2, u "INSERTIONSORT_THRESHOLD"), (255, .class_ 976), (0, u "java/util/Arrays$ArrayItr")] 52

def k19m0 : Method := { name := "<init>", desc := "()V", sig := { parameters := [], returnType := none }, accessFlags := 2, code := none }
def k19c1 : Code := { maxStack := 4, maxLocals := 2, code := jdk_65_method_131_code, exceptionTable := #[], attributes := #[] }
def k19m1 : Method := { name := "checkLength", desc := "(II)V", sig := { parameters := [.int, .int], returnType := none }, accessFlags := 10, code := some k19c1 }
def k19c2 : Code := { maxStack := 3, maxLocals := 3, code := jdk_65_method_132_code, exceptionTable := #[], attributes := #[] }
def k19m2 : Method := { name := "copyOfRange", desc := "([BII)[B", sig := { parameters := [(.array .byte), .int, .int], returnType := some (.array .byte) }, accessFlags := 9, code := some k19c2 }
def k19c3 : Code := { maxStack := 6, maxLocals := 5, code := jdk_65_method_133_code, exceptionTable := #[], attributes := #[] }
def k19m3 : Method := { name := "copyOfRangeByte", desc := "([BII)[B", sig := { parameters := [(.array .byte), .int, .int], returnType := some (.array .byte) }, accessFlags := 10, code := some k19c3 }
/-- java/util/Arrays -/
def k19 : Class := { plain "java/util/Arrays" (some 0) with
  accessFlags := 49
  interfaces := #[]
  cf := some (fileOf pool19 14 #[.nestMembers #[975, 375, 113, 74]] #[{ accessFlags := 2, nameIndex := 5, descriptorIndex := 6, attributes := #[] }, { accessFlags := 10, nameIndex := 345, descriptorIndex := 346, attributes := #[] }, { accessFlags := 9, nameIndex := 139, descriptorIndex := 342, attributes := #[] }, { accessFlags := 10, nameIndex := 341, descriptorIndex := 342, attributes := #[] }] 49 2 #[] #[{ accessFlags := 26, nameIndex := 715, descriptorIndex := 716, attributes := #[] }, { accessFlags := 26, nameIndex := 719, descriptorIndex := 716, attributes := #[] }, { accessFlags := 4120, nameIndex := 445, descriptorIndex := 117, attributes := #[] }])
  fields := #[{ name := "MIN_ARRAY_SORT_GRAN", type := .int, accessFlags := 26, slot := 0, constantValue := 0 }, { name := "INSERTIONSORT_THRESHOLD", type := .int, accessFlags := 26, slot := 1, constantValue := 0 }, { name := "$assertionsDisabled", type := .boolean, accessFlags := 4120, slot := 2, constantValue := 0 }]
  methods := #[k19m0, k19m1, k19m2, k19m3]
  instanceTypes := #[]
  staticTypes := #[.int, .int, .boolean]
  resolved := Array.replicate 1029 none
  statics := none }

def pool20 : Array CpInfo := pool [(1, .class_ 2), (0, u "java/lang/Math"), (1, .class_ 6), (1, u "java/lang/Object"), (0, u "<init>"), (0, u "()V"), (89, .class_ 100), (1, u "java/lang/Math$RandomNumberGeneratorHolder"), (71, u "negativeZeroFloatBits"), (0, u "J"), (2, u "negativeZeroDoubleBits"), (24, u "min"), (43, u "$assertionsDisabled"), (0, u "Z"), (88, u "(II)I"), (2, u "twoToTheDoubleScaleDown"), (0, u "D"), (4, u "twoToTheDoubleScaleUp"), (9, u "E"), (3, u "PI"), (2, u "TAU"), (2, u "DEGREES_TO_RADIANS"), (0, u "RADIANS_TO_DEGREES")] 94

def k20m0 : Method := { name := "<init>", desc := "()V", sig := { parameters := [], returnType := none }, accessFlags := 2, code := none }
def k20c1 : Code := { maxStack := 2, maxLocals := 2, code := jdk_29_method_69_code, exceptionTable := #[], attributes := #[] }
def k20m1 : Method := { name := "min", desc := "(II)I", sig := { parameters := [.int, .int], returnType := some .int }, accessFlags := 9, code := some k20c1 }
/-- java/lang/Math -/
def k20 : Class := { plain "java/lang/Math" (some 0) with
  accessFlags := 49
  interfaces := #[]
  cf := some (fileOf pool20 1 #[.nestMembers #[98]] #[{ accessFlags := 2, nameIndex := 7, descriptorIndex := 8, attributes := #[] }, { accessFlags := 9, nameIndex := 201, descriptorIndex := 335, attributes := #[] }] 49 4 #[] #[{ accessFlags := 25, nameIndex := 354, descriptorIndex := 339, attributes := #[] }, { accessFlags := 25, nameIndex := 358, descriptorIndex := 339, attributes := #[] }, { accessFlags := 25, nameIndex := 361, descriptorIndex := 339, attributes := #[] }, { accessFlags := 26, nameIndex := 364, descriptorIndex := 339, attributes := #[] }, { accessFlags := 26, nameIndex := 365, descriptorIndex := 339, attributes := #[] }, { accessFlags := 26, nameIndex := 172, descriptorIndex := 173, attributes := #[] }, { accessFlags := 26, nameIndex := 176, descriptorIndex := 173, attributes := #[] }, { accessFlags := 8, nameIndex := 344, descriptorIndex := 339, attributes := #[] }, { accessFlags := 8, nameIndex := 338, descriptorIndex := 339, attributes := #[] }, { accessFlags := 4120, nameIndex := 245, descriptorIndex := 246, attributes := #[] }])
  fields := #[{ name := "E", type := .double, accessFlags := 25, slot := 0, constantValue := 0 }, { name := "PI", type := .double, accessFlags := 25, slot := 1, constantValue := 0 }, { name := "TAU", type := .double, accessFlags := 25, slot := 2, constantValue := 0 }, { name := "DEGREES_TO_RADIANS", type := .double, accessFlags := 26, slot := 3, constantValue := 0 }, { name := "RADIANS_TO_DEGREES", type := .double, accessFlags := 26, slot := 4, constantValue := 0 }, { name := "negativeZeroFloatBits", type := .long, accessFlags := 26, slot := 5, constantValue := 0 }, { name := "negativeZeroDoubleBits", type := .long, accessFlags := 26, slot := 6, constantValue := 0 }, { name := "twoToTheDoubleScaleUp", type := .double, accessFlags := 8, slot := 7, constantValue := 0 }, { name := "twoToTheDoubleScaleDown", type := .double, accessFlags := 8, slot := 8, constantValue := 0 }, { name := "$assertionsDisabled", type := .boolean, accessFlags := 4120, slot := 9, constantValue := 0 }]
  methods := #[k20m0, k20m1]
  instanceTypes := #[]
  staticTypes := #[.double, .double, .double, .double, .double, .long, .long, .double, .double, .boolean]
  resolved := Array.replicate 460 none
  statics := none }

def pool21 : Array CpInfo := pool [(2, .class_ 4), (1, u "java/lang/Object"), (0, u "<init>"), (0, u "()V"), (1, .class_ 10), (1, u "java/lang/System"), (0, u "allowSecurityManager"), (0, u "I"), (16, u "cons"), (0, u "Ljava/io/Console;"), (77, .class_ 110), (1, u "java/lang/System$CallersHolder"), (43, u "initialErrStream"), (0, u "Ljava/io/PrintStream;"), (19, u "security"), (0, u "Ljava/lang/SecurityManager;"), (31, .class_ 209), (0, u "java/lang/System$1"), (7, u "props"), (0, u "Ljava/util/Properties;"), (2, u "lineSeparator"), (0, u "Ljava/lang/String;"), (96, .class_ 321), (1, u "java/lang/System$LoggerFinder"), (5, .class_ 328), (0, u "java/lang/System$Logger"), (67, u "err"), (2, u "out"), (91, u "notSupportedJnuEncoding"), (15, u "in"), (17, u "initialIn"), (0, u "Ljava/io/InputStream;"), (35, u "bootLayer"), (0, u "Ljava/lang/ModuleLayer;"), (99, .class_ 664), (0, u "java/lang/System$2"), (9, u "NEVER"), (2, u "MAYBE"), (49, u "arraycopy"), (0, u "(Ljava/lang/Object;ILjava/lang/Object;II)V"), (72, .class_ 802), (0, u "java/lang/System$Logger$Level")] 31

def k21m0 : Method := { name := "<init>", desc := "()V", sig := { parameters := [], returnType := none }, accessFlags := 2, code := none }
def k21m1 : Method := { name := "arraycopy", desc := "(Ljava/lang/Object;ILjava/lang/Object;II)V", sig := { parameters := [(.object "java/lang/Object"), .int, (.object "java/lang/Object"), .int, .int], returnType := none }, accessFlags := 265, code := none }
/-- java/lang/System -/
def k21 : Class := { plain "java/lang/System" (some 0) with
  accessFlags := 49
  interfaces := #[]
  cf := some (fileOf pool21 8 #[.nestMembers #[319, 327, 801, 108, 663, 208]] #[{ accessFlags := 2, nameIndex := 5, descriptorIndex := 6, attributes := #[] }, { accessFlags := 265, nameIndex := 727, descriptorIndex := 728, attributes := #[] }] 49 2 #[] #[{ accessFlags := 25, nameIndex := 507, descriptorIndex := 526, attributes := #[] }, { accessFlags := 25, nameIndex := 399, descriptorIndex := 155, attributes := #[] }, { accessFlags := 25, nameIndex := 396, descriptorIndex := 155, attributes := #[] }, { accessFlags := 10, nameIndex := 525, descriptorIndex := 526, attributes := #[] }, { accessFlags := 26, nameIndex := 674, descriptorIndex := 12, attributes := #[] }, { accessFlags := 26, nameIndex := 677, descriptorIndex := 12, attributes := #[] }, { accessFlags := 10, nameIndex := 11, descriptorIndex := 12, attributes := #[] }, { accessFlags := 74, nameIndex := 175, descriptorIndex := 176, attributes := #[] }, { accessFlags := 10, nameIndex := 491, descriptorIndex := 222, attributes := #[] }, { accessFlags := 74, nameIndex := 29, descriptorIndex := 30, attributes := #[] }, { accessFlags := 74, nameIndex := 154, descriptorIndex := 155, attributes := #[] }, { accessFlags := 10, nameIndex := 217, descriptorIndex := 218, attributes := #[] }, { accessFlags := 10, nameIndex := 221, descriptorIndex := 222, attributes := #[] }, { accessFlags := 8, nameIndex := 562, descriptorIndex := 563, attributes := #[] }])
  fields := #[{ name := "in", type := (.object "java/io/InputStream"), accessFlags := 25, slot := 0, constantValue := 0 }, { name := "out", type := (.object "java/io/PrintStream"), accessFlags := 25, slot := 1, constantValue := 0 }, { name := "err", type := (.object "java/io/PrintStream"), accessFlags := 25, slot := 2, constantValue := 0 }, { name := "initialIn", type := (.object "java/io/InputStream"), accessFlags := 10, slot := 3, constantValue := 0 }, { name := "NEVER", type := .int, accessFlags := 26, slot := 4, constantValue := 0 }, { name := "MAYBE", type := .int, accessFlags := 26, slot := 5, constantValue := 0 }, { name := "allowSecurityManager", type := .int, accessFlags := 10, slot := 6, constantValue := 0 }, { name := "security", type := (.object "java/lang/SecurityManager"), accessFlags := 74, slot := 7, constantValue := 0 }, { name := "notSupportedJnuEncoding", type := (.object "java/lang/String"), accessFlags := 10, slot := 8, constantValue := 0 }, { name := "cons", type := (.object "java/io/Console"), accessFlags := 74, slot := 9, constantValue := 0 }, { name := "initialErrStream", type := (.object "java/io/PrintStream"), accessFlags := 74, slot := 10, constantValue := 0 }, { name := "props", type := (.object "java/util/Properties"), accessFlags := 10, slot := 11, constantValue := 0 }, { name := "lineSeparator", type := (.object "java/lang/String"), accessFlags := 10, slot := 12, constantValue := 0 }, { name := "bootLayer", type := (.object "java/lang/ModuleLayer"), accessFlags := 8, slot := 13, constantValue := 0 }]
  methods := #[k21m0, k21m1]
  instanceTypes := #[]
  staticTypes := #[(.object "java/io/InputStream"), (.object "java/io/PrintStream"), (.object "java/io/PrintStream"), (.object "java/io/InputStream"), .int, .int, .int, (.object "java/lang/SecurityManager"), (.object "java/lang/String"), (.object "java/io/Console"), (.object "java/io/PrintStream"), (.object "java/util/Properties"), (.object "java/lang/String"), (.object "java/lang/ModuleLayer")]
  resolved := Array.replicate 834 none
  statics := none }

def pool22 : Array CpInfo := pool [(1, .class_ 2), (0, u "java/lang/String"), (1, .class_ 6), (1, u "java/lang/Object"), (0, u "<init>"), (0, u "()V"), (0, .methodref 1 10), (0, .nameAndType 11 12), (0, u "checkIndex"), (0, u "(II)V"), (1, .class_ 16), (1, u "java/lang/StringLatin1"), (36, u "([BI)C"), (67, u "$assertionsDisabled"), (0, u "Z"), (98, .class_ 223), (1, u "java/lang/StringLatin1$LinesSpliterator"), (28, u "charAt"), (137, .class_ 391), (0, u "java/lang/StringLatin1$CharsSpliterator")] 3

def k22m0 : Method := { name := "<init>", desc := "()V", sig := { parameters := [], returnType := none }, accessFlags := 0, code := none }
def k22c1 : Code := { maxStack := 2, maxLocals := 2, code := jdk_43_method_2_code, exceptionTable := #[], attributes := #[] }
def k22m1 : Method := { name := "charAt", desc := "([BI)C", sig := { parameters := [(.array .byte), .int], returnType := some .char }, accessFlags := 9, code := some k22c1 }
/-- java/lang/StringLatin1 -/
def k22 : Class := { plain "java/lang/StringLatin1" (some 0) with
  accessFlags := 48
  interfaces := #[]
  cf := some (fileOf pool22 14 #[.nestMembers #[390, 221]] #[{ accessFlags := 0, nameIndex := 7, descriptorIndex := 8, attributes := #[] }, { accessFlags := 9, nameIndex := 252, descriptorIndex := 53, attributes := #[] }] 48 4 #[] #[{ accessFlags := 4120, nameIndex := 121, descriptorIndex := 122, attributes := #[] }])
  fields := #[{ name := "$assertionsDisabled", type := .boolean, accessFlags := 4120, slot := 0, constantValue := 0 }]
  methods := #[k22m0, k22m1]
  instanceTypes := #[]
  staticTypes := #[.boolean]
  resolved := Array.replicate 395 none
  statics := none }

def pool23 : Array CpInfo := pool [(1, .class_ 2), (0, u "java/lang/Cloneable"), (0, .class_ 4), (0, u "java/lang/Object")] 2

/-- java/lang/Cloneable -/
def k23 : Class := { plain "java/lang/Cloneable" (some 0) with
  accessFlags := 1537
  interfaces := #[]
  cf := some (fileOf pool23 1 #[] #[] 1537 3 #[] #[])
  fields := #[]
  methods := #[]
  instanceTypes := #[]
  staticTypes := #[]
  resolved := Array.replicate 7 none
  statics := none }

def pool24 : Array CpInfo := pool [(9, u "<init>"), (6, .class_ 18), (1, u "java/lang/Object"), (0, u "()V"), (1, .class_ 23), (1, u "jdk/internal/util/ArraysSupport"), (0, u "LOG2_ARRAY_LONG_INDEX_SCALE"), (0, u "I"), (2, u "U"), (0, u "Ljdk/internal/misc/Unsafe;"), (8, u "BIG_ENDIAN"), (0, u "Z"), (8, u "LOG2_BYTE_BIT_SIZE"), (4, u "LOG2_ARRAY_INT_INDEX_SCALE"), (54, u "JLA"), (0, u "Ljdk/internal/access/JavaLangAccess;"), (11, u "LOG2_ARRAY_BOOLEAN_INDEX_SCALE"), (9, u "LOG2_ARRAY_BYTE_INDEX_SCALE"), (5, u "LOG2_ARRAY_CHAR_INDEX_SCALE"), (5, u "LOG2_ARRAY_SHORT_INDEX_SCALE"), (18, u "LOG2_ARRAY_FLOAT_INDEX_SCALE"), (24, u "LOG2_ARRAY_DOUBLE_INDEX_SCALE"), (89, u "T_BOOLEAN"), (2, u "T_CHAR"), (1, u "T_FLOAT"), (1, u "T_DOUBLE"), (1, u "T_BYTE"), (1, u "T_SHORT"), (1, u "T_INT"), (1, u "T_LONG"), (1, u "SOFT_MAX_ARRAY_LENGTH")] 83

def k24m0 : Method := { name := "<init>", desc := "()V", sig := { parameters := [], returnType := none }, accessFlags := 2, code := none }
/-- jdk/internal/util/ArraysSupport -/
def k24 : Class := { plain "jdk/internal/util/ArraysSupport" (some 0) with
  accessFlags := 33
  interfaces := #[]
  cf := some (fileOf pool24 21 #[] #[{ accessFlags := 2, nameIndex := 9, descriptorIndex := 19, attributes := #[] }] 33 16 #[] #[{ accessFlags := 24, nameIndex := 28, descriptorIndex := 29, attributes := #[] }, { accessFlags := 26, nameIndex := 38, descriptorIndex := 39, attributes := #[] }, { accessFlags := 25, nameIndex := 121, descriptorIndex := 25, attributes := #[] }, { accessFlags := 25, nameIndex := 131, descriptorIndex := 25, attributes := #[] }, { accessFlags := 25, nameIndex := 137, descriptorIndex := 25, attributes := #[] }, { accessFlags := 25, nameIndex := 143, descriptorIndex := 25, attributes := #[] }, { accessFlags := 25, nameIndex := 53, descriptorIndex := 25, attributes := #[] }, { accessFlags := 25, nameIndex := 24, descriptorIndex := 25, attributes := #[] }, { accessFlags := 25, nameIndex := 162, descriptorIndex := 25, attributes := #[] }, { accessFlags := 25, nameIndex := 187, descriptorIndex := 25, attributes := #[] }, { accessFlags := 26, nameIndex := 48, descriptorIndex := 25, attributes := #[] }, { accessFlags := 25, nameIndex := 277, descriptorIndex := 25, attributes := #[] }, { accessFlags := 25, nameIndex := 280, descriptorIndex := 25, attributes := #[] }, { accessFlags := 25, nameIndex := 282, descriptorIndex := 25, attributes := #[] }, { accessFlags := 25, nameIndex := 284, descriptorIndex := 25, attributes := #[] }, { accessFlags := 25, nameIndex := 286, descriptorIndex := 25, attributes := #[] }, { accessFlags := 25, nameIndex := 288, descriptorIndex := 25, attributes := #[] }, { accessFlags := 25, nameIndex := 290, descriptorIndex := 25, attributes := #[] }, { accessFlags := 25, nameIndex := 292, descriptorIndex := 25, attributes := #[] }, { accessFlags := 26, nameIndex := 108, descriptorIndex := 109, attributes := #[] }, { accessFlags := 25, nameIndex := 294, descriptorIndex := 25, attributes := #[] }])
  fields := #[{ name := "U", type := (.object "jdk/internal/misc/Unsafe"), accessFlags := 24, slot := 0, constantValue := 0 }, { name := "BIG_ENDIAN", type := .boolean, accessFlags := 26, slot := 1, constantValue := 0 }, { name := "LOG2_ARRAY_BOOLEAN_INDEX_SCALE", type := .int, accessFlags := 25, slot := 2, constantValue := 0 }, { name := "LOG2_ARRAY_BYTE_INDEX_SCALE", type := .int, accessFlags := 25, slot := 3, constantValue := 0 }, { name := "LOG2_ARRAY_CHAR_INDEX_SCALE", type := .int, accessFlags := 25, slot := 4, constantValue := 0 }, { name := "LOG2_ARRAY_SHORT_INDEX_SCALE", type := .int, accessFlags := 25, slot := 5, constantValue := 0 }, { name := "LOG2_ARRAY_INT_INDEX_SCALE", type := .int, accessFlags := 25, slot := 6, constantValue := 0 }, { name := "LOG2_ARRAY_LONG_INDEX_SCALE", type := .int, accessFlags := 25, slot := 7, constantValue := 0 }, { name := "LOG2_ARRAY_FLOAT_INDEX_SCALE", type := .int, accessFlags := 25, slot := 8, constantValue := 0 }, { name := "LOG2_ARRAY_DOUBLE_INDEX_SCALE", type := .int, accessFlags := 25, slot := 9, constantValue := 0 }, { name := "LOG2_BYTE_BIT_SIZE", type := .int, accessFlags := 26, slot := 10, constantValue := 0 }, { name := "T_BOOLEAN", type := .int, accessFlags := 25, slot := 11, constantValue := 0 }, { name := "T_CHAR", type := .int, accessFlags := 25, slot := 12, constantValue := 0 }, { name := "T_FLOAT", type := .int, accessFlags := 25, slot := 13, constantValue := 0 }, { name := "T_DOUBLE", type := .int, accessFlags := 25, slot := 14, constantValue := 0 }, { name := "T_BYTE", type := .int, accessFlags := 25, slot := 15, constantValue := 0 }, { name := "T_SHORT", type := .int, accessFlags := 25, slot := 16, constantValue := 0 }, { name := "T_INT", type := .int, accessFlags := 25, slot := 17, constantValue := 0 }, { name := "T_LONG", type := .int, accessFlags := 25, slot := 18, constantValue := 0 }, { name := "JLA", type := (.object "jdk/internal/access/JavaLangAccess"), accessFlags := 26, slot := 19, constantValue := 0 }, { name := "SOFT_MAX_ARRAY_LENGTH", type := .int, accessFlags := 25, slot := 20, constantValue := 0 }]
  methods := #[k24m0]
  instanceTypes := #[]
  staticTypes := #[(.object "jdk/internal/misc/Unsafe"), .boolean, .int, .int, .int, .int, .int, .int, .int, .int, .int, .int, .int, .int, .int, .int, .int, .int, .int, (.object "jdk/internal/access/JavaLangAccess"), .int]
  resolved := Array.replicate 378 none
  statics := none }

/-- the primitive byte -/
def k25 : Class := { plain "byte" none with kind := .primitive 'B', accessFlags := 0x411 }
/-- [B -/
def k26 : Class := { plain "[B" (some 0) with kind := .array 25 .byte, interfaces := #[23, 4], accessFlags := 1041 }

/-- the primitive int -/
def k27 : Class := { plain "int" none with kind := .primitive 'I', accessFlags := 0x411 }
/-- [I -/
def k28 : Class := { plain "[I" (some 0) with kind := .array 27 .int, interfaces := #[23, 4], accessFlags := 1041 }

def heap : Heap := #[{ cls := 8, slots := #[.long 0, .int 1, .null, .int 0, .null, .int 0, .int 0], vm := .statics 8 },
  { cls := 9, slots := #[.ref 6, .null, .null, .null, .null, .null], vm := .statics 9 },
  { cls := 13, slots := #[.ref 6, .null], vm := .statics 13 },
  { cls := 14, slots := #[.null, .null, .null], vm := .statics 14 },
  { cls := 16, slots := #[.ref 7, .null], vm := .statics 16 },
  { cls := 17, slots := #[.ref 8], vm := .statics 17 },
  { cls := 13, slots := #[.null, .null, .null], vm := .none },
  { cls := 16, slots := #[.null, .null, .null], vm := .none },
  { cls := 17, slots := #[.null, .null, .null], vm := .none }]
def classes : Array Class := #[k0, k1, k2, k3, k4, k5, k6, k7, k8, k9, k10, k11, k12, k13, k14, k15, k16, k17, k18, k19, k20, k21, k22, k23, k24, k25, k26, k27, k28]
def interned : List (Array UInt16 × Addr) := []
def slotsUsed : Nat := 30
def theMethod : MethodId := ⟨1, 1⟩
def args0 : Array Value := #[.int 5, .int 7, .int 9, .int 11]
def aboutOver (below : List Frame) : State where
  vm := { classes := classes, interned := interned.toArray }
  heap := heap
  slotsUsed := slotsUsed
  threads := #[{ frames := .invoking theMethod args0 :: below }]
def below0 : List Frame := [.native { method := ⟨0, 0⟩, args := #[] }]
def about1 : State := aboutOver below0
def p0 : Program := .bare "" "" ""
def e0 : Env := launch0.env 0 0 0
theorem w_frames : about1.frames = Frame.invoking theMethod args0 :: below0 := rfl
set_option maxRecDepth 65536 in
theorem w_args : argsFit about1.vm theMethod args0 = true := by decide +kernel
set_option maxRecDepth 65536 in
theorem w_heap : heapFits about1 = true := by decide +kernel
set_option maxRecDepth 65536 in
theorem w_runnable : about1.curStatus? = some .runnable := by decide +kernel
set_option maxRecDepth 65536 in
theorem w_alone : about1.alone = true := by decide +kernel
set_option maxRecDepth 65536 in
theorem w_named : about1.methodNamed? x = some theMethod := by decide +kernel
set_option maxRecDepth 65536 in
theorem w_hears : about1.hears theMethod below0 = true := by decide +kernel
set_option maxRecDepth 65536 in
theorem w_ripe : about1.ripe theMethod args0 below0 = true := by decide +kernel
theorem w_running : about1.status = .running := rfl
set_option maxRecDepth 65536 in
theorem w_room : about1.hasRoom e0.platform room_1 = true :=
  launch0.hasRoom_least _ room_1 (by decide +kernel) (by decide +kernel) (by decide +kernel) (by decide +kernel) (by decide +kernel) (by decide +kernel)
theorem allAtoms_all (ts : List Jvm.Cond) (a : Array Jvm.Value) (st : Jvm.State) : (allAtoms ts).before a st = ts.all (fun c => c.before a st) := by
  induction ts with
  | nil => rfl
  | cons c t ih =>
    show (Jvm.Cond.and c (allAtoms t)).before a st = _
    rw [Jvm.Cond.before_and, ih, List.all_cons]
def words1 : List Jvm.Cond := Jvm.Cond.code x code maxLocals ret :: tables_1
/-- a 'code' word, met by the world's own term for the bytes: nothing is compared byte by byte -/
theorem code_word {y : MethodName} {bytes : ByteArray} {mx : Nat} {rt : Option FieldType} {a : Array Value} {s : State} {m : MethodId} {meth : Method} {c : Code} (h1 : s.methodNamed? y = some m) (h2 : s.vm.method? m = some meth) (h3 : meth.code = some c) (h4 : c.code = bytes)
    (h5 : (c.maxLocals == mx && c.exceptionTable.isEmpty && decide (c.maxStack ≤ mostOperands) && decide (meth.sig.returnType = rt) && !meth.locks && decide (parseMethodDescriptor y.desc = some meth.sig)) = true) : (Jvm.Cond.code y bytes mx rt).before a s = true := by
  simp only [Bool.and_eq_true, beq_iff_eq, Bool.not_eq_true', decide_eq_true_eq] at h5
  obtain ⟨⟨⟨⟨⟨g1, g2⟩, g3⟩, g4⟩, g5⟩, g6⟩ := h5
  simp [Cond.before, Cond.holds, Cond.value, h1, h2, h3, h4, g1, g2, g3, g4, g5, g6]
theorem own_codeWith_word {y : MethodName} {bytes : ByteArray} {mx : Nat} {rt : Option FieldType} {hs : List (Nat × Nat × Nat × Nat)} {a : Array Value} {s : State} {m : MethodId} {meth : Method} {c : Code} (h1 : s.methodNamed? y = some m) (h2 : s.vm.method? m = some meth) (h3 : meth.code = some c) (h4 : c.code = bytes)
    (h5 : (c.maxLocals == mx && decide (c.exceptionTable.toList.map (fun h => (h.startPc, h.endPc, h.handlerPc, h.catchType)) = hs) && decide (c.maxStack ≤ mostOperands) && decide (meth.sig.returnType = rt) && !meth.locks && decide (parseMethodDescriptor y.desc = some meth.sig)) = true) : (Jvm.Cond.codeWith y bytes mx rt hs).before a s = true := by
  simp only [Bool.and_eq_true, beq_iff_eq, Bool.not_eq_true', decide_eq_true_eq] at h5
  obtain ⟨⟨⟨⟨⟨g1, g2⟩, g3⟩, g4⟩, g5⟩, g6⟩ := h5
  simp [Cond.before, Cond.holds, Cond.value, h1, h2, h3, h4, g1, g2, g3, g4, g5, g6]
def isCode : Jvm.Cond → Bool
  | .code _ _ _ _ => true
  | .codeWith _ _ _ _ _ => true
  | _ => false
theorem all_split {L : List Jvm.Cond} {P : Jvm.Cond → Bool} (h1 : L.all (fun c => isCode c || P c) = true) (h2 : ∀ c ∈ L.filter isCode, P c = true) : L.all P = true := by
  refine List.all_eq_true.mpr fun c hc => ?_
  have h := List.all_eq_true.mp h1 c hc
  rcases Bool.eq_false_or_eq_true (isCode c) with hi | hi
  · exact h2 c (List.mem_filter.mpr ⟨hc, hi⟩)
  · simpa [hi] using h
set_option maxRecDepth 65536 in
theorem w_c0 : (Jvm.Cond.code x code maxLocals ret).before args0 about1 = true := code_word (m := ⟨1, 1⟩) (meth := k1m1) (c := k1c1) (by decide +kernel) rfl rfl rfl (by decide +kernel)
set_option maxRecDepth 65536 in
theorem w_c1 : (Jvm.Cond.code ({ cls := "com/example/sluice/sluice/engine/source/file/AsciiLineReadInPinLaw", name := "neg", desc := "([BIII)Z" } : Jvm.MethodName) method_3_code (4 : Nat) (Option.some Jvm.ClassFile.FieldType.boolean)).before args0 about1 = true := code_word (m := ⟨1, 2⟩) (meth := k1m2) (c := k1c2) (by decide +kernel) rfl rfl rfl (by decide +kernel)
set_option maxRecDepth 65536 in
theorem w_c2 : (Jvm.Cond.code ({ cls := "com/example/sluice/sluice/engine/source/file/AsciiLine", name := "<init>", desc := "()V" } : Jvm.MethodName) prog_128_method_1_code (1 : Nat) (Option.none : Option Jvm.ClassFile.FieldType)).before args0 about1 = true := code_word (m := ⟨3, 0⟩) (meth := k3m0) (c := k3c0) (by decide +kernel) rfl rfl rfl (by decide +kernel)
set_option maxRecDepth 65536 in
theorem w_c3 : (Jvm.Cond.code ({ cls := "java/lang/Object", name := "<init>", desc := "()V" } : Jvm.MethodName) object_method_1_code (1 : Nat) (Option.none : Option Jvm.ClassFile.FieldType)).before args0 about1 = true := code_word (m := ⟨0, 0⟩) (meth := k0m0) (c := k0c0) (by decide +kernel) rfl rfl rfl (by decide +kernel)
set_option maxRecDepth 65536 in
theorem w_c4 : (Jvm.Cond.code ({ cls := "com/example/sluice/sluice/engine/source/file/AsciiLine", name := "readIn", desc := "([BII)Z" } : Jvm.MethodName) prog_128_method_2_code (5 : Nat) (Option.some Jvm.ClassFile.FieldType.boolean)).before args0 about1 = true := code_word (m := ⟨3, 1⟩) (meth := k3m1) (c := k3c1) (by decide +kernel) rfl rfl rfl (by decide +kernel)
set_option maxRecDepth 65536 in
theorem w_c5 : (Jvm.Cond.code ({ cls := "com/example/sluice/sluice/engine/source/file/AsciiLine", name := "length", desc := "()I" } : Jvm.MethodName) prog_128_method_3_code (1 : Nat) (Option.some Jvm.ClassFile.FieldType.int)).before args0 about1 = true := code_word (m := ⟨3, 2⟩) (meth := k3m2) (c := k3c2) (by decide +kernel) rfl rfl rfl (by decide +kernel)
set_option maxRecDepth 65536 in
theorem w_c6 : (Jvm.Cond.code ({ cls := "com/example/sluice/sluice/engine/source/file/AsciiLine", name := "toString", desc := "()Ljava/lang/String;" } : Jvm.MethodName) prog_128_method_6_code (1 : Nat) (Option.some (Jvm.ClassFile.FieldType.object "java/lang/String"))).before args0 about1 = true := code_word (m := ⟨3, 4⟩) (meth := k3m4) (c := k3c4) (by decide +kernel) rfl rfl rfl (by decide +kernel)
set_option maxRecDepth 65536 in
theorem w_c7 : (Jvm.Cond.code ({ cls := "java/lang/String", name := "<init>", desc := "([BIILjava/nio/charset/Charset;)V" } : Jvm.MethodName) jdk_42_method_10_code (5 : Nat) (Option.none : Option Jvm.ClassFile.FieldType)).before args0 about1 = true := code_word (m := ⟨8, 1⟩) (meth := k8m1) (c := k8c1) (by decide +kernel) rfl rfl rfl (by decide +kernel)
set_option maxRecDepth 65536 in
theorem w_c8 : (Jvm.Cond.code ({ cls := "java/util/Objects", name := "requireNonNull", desc := "(Ljava/lang/Object;)Ljava/lang/Object;" } : Jvm.MethodName) jdk_31_method_10_code (1 : Nat) (Option.some (Jvm.ClassFile.FieldType.object "java/lang/Object"))).before args0 about1 = true := code_word (m := ⟨10, 1⟩) (meth := k10m1) (c := k10c1) (by decide +kernel) rfl rfl rfl (by decide +kernel)
set_option maxRecDepth 65536 in
theorem w_c9 : (Jvm.Cond.code ({ cls := "java/lang/String", name := "checkBoundsOffCount", desc := "(III)I" } : Jvm.MethodName) jdk_42_method_157_code (3 : Nat) (Option.some Jvm.ClassFile.FieldType.int)).before args0 about1 = true := code_word (m := ⟨8, 8⟩) (meth := k8m8) (c := k8c8) (by decide +kernel) rfl rfl rfl (by decide +kernel)
set_option maxRecDepth 65536 in
theorem w_c10 : (Jvm.Cond.code ({ cls := "jdk/internal/util/Preconditions", name := "checkFromIndexSize", desc := "(IIILjava/util/function/BiFunction;)I" } : Jvm.MethodName) jdk_41_method_13_code (4 : Nat) (Option.some Jvm.ClassFile.FieldType.int)).before args0 about1 = true := code_word (m := ⟨14, 2⟩) (meth := k14m2) (c := k14c2) (by decide +kernel) rfl rfl rfl (by decide +kernel)
set_option maxRecDepth 65536 in
theorem w_c11 : (Jvm.Cond.code ({ cls := "java/lang/String", name := "length", desc := "()I" } : Jvm.MethodName) jdk_42_method_54_code (1 : Nat) (Option.some Jvm.ClassFile.FieldType.int)).before args0 about1 = true := code_word (m := ⟨8, 3⟩) (meth := k8m3) (c := k8c3) (by decide +kernel) rfl rfl rfl (by decide +kernel)
set_option maxRecDepth 65536 in
theorem w_c12 : (Jvm.Cond.code ({ cls := "java/lang/String", name := "coder", desc := "()B" } : Jvm.MethodName) jdk_42_method_152_code (1 : Nat) (Option.some Jvm.ClassFile.FieldType.byte)).before args0 about1 = true := code_word (m := ⟨8, 5⟩) (meth := k8m5) (c := k8c5) (by decide +kernel) rfl rfl rfl (by decide +kernel)
set_option maxRecDepth 65536 in
theorem w_c13 : (Jvm.Cond.code ({ cls := "com/example/sluice/sluice/engine/source/file/AsciiLineReadInPinLaw", name := "same", desc := "(Ljava/lang/String;[BIII)Z" } : Jvm.MethodName) method_4_code (5 : Nat) (Option.some Jvm.ClassFile.FieldType.boolean)).before args0 about1 = true := code_word (m := ⟨1, 3⟩) (meth := k1m3) (c := k1c3) (by decide +kernel) rfl rfl rfl (by decide +kernel)
set_option maxRecDepth 65536 in
theorem w_c14 : (Jvm.Cond.code ({ cls := "java/lang/StringCoding", name := "hasNegatives", desc := "([BII)Z" } : Jvm.MethodName) jdk_123_method_2_code (3 : Nat) (Option.some Jvm.ClassFile.FieldType.boolean)).before args0 about1 = true := code_word (m := ⟨18, 1⟩) (meth := k18m1) (c := k18c1) (by decide +kernel) rfl rfl rfl (by decide +kernel)
set_option maxRecDepth 65536 in
theorem w_c15 : (Jvm.Cond.code ({ cls := "java/lang/StringCoding", name := "countPositives", desc := "([BII)I" } : Jvm.MethodName) jdk_123_method_3_code (5 : Nat) (Option.some Jvm.ClassFile.FieldType.int)).before args0 about1 = true := code_word (m := ⟨18, 2⟩) (meth := k18m2) (c := k18c2) (by decide +kernel) rfl rfl rfl (by decide +kernel)
set_option maxRecDepth 65536 in
theorem w_c16 : (Jvm.Cond.code ({ cls := "java/util/Arrays", name := "copyOfRange", desc := "([BII)[B" } : Jvm.MethodName) jdk_65_method_132_code (3 : Nat) (Option.some (Jvm.ClassFile.FieldType.array Jvm.ClassFile.FieldType.byte))).before args0 about1 = true := code_word (m := ⟨19, 2⟩) (meth := k19m2) (c := k19c2) (by decide +kernel) rfl rfl rfl (by decide +kernel)
set_option maxRecDepth 65536 in
theorem w_c17 : (Jvm.Cond.code ({ cls := "java/util/Arrays", name := "copyOfRangeByte", desc := "([BII)[B" } : Jvm.MethodName) jdk_65_method_133_code (5 : Nat) (Option.some (Jvm.ClassFile.FieldType.array Jvm.ClassFile.FieldType.byte))).before args0 about1 = true := code_word (m := ⟨19, 3⟩) (meth := k19m3) (c := k19c3) (by decide +kernel) rfl rfl rfl (by decide +kernel)
set_option maxRecDepth 65536 in
theorem w_c18 : (Jvm.Cond.code ({ cls := "java/util/Arrays", name := "checkLength", desc := "(II)V" } : Jvm.MethodName) jdk_65_method_131_code (2 : Nat) (Option.none : Option Jvm.ClassFile.FieldType)).before args0 about1 = true := code_word (m := ⟨19, 1⟩) (meth := k19m1) (c := k19c1) (by decide +kernel) rfl rfl rfl (by decide +kernel)
set_option maxRecDepth 65536 in
theorem w_c19 : (Jvm.Cond.code ({ cls := "java/lang/Math", name := "min", desc := "(II)I" } : Jvm.MethodName) jdk_29_method_69_code (2 : Nat) (Option.some Jvm.ClassFile.FieldType.int)).before args0 about1 = true := code_word (m := ⟨20, 1⟩) (meth := k20m1) (c := k20c1) (by decide +kernel) rfl rfl rfl (by decide +kernel)
set_option maxRecDepth 65536 in
theorem w_c20 : (Jvm.Cond.code ({ cls := "java/lang/String", name := "charAt", desc := "(I)C" } : Jvm.MethodName) jdk_42_method_56_code (2 : Nat) (Option.some Jvm.ClassFile.FieldType.char)).before args0 about1 = true := code_word (m := ⟨8, 4⟩) (meth := k8m4) (c := k8c4) (by decide +kernel) rfl rfl rfl (by decide +kernel)
set_option maxRecDepth 65536 in
theorem w_c21 : (Jvm.Cond.code ({ cls := "java/lang/String", name := "isLatin1", desc := "()Z" } : Jvm.MethodName) jdk_42_method_154_code (1 : Nat) (Option.some Jvm.ClassFile.FieldType.boolean)).before args0 about1 = true := code_word (m := ⟨8, 6⟩) (meth := k8m6) (c := k8c6) (by decide +kernel) rfl rfl rfl (by decide +kernel)
set_option maxRecDepth 65536 in
theorem w_c22 : (Jvm.Cond.code ({ cls := "java/lang/StringLatin1", name := "charAt", desc := "([BI)C" } : Jvm.MethodName) jdk_43_method_2_code (2 : Nat) (Option.some Jvm.ClassFile.FieldType.char)).before args0 about1 = true := code_word (m := ⟨22, 1⟩) (meth := k22m1) (c := k22c1) (by decide +kernel) rfl rfl rfl (by decide +kernel)
set_option maxRecDepth 65536 in
theorem w_c23 : (Jvm.Cond.code ({ cls := "java/lang/String", name := "checkIndex", desc := "(II)V" } : Jvm.MethodName) jdk_42_method_155_code (2 : Nat) (Option.none : Option Jvm.ClassFile.FieldType)).before args0 about1 = true := code_word (m := ⟨8, 7⟩) (meth := k8m7) (c := k8c7) (by decide +kernel) rfl rfl rfl (by decide +kernel)
set_option maxRecDepth 65536 in
theorem w_c24 : (Jvm.Cond.code ({ cls := "jdk/internal/util/Preconditions", name := "checkIndex", desc := "(IILjava/util/function/BiFunction;)I" } : Jvm.MethodName) jdk_41_method_11_code (3 : Nat) (Option.some Jvm.ClassFile.FieldType.int)).before args0 about1 = true := code_word (m := ⟨14, 1⟩) (meth := k14m1) (c := k14c1) (by decide +kernel) rfl rfl rfl (by decide +kernel)
set_option maxRecDepth 65536 in
theorem w_c25 : (Jvm.Cond.code ({ cls := "com/example/sluice/sluice/engine/source/file/AsciiLine", name := "charAt", desc := "(I)C" } : Jvm.MethodName) prog_128_method_4_code (2 : Nat) (Option.some Jvm.ClassFile.FieldType.char)).before args0 about1 = true := code_word (m := ⟨3, 3⟩) (meth := k3m3) (c := k3c3) (by decide +kernel) rfl rfl rfl (by decide +kernel)
set_option maxRecDepth 65536 in
theorem w_c26 : (Jvm.Cond.code ({ cls := "java/util/Objects", name := "checkIndex", desc := "(II)I" } : Jvm.MethodName) jdk_31_method_17_code (2 : Nat) (Option.some Jvm.ClassFile.FieldType.int)).before args0 about1 = true := code_word (m := ⟨10, 2⟩) (meth := k10m2) (c := k10c2) (by decide +kernel) rfl rfl rfl (by decide +kernel)
set_option maxRecDepth 65536 in
theorem own_cw : (Jvm.Cond.codeWith ({ cls := "java/lang/String", name := "<init>", desc := "(Ljava/nio/charset/Charset;[BII)V" } : Jvm.MethodName) jdk_42_method_11_code (11 : Nat) (Option.none : Option Jvm.ClassFile.FieldType) [((800 : Nat), (813 : Nat), (816 : Nat), (202 : Nat))]).before args0 about1 = true := own_codeWith_word (m := ⟨8, 2⟩) (meth := k8m2) (c := k8c2) (by decide +kernel) rfl rfl rfl (by decide +kernel)
def codes1 : List Jvm.Cond := [Jvm.Cond.code x code maxLocals ret, Jvm.Cond.code ({ cls := "com/example/sluice/sluice/engine/source/file/AsciiLineReadInPinLaw", name := "neg", desc := "([BIII)Z" } : Jvm.MethodName) method_3_code (4 : Nat) (Option.some Jvm.ClassFile.FieldType.boolean), Jvm.Cond.code ({ cls := "com/example/sluice/sluice/engine/source/file/AsciiLine", name := "<init>", desc := "()V" } : Jvm.MethodName) prog_128_method_1_code (1 : Nat) (Option.none : Option Jvm.ClassFile.FieldType), Jvm.Cond.code ({ cls := "java/lang/Object", name := "<init>", desc := "()V" } : Jvm.MethodName) object_method_1_code (1 : Nat) (Option.none : Option Jvm.ClassFile.FieldType), Jvm.Cond.code ({ cls := "com/example/sluice/sluice/engine/source/file/AsciiLine", name := "readIn", desc := "([BII)Z" } : Jvm.MethodName) prog_128_method_2_code (5 : Nat) (Option.some Jvm.ClassFile.FieldType.boolean), Jvm.Cond.code ({ cls := "com/example/sluice/sluice/engine/source/file/AsciiLine", name := "length", desc := "()I" } : Jvm.MethodName) prog_128_method_3_code (1 : Nat) (Option.some Jvm.ClassFile.FieldType.int), Jvm.Cond.code ({ cls := "com/example/sluice/sluice/engine/source/file/AsciiLine", name := "toString", desc := "()Ljava/lang/String;" } : Jvm.MethodName) prog_128_method_6_code (1 : Nat) (Option.some (Jvm.ClassFile.FieldType.object "java/lang/String")), Jvm.Cond.code ({ cls := "java/lang/String", name := "<init>", desc := "([BIILjava/nio/charset/Charset;)V" } : Jvm.MethodName) jdk_42_method_10_code (5 : Nat) (Option.none : Option Jvm.ClassFile.FieldType), Jvm.Cond.code ({ cls := "java/util/Objects", name := "requireNonNull", desc := "(Ljava/lang/Object;)Ljava/lang/Object;" } : Jvm.MethodName) jdk_31_method_10_code (1 : Nat) (Option.some (Jvm.ClassFile.FieldType.object "java/lang/Object")), Jvm.Cond.code ({ cls := "java/lang/String", name := "checkBoundsOffCount", desc := "(III)I" } : Jvm.MethodName) jdk_42_method_157_code (3 : Nat) (Option.some Jvm.ClassFile.FieldType.int), Jvm.Cond.code ({ cls := "jdk/internal/util/Preconditions", name := "checkFromIndexSize", desc := "(IIILjava/util/function/BiFunction;)I" } : Jvm.MethodName) jdk_41_method_13_code (4 : Nat) (Option.some Jvm.ClassFile.FieldType.int), Jvm.Cond.codeWith ({ cls := "java/lang/String", name := "<init>", desc := "(Ljava/nio/charset/Charset;[BII)V" } : Jvm.MethodName) jdk_42_method_11_code (11 : Nat) (Option.none : Option Jvm.ClassFile.FieldType) [((800 : Nat), (813 : Nat), (816 : Nat), (202 : Nat))], Jvm.Cond.code ({ cls := "java/lang/String", name := "length", desc := "()I" } : Jvm.MethodName) jdk_42_method_54_code (1 : Nat) (Option.some Jvm.ClassFile.FieldType.int), Jvm.Cond.code ({ cls := "java/lang/String", name := "coder", desc := "()B" } : Jvm.MethodName) jdk_42_method_152_code (1 : Nat) (Option.some Jvm.ClassFile.FieldType.byte), Jvm.Cond.code ({ cls := "com/example/sluice/sluice/engine/source/file/AsciiLineReadInPinLaw", name := "same", desc := "(Ljava/lang/String;[BIII)Z" } : Jvm.MethodName) method_4_code (5 : Nat) (Option.some Jvm.ClassFile.FieldType.boolean), Jvm.Cond.code ({ cls := "java/lang/StringCoding", name := "hasNegatives", desc := "([BII)Z" } : Jvm.MethodName) jdk_123_method_2_code (3 : Nat) (Option.some Jvm.ClassFile.FieldType.boolean), Jvm.Cond.code ({ cls := "java/lang/StringCoding", name := "countPositives", desc := "([BII)I" } : Jvm.MethodName) jdk_123_method_3_code (5 : Nat) (Option.some Jvm.ClassFile.FieldType.int), Jvm.Cond.code ({ cls := "java/util/Arrays", name := "copyOfRange", desc := "([BII)[B" } : Jvm.MethodName) jdk_65_method_132_code (3 : Nat) (Option.some (Jvm.ClassFile.FieldType.array Jvm.ClassFile.FieldType.byte)), Jvm.Cond.code ({ cls := "java/util/Arrays", name := "copyOfRangeByte", desc := "([BII)[B" } : Jvm.MethodName) jdk_65_method_133_code (5 : Nat) (Option.some (Jvm.ClassFile.FieldType.array Jvm.ClassFile.FieldType.byte)), Jvm.Cond.code ({ cls := "java/util/Arrays", name := "checkLength", desc := "(II)V" } : Jvm.MethodName) jdk_65_method_131_code (2 : Nat) (Option.none : Option Jvm.ClassFile.FieldType), Jvm.Cond.code ({ cls := "java/lang/Math", name := "min", desc := "(II)I" } : Jvm.MethodName) jdk_29_method_69_code (2 : Nat) (Option.some Jvm.ClassFile.FieldType.int), Jvm.Cond.code ({ cls := "java/lang/String", name := "charAt", desc := "(I)C" } : Jvm.MethodName) jdk_42_method_56_code (2 : Nat) (Option.some Jvm.ClassFile.FieldType.char), Jvm.Cond.code ({ cls := "java/lang/String", name := "isLatin1", desc := "()Z" } : Jvm.MethodName) jdk_42_method_154_code (1 : Nat) (Option.some Jvm.ClassFile.FieldType.boolean), Jvm.Cond.code ({ cls := "java/lang/StringLatin1", name := "charAt", desc := "([BI)C" } : Jvm.MethodName) jdk_43_method_2_code (2 : Nat) (Option.some Jvm.ClassFile.FieldType.char), Jvm.Cond.code ({ cls := "java/lang/String", name := "checkIndex", desc := "(II)V" } : Jvm.MethodName) jdk_42_method_155_code (2 : Nat) (Option.none : Option Jvm.ClassFile.FieldType), Jvm.Cond.code ({ cls := "jdk/internal/util/Preconditions", name := "checkIndex", desc := "(IILjava/util/function/BiFunction;)I" } : Jvm.MethodName) jdk_41_method_11_code (3 : Nat) (Option.some Jvm.ClassFile.FieldType.int), Jvm.Cond.code ({ cls := "com/example/sluice/sluice/engine/source/file/AsciiLine", name := "charAt", desc := "(I)C" } : Jvm.MethodName) prog_128_method_4_code (2 : Nat) (Option.some Jvm.ClassFile.FieldType.char), Jvm.Cond.code ({ cls := "java/util/Objects", name := "checkIndex", desc := "(II)I" } : Jvm.MethodName) jdk_31_method_17_code (2 : Nat) (Option.some Jvm.ClassFile.FieldType.int)]
set_option maxRecDepth 65536 in
theorem codes_eq : words1.filter isCode = codes1 := rfl
theorem w_codes : ∀ c ∈ words1.filter isCode, c.before args0 about1 = true := by
  rw [codes_eq]
  intro c hc
  simp only [codes1, List.mem_cons, List.not_mem_nil, or_false] at hc
  rcases hc with rfl | rfl | rfl | rfl | rfl | rfl | rfl | rfl | rfl | rfl | rfl | rfl | rfl | rfl | rfl | rfl | rfl | rfl | rfl | rfl | rfl | rfl | rfl | rfl | rfl | rfl | rfl | rfl
  · exact w_c0
  · exact w_c1
  · exact w_c2
  · exact w_c3
  · exact w_c4
  · exact w_c5
  · exact w_c6
  · exact w_c7
  · exact w_c8
  · exact w_c9
  · exact w_c10
  · exact own_cw
  · exact w_c11
  · exact w_c12
  · exact w_c13
  · exact w_c14
  · exact w_c15
  · exact w_c16
  · exact w_c17
  · exact w_c18
  · exact w_c19
  · exact w_c20
  · exact w_c21
  · exact w_c22
  · exact w_c23
  · exact w_c24
  · exact w_c25
  · exact w_c26
set_option maxRecDepth 65536 in
theorem w_t1 : (words1.take 24).all (fun c => isCode c || c.before args0 about1) = true := by decide +kernel
set_option maxRecDepth 65536 in
theorem w_t2 : ((words1.drop 24).take 24).all (fun c => isCode c || c.before args0 about1) = true := by decide +kernel
set_option maxRecDepth 65536 in
theorem w_t3 : (((words1.drop 24).drop 24).take 24).all (fun c => isCode c || c.before args0 about1) = true := by decide +kernel
set_option maxRecDepth 65536 in
theorem w_t4 : ((((words1.drop 24).drop 24).drop 24).take 24).all (fun c => isCode c || c.before args0 about1) = true := by decide +kernel
set_option maxRecDepth 65536 in
theorem w_t5 : (((((words1.drop 24).drop 24).drop 24).drop 24).take 24).all (fun c => isCode c || c.before args0 about1) = true := by decide +kernel
set_option maxRecDepth 65536 in
theorem w_t6 : ((((((words1.drop 24).drop 24).drop 24).drop 24).drop 24).take 24).all (fun c => isCode c || c.before args0 about1) = true := by decide +kernel
set_option maxRecDepth 65536 in
theorem w_t7 : ((((((words1.drop 24).drop 24).drop 24).drop 24).drop 24).drop 24).all (fun c => isCode c || c.before args0 about1) = true := by decide +kernel
theorem w_tables : (allAtoms (Jvm.Cond.code x code maxLocals ret :: tables_1)).before args0 about1 = true := by
  rw [allAtoms_all]
  show words1.all (fun c => c.before args0 about1) = true
  refine all_split ?_ w_codes
  rw [← List.take_append_drop 24 words1, List.all_append, w_t1, ← List.take_append_drop 24 (words1.drop 24), List.all_append, w_t2, ← List.take_append_drop 24 ((words1.drop 24).drop 24), List.all_append, w_t3, ← List.take_append_drop 24 (((words1.drop 24).drop 24).drop 24), List.all_append, w_t4, ← List.take_append_drop 24 ((((words1.drop 24).drop 24).drop 24).drop 24), List.all_append, w_t5, ← List.take_append_drop 24 (((((words1.drop 24).drop 24).drop 24).drop 24).drop 24), List.all_append, w_t6, w_t7]
  rfl
set_option maxRecDepth 65536 in
theorem w_rest : rest_1_c.before args0 about1 = true := by decide +kernel
set_option maxRecDepth 65536 in
theorem w_case : (Jvm.Cond.and given_1 narrow_1).before args0 about1 = true := by decide +kernel
set_option maxRecDepth 65536 in
theorem w_consts : constsHeld consts_1 about1 := Jvm.Lit.constsHeldB_iff.mp (by decide +kernel)
theorem w_applies : (headSpec (Jvm.Cond.code x code maxLocals ret :: tables_1) room_1).applies x e0.platform about1 = true :=
  (Spec.applies_iff w_frames).mpr ⟨w_running, w_runnable, w_alone, w_named, w_hears, w_ripe, w_room, w_tables⟩
theorem atStart : AtStart classFile x code maxLocals ret World_1 tables_1 room_1 Calls_1 rest_1 Pre_1 launch0 p0 e0 about1 theMethod args0 below0 :=
  ⟨lists_1, trivial, launch0.admits_env _ _ _, launch0.least_env, fairChoices_fair.cas, fairChoices_fair.clock, w_frames, w_args, w_heap, w_applies, ⟨w_consts, trivial⟩, w_rest, w_case⟩
end start1
theorem witness_1 : WitnessClaimed_1 := ⟨start1.p0, start1.e0, start1.about1, start1.theMethod, start1.args0, start1.below0, start1.atStart⟩
end Jvm.Pilot.@@N@@
