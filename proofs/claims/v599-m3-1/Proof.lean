import JvmDerived
import JvmDerived.Pilot.@@N@@Statement
import JvmDerived.Pilot.@@N@@Code
set_option linter.unusedVariables false
set_option linter.unusedSimpArgs false
@@BLOCK:HandJ.lean.txt@@
@@BLOCK:HandW.lean.txt@@
@@BLOCK:HandBits.lean.txt@@
@@BLOCK:SymRun.lean.txt@@
@@BLOCK:RowBasics.lean.txt@@
@@BLOCK:Bridge.lean.txt@@
@@BLOCK:SymKit.lean.txt@@
@@BLOCK:SymWays.lean.txt@@
@@BLOCK:Nums.lean.txt@@
@@BLOCK:MathCallees.lean.txt@@
namespace Jvm.Pilot.@@N@@
open Jvm Jvm.ClassFile Sem Op Jvm.Sym Jvm.Pilot.@@N@@.Jvm.D
/-! 0. own, general: what a walk by evaluation asks of numbers, paid by one evaluation -/
def own_k2 : Binary → VKind → VKind → Option VKind
  | .iand, .int, .int => some .int
  | .ior, .int, .int => some .int
  | .ixor, .int, .int => some .int
  | .ishl, .int, .int => some .int
  | .ishr, .int, .int => some .int
  | .iushr, .int, .int => some .int
  | .ladd, .long, .long => some .long
  | .lsub, .long, .long => some .long
  | .lmul, .long, .long => some .long
  | .land, .long, .long => some .long
  | .lor, .long, .long => some .long
  | .lxor, .long, .long => some .long
  | .lcmp, .long, .long => some .int
  | .lshl, .long, .int => some .long
  | .lshr, .long, .int => some .long
  | .lushr, .long, .int => some .long
  | _, _, _ => none
theorem own_k2_ok {o : Binary} {k1 k2 k : VKind} {v1 v2 : Value} (h : own_k2 o k1 k2 = some k) (h1 : k1.ok v1 = true) (h2 : k2.ok v2 = true) : ∃ v, o.apply v1 v2 = some v ∧ k.ok v = true := by
  cases k1 <;> cases k2 <;> cases o <;> simp only [own_k2, Option.some.injEq, reduceCtorEq] at h <;> subst h <;> cases v1 <;> simp only [VKind.ok, Bool.false_eq_true, reduceCtorEq] at h1 <;> cases v2 <;> simp only [VKind.ok, Bool.false_eq_true, reduceCtorEq] at h2 <;> exact ⟨_, rfl, rfl⟩
def own_k1 : Unary → VKind → Option VKind
  | .ineg, .int => some .int
  | .i2b, .int => some .int
  | .i2c, .int => some .int
  | .i2s, .int => some .int
  | .i2l, .int => some .long
  | .lneg, .long => some .long
  | .l2i, .long => some .int
  | _, _ => none
theorem own_k1_ok {o : Unary} {k1 k : VKind} {v1 : Value} (h : own_k1 o k1 = some k) (h1 : k1.ok v1 = true) : ∃ v, o.apply v1 = some v ∧ k.ok v = true := by
  cases k1 <;> cases o <;> simp only [own_k1, Option.some.injEq, reduceCtorEq] at h <;> subst h <;> cases v1 <;> simp only [VKind.ok, Bool.false_eq_true, reduceCtorEq] at h1 <;> exact ⟨_, rfl, rfl⟩
/-- terms whose kind is known beforehand (a quotient, a remainder) -/
def own_look (Kn : List (Term × VKind)) (t : Term) : Option VKind :=
  if Kn.contains (t, .int) then some .int else if Kn.contains (t, .long) then some .long else none
/-- the kind of a term over arguments of the kinds ks, where that is plain -/
def own_kind (ks : List VKind) (Kn : List (Term × VKind)) : Term → Option VKind
  | .arg i => ks[i]?
  | .int _ => some .int
  | .long _ => some .long
  | .old t => own_kind ks Kn t
  | .add a b => match own_kind ks Kn a, own_kind ks Kn b with
    | some .int, some .int => some .int
    | _, _ => none
  | .sub a b => match own_kind ks Kn a, own_kind ks Kn b with
    | some .int, some .int => some .int
    | _, _ => none
  | .mul a b => match own_kind ks Kn a, own_kind ks Kn b with
    | some .int, some .int => some .int
    | _, _ => none
  | .op1 o a => match own_kind ks Kn a with
    | some k => own_k1 o k
    | none => none
  | .op2 o a b => match own_kind ks Kn a, own_kind ks Kn b with
    | some k1, some k2 => (match own_k2 o k1 k2 with
      | some k => some k
      | none => own_look Kn (.op2 o a b))
    | _, _ => none
  | .rem a b => own_look Kn (.rem a b)
  | .div a b => own_look Kn (.div a b)
  | _ => none
section OwnA
variable {ks : List VKind} {Kn : List (Term × VKind)} {A : Array Value} {s : State}
theorem own_look_ok (hKn : ∀ p ∈ Kn, ∃ v, p.1.eval A s none [] s = some v ∧ p.2.ok v = true) {t : Term} {k : VKind} (h : own_look Kn t = some k) : ∃ v, t.eval A s none [] s = some v ∧ k.ok v = true := by
  unfold own_look at h
  split at h
  · rename_i h1; cases h; exact hKn _ (List.contains_iff_mem.mp h1)
  · split at h
    · rename_i h1; cases h; exact hKn _ (List.contains_iff_mem.mp h1)
    · cases h
theorem own_int {v : Value} (h : VKind.int.ok v = true) : ∃ x, v = .int x := by
  cases v <;> first | exact ⟨_, rfl⟩ | simp [VKind.ok] at h
theorem own_long {v : Value} (h : VKind.long.ok v = true) : ∃ x, v = .long x := by
  cases v <;> first | exact ⟨_, rfl⟩ | simp [VKind.ok] at h
theorem own_kind_ok (hks : ∀ (i : Nat) (k : VKind), ks[i]? = some k → ∃ v, A[i]? = some v ∧ k.ok v = true) (hKn : ∀ p ∈ Kn, ∃ v, p.1.eval A s none [] s = some v ∧ p.2.ok v = true) (t : Term) :
    ∀ k, own_kind ks Kn t = some k → ∃ v, t.eval A s none [] s = some v ∧ k.ok v = true := by
  induction t with
  | arg i => intro k h; exact hks i k h
  | int n => intro k h; cases h; exact ⟨_, rfl, rfl⟩
  | long n => intro k h; cases h; exact ⟨_, rfl, rfl⟩
  | old t ih => intro k h; exact ih k h
  | add a b iha ihb | sub a b iha ihb | mul a b iha ihb =>
    intro k h
    simp only [own_kind] at h
    split at h
    · rename_i ea eb
      obtain ⟨va, h1, k1⟩ := iha _ ea
      obtain ⟨vb, h2, k2⟩ := ihb _ eb
      obtain ⟨xa, rfl⟩ := own_int k1
      obtain ⟨xb, rfl⟩ := own_int k2
      cases h
      exact ⟨_, by simp only [Term.eval, h1, h2]; rfl, rfl⟩
    · cases h
  | op1 o a iha =>
    intro k h
    simp only [own_kind] at h
    split at h
    · rename_i k1 ea
      obtain ⟨va, h1, q1⟩ := iha _ ea
      obtain ⟨v, h2, q2⟩ := own_k1_ok h q1
      exact ⟨v, by simp only [Term.eval, h1]; exact h2, q2⟩
    · cases h
  | op2 o a b iha ihb =>
    intro k h
    simp only [own_kind] at h
    split at h
    · rename_i k1 k2 ea eb
      obtain ⟨va, h1, q1⟩ := iha _ ea
      obtain ⟨vb, h2, q2⟩ := ihb _ eb
      split at h
      · rename_i k' e2
        cases h
        obtain ⟨v, h3, q3⟩ := own_k2_ok e2 q1 q2
        exact ⟨v, by simp only [Term.eval, h1, h2]; exact h3, q3⟩
      · exact own_look_ok hKn h
    · cases h
  | rem a b => intro k h; exact own_look_ok hKn h
  | div a b => intro k h; exact own_look_ok hKn h
  | _ => intro k h; cases h
/-- a guard over numbers is worth something -/
def own_def (ks : List VKind) (Kn : List (Term × VKind)) : Jvm.Cond → Bool
  | .eq a b => match own_kind ks Kn a, own_kind ks Kn b with
    | some .int, some .int => true
    | _, _ => false
  | .lt a b => match own_kind ks Kn a, own_kind ks Kn b with
    | some .int, some .int => true
    | _, _ => false
  | .le a b => match own_kind ks Kn a, own_kind ks Kn b with
    | some .int, some .int => true
    | _, _ => false
  | .not c => own_def ks Kn c
  | _ => false
theorem own_def_ok (hks : ∀ (i : Nat) (k : VKind), ks[i]? = some k → ∃ v, A[i]? = some v ∧ k.ok v = true) (hKn : ∀ p ∈ Kn, ∃ v, p.1.eval A s none [] s = some v ∧ p.2.ok v = true) (q : Jvm.Cond) :
    own_def ks Kn q = true → ∃ b, q.value A s none s [] = some b := by
  induction q with
  | eq a b | lt a b | le a b =>
    intro h
    simp only [own_def] at h
    split at h
    · rename_i ea eb
      obtain ⟨va, h1, k1⟩ := own_kind_ok hks hKn _ _ ea
      obtain ⟨vb, h2, k2⟩ := own_kind_ok hks hKn _ _ eb
      obtain ⟨xa, rfl⟩ := own_int k1
      obtain ⟨xb, rfl⟩ := own_int k2
      first | exact ⟨_, Cond.eq_ints h1 h2⟩ | exact ⟨_, Cond.lt_ints h1 h2⟩ | exact ⟨_, Cond.le_ints h1 h2⟩
    · cases h
  | not c ih =>
    intro h
    obtain ⟨b, hb⟩ := ih h
    exact ⟨_, not_value hb⟩
  | _ => intro h; cases h
/-- a need of the walk, its guards left aside -/
def own_need (ks : List VKind) (Kn : List (Term × VKind)) (T : List Jvm.Cond) : Jvm.Cond → Bool
  | .or G N => own_def ks Kn G && own_need ks Kn T N
  | .and a b => own_need ks Kn T a && own_need ks Kn T b
  | .tt => true
  | .isInt t => decide (own_kind ks Kn t = some .int)
  | .isLong t => decide (own_kind ks Kn t = some .long)
  | q => T.contains q
theorem own_need_ok (hks : ∀ (i : Nat) (k : VKind), ks[i]? = some k → ∃ v, A[i]? = some v ∧ k.ok v = true) (hKn : ∀ p ∈ Kn, ∃ v, p.1.eval A s none [] s = some v ∧ p.2.ok v = true) {T : List Jvm.Cond} (hT : ∀ c ∈ T, c.before A s = true) (q : Jvm.Cond) :
    own_need ks Kn T q = true → q.before A s = true := by
  induction q with
  | or G N _ ih =>
    intro h
    simp only [own_need, Bool.and_eq_true] at h
    obtain ⟨b, hb⟩ := own_def_ok hks hKn G h.1
    exact or_before_def hb (fun _ => ih h.2)
  | and a b iha ihb =>
    intro h
    simp only [own_need, Bool.and_eq_true] at h
    rw [Cond.before_and, iha h.1, ihb h.2]; rfl
  | tt => intro _; rfl
  | isInt t =>
    intro h
    simp only [own_need, decide_eq_true_eq] at h
    obtain ⟨v, h1, k1⟩ := own_kind_ok hks hKn _ _ h
    obtain ⟨x, rfl⟩ := own_int k1
    simp [Cond.before, Cond.holds, Cond.value, h1]
  | isLong t =>
    intro h
    simp only [own_need, decide_eq_true_eq] at h
    obtain ⟨v, h1, k1⟩ := own_kind_ok hks hKn _ _ h
    obtain ⟨x, rfl⟩ := own_long k1
    simp [Cond.before, Cond.holds, Cond.value, h1]
  | _ => intro h; exact hT _ (List.contains_iff_mem.mp h)
theorem own_needs {L T : List Jvm.Cond} (hks : ∀ (i : Nat) (k : VKind), ks[i]? = some k → ∃ v, A[i]? = some v ∧ k.ok v = true) (hKn : ∀ p ∈ Kn, ∃ v, p.1.eval A s none [] s = some v ∧ p.2.ok v = true) (hT : ∀ c ∈ T, c.before A s = true)
    (h : (L.all fun q => own_need ks Kn T q) = true) : ∀ q ∈ L, q.before A s = true := fun q hq => own_need_ok hks hKn hT q (List.all_eq_true.mp h q hq)
/-! the tree, fork by fork -/
theorem own_fork {G : Jvm.Cond} {a b : STree} {w : Value} {P : Prop} [Decidable P] (hG : G.value A s none s [] = some (decide P)) (h1 : P → Kit.valueOf A s a = some w) (h2 : ¬ P → Kit.valueOf A s b = some w) : Kit.valueOf A s (.fork G a b) = some w := by
  by_cases h : P
  · have e : G.value A s none s [] = some true := by rw [hG, decide_eq_true h]
    simp only [Kit.valueOf, e]; exact h1 h
  · have e : G.value A s none s [] = some false := by rw [hG, decide_eq_false h]
    simp only [Kit.valueOf, e]; exact h2 h
theorem own_not {G : Jvm.Cond} {P : Prop} [Decidable P] (h : G.value A s none s [] = some (decide P)) : (Cond.not G).value A s none s [] = some (decide (¬ P)) := by
  rw [not_value h]; simp
theorem own_ile {a b : Term} {x y : Int32} (ha : a.eval A s none [] s = some (.int x)) (hb : b.eval A s none [] s = some (.int y)) : (Cond.le a b).value A s none s [] = some (decide (x.toInt ≤ y.toInt)) :=
  (Cond.le_ints ha hb).trans (congrArg some (decide_eq_decide.mpr Int32.le_iff_toInt_le))
theorem own_ilt {a b : Term} {x y : Int32} (ha : a.eval A s none [] s = some (.int x)) (hb : b.eval A s none [] s = some (.int y)) : (Cond.lt a b).value A s none s [] = some (decide (x.toInt < y.toInt)) :=
  (Cond.lt_ints ha hb).trans (congrArg some (decide_eq_decide.mpr Int32.lt_iff_toInt_lt))
theorem own_ieq {a b : Term} {x y : Int32} (ha : a.eval A s none [] s = some (.int x)) (hb : b.eval A s none [] s = some (.int y)) : (Cond.eq a b).value A s none s [] = some (decide (x.toInt = y.toInt)) :=
  (Cond.eq_ints ha hb).trans (congrArg some (decide_eq_decide.mpr Int32.toInt_inj.symm))
theorem own_lle {a : Term} {x y : Int64} (ha : a.eval A s none [] s = some (.int (Kit.lcmp x y))) : (Cond.le a (.int 0)).value A s none s [] = some (decide (x.toInt ≤ y.toInt)) :=
  (Cond.le_ints ha rfl).trans (congrArg some ((Kit.lcmp_nonpos x y).trans (decide_eq_decide.mpr Int64.le_iff_toInt_le)))
theorem own_lge {a : Term} {x y : Int64} (ha : a.eval A s none [] s = some (.int (Kit.lcmp x y))) : (Cond.le (.int 0) a).value A s none s [] = some (decide (y.toInt ≤ x.toInt)) :=
  (Cond.le_ints rfl ha).trans (congrArg some ((Kit.lcmp_nonneg x y).trans (decide_eq_decide.mpr Int64.le_iff_toInt_le)))
theorem own_llt {a : Term} {x y : Int64} (ha : a.eval A s none [] s = some (.int (Kit.lcmp x y))) : (Cond.lt a (.int 0)).value A s none s [] = some (decide (x.toInt < y.toInt)) :=
  (Cond.lt_ints ha rfl).trans (congrArg some ((Kit.lcmp_neg x y).trans (decide_eq_decide.mpr Int64.lt_iff_toInt_lt)))
theorem own_lgt {a : Term} {x y : Int64} (ha : a.eval A s none [] s = some (.int (Kit.lcmp x y))) : (Cond.lt (.int 0) a).value A s none s [] = some (decide (y.toInt < x.toInt)) :=
  (Cond.lt_ints rfl ha).trans (congrArg some ((Kit.lcmp_pos x y).trans (decide_eq_decide.mpr Int64.lt_iff_toInt_lt)))
theorem own_leq {a : Term} {x y : Int64} (ha : a.eval A s none [] s = some (.int (Kit.lcmp x y))) : (Cond.eq a (.int 0)).value A s none s [] = some (decide (x.toInt = y.toInt)) :=
  (Cond.eq_ints ha rfl).trans (congrArg some ((Kit.lcmp_zero x y).trans (decide_eq_decide.mpr Int64.toInt_inj.symm)))
end OwnA
def y1 : MethodName := ⟨"com/example/tok256/tok256/store/LinearProbing", "home", "(II)I"⟩
def y1code : ByteArray := prog_25_method_2_code
def y1I : Info := { own := "com/example/tok256/tok256/store/LinearProbing", ret := some .int, longs := [(7, 4294967295)] }
def y1out : Option (Cond × List Cond × List Cond) := walk y1I y1code 400 (entry [.int, .int] 2)
theorem y1walks : y1out.isSome = true := by decide +kernel
def y1got : Cond × List Cond × List Cond := y1out.get y1walks
def y1spec : Spec := specOf y1 y1code 2 (some .int) [.int, .int] y1got.1 y1got.2.1 y1got.2.2
theorem y1meets (l : Launch) : MeetsLoose l y1 y1spec :=
  walk_meets (n := 400) (I := y1I) (by decide) rfl rfl (show walk y1I y1code 400 (entry [.int, .int] 2) = some (y1got.1, y1got.2.1, y1got.2.2) from (Option.some_get y1walks).symm)
theorem y1cold : y1spec.Cold := Spec.cold_of_keeps (by decide +kernel)
def callee1 : Callee := { y := y1, S := y1spec, bytes := y1code, maxL := 2, ret := some .int, static := true, params := 2, res := some .int }
theorem own_prod (u c : Int64) (hu : 0 ≤ u.toInt ∧ u.toInt < 4294967296) : 1 ≤ c.toInt → c.toInt < 2147483648 → 0 ≤ (u * c).toInt ∧ (u * c).toInt ≤ 4294967295 * c.toInt := by
  intro h1 h2
  have h := Jvm.RoadKit.c_lmul u c
  have g := Jvm.RoadKit.rng64 (u * c)
  have p1 : 0 ≤ u.toInt * c.toInt := Int.mul_nonneg hu.1 (by omega)
  have p2 : u.toInt * c.toInt ≤ 4294967295 * c.toInt := Int.mul_le_mul_of_nonneg_right (by omega) (by omega)
  omega
def I : Info := { own := x.cls, ret := ret, ints := [(7, 2147483647)], longs := [(14, 4294967295), (21, 4294967296)], calls := [(8, Kit.MathC.maxI.callee), (16, callee1)], maxLocals := maxLocals, room := room_1 }
theorem callsOk (l : Launch) : CallsOk l I maxLocals room_1 := fun q hq => by
  simp only [I, List.mem_cons, List.not_mem_nil, or_false] at hq
  rcases hq with rfl | rfl
  · exact ⟨rfl, rfl, Kit.MathC.maxI.meets l, Kit.MathC.maxI.cold⟩
  · exact ⟨rfl, rfl, y1meets l, y1cold⟩
def w := walkTo I code [] 400 true (entry [.int, .int] maxLocals)
theorem w_some : w.isSome = true := by decide +kernel
def tm0 : Term := .op2 .iand (.arg 1) (.int (2147483647))
def tm1 : Term := .op1 .i2l (.arg 0)
def tm2 : Term := .op2 .land tm1 (.long (4294967295))
def tm3 : Term := .op1 .i2l tm0
def tm4 : Term := .op2 .lmul tm2 tm3
def tm5 : Term := .op2 .lushr tm4 (.int (32))
def tm6 : Term := .op1 .l2i tm5
def tm7 : Term := .op1 .i2l tm6
def tm8 : Term := .op2 .lshl tm7 (.int (32))
def tm9 : Term := .op1 .i2l (.int (1))
def tm10 : Term := .op2 .lmul tm2 tm9
def tm11 : Term := .op2 .lushr tm10 (.int (32))
def tm12 : Term := .op1 .l2i tm11
def tm13 : Term := .op1 .i2l tm12
def tm14 : Term := .op2 .lshl tm13 (.int (32))
def t0 : STree := .fork (.lt (.int (1)) tm0)
  (.fork (.lt (.old tm6) (.int (0)))
  (.ret (some ⟨(.op2 .iand (.int (0)) (.int (1))), .int⟩) [])
  (.fork (.lt (.old tm6) (.old tm0))
  (.fork (.lt (.int (0)) (.old (.op2 .lcmp tm8 tm4)))
  (.ret (some ⟨(.op2 .iand (.int (0)) (.int (1))), .int⟩) [])
  (.fork (.le (.int (0)) (.old (.op2 .lcmp (.op2 .lsub tm4 tm8) (.long (4294967296)))))
  (.ret (some ⟨(.op2 .iand (.int (0)) (.int (1))), .int⟩) [])
  (.ret (some ⟨(.op2 .iand (.int (1)) (.int (1))), .int⟩) [])))
  (.ret (some ⟨(.op2 .iand (.int (0)) (.int (1))), .int⟩) [])))
  (.fork (.lt (.old tm12) (.int (0)))
  (.ret (some ⟨(.op2 .iand (.int (0)) (.int (1))), .int⟩) [])
  (.fork (.lt (.old tm12) (.old (.int (1))))
  (.fork (.lt (.int (0)) (.old (.op2 .lcmp tm14 tm10)))
  (.ret (some ⟨(.op2 .iand (.int (0)) (.int (1))), .int⟩) [])
  (.fork (.le (.int (0)) (.old (.op2 .lcmp (.op2 .lsub tm10 tm14) (.long (4294967296)))))
  (.ret (some ⟨(.op2 .iand (.int (0)) (.int (1))), .int⟩) [])
  (.ret (some ⟨(.op2 .iand (.int (1)) (.int (1))), .int⟩) [])))
  (.ret (some ⟨(.op2 .iand (.int (0)) (.int (1))), .int⟩) [])))
theorem own_value (a : Int32) (b : Int32) (s : State) : Kit.valueOf #[.int a, .int b] s t0 = some (.int 1) := by
  have := Jvm.RoadKit.rng32 a
  have := Jvm.RoadKit.rng32 b
  have : (1 : Int32).toInt = 1 := by decide
  have : (2147483647 : Int32).toInt = 2147483647 := by decide
  have := Jvm.RoadKit.rng32 (b &&& (2147483647 : Int32))
  have : (b &&& (2147483647 : Int32)).toInt = b.toInt % 2147483648 := Jvm.RoadKit.c_mask b (2147483647 : Int32) 31 (by decide) (by decide)
  have := Jvm.RoadKit.c_i2l a
  have : (4294967295 : Int64).toInt = 4294967295 := by decide
  have := Jvm.RoadKit.rng64 (a.toInt64 &&& (4294967295 : Int64))
  have : (a.toInt64 &&& (4294967295 : Int64)).toInt = a.toInt64.toInt % 4294967296 := Jvm.RoadKit.c_maskL a.toInt64 (4294967295 : Int64) 32 (by decide) (by decide)
  have := Jvm.RoadKit.c_i2l (b &&& (2147483647 : Int32))
  have := Jvm.RoadKit.rng64 ((a.toInt64 &&& (4294967295 : Int64)) * (b &&& (2147483647 : Int32)).toInt64)
  have : (32 : Int32).toInt = 32 := by decide
  have := Jvm.RoadKit.rng64 ((((a.toInt64 &&& (4294967295 : Int64)) * (b &&& (2147483647 : Int32)).toInt64).toUInt64 >>> ((32 : Int32) &&& 0x3f).toInt64.toUInt64).toInt64)
  have : ((((a.toInt64 &&& (4294967295 : Int64)) * (b &&& (2147483647 : Int32)).toInt64).toUInt64 >>> ((32 : Int32) &&& 0x3f).toInt64.toUInt64).toInt64).toInt = (((a.toInt64 &&& (4294967295 : Int64)) * (b &&& (2147483647 : Int32)).toInt64).toInt % 18446744073709551616) / 4294967296 := Jvm.RoadKit.c_lushr ((a.toInt64 &&& (4294967295 : Int64)) * (b &&& (2147483647 : Int32)).toInt64) (32 : Int32) 32 (by decide) (by decide)
  have := Jvm.RoadKit.c_l2i ((((a.toInt64 &&& (4294967295 : Int64)) * (b &&& (2147483647 : Int32)).toInt64).toUInt64 >>> ((32 : Int32) &&& 0x3f).toInt64.toUInt64).toInt64)
  have := Jvm.RoadKit.rng32 ((((a.toInt64 &&& (4294967295 : Int64)) * (b &&& (2147483647 : Int32)).toInt64).toUInt64 >>> ((32 : Int32) &&& 0x3f).toInt64.toUInt64).toInt64).toInt32
  have : (0 : Int32).toInt = 0 := by decide
  have := Jvm.RoadKit.c_i2l ((((a.toInt64 &&& (4294967295 : Int64)) * (b &&& (2147483647 : Int32)).toInt64).toUInt64 >>> ((32 : Int32) &&& 0x3f).toInt64.toUInt64).toInt64).toInt32
  have := Jvm.RoadKit.rng64 (((((a.toInt64 &&& (4294967295 : Int64)) * (b &&& (2147483647 : Int32)).toInt64).toUInt64 >>> ((32 : Int32) &&& 0x3f).toInt64.toUInt64).toInt64).toInt32.toInt64 <<< ((32 : Int32) &&& 0x3f).toInt64)
  have : ((((((a.toInt64 &&& (4294967295 : Int64)) * (b &&& (2147483647 : Int32)).toInt64).toUInt64 >>> ((32 : Int32) &&& 0x3f).toInt64.toUInt64).toInt64).toInt32.toInt64 <<< ((32 : Int32) &&& 0x3f).toInt64).toInt - ((((a.toInt64 &&& (4294967295 : Int64)) * (b &&& (2147483647 : Int32)).toInt64).toUInt64 >>> ((32 : Int32) &&& 0x3f).toInt64.toUInt64).toInt64).toInt32.toInt64.toInt * 4294967296) % 18446744073709551616 = 0 := Jvm.RoadKit.c_lshl ((((a.toInt64 &&& (4294967295 : Int64)) * (b &&& (2147483647 : Int32)).toInt64).toUInt64 >>> ((32 : Int32) &&& 0x3f).toInt64.toUInt64).toInt64).toInt32.toInt64 (32 : Int32) 32 (by decide)
  have := Jvm.RoadKit.rng64 (((a.toInt64 &&& (4294967295 : Int64)) * (b &&& (2147483647 : Int32)).toInt64) - (((((a.toInt64 &&& (4294967295 : Int64)) * (b &&& (2147483647 : Int32)).toInt64).toUInt64 >>> ((32 : Int32) &&& 0x3f).toInt64.toUInt64).toInt64).toInt32.toInt64 <<< ((32 : Int32) &&& 0x3f).toInt64))
  have := Jvm.RoadKit.c_lsub ((a.toInt64 &&& (4294967295 : Int64)) * (b &&& (2147483647 : Int32)).toInt64) (((((a.toInt64 &&& (4294967295 : Int64)) * (b &&& (2147483647 : Int32)).toInt64).toUInt64 >>> ((32 : Int32) &&& 0x3f).toInt64.toUInt64).toInt64).toInt32.toInt64 <<< ((32 : Int32) &&& 0x3f).toInt64)
  have : (4294967296 : Int64).toInt = 4294967296 := by decide
  have := Jvm.RoadKit.c_i2l (1 : Int32)
  have := Jvm.RoadKit.rng64 ((a.toInt64 &&& (4294967295 : Int64)) * (1 : Int32).toInt64)
  have := Jvm.RoadKit.rng64 ((((a.toInt64 &&& (4294967295 : Int64)) * (1 : Int32).toInt64).toUInt64 >>> ((32 : Int32) &&& 0x3f).toInt64.toUInt64).toInt64)
  have : ((((a.toInt64 &&& (4294967295 : Int64)) * (1 : Int32).toInt64).toUInt64 >>> ((32 : Int32) &&& 0x3f).toInt64.toUInt64).toInt64).toInt = (((a.toInt64 &&& (4294967295 : Int64)) * (1 : Int32).toInt64).toInt % 18446744073709551616) / 4294967296 := Jvm.RoadKit.c_lushr ((a.toInt64 &&& (4294967295 : Int64)) * (1 : Int32).toInt64) (32 : Int32) 32 (by decide) (by decide)
  have := Jvm.RoadKit.c_l2i ((((a.toInt64 &&& (4294967295 : Int64)) * (1 : Int32).toInt64).toUInt64 >>> ((32 : Int32) &&& 0x3f).toInt64.toUInt64).toInt64)
  have := Jvm.RoadKit.rng32 ((((a.toInt64 &&& (4294967295 : Int64)) * (1 : Int32).toInt64).toUInt64 >>> ((32 : Int32) &&& 0x3f).toInt64.toUInt64).toInt64).toInt32
  have := Jvm.RoadKit.c_i2l ((((a.toInt64 &&& (4294967295 : Int64)) * (1 : Int32).toInt64).toUInt64 >>> ((32 : Int32) &&& 0x3f).toInt64.toUInt64).toInt64).toInt32
  have := Jvm.RoadKit.rng64 (((((a.toInt64 &&& (4294967295 : Int64)) * (1 : Int32).toInt64).toUInt64 >>> ((32 : Int32) &&& 0x3f).toInt64.toUInt64).toInt64).toInt32.toInt64 <<< ((32 : Int32) &&& 0x3f).toInt64)
  have : ((((((a.toInt64 &&& (4294967295 : Int64)) * (1 : Int32).toInt64).toUInt64 >>> ((32 : Int32) &&& 0x3f).toInt64.toUInt64).toInt64).toInt32.toInt64 <<< ((32 : Int32) &&& 0x3f).toInt64).toInt - ((((a.toInt64 &&& (4294967295 : Int64)) * (1 : Int32).toInt64).toUInt64 >>> ((32 : Int32) &&& 0x3f).toInt64.toUInt64).toInt64).toInt32.toInt64.toInt * 4294967296) % 18446744073709551616 = 0 := Jvm.RoadKit.c_lshl ((((a.toInt64 &&& (4294967295 : Int64)) * (1 : Int32).toInt64).toUInt64 >>> ((32 : Int32) &&& 0x3f).toInt64.toUInt64).toInt64).toInt32.toInt64 (32 : Int32) 32 (by decide)
  have := Jvm.RoadKit.rng64 (((a.toInt64 &&& (4294967295 : Int64)) * (1 : Int32).toInt64) - (((((a.toInt64 &&& (4294967295 : Int64)) * (1 : Int32).toInt64).toUInt64 >>> ((32 : Int32) &&& 0x3f).toInt64.toUInt64).toInt64).toInt32.toInt64 <<< ((32 : Int32) &&& 0x3f).toInt64))
  have := Jvm.RoadKit.c_lsub ((a.toInt64 &&& (4294967295 : Int64)) * (1 : Int32).toInt64) (((((a.toInt64 &&& (4294967295 : Int64)) * (1 : Int32).toInt64).toUInt64 >>> ((32 : Int32) &&& 0x3f).toInt64.toUInt64).toInt64).toInt32.toInt64 <<< ((32 : Int32) &&& 0x3f).toInt64)
  have := own_prod (a.toInt64 &&& (4294967295 : Int64)) (1 : Int32).toInt64 (by omega)
  have := own_prod (a.toInt64 &&& (4294967295 : Int64)) (b &&& (2147483647 : Int32)).toInt64 (by omega)
  refine own_fork (P := (1 : Int32).toInt < (b &&& (2147483647 : Int32)).toInt) (own_ilt (x := (1 : Int32)) (y := (b &&& (2147483647 : Int32))) rfl rfl) (fun h1 => ?_) (fun h1 => ?_)
  · refine own_fork (P := ((((a.toInt64 &&& (4294967295 : Int64)) * (b &&& (2147483647 : Int32)).toInt64).toUInt64 >>> ((32 : Int32) &&& 0x3f).toInt64.toUInt64).toInt64).toInt32.toInt < (0 : Int32).toInt) (own_ilt (x := ((((a.toInt64 &&& (4294967295 : Int64)) * (b &&& (2147483647 : Int32)).toInt64).toUInt64 >>> ((32 : Int32) &&& 0x3f).toInt64.toUInt64).toInt64).toInt32) (y := (0 : Int32)) rfl rfl) (fun h2 => ?_) (fun h2 => ?_)
    · exfalso; omega
    · refine own_fork (P := ((((a.toInt64 &&& (4294967295 : Int64)) * (b &&& (2147483647 : Int32)).toInt64).toUInt64 >>> ((32 : Int32) &&& 0x3f).toInt64.toUInt64).toInt64).toInt32.toInt < (b &&& (2147483647 : Int32)).toInt) (own_ilt (x := ((((a.toInt64 &&& (4294967295 : Int64)) * (b &&& (2147483647 : Int32)).toInt64).toUInt64 >>> ((32 : Int32) &&& 0x3f).toInt64.toUInt64).toInt64).toInt32) (y := (b &&& (2147483647 : Int32))) rfl rfl) (fun h3 => ?_) (fun h3 => ?_)
      · refine own_fork (P := ((a.toInt64 &&& (4294967295 : Int64)) * (b &&& (2147483647 : Int32)).toInt64).toInt < (((((a.toInt64 &&& (4294967295 : Int64)) * (b &&& (2147483647 : Int32)).toInt64).toUInt64 >>> ((32 : Int32) &&& 0x3f).toInt64.toUInt64).toInt64).toInt32.toInt64 <<< ((32 : Int32) &&& 0x3f).toInt64).toInt) (own_lgt (x := (((((a.toInt64 &&& (4294967295 : Int64)) * (b &&& (2147483647 : Int32)).toInt64).toUInt64 >>> ((32 : Int32) &&& 0x3f).toInt64.toUInt64).toInt64).toInt32.toInt64 <<< ((32 : Int32) &&& 0x3f).toInt64)) (y := ((a.toInt64 &&& (4294967295 : Int64)) * (b &&& (2147483647 : Int32)).toInt64)) rfl) (fun h4 => ?_) (fun h4 => ?_)
        · exfalso; omega
        · refine own_fork (P := (4294967296 : Int64).toInt ≤ (((a.toInt64 &&& (4294967295 : Int64)) * (b &&& (2147483647 : Int32)).toInt64) - (((((a.toInt64 &&& (4294967295 : Int64)) * (b &&& (2147483647 : Int32)).toInt64).toUInt64 >>> ((32 : Int32) &&& 0x3f).toInt64.toUInt64).toInt64).toInt32.toInt64 <<< ((32 : Int32) &&& 0x3f).toInt64)).toInt) (own_lge (x := (((a.toInt64 &&& (4294967295 : Int64)) * (b &&& (2147483647 : Int32)).toInt64) - (((((a.toInt64 &&& (4294967295 : Int64)) * (b &&& (2147483647 : Int32)).toInt64).toUInt64 >>> ((32 : Int32) &&& 0x3f).toInt64.toUInt64).toInt64).toInt32.toInt64 <<< ((32 : Int32) &&& 0x3f).toInt64))) (y := (4294967296 : Int64)) rfl) (fun h5 => ?_) (fun h5 => ?_)
          · exfalso; omega
          · rfl
      · exfalso; omega
  · refine own_fork (P := ((((a.toInt64 &&& (4294967295 : Int64)) * (1 : Int32).toInt64).toUInt64 >>> ((32 : Int32) &&& 0x3f).toInt64.toUInt64).toInt64).toInt32.toInt < (0 : Int32).toInt) (own_ilt (x := ((((a.toInt64 &&& (4294967295 : Int64)) * (1 : Int32).toInt64).toUInt64 >>> ((32 : Int32) &&& 0x3f).toInt64.toUInt64).toInt64).toInt32) (y := (0 : Int32)) rfl rfl) (fun h2 => ?_) (fun h2 => ?_)
    · exfalso; omega
    · refine own_fork (P := ((((a.toInt64 &&& (4294967295 : Int64)) * (1 : Int32).toInt64).toUInt64 >>> ((32 : Int32) &&& 0x3f).toInt64.toUInt64).toInt64).toInt32.toInt < (1 : Int32).toInt) (own_ilt (x := ((((a.toInt64 &&& (4294967295 : Int64)) * (1 : Int32).toInt64).toUInt64 >>> ((32 : Int32) &&& 0x3f).toInt64.toUInt64).toInt64).toInt32) (y := (1 : Int32)) rfl rfl) (fun h3 => ?_) (fun h3 => ?_)
      · refine own_fork (P := ((a.toInt64 &&& (4294967295 : Int64)) * (1 : Int32).toInt64).toInt < (((((a.toInt64 &&& (4294967295 : Int64)) * (1 : Int32).toInt64).toUInt64 >>> ((32 : Int32) &&& 0x3f).toInt64.toUInt64).toInt64).toInt32.toInt64 <<< ((32 : Int32) &&& 0x3f).toInt64).toInt) (own_lgt (x := (((((a.toInt64 &&& (4294967295 : Int64)) * (1 : Int32).toInt64).toUInt64 >>> ((32 : Int32) &&& 0x3f).toInt64.toUInt64).toInt64).toInt32.toInt64 <<< ((32 : Int32) &&& 0x3f).toInt64)) (y := ((a.toInt64 &&& (4294967295 : Int64)) * (1 : Int32).toInt64)) rfl) (fun h4 => ?_) (fun h4 => ?_)
        · exfalso; omega
        · refine own_fork (P := (4294967296 : Int64).toInt ≤ (((a.toInt64 &&& (4294967295 : Int64)) * (1 : Int32).toInt64) - (((((a.toInt64 &&& (4294967295 : Int64)) * (1 : Int32).toInt64).toUInt64 >>> ((32 : Int32) &&& 0x3f).toInt64.toUInt64).toInt64).toInt32.toInt64 <<< ((32 : Int32) &&& 0x3f).toInt64)).toInt) (own_lge (x := (((a.toInt64 &&& (4294967295 : Int64)) * (1 : Int32).toInt64) - (((((a.toInt64 &&& (4294967295 : Int64)) * (1 : Int32).toInt64).toUInt64 >>> ((32 : Int32) &&& 0x3f).toInt64.toUInt64).toInt64).toInt32.toInt64 <<< ((32 : Int32) &&& 0x3f).toInt64))) (y := (4294967296 : Int64)) rfl) (fun h5 => ?_) (fun h5 => ?_)
          · exfalso; omega
          · rfl
      · exfalso; omega
theorem tree : (w.get w_some).1 = t0 := by decide +kernel
theorem entry_walk : walkTo I code [] 400 true (entry [.int, .int] maxLocals) = some (t0, (w.get w_some).2.1, (w.get w_some).2.2) := by
  rw [← tree]; exact (Option.some_get w_some).symm
theorem own_sorts {a : Int32} {b : Int32} {s : State} : ∀ q ∈ Sym.sorts 0 [.int, .int], q.before #[.int a, .int b] s = true := by
  intro q hq
  simp only [Sym.sorts, List.mem_cons, List.not_mem_nil, or_false] at hq
  rcases hq with rfl | rfl <;> simp [isK, Cond.before, Cond.holds, Cond.value, Term.eval]
theorem own_hks {a : Int32} {b : Int32} : ∀ (i : Nat) (k : VKind), ([.int, .int] : List VKind)[i]? = some k → ∃ v, (#[.int a, .int b] : Array Value)[i]? = some v ∧ k.ok v = true := by
  intro i k h
  match i, h with
  | 0, h => exact ⟨_, rfl, by cases h; rfl⟩
  | 1, h => exact ⟨_, rfl, by cases h; rfl⟩
  | i + 2, h => simp at h
theorem own_args {args : Array Value} {x0 x1 : Value} (hn : args.size = 2) (h0 : args[0]? = some x0) (h1 : args[1]? = some x1) : args = #[x0, x1] := by
  obtain ⟨L⟩ := args
  match L, hn with
  | [u0, u1], _ =>
    simp only [List.getElem?_toArray, List.getElem?_cons_zero, List.getElem?_cons_succ, Option.some.injEq] at h0 h1
    subst h0 h1; rfl
def post_1 : Cond := .and limb_1_1 limb_1_2
theorem met_1 (l : Launch) : MeetsLoose l x (armSpec x code maxLocals ret tables_1 room_1 .tt (.and given_1 narrow_1) post_1 frame_1_writes frame_1_arrays frame_1_statics) := by
  refine loops_meets (I := I) (ks0 := [.int, .int]) (cuts := []) (by decide) rfl rfl rfl rfl rfl (fun args s h => ?_) entry_walk (fun _ => none) (fun _ _ _ _ _ => False) (fun _ _ _ => 0) (fun args s h => ?_) (fun args s _ h ks hks => by cases hks) (callsOk l)
  · simp only [armSpec, allAtoms, List.foldr_cons, Cond.before_and, Bool.and_eq_true] at h; exact h.1.1
  · have hts : (allAtoms (Cond.code x code maxLocals ret :: tables_1)).before args s = true := by simp only [armSpec, Cond.before_and, Bool.and_eq_true] at h; exact h.1
    simp only [armSpec, given_1, Cond.before_and, Bool.and_eq_true] at h
    obtain ⟨-, -, ⟨hc, q0, q1⟩, hn⟩ := h
    obtain ⟨a, e0⟩ := Cond.isInt_spec q0
    obtain ⟨b, e1⟩ := Cond.isInt_spec q1
    obtain rfl := own_args (by simpa [Cond.before, Cond.holds, Cond.value] using hc) (show args[0]? = some (.int a) from e0) (show args[1]? = some (.int b) from e1)
    refine ⟨rfl, own_sorts, tabs_of_sub hts (by decide +kernel), own_needs (ks := [.int, .int]) (Kn := []) own_hks (fun p hp => by cases hp) (atoms_spec hts) (by decide +kernel), Kit.vc_of_value (w₀ := .int 1) (fun E => ?_) t0 (by decide +kernel) (own_value a b s)⟩
    simp [armSpec, post_1, limb_1_1, limb_1_2, Cond.after, Cond.holds, Cond.value, Term.eval]
theorem main_1_1 : Claimed_1_1 := armFor_of_meets0 (fun l => (met_1 l).meets) fun _ _ _ _ h => by simp only [post_1, Cond.after_and, Bool.and_eq_true] at h; exact h.1
theorem main_1_2 : Claimed_1_2 := armFor_of_meets0 (fun l => (met_1 l).meets) fun _ _ _ _ h => by simp only [post_1, Cond.after_and, Bool.and_eq_true] at h; exact h.2
end Jvm.Pilot.@@N@@
namespace Jvm.Pilot.@@N@@
open Jvm Jvm.ClassFile Sem Op Lib Jvm.Free Jvm.Stand Jvm.Pilot.@@N@@.Jvm.D
/-! MADE BY PROGRAM (witnessworld.py) out of the Statement's table words and the real class files: 10 classes; the members and pool entries that the words name. The judged class is class 1, her method 1. -/
namespace start1
open Jvm.ClassFile
def u (s : String) : CpInfo := .utf8 (stringToUtf16 s)
/-- a pool by its gaps: so many unusable entries, then the entry; so many at the end -/
def gap : Nat → List CpInfo → List CpInfo
  | 0, r => r
  | n + 1, r => .unusable :: gap n r
def poolList (es : List (Nat × CpInfo)) (last : Nat) : List CpInfo := es.foldr (fun e r => gap e.1 (e.2 :: r)) (gap last [])
def pool (es : List (Nat × CpInfo)) (last : Nat) : Array CpInfo := ⟨poolList es last⟩
def fileOf (pool : Array CpInfo) (this : Nat) (attrs : Array Attribute := #[]) (ms : Array MethodInfo := #[]) (fl : Nat := 33) (sup : Nat := 0) (ifs : Array Nat := #[]) (fds : Array FieldInfo := #[]) : ClassFile where
  minorVersion := 0
  majorVersion := 65
  constantPool := pool
  accessFlags := fl
  thisClass := this
  superClass := sup
  interfaces := ifs
  fields := fds
  methods := ms
  attributes := attrs
def plain (name : String) (sup : Option ClassId) : Class where
  name := name
  kind := .ordinary
  loader := none
  accessFlags := 33
  super := sup
  interfaces := #[]
  cf := none
  fields := #[]
  methods := #[]
  instanceTypes := #[]
  staticTypes := #[]
  resolved := #[]
  callSites := []
  init := .initialized
  statics := none
  mirror := none

def pool0 : Array CpInfo := pool [(5, u "<init>"), (0, u "()V"), (1, .class_ 10), (1, u "java/lang/Object")] 113

def k0m0 : Method := { name := "<init>", desc := "()V", sig := { parameters := [], returnType := none }, accessFlags := 1, code := none }
/-- java/lang/Object -/
def k0 : Class := { plain "java/lang/Object" none with
  accessFlags := 33
  interfaces := #[]
  cf := some (fileOf pool0 8 #[] #[{ accessFlags := 1, nameIndex := 5, descriptorIndex := 6, attributes := #[] }] 33 0 #[] #[])
  fields := #[]
  methods := #[k0m0]
  instanceTypes := #[]
  staticTypes := #[]
  resolved := Array.replicate 124 none
  statics := none }

def pool1 : Array CpInfo := pool [(2, .class_ 4), (1, u "java/lang/Object"), (0, u "<init>"), (0, u "()V"), (0, .integer 2147483647), (0, .methodref 9 10), (0, .class_ 11), (0, .nameAndType 12 13), (0, u "java/lang/Math"), (0, u "max"), (0, u "(II)I"), (0, .long 4294967295), (1, .methodref 17 18), (0, .class_ 19), (0, .nameAndType 20 13), (0, u "com/example/tok256/tok256/store/LinearProbing"), (0, u "home"), (0, .long 4294967296), (1, .class_ 24), (0, u "com/example/tok256/tok256/store/LinearProbingHomePinLaw"), (2, u "law"), (0, u "(II)Z")] 3

def k1m0 : Method := { name := "<init>", desc := "()V", sig := { parameters := [], returnType := none }, accessFlags := 2, code := none }
def k1c1 : Code := { maxStack := 4, maxLocals := 10, code := code, exceptionTable := #[], attributes := #[] }
def k1m1 : Method := { name := "law", desc := "(II)Z", sig := { parameters := [.int, .int], returnType := some .boolean }, accessFlags := 9, code := some k1c1 }
/-- com/example/tok256/tok256/store/LinearProbingHomePinLaw -/
def k1 : Class := { plain "com/example/tok256/tok256/store/LinearProbingHomePinLaw" (some 0) with
  accessFlags := 49
  interfaces := #[]
  cf := some (fileOf pool1 23 #[] #[{ accessFlags := 2, nameIndex := 5, descriptorIndex := 6, attributes := #[] }, { accessFlags := 9, nameIndex := 27, descriptorIndex := 28, attributes := #[] }] 49 2 #[] #[])
  fields := #[]
  methods := #[k1m0, k1m1]
  instanceTypes := #[]
  staticTypes := #[]
  resolved := Array.replicate 32 none
  statics := none }

def pool2 : Array CpInfo := pool [(1, .class_ 2), (0, u "java/lang/Math"), (1, .class_ 6), (1, u "java/lang/Object"), (0, u "<init>"), (0, u "()V"), (89, .class_ 100), (1, u "java/lang/Math$RandomNumberGeneratorHolder"), (71, u "negativeZeroFloatBits"), (0, u "J"), (2, u "negativeZeroDoubleBits"), (21, u "max"), (46, u "$assertionsDisabled"), (0, u "Z"), (88, u "(II)I"), (2, u "twoToTheDoubleScaleDown"), (0, u "D"), (4, u "twoToTheDoubleScaleUp"), (9, u "E"), (3, u "PI"), (2, u "TAU"), (2, u "DEGREES_TO_RADIANS"), (0, u "RADIANS_TO_DEGREES")] 94

def k2m0 : Method := { name := "<init>", desc := "()V", sig := { parameters := [], returnType := none }, accessFlags := 2, code := none }
def k2c1 : Code := { maxStack := 2, maxLocals := 2, code := jdk_29_method_65_code, exceptionTable := #[], attributes := #[] }
def k2m1 : Method := { name := "max", desc := "(II)I", sig := { parameters := [.int, .int], returnType := some .int }, accessFlags := 9, code := some k2c1 }
/-- java/lang/Math -/
def k2 : Class := { plain "java/lang/Math" (some 0) with
  accessFlags := 49
  interfaces := #[]
  cf := some (fileOf pool2 1 #[.nestMembers #[98]] #[{ accessFlags := 2, nameIndex := 7, descriptorIndex := 8, attributes := #[] }, { accessFlags := 9, nameIndex := 198, descriptorIndex := 335, attributes := #[] }] 49 4 #[] #[{ accessFlags := 25, nameIndex := 354, descriptorIndex := 339, attributes := #[] }, { accessFlags := 25, nameIndex := 358, descriptorIndex := 339, attributes := #[] }, { accessFlags := 25, nameIndex := 361, descriptorIndex := 339, attributes := #[] }, { accessFlags := 26, nameIndex := 364, descriptorIndex := 339, attributes := #[] }, { accessFlags := 26, nameIndex := 365, descriptorIndex := 339, attributes := #[] }, { accessFlags := 26, nameIndex := 172, descriptorIndex := 173, attributes := #[] }, { accessFlags := 26, nameIndex := 176, descriptorIndex := 173, attributes := #[] }, { accessFlags := 8, nameIndex := 344, descriptorIndex := 339, attributes := #[] }, { accessFlags := 8, nameIndex := 338, descriptorIndex := 339, attributes := #[] }, { accessFlags := 4120, nameIndex := 245, descriptorIndex := 246, attributes := #[] }])
  fields := #[{ name := "E", type := .double, accessFlags := 25, slot := 0, constantValue := 0 }, { name := "PI", type := .double, accessFlags := 25, slot := 1, constantValue := 0 }, { name := "TAU", type := .double, accessFlags := 25, slot := 2, constantValue := 0 }, { name := "DEGREES_TO_RADIANS", type := .double, accessFlags := 26, slot := 3, constantValue := 0 }, { name := "RADIANS_TO_DEGREES", type := .double, accessFlags := 26, slot := 4, constantValue := 0 }, { name := "negativeZeroFloatBits", type := .long, accessFlags := 26, slot := 5, constantValue := 0 }, { name := "negativeZeroDoubleBits", type := .long, accessFlags := 26, slot := 6, constantValue := 0 }, { name := "twoToTheDoubleScaleUp", type := .double, accessFlags := 8, slot := 7, constantValue := 0 }, { name := "twoToTheDoubleScaleDown", type := .double, accessFlags := 8, slot := 8, constantValue := 0 }, { name := "$assertionsDisabled", type := .boolean, accessFlags := 4120, slot := 9, constantValue := 0 }]
  methods := #[k2m0, k2m1]
  instanceTypes := #[]
  staticTypes := #[.double, .double, .double, .double, .double, .long, .long, .double, .double, .boolean]
  resolved := Array.replicate 460 none
  statics := none }

def pool3 : Array CpInfo := pool [(2, .class_ 4), (1, u "java/lang/Object"), (0, u "<init>"), (0, u "()V"), (0, .long 4294967295), (4, .class_ 14), (1, u "com/example/tok256/tok256/store/LinearProbing"), (1, u "(II)I"), (1, .class_ 20), (1, u "com/example/tok256/tok256/store/LinearProbing$Slots"), (4, u "home")] 19

def k3m0 : Method := { name := "<init>", desc := "()V", sig := { parameters := [], returnType := none }, accessFlags := 2, code := none }
def k3c1 : Code := { maxStack := 4, maxLocals := 2, code := prog_25_method_2_code, exceptionTable := #[], attributes := #[] }
def k3m1 : Method := { name := "home", desc := "(II)I", sig := { parameters := [.int, .int], returnType := some .int }, accessFlags := 8, code := some k3c1 }
/-- com/example/tok256/tok256/store/LinearProbing -/
def k3 : Class := { plain "com/example/tok256/tok256/store/LinearProbing" (some 0) with
  accessFlags := 48
  interfaces := #[]
  cf := some (fileOf pool3 12 #[.nestMembers #[18]] #[{ accessFlags := 2, nameIndex := 5, descriptorIndex := 6, attributes := #[] }, { accessFlags := 8, nameIndex := 25, descriptorIndex := 16, attributes := #[] }] 48 2 #[] #[])
  fields := #[]
  methods := #[k3m0, k3m1]
  instanceTypes := #[]
  staticTypes := #[]
  resolved := Array.replicate 45 none
  statics := none }

def pool4 : Array CpInfo := pool [(1, u "java/lang/Cloneable"), (0, .class_ 1), (0, u "java/lang/Object"), (0, .class_ 3)] 3

/-- java/lang/Cloneable -/
def k4 : Class := { plain "java/lang/Cloneable" (some 0) with
  accessFlags := 1537
  interfaces := #[]
  cf := some (fileOf pool4 2 #[] #[] 1537 4 #[] #[])
  fields := #[]
  methods := #[]
  instanceTypes := #[]
  staticTypes := #[]
  resolved := Array.replicate 8 none
  statics := none }

def pool5 : Array CpInfo := pool [(1, u "java/io/Serializable"), (0, .class_ 1), (0, u "java/lang/Object"), (0, .class_ 3)] 3

/-- java/io/Serializable -/
def k5 : Class := { plain "java/io/Serializable" (some 0) with
  accessFlags := 1537
  interfaces := #[]
  cf := some (fileOf pool5 2 #[] #[] 1537 4 #[] #[])
  fields := #[]
  methods := #[]
  instanceTypes := #[]
  staticTypes := #[]
  resolved := Array.replicate 8 none
  statics := none }

/-- the primitive byte -/
def k6 : Class := { plain "byte" none with kind := .primitive 'B', accessFlags := 0x411 }
/-- [B -/
def k7 : Class := { plain "[B" (some 0) with kind := .array 6 .byte, interfaces := #[4, 5], accessFlags := 1041 }

/-- the primitive int -/
def k8 : Class := { plain "int" none with kind := .primitive 'I', accessFlags := 0x411 }
/-- [I -/
def k9 : Class := { plain "[I" (some 0) with kind := .array 8 .int, interfaces := #[4, 5], accessFlags := 1041 }

def heap : Heap := #[]
def classes : Array Class := #[k0, k1, k2, k3, k4, k5, k6, k7, k8, k9]
def interned : List (Array UInt16 × Addr) := []
def slotsUsed : Nat := 0
def theMethod : MethodId := ⟨1, 1⟩
def args0 : Array Value := #[.int 5, .int 7]
def aboutOver (below : List Frame) : State where
  vm := { classes := classes, interned := interned.toArray }
  heap := heap
  slotsUsed := slotsUsed
  threads := #[{ frames := .invoking theMethod args0 :: below }]
def below0 : List Frame := [.native { method := ⟨0, 0⟩, args := #[] }]
def about1 : State := aboutOver below0
def p0 : Program := .bare "" "" ""
def e0 : Env := launch0.env 0 0 0
theorem w_frames : about1.frames = Frame.invoking theMethod args0 :: below0 := rfl
set_option maxRecDepth 65536 in
theorem w_args : argsFit about1.vm theMethod args0 = true := by decide +kernel
set_option maxRecDepth 65536 in
theorem w_heap : heapFits about1 = true := by decide +kernel
set_option maxRecDepth 65536 in
theorem w_runnable : about1.curStatus? = some .runnable := by decide +kernel
set_option maxRecDepth 65536 in
theorem w_alone : about1.alone = true := by decide +kernel
set_option maxRecDepth 65536 in
theorem w_named : about1.methodNamed? x = some theMethod := by decide +kernel
set_option maxRecDepth 65536 in
theorem w_hears : about1.hears theMethod below0 = true := by decide +kernel
set_option maxRecDepth 65536 in
theorem w_ripe : about1.ripe theMethod args0 below0 = true := by decide +kernel
theorem w_running : about1.status = .running := rfl
set_option maxRecDepth 65536 in
theorem w_room : about1.hasRoom e0.platform room_1 = true :=
  launch0.hasRoom_least _ room_1 (by decide +kernel) (by decide +kernel) (by decide +kernel) (by decide +kernel) (by decide +kernel) (by decide +kernel)
theorem allAtoms_all (ts : List Jvm.Cond) (a : Array Jvm.Value) (st : Jvm.State) : (allAtoms ts).before a st = ts.all (fun c => c.before a st) := by
  induction ts with
  | nil => rfl
  | cons c t ih =>
    show (Jvm.Cond.and c (allAtoms t)).before a st = _
    rw [Jvm.Cond.before_and, ih, List.all_cons]
def words1 : List Jvm.Cond := Jvm.Cond.code x code maxLocals ret :: tables_1
/-- a 'code' word, met by the world's own term for the bytes: nothing is compared byte by byte -/
theorem code_word {y : MethodName} {bytes : ByteArray} {mx : Nat} {rt : Option FieldType} {a : Array Value} {s : State} {m : MethodId} {meth : Method} {c : Code} (h1 : s.methodNamed? y = some m) (h2 : s.vm.method? m = some meth) (h3 : meth.code = some c) (h4 : c.code = bytes)
    (h5 : (c.maxLocals == mx && c.exceptionTable.isEmpty && decide (c.maxStack ≤ mostOperands) && decide (meth.sig.returnType = rt) && !meth.locks && decide (parseMethodDescriptor y.desc = some meth.sig)) = true) : (Jvm.Cond.code y bytes mx rt).before a s = true := by
  simp only [Bool.and_eq_true, beq_iff_eq, Bool.not_eq_true', decide_eq_true_eq] at h5
  obtain ⟨⟨⟨⟨⟨g1, g2⟩, g3⟩, g4⟩, g5⟩, g6⟩ := h5
  simp [Cond.before, Cond.holds, Cond.value, h1, h2, h3, h4, g1, g2, g3, g4, g5, g6]
def isCode : Jvm.Cond → Bool
  | .code _ _ _ _ => true
  | _ => false
theorem all_split {L : List Jvm.Cond} {P : Jvm.Cond → Bool} (h1 : L.all (fun c => isCode c || P c) = true) (h2 : ∀ c ∈ L.filter isCode, P c = true) : L.all P = true := by
  refine List.all_eq_true.mpr fun c hc => ?_
  have h := List.all_eq_true.mp h1 c hc
  rcases Bool.eq_false_or_eq_true (isCode c) with hi | hi
  · exact h2 c (List.mem_filter.mpr ⟨hc, hi⟩)
  · simpa [hi] using h
set_option maxRecDepth 65536 in
theorem w_c0 : (Jvm.Cond.code x code maxLocals ret).before args0 about1 = true := code_word (m := ⟨1, 1⟩) (meth := k1m1) (c := k1c1) (by decide +kernel) rfl rfl rfl (by decide +kernel)
set_option maxRecDepth 65536 in
theorem w_c1 : (Jvm.Cond.code ({ cls := "java/lang/Math", name := "max", desc := "(II)I" } : Jvm.MethodName) jdk_29_method_65_code (2 : Nat) (Option.some Jvm.ClassFile.FieldType.int)).before args0 about1 = true := code_word (m := ⟨2, 1⟩) (meth := k2m1) (c := k2c1) (by decide +kernel) rfl rfl rfl (by decide +kernel)
set_option maxRecDepth 65536 in
theorem w_c2 : (Jvm.Cond.code ({ cls := "com/example/tok256/tok256/store/LinearProbing", name := "home", desc := "(II)I" } : Jvm.MethodName) prog_25_method_2_code (2 : Nat) (Option.some Jvm.ClassFile.FieldType.int)).before args0 about1 = true := code_word (m := ⟨3, 1⟩) (meth := k3m1) (c := k3c1) (by decide +kernel) rfl rfl rfl (by decide +kernel)
def codes1 : List Jvm.Cond := [Jvm.Cond.code x code maxLocals ret, Jvm.Cond.code ({ cls := "java/lang/Math", name := "max", desc := "(II)I" } : Jvm.MethodName) jdk_29_method_65_code (2 : Nat) (Option.some Jvm.ClassFile.FieldType.int), Jvm.Cond.code ({ cls := "com/example/tok256/tok256/store/LinearProbing", name := "home", desc := "(II)I" } : Jvm.MethodName) prog_25_method_2_code (2 : Nat) (Option.some Jvm.ClassFile.FieldType.int)]
set_option maxRecDepth 65536 in
theorem codes_eq : words1.filter isCode = codes1 := rfl
theorem w_codes : ∀ c ∈ words1.filter isCode, c.before args0 about1 = true := by
  rw [codes_eq]
  intro c hc
  simp only [codes1, List.mem_cons, List.not_mem_nil, or_false] at hc
  rcases hc with rfl | rfl | rfl
  · exact w_c0
  · exact w_c1
  · exact w_c2
set_option maxRecDepth 65536 in
theorem w_t1 : words1.all (fun c => isCode c || c.before args0 about1) = true := by decide +kernel
theorem w_tables : (allAtoms (Jvm.Cond.code x code maxLocals ret :: tables_1)).before args0 about1 = true := by
  rw [allAtoms_all]
  show words1.all (fun c => c.before args0 about1) = true
  refine all_split ?_ w_codes
  rw [w_t1]
set_option maxRecDepth 65536 in
theorem w_case : (Jvm.Cond.and given_1 narrow_1).before args0 about1 = true := by decide +kernel
theorem w_applies : (headSpec (Jvm.Cond.code x code maxLocals ret :: tables_1) room_1).applies x e0.platform about1 = true :=
  (Spec.applies_iff w_frames).mpr ⟨w_running, w_runnable, w_alone, w_named, w_hears, w_ripe, w_room, w_tables⟩
theorem atStart : AtStart classFile x code maxLocals ret World_1 tables_1 room_1 Calls_1 rest_1 Pre_1 launch0 p0 e0 about1 theMethod args0 below0 :=
  ⟨lists_1, trivial, launch0.admits_env _ _ _, launch0.least_env, fairChoices_fair.cas, fairChoices_fair.clock, w_frames, w_args, w_heap, w_applies, trivial, trivial, w_case⟩
end start1
theorem witness_1 : WitnessClaimed_1 := ⟨start1.p0, start1.e0, start1.about1, start1.theMethod, start1.args0, start1.below0, start1.atStart⟩
end Jvm.Pilot.@@N@@
