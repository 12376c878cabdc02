import JvmDerived
import JvmDerived.Pilot.@@N@@Statement
import JvmDerived.Pilot.@@N@@Code
set_option linter.unusedVariables false
set_option linter.unusedSimpArgs false
@@BLOCK:HandJ.lean.txt@@
@@BLOCK:HandW.lean.txt@@
@@BLOCK:HandBits.lean.txt@@
@@BLOCK:SymRun.lean.txt@@
@@BLOCK:RowBasics.lean.txt@@
@@BLOCK:Bridge.lean.txt@@
@@BLOCK:SymKit.lean.txt@@
@@BLOCK:SymWays.lean.txt@@
@@BLOCK:Nums.lean.txt@@
namespace Jvm.Pilot.@@N@@
open Jvm Jvm.ClassFile Sem Op Jvm.Sym Jvm.Pilot.@@N@@.Jvm.D
/-! 0. own, general: what a walk by evaluation asks of numbers, paid by one evaluation -/
def own_k2 : Binary → VKind → VKind → Option VKind
  | .iand, .int, .int => some .int
  | .ior, .int, .int => some .int
  | .ixor, .int, .int => some .int
  | .ishl, .int, .int => some .int
  | .ishr, .int, .int => some .int
  | .iushr, .int, .int => some .int
  | .ladd, .long, .long => some .long
  | .lsub, .long, .long => some .long
  | .lmul, .long, .long => some .long
  | .land, .long, .long => some .long
  | .lor, .long, .long => some .long
  | .lxor, .long, .long => some .long
  | .lcmp, .long, .long => some .int
  | .lshl, .long, .int => some .long
  | .lshr, .long, .int => some .long
  | .lushr, .long, .int => some .long
  | _, _, _ => none
theorem own_k2_ok {o : Binary} {k1 k2 k : VKind} {v1 v2 : Value} (h : own_k2 o k1 k2 = some k) (h1 : k1.ok v1 = true) (h2 : k2.ok v2 = true) : ∃ v, o.apply v1 v2 = some v ∧ k.ok v = true := by
  cases k1 <;> cases k2 <;> cases o <;> simp only [own_k2, Option.some.injEq, reduceCtorEq] at h <;> subst h <;> cases v1 <;> simp only [VKind.ok, Bool.false_eq_true, reduceCtorEq] at h1 <;> cases v2 <;> simp only [VKind.ok, Bool.false_eq_true, reduceCtorEq] at h2 <;> exact ⟨_, rfl, rfl⟩
def own_k1 : Unary → VKind → Option VKind
  | .ineg, .int => some .int
  | .i2b, .int => some .int
  | .i2c, .int => some .int
  | .i2s, .int => some .int
  | .i2l, .int => some .long
  | .lneg, .long => some .long
  | .l2i, .long => some .int
  | _, _ => none
theorem own_k1_ok {o : Unary} {k1 k : VKind} {v1 : Value} (h : own_k1 o k1 = some k) (h1 : k1.ok v1 = true) : ∃ v, o.apply v1 = some v ∧ k.ok v = true := by
  cases k1 <;> cases o <;> simp only [own_k1, Option.some.injEq, reduceCtorEq] at h <;> subst h <;> cases v1 <;> simp only [VKind.ok, Bool.false_eq_true, reduceCtorEq] at h1 <;> exact ⟨_, rfl, rfl⟩
/-- terms whose kind is known beforehand (a quotient, a remainder) -/
def own_look (Kn : List (Term × VKind)) (t : Term) : Option VKind :=
  if Kn.contains (t, .int) then some .int else if Kn.contains (t, .long) then some .long else none
/-- the kind of a term over arguments of the kinds ks, where that is plain -/
def own_kind (ks : List VKind) (Kn : List (Term × VKind)) : Term → Option VKind
  | .arg i => ks[i]?
  | .int _ => some .int
  | .long _ => some .long
  | .old t => own_kind ks Kn t
  | .add a b => match own_kind ks Kn a, own_kind ks Kn b with
    | some .int, some .int => some .int
    | _, _ => none
  | .sub a b => match own_kind ks Kn a, own_kind ks Kn b with
    | some .int, some .int => some .int
    | _, _ => none
  | .mul a b => match own_kind ks Kn a, own_kind ks Kn b with
    | some .int, some .int => some .int
    | _, _ => none
  | .op1 o a => match own_kind ks Kn a with
    | some k => own_k1 o k
    | none => none
  | .op2 o a b => match own_kind ks Kn a, own_kind ks Kn b with
    | some k1, some k2 => (match own_k2 o k1 k2 with
      | some k => some k
      | none => own_look Kn (.op2 o a b))
    | _, _ => none
  | .rem a b => own_look Kn (.rem a b)
  | .div a b => own_look Kn (.div a b)
  | _ => none
section OwnA
variable {ks : List VKind} {Kn : List (Term × VKind)} {A : Array Value} {s : State}
theorem own_look_ok (hKn : ∀ p ∈ Kn, ∃ v, p.1.eval A s none [] s = some v ∧ p.2.ok v = true) {t : Term} {k : VKind} (h : own_look Kn t = some k) : ∃ v, t.eval A s none [] s = some v ∧ k.ok v = true := by
  unfold own_look at h
  split at h
  · rename_i h1; cases h; exact hKn _ (List.contains_iff_mem.mp h1)
  · split at h
    · rename_i h1; cases h; exact hKn _ (List.contains_iff_mem.mp h1)
    · cases h
theorem own_int {v : Value} (h : VKind.int.ok v = true) : ∃ x, v = .int x := by
  cases v <;> first | exact ⟨_, rfl⟩ | simp [VKind.ok] at h
theorem own_long {v : Value} (h : VKind.long.ok v = true) : ∃ x, v = .long x := by
  cases v <;> first | exact ⟨_, rfl⟩ | simp [VKind.ok] at h
theorem own_kind_ok (hks : ∀ (i : Nat) (k : VKind), ks[i]? = some k → ∃ v, A[i]? = some v ∧ k.ok v = true) (hKn : ∀ p ∈ Kn, ∃ v, p.1.eval A s none [] s = some v ∧ p.2.ok v = true) (t : Term) :
    ∀ k, own_kind ks Kn t = some k → ∃ v, t.eval A s none [] s = some v ∧ k.ok v = true := by
  induction t with
  | arg i => intro k h; exact hks i k h
  | int n => intro k h; cases h; exact ⟨_, rfl, rfl⟩
  | long n => intro k h; cases h; exact ⟨_, rfl, rfl⟩
  | old t ih => intro k h; exact ih k h
  | add a b iha ihb | sub a b iha ihb | mul a b iha ihb =>
    intro k h
    simp only [own_kind] at h
    split at h
    · rename_i ea eb
      obtain ⟨va, h1, k1⟩ := iha _ ea
      obtain ⟨vb, h2, k2⟩ := ihb _ eb
      obtain ⟨xa, rfl⟩ := own_int k1
      obtain ⟨xb, rfl⟩ := own_int k2
      cases h
      exact ⟨_, by simp only [Term.eval, h1, h2]; rfl, rfl⟩
    · cases h
  | op1 o a iha =>
    intro k h
    simp only [own_kind] at h
    split at h
    · rename_i k1 ea
      obtain ⟨va, h1, q1⟩ := iha _ ea
      obtain ⟨v, h2, q2⟩ := own_k1_ok h q1
      exact ⟨v, by simp only [Term.eval, h1]; exact h2, q2⟩
    · cases h
  | op2 o a b iha ihb =>
    intro k h
    simp only [own_kind] at h
    split at h
    · rename_i k1 k2 ea eb
      obtain ⟨va, h1, q1⟩ := iha _ ea
      obtain ⟨vb, h2, q2⟩ := ihb _ eb
      split at h
      · rename_i k' e2
        cases h
        obtain ⟨v, h3, q3⟩ := own_k2_ok e2 q1 q2
        exact ⟨v, by simp only [Term.eval, h1, h2]; exact h3, q3⟩
      · exact own_look_ok hKn h
    · cases h
  | rem a b => intro k h; exact own_look_ok hKn h
  | div a b => intro k h; exact own_look_ok hKn h
  | _ => intro k h; cases h
/-- a guard over numbers is worth something -/
def own_def (ks : List VKind) (Kn : List (Term × VKind)) : Jvm.Cond → Bool
  | .eq a b => match own_kind ks Kn a, own_kind ks Kn b with
    | some .int, some .int => true
    | _, _ => false
  | .lt a b => match own_kind ks Kn a, own_kind ks Kn b with
    | some .int, some .int => true
    | _, _ => false
  | .le a b => match own_kind ks Kn a, own_kind ks Kn b with
    | some .int, some .int => true
    | _, _ => false
  | .not c => own_def ks Kn c
  | _ => false
theorem own_def_ok (hks : ∀ (i : Nat) (k : VKind), ks[i]? = some k → ∃ v, A[i]? = some v ∧ k.ok v = true) (hKn : ∀ p ∈ Kn, ∃ v, p.1.eval A s none [] s = some v ∧ p.2.ok v = true) (q : Jvm.Cond) :
    own_def ks Kn q = true → ∃ b, q.value A s none s [] = some b := by
  induction q with
  | eq a b | lt a b | le a b =>
    intro h
    simp only [own_def] at h
    split at h
    · rename_i ea eb
      obtain ⟨va, h1, k1⟩ := own_kind_ok hks hKn _ _ ea
      obtain ⟨vb, h2, k2⟩ := own_kind_ok hks hKn _ _ eb
      obtain ⟨xa, rfl⟩ := own_int k1
      obtain ⟨xb, rfl⟩ := own_int k2
      first | exact ⟨_, Cond.eq_ints h1 h2⟩ | exact ⟨_, Cond.lt_ints h1 h2⟩ | exact ⟨_, Cond.le_ints h1 h2⟩
    · cases h
  | not c ih =>
    intro h
    obtain ⟨b, hb⟩ := ih h
    exact ⟨_, not_value hb⟩
  | _ => intro h; cases h
/-- a need of the walk, its guards left aside -/
def own_need (ks : List VKind) (Kn : List (Term × VKind)) (T : List Jvm.Cond) : Jvm.Cond → Bool
  | .or G N => own_def ks Kn G && own_need ks Kn T N
  | .and a b => own_need ks Kn T a && own_need ks Kn T b
  | .tt => true
  | .isInt t => decide (own_kind ks Kn t = some .int)
  | .isLong t => decide (own_kind ks Kn t = some .long)
  | q => T.contains q
theorem own_need_ok (hks : ∀ (i : Nat) (k : VKind), ks[i]? = some k → ∃ v, A[i]? = some v ∧ k.ok v = true) (hKn : ∀ p ∈ Kn, ∃ v, p.1.eval A s none [] s = some v ∧ p.2.ok v = true) {T : List Jvm.Cond} (hT : ∀ c ∈ T, c.before A s = true) (q : Jvm.Cond) :
    own_need ks Kn T q = true → q.before A s = true := by
  induction q with
  | or G N _ ih =>
    intro h
    simp only [own_need, Bool.and_eq_true] at h
    obtain ⟨b, hb⟩ := own_def_ok hks hKn G h.1
    exact or_before_def hb (fun _ => ih h.2)
  | and a b iha ihb =>
    intro h
    simp only [own_need, Bool.and_eq_true] at h
    rw [Cond.before_and, iha h.1, ihb h.2]; rfl
  | tt => intro _; rfl
  | isInt t =>
    intro h
    simp only [own_need, decide_eq_true_eq] at h
    obtain ⟨v, h1, k1⟩ := own_kind_ok hks hKn _ _ h
    obtain ⟨x, rfl⟩ := own_int k1
    simp [Cond.before, Cond.holds, Cond.value, h1]
  | isLong t =>
    intro h
    simp only [own_need, decide_eq_true_eq] at h
    obtain ⟨v, h1, k1⟩ := own_kind_ok hks hKn _ _ h
    obtain ⟨x, rfl⟩ := own_long k1
    simp [Cond.before, Cond.holds, Cond.value, h1]
  | _ => intro h; exact hT _ (List.contains_iff_mem.mp h)
theorem own_needs {L T : List Jvm.Cond} (hks : ∀ (i : Nat) (k : VKind), ks[i]? = some k → ∃ v, A[i]? = some v ∧ k.ok v = true) (hKn : ∀ p ∈ Kn, ∃ v, p.1.eval A s none [] s = some v ∧ p.2.ok v = true) (hT : ∀ c ∈ T, c.before A s = true)
    (h : (L.all fun q => own_need ks Kn T q) = true) : ∀ q ∈ L, q.before A s = true := fun q hq => own_need_ok hks hKn hT q (List.all_eq_true.mp h q hq)
/-! the tree, fork by fork -/
theorem own_fork {G : Jvm.Cond} {a b : STree} {w : Value} {P : Prop} [Decidable P] (hG : G.value A s none s [] = some (decide P)) (h1 : P → Kit.valueOf A s a = some w) (h2 : ¬ P → Kit.valueOf A s b = some w) : Kit.valueOf A s (.fork G a b) = some w := by
  by_cases h : P
  · have e : G.value A s none s [] = some true := by rw [hG, decide_eq_true h]
    simp only [Kit.valueOf, e]; exact h1 h
  · have e : G.value A s none s [] = some false := by rw [hG, decide_eq_false h]
    simp only [Kit.valueOf, e]; exact h2 h
theorem own_not {G : Jvm.Cond} {P : Prop} [Decidable P] (h : G.value A s none s [] = some (decide P)) : (Cond.not G).value A s none s [] = some (decide (¬ P)) := by
  rw [not_value h]; simp
theorem own_ile {a b : Term} {x y : Int32} (ha : a.eval A s none [] s = some (.int x)) (hb : b.eval A s none [] s = some (.int y)) : (Cond.le a b).value A s none s [] = some (decide (x.toInt ≤ y.toInt)) :=
  (Cond.le_ints ha hb).trans (congrArg some (decide_eq_decide.mpr Int32.le_iff_toInt_le))
theorem own_ilt {a b : Term} {x y : Int32} (ha : a.eval A s none [] s = some (.int x)) (hb : b.eval A s none [] s = some (.int y)) : (Cond.lt a b).value A s none s [] = some (decide (x.toInt < y.toInt)) :=
  (Cond.lt_ints ha hb).trans (congrArg some (decide_eq_decide.mpr Int32.lt_iff_toInt_lt))
theorem own_ieq {a b : Term} {x y : Int32} (ha : a.eval A s none [] s = some (.int x)) (hb : b.eval A s none [] s = some (.int y)) : (Cond.eq a b).value A s none s [] = some (decide (x.toInt = y.toInt)) :=
  (Cond.eq_ints ha hb).trans (congrArg some (decide_eq_decide.mpr Int32.toInt_inj.symm))
theorem own_lle {a : Term} {x y : Int64} (ha : a.eval A s none [] s = some (.int (Kit.lcmp x y))) : (Cond.le a (.int 0)).value A s none s [] = some (decide (x.toInt ≤ y.toInt)) :=
  (Cond.le_ints ha rfl).trans (congrArg some ((Kit.lcmp_nonpos x y).trans (decide_eq_decide.mpr Int64.le_iff_toInt_le)))
theorem own_lge {a : Term} {x y : Int64} (ha : a.eval A s none [] s = some (.int (Kit.lcmp x y))) : (Cond.le (.int 0) a).value A s none s [] = some (decide (y.toInt ≤ x.toInt)) :=
  (Cond.le_ints rfl ha).trans (congrArg some ((Kit.lcmp_nonneg x y).trans (decide_eq_decide.mpr Int64.le_iff_toInt_le)))
theorem own_llt {a : Term} {x y : Int64} (ha : a.eval A s none [] s = some (.int (Kit.lcmp x y))) : (Cond.lt a (.int 0)).value A s none s [] = some (decide (x.toInt < y.toInt)) :=
  (Cond.lt_ints ha rfl).trans (congrArg some ((Kit.lcmp_neg x y).trans (decide_eq_decide.mpr Int64.lt_iff_toInt_lt)))
theorem own_lgt {a : Term} {x y : Int64} (ha : a.eval A s none [] s = some (.int (Kit.lcmp x y))) : (Cond.lt (.int 0) a).value A s none s [] = some (decide (y.toInt < x.toInt)) :=
  (Cond.lt_ints rfl ha).trans (congrArg some ((Kit.lcmp_pos x y).trans (decide_eq_decide.mpr Int64.lt_iff_toInt_lt)))
theorem own_leq {a : Term} {x y : Int64} (ha : a.eval A s none [] s = some (.int (Kit.lcmp x y))) : (Cond.eq a (.int 0)).value A s none s [] = some (decide (x.toInt = y.toInt)) :=
  (Cond.eq_ints ha rfl).trans (congrArg some ((Kit.lcmp_zero x y).trans (decide_eq_decide.mpr Int64.toInt_inj.symm)))
end OwnA
def y1 : MethodName := ⟨"rivermend/runtime/EventTimes", "isLate", "(JJ)Z"⟩
def y1code : ByteArray := prog_187_method_3_code
def y1I : Info := { own := "rivermend/runtime/EventTimes", ret := some .boolean, longs := [(13, -9223372036854775808)] }
def y1out : Option (Cond × List Cond × List Cond) := walk y1I y1code 400 (entry [.long, .long] 4)
theorem y1walks : y1out.isSome = true := by decide +kernel
def y1got : Cond × List Cond × List Cond := y1out.get y1walks
def y1spec : Spec := specOf y1 y1code 4 (some .boolean) [.long, .long] y1got.1 y1got.2.1 y1got.2.2
theorem y1meets (l : Launch) : MeetsLoose l y1 y1spec :=
  walk_meets (n := 400) (I := y1I) (by decide) rfl rfl (show walk y1I y1code 400 (entry [.long, .long] 4) = some (y1got.1, y1got.2.1, y1got.2.2) from (Option.some_get y1walks).symm)
theorem y1cold : y1spec.Cold := Spec.cold_of_keeps (by decide +kernel)
def callee1 : Callee := { y := y1, S := y1spec, bytes := y1code, maxL := 4, ret := some .boolean, static := true, params := 2, res := some .int }
/-! 0b. own, general: a walk cut where roads meet -/
def own_oks : List VKind → List Value → Prop
  | [], [] => True
  | k :: ks, v :: vs => k.ok v = true ∧ own_oks ks vs
  | _, _ => False
theorem own_oks_of {A : Array Value} {u : State} : ∀ {xs : List SVal} {vs : List Value} {ks : List VKind}, DenStack A u xs vs → xs.map (·.k) = ks → own_oks ks vs
  | [], [], ks, _, h => by cases h; trivial
  | x :: xs, v :: vs, ks, hd, h => by
    cases h
    exact ⟨hd.1.2.2, own_oks_of hd.2 rfl⟩
  | [], _ :: _, _, hd, _ => hd.elim
  | _ :: _, [], _, hd, _ => hd.elim
/-- every road ends at the cut h, its live variables of the kinds ks -/
def own_cuts (h : Nat) (ks : List VKind) (mx : Nat) : STree → Bool
  | .ret _ _ => false
  | .cut σ => decide (σ.pc = h) && decide (σ.stack = []) && decide (σ.writes = []) && decide (σ.locals.length = mx) && decide ((unroot ks.length σ.locals).map (fun xs => xs.map (·.k)) = some ks)
  | .fork _ a b => own_cuts h ks mx a && own_cuts h ks mx b
theorem own_cuts_ok {sv : Vm} {F : Loc → Prop} {A : Array Value} {s : State} {Qr : Option SVal → List SWrite → Prop} {ksOf : Nat → Option (List VKind)} {mx h : Nat} {ks : List VKind} {K : Nat → Array Value → State → Prop} (hks : ksOf h = some ks) (hK : ∀ vs u', own_oks ks vs → K h vs.toArray u') :
    ∀ t : STree, own_cuts h ks mx t = true → t.VC A s Qr (QCuts sv F A s ksOf mx K)
  | .ret _ _, hc => by simp [own_cuts] at hc
  | .cut σ, hc => by
    simp only [own_cuts, Bool.and_eq_true, decide_eq_true_eq] at hc
    obtain ⟨⟨⟨⟨h1, h2⟩, h3⟩, h4⟩, h5⟩ := hc
    obtain ⟨xs, h6, h7⟩ := Option.map_eq_some_iff.mp h5
    refine ⟨ks, by rw [h1]; exact hks, h2, h4, fun y hy => ?_, xs, h6, h7, fun vs hd u' _ _ => ?_⟩
    · rw [h3] at hy; simp [places] at hy
    · rw [h1]; exact hK vs u' (own_oks_of hd h7)
  | .fork G a b, hc => by
    simp only [own_cuts, Bool.and_eq_true] at hc
    exact ⟨fun _ => own_cuts_ok hks hK a hc.1, fun _ => own_cuts_ok hks hK b hc.2⟩
theorem own_move {K : List Jvm.Cond} {args A : Array Value} {s u : State} (hvm : u.vm = s.vm) (hts : (allAtoms K).before args s = true) (h : (K.all fun d => d.onTables && d.keepsFace) = true) : ∀ q ∈ K, q.before A u = true :=
  fun q hq => Jvm.RoadKit.mv (Z := s) (hvm ▸ State.Warmed39.refl s) (atoms_spec hts q hq) (List.all_eq_true.mp h q hq)
theorem own_tabs {K L : List Jvm.Cond} {A : Array Value} {u : State} (hK : ∀ q ∈ K, q.before A u = true) (h : (L.all fun q => K.contains q) = true) : ∀ q ∈ L, q.before A u = true :=
  fun q hq => hK q (List.contains_iff_mem.mp (List.all_eq_true.mp h q hq))
theorem own_get {α β γ : Type} {o : Option (α × β × γ)} (h : o.isSome = true) : o = some ((o.get h).1, (o.get h).2.1, (o.get h).2.2) := by
  cases o with
  | none => cases h
  | some v => rfl
def I : Info := { own := x.cls, ret := ret, longs := [(9, -9223372036854775808), (11, 9223372036854775807), (13, -9223372036854775807)], calls := [(15, callee1)], maxLocals := maxLocals, room := room_1 }
theorem callsOk (l : Launch) : CallsOk l I maxLocals room_1 := fun q hq => by
  simp only [I, List.mem_cons, List.not_mem_nil, or_false] at hq
  subst hq; exact ⟨rfl, rfl, y1meets l, y1cold⟩
def w := walkTo I code [126] 400 true (entry [.long, .long, .int] maxLocals)
theorem w_some : w.isSome = true := by decide +kernel
def w1 := walkTo I code [126] 400 true (ident 126 [.long, .long, .int, .long, .int, .long, .int] maxLocals)
theorem w1_some : w1.isSome = true := by decide +kernel
def tm0 : Term := .op2 .lcmp (.arg 3) (.long (-9223372036854775808))
def tm1 : Term := .op2 .lcmp (.arg 5) (.arg 3)
def tm2 : Term := .op2 .lcmp (.long (-9223372036854775808)) (.long (-9223372036854775808))
def tm3 : Term := .op2 .iand (.int (0)) (.int (1))
def tm4 : Term := .op2 .iand (.int (1)) (.int (1))
def tm5 : Term := .op2 .lcmp (.long (-9223372036854775808)) (.arg 5)
def t1 : STree := .fork (.eq (.old tm0) (.int (0)))
  (.fork (.not (.eq (.old tm0) (.int (0))))
  (.fork (.le (.old tm1) (.int (0)))
  (.fork (.eq (.old tm2) (.int (0)))
  (.fork (.not (.eq (.old tm3) (.int (0))))
  (.fork (.not (.eq (.old tm3) (.old (.int (0)))))
  (.ret (some ⟨tm3, .int⟩) [])
  (.fork (.eq (.old (.int (0))) (.int (0)))
  (.ret (some ⟨tm3, .int⟩) [])
  (.ret (some ⟨tm4, .int⟩) [])))
  (.fork (.not (.eq (.old tm3) (.old (.int (0)))))
  (.ret (some ⟨tm3, .int⟩) [])
  (.fork (.eq (.old (.int (1))) (.int (0)))
  (.ret (some ⟨tm3, .int⟩) [])
  (.ret (some ⟨tm4, .int⟩) []))))
  (.fork (.le (.int (0)) (.old tm5))
  (.fork (.not (.eq (.old tm3) (.int (0))))
  (.fork (.not (.eq (.old tm3) (.old (.int (0)))))
  (.ret (some ⟨tm3, .int⟩) [])
  (.fork (.eq (.old (.int (0))) (.int (0)))
  (.ret (some ⟨tm3, .int⟩) [])
  (.ret (some ⟨tm4, .int⟩) [])))
  (.fork (.not (.eq (.old tm3) (.old (.int (0)))))
  (.ret (some ⟨tm3, .int⟩) [])
  (.fork (.eq (.old (.int (1))) (.int (0)))
  (.ret (some ⟨tm3, .int⟩) [])
  (.ret (some ⟨tm4, .int⟩) []))))
  (.fork (.not (.eq (.old tm4) (.int (0))))
  (.fork (.not (.eq (.old tm3) (.old (.int (0)))))
  (.ret (some ⟨tm3, .int⟩) [])
  (.fork (.eq (.old (.int (0))) (.int (0)))
  (.ret (some ⟨tm3, .int⟩) [])
  (.ret (some ⟨tm4, .int⟩) [])))
  (.fork (.not (.eq (.old tm3) (.old (.int (0)))))
  (.ret (some ⟨tm3, .int⟩) [])
  (.fork (.eq (.old (.int (1))) (.int (0)))
  (.ret (some ⟨tm3, .int⟩) [])
  (.ret (some ⟨tm4, .int⟩) []))))))
  (.fork (.eq (.old tm2) (.int (0)))
  (.fork (.not (.eq (.old tm3) (.int (0))))
  (.fork (.not (.eq (.old tm3) (.old (.int (1)))))
  (.ret (some ⟨tm3, .int⟩) [])
  (.fork (.eq (.old (.int (0))) (.int (0)))
  (.ret (some ⟨tm3, .int⟩) [])
  (.ret (some ⟨tm4, .int⟩) [])))
  (.fork (.not (.eq (.old tm3) (.old (.int (1)))))
  (.ret (some ⟨tm3, .int⟩) [])
  (.fork (.eq (.old (.int (1))) (.int (0)))
  (.ret (some ⟨tm3, .int⟩) [])
  (.ret (some ⟨tm4, .int⟩) []))))
  (.fork (.le (.int (0)) (.old tm5))
  (.fork (.not (.eq (.old tm3) (.int (0))))
  (.fork (.not (.eq (.old tm3) (.old (.int (1)))))
  (.ret (some ⟨tm3, .int⟩) [])
  (.fork (.eq (.old (.int (0))) (.int (0)))
  (.ret (some ⟨tm3, .int⟩) [])
  (.ret (some ⟨tm4, .int⟩) [])))
  (.fork (.not (.eq (.old tm3) (.old (.int (1)))))
  (.ret (some ⟨tm3, .int⟩) [])
  (.fork (.eq (.old (.int (1))) (.int (0)))
  (.ret (some ⟨tm3, .int⟩) [])
  (.ret (some ⟨tm4, .int⟩) []))))
  (.fork (.not (.eq (.old tm4) (.int (0))))
  (.fork (.not (.eq (.old tm3) (.old (.int (1)))))
  (.ret (some ⟨tm3, .int⟩) [])
  (.fork (.eq (.old (.int (0))) (.int (0)))
  (.ret (some ⟨tm3, .int⟩) [])
  (.ret (some ⟨tm4, .int⟩) [])))
  (.fork (.not (.eq (.old tm3) (.old (.int (1)))))
  (.ret (some ⟨tm3, .int⟩) [])
  (.fork (.eq (.old (.int (1))) (.int (0)))
  (.ret (some ⟨tm3, .int⟩) [])
  (.ret (some ⟨tm4, .int⟩) [])))))))
  (.fork (.eq (.old tm2) (.int (0)))
  (.fork (.not (.eq (.old tm3) (.int (0))))
  (.fork (.not (.eq (.old tm3) (.old (.int (0)))))
  (.ret (some ⟨tm3, .int⟩) [])
  (.fork (.eq (.old (.int (0))) (.int (0)))
  (.ret (some ⟨tm3, .int⟩) [])
  (.ret (some ⟨tm4, .int⟩) [])))
  (.fork (.not (.eq (.old tm3) (.old (.int (0)))))
  (.ret (some ⟨tm3, .int⟩) [])
  (.fork (.eq (.old (.int (1))) (.int (0)))
  (.ret (some ⟨tm3, .int⟩) [])
  (.ret (some ⟨tm4, .int⟩) []))))
  (.fork (.le (.int (0)) (.old tm5))
  (.fork (.not (.eq (.old tm3) (.int (0))))
  (.fork (.not (.eq (.old tm3) (.old (.int (0)))))
  (.ret (some ⟨tm3, .int⟩) [])
  (.fork (.eq (.old (.int (0))) (.int (0)))
  (.ret (some ⟨tm3, .int⟩) [])
  (.ret (some ⟨tm4, .int⟩) [])))
  (.fork (.not (.eq (.old tm3) (.old (.int (0)))))
  (.ret (some ⟨tm3, .int⟩) [])
  (.fork (.eq (.old (.int (1))) (.int (0)))
  (.ret (some ⟨tm3, .int⟩) [])
  (.ret (some ⟨tm4, .int⟩) []))))
  (.fork (.not (.eq (.old tm4) (.int (0))))
  (.fork (.not (.eq (.old tm3) (.old (.int (0)))))
  (.ret (some ⟨tm3, .int⟩) [])
  (.fork (.eq (.old (.int (0))) (.int (0)))
  (.ret (some ⟨tm3, .int⟩) [])
  (.ret (some ⟨tm4, .int⟩) [])))
  (.fork (.not (.eq (.old tm3) (.old (.int (0)))))
  (.ret (some ⟨tm3, .int⟩) [])
  (.fork (.eq (.old (.int (1))) (.int (0)))
  (.ret (some ⟨tm3, .int⟩) [])
  (.ret (some ⟨tm4, .int⟩) [])))))))
  (.fork (.le (.int (0)) (.old (.op2 .lcmp (.arg 3) (.arg 5))))
  (.fork (.not (.eq (.old tm0) (.int (0))))
  (.fork (.le (.old tm1) (.int (0)))
  (.fork (.eq (.old tm2) (.int (0)))
  (.fork (.not (.eq (.old tm3) (.int (0))))
  (.fork (.not (.eq (.old tm3) (.old (.int (0)))))
  (.ret (some ⟨tm3, .int⟩) [])
  (.fork (.eq (.old (.int (0))) (.int (0)))
  (.ret (some ⟨tm3, .int⟩) [])
  (.ret (some ⟨tm4, .int⟩) [])))
  (.fork (.not (.eq (.old tm3) (.old (.int (0)))))
  (.ret (some ⟨tm3, .int⟩) [])
  (.fork (.eq (.old (.int (1))) (.int (0)))
  (.ret (some ⟨tm3, .int⟩) [])
  (.ret (some ⟨tm4, .int⟩) []))))
  (.fork (.le (.int (0)) (.old tm5))
  (.fork (.not (.eq (.old tm3) (.int (0))))
  (.fork (.not (.eq (.old tm3) (.old (.int (0)))))
  (.ret (some ⟨tm3, .int⟩) [])
  (.fork (.eq (.old (.int (0))) (.int (0)))
  (.ret (some ⟨tm3, .int⟩) [])
  (.ret (some ⟨tm4, .int⟩) [])))
  (.fork (.not (.eq (.old tm3) (.old (.int (0)))))
  (.ret (some ⟨tm3, .int⟩) [])
  (.fork (.eq (.old (.int (1))) (.int (0)))
  (.ret (some ⟨tm3, .int⟩) [])
  (.ret (some ⟨tm4, .int⟩) []))))
  (.fork (.not (.eq (.old tm4) (.int (0))))
  (.fork (.not (.eq (.old tm3) (.old (.int (0)))))
  (.ret (some ⟨tm3, .int⟩) [])
  (.fork (.eq (.old (.int (0))) (.int (0)))
  (.ret (some ⟨tm3, .int⟩) [])
  (.ret (some ⟨tm4, .int⟩) [])))
  (.fork (.not (.eq (.old tm3) (.old (.int (0)))))
  (.ret (some ⟨tm3, .int⟩) [])
  (.fork (.eq (.old (.int (1))) (.int (0)))
  (.ret (some ⟨tm3, .int⟩) [])
  (.ret (some ⟨tm4, .int⟩) []))))))
  (.fork (.eq (.old tm2) (.int (0)))
  (.fork (.not (.eq (.old tm3) (.int (0))))
  (.fork (.not (.eq (.old tm3) (.old (.int (1)))))
  (.ret (some ⟨tm3, .int⟩) [])
  (.fork (.eq (.old (.int (0))) (.int (0)))
  (.ret (some ⟨tm3, .int⟩) [])
  (.ret (some ⟨tm4, .int⟩) [])))
  (.fork (.not (.eq (.old tm3) (.old (.int (1)))))
  (.ret (some ⟨tm3, .int⟩) [])
  (.fork (.eq (.old (.int (1))) (.int (0)))
  (.ret (some ⟨tm3, .int⟩) [])
  (.ret (some ⟨tm4, .int⟩) []))))
  (.fork (.le (.int (0)) (.old tm5))
  (.fork (.not (.eq (.old tm3) (.int (0))))
  (.fork (.not (.eq (.old tm3) (.old (.int (1)))))
  (.ret (some ⟨tm3, .int⟩) [])
  (.fork (.eq (.old (.int (0))) (.int (0)))
  (.ret (some ⟨tm3, .int⟩) [])
  (.ret (some ⟨tm4, .int⟩) [])))
  (.fork (.not (.eq (.old tm3) (.old (.int (1)))))
  (.ret (some ⟨tm3, .int⟩) [])
  (.fork (.eq (.old (.int (1))) (.int (0)))
  (.ret (some ⟨tm3, .int⟩) [])
  (.ret (some ⟨tm4, .int⟩) []))))
  (.fork (.not (.eq (.old tm4) (.int (0))))
  (.fork (.not (.eq (.old tm3) (.old (.int (1)))))
  (.ret (some ⟨tm3, .int⟩) [])
  (.fork (.eq (.old (.int (0))) (.int (0)))
  (.ret (some ⟨tm3, .int⟩) [])
  (.ret (some ⟨tm4, .int⟩) [])))
  (.fork (.not (.eq (.old tm3) (.old (.int (1)))))
  (.ret (some ⟨tm3, .int⟩) [])
  (.fork (.eq (.old (.int (1))) (.int (0)))
  (.ret (some ⟨tm3, .int⟩) [])
  (.ret (some ⟨tm4, .int⟩) [])))))))
  (.fork (.eq (.old tm2) (.int (0)))
  (.fork (.not (.eq (.old tm3) (.int (0))))
  (.fork (.not (.eq (.old tm3) (.old (.int (0)))))
  (.ret (some ⟨tm3, .int⟩) [])
  (.fork (.eq (.old (.int (0))) (.int (0)))
  (.ret (some ⟨tm3, .int⟩) [])
  (.ret (some ⟨tm4, .int⟩) [])))
  (.fork (.not (.eq (.old tm3) (.old (.int (0)))))
  (.ret (some ⟨tm3, .int⟩) [])
  (.fork (.eq (.old (.int (1))) (.int (0)))
  (.ret (some ⟨tm3, .int⟩) [])
  (.ret (some ⟨tm4, .int⟩) []))))
  (.fork (.le (.int (0)) (.old tm5))
  (.fork (.not (.eq (.old tm3) (.int (0))))
  (.fork (.not (.eq (.old tm3) (.old (.int (0)))))
  (.ret (some ⟨tm3, .int⟩) [])
  (.fork (.eq (.old (.int (0))) (.int (0)))
  (.ret (some ⟨tm3, .int⟩) [])
  (.ret (some ⟨tm4, .int⟩) [])))
  (.fork (.not (.eq (.old tm3) (.old (.int (0)))))
  (.ret (some ⟨tm3, .int⟩) [])
  (.fork (.eq (.old (.int (1))) (.int (0)))
  (.ret (some ⟨tm3, .int⟩) [])
  (.ret (some ⟨tm4, .int⟩) []))))
  (.fork (.not (.eq (.old tm4) (.int (0))))
  (.fork (.not (.eq (.old tm3) (.old (.int (0)))))
  (.ret (some ⟨tm3, .int⟩) [])
  (.fork (.eq (.old (.int (0))) (.int (0)))
  (.ret (some ⟨tm3, .int⟩) [])
  (.ret (some ⟨tm4, .int⟩) [])))
  (.fork (.not (.eq (.old tm3) (.old (.int (0)))))
  (.ret (some ⟨tm3, .int⟩) [])
  (.fork (.eq (.old (.int (1))) (.int (0)))
  (.ret (some ⟨tm3, .int⟩) [])
  (.ret (some ⟨tm4, .int⟩) [])))))))
  (.fork (.not (.eq (.old tm0) (.int (0))))
  (.fork (.le (.old tm1) (.int (0)))
  (.fork (.eq (.old tm2) (.int (0)))
  (.fork (.not (.eq (.old tm3) (.int (0))))
  (.fork (.not (.eq (.old tm4) (.old (.int (0)))))
  (.ret (some ⟨tm3, .int⟩) [])
  (.fork (.eq (.old (.int (0))) (.int (0)))
  (.ret (some ⟨tm3, .int⟩) [])
  (.ret (some ⟨tm4, .int⟩) [])))
  (.fork (.not (.eq (.old tm4) (.old (.int (0)))))
  (.ret (some ⟨tm3, .int⟩) [])
  (.fork (.eq (.old (.int (1))) (.int (0)))
  (.ret (some ⟨tm3, .int⟩) [])
  (.ret (some ⟨tm4, .int⟩) []))))
  (.fork (.le (.int (0)) (.old tm5))
  (.fork (.not (.eq (.old tm3) (.int (0))))
  (.fork (.not (.eq (.old tm4) (.old (.int (0)))))
  (.ret (some ⟨tm3, .int⟩) [])
  (.fork (.eq (.old (.int (0))) (.int (0)))
  (.ret (some ⟨tm3, .int⟩) [])
  (.ret (some ⟨tm4, .int⟩) [])))
  (.fork (.not (.eq (.old tm4) (.old (.int (0)))))
  (.ret (some ⟨tm3, .int⟩) [])
  (.fork (.eq (.old (.int (1))) (.int (0)))
  (.ret (some ⟨tm3, .int⟩) [])
  (.ret (some ⟨tm4, .int⟩) []))))
  (.fork (.not (.eq (.old tm4) (.int (0))))
  (.fork (.not (.eq (.old tm4) (.old (.int (0)))))
  (.ret (some ⟨tm3, .int⟩) [])
  (.fork (.eq (.old (.int (0))) (.int (0)))
  (.ret (some ⟨tm3, .int⟩) [])
  (.ret (some ⟨tm4, .int⟩) [])))
  (.fork (.not (.eq (.old tm4) (.old (.int (0)))))
  (.ret (some ⟨tm3, .int⟩) [])
  (.fork (.eq (.old (.int (1))) (.int (0)))
  (.ret (some ⟨tm3, .int⟩) [])
  (.ret (some ⟨tm4, .int⟩) []))))))
  (.fork (.eq (.old tm2) (.int (0)))
  (.fork (.not (.eq (.old tm3) (.int (0))))
  (.fork (.not (.eq (.old tm4) (.old (.int (1)))))
  (.ret (some ⟨tm3, .int⟩) [])
  (.fork (.eq (.old (.int (0))) (.int (0)))
  (.ret (some ⟨tm3, .int⟩) [])
  (.ret (some ⟨tm4, .int⟩) [])))
  (.fork (.not (.eq (.old tm4) (.old (.int (1)))))
  (.ret (some ⟨tm3, .int⟩) [])
  (.fork (.eq (.old (.int (1))) (.int (0)))
  (.ret (some ⟨tm3, .int⟩) [])
  (.ret (some ⟨tm4, .int⟩) []))))
  (.fork (.le (.int (0)) (.old tm5))
  (.fork (.not (.eq (.old tm3) (.int (0))))
  (.fork (.not (.eq (.old tm4) (.old (.int (1)))))
  (.ret (some ⟨tm3, .int⟩) [])
  (.fork (.eq (.old (.int (0))) (.int (0)))
  (.ret (some ⟨tm3, .int⟩) [])
  (.ret (some ⟨tm4, .int⟩) [])))
  (.fork (.not (.eq (.old tm4) (.old (.int (1)))))
  (.ret (some ⟨tm3, .int⟩) [])
  (.fork (.eq (.old (.int (1))) (.int (0)))
  (.ret (some ⟨tm3, .int⟩) [])
  (.ret (some ⟨tm4, .int⟩) []))))
  (.fork (.not (.eq (.old tm4) (.int (0))))
  (.fork (.not (.eq (.old tm4) (.old (.int (1)))))
  (.ret (some ⟨tm3, .int⟩) [])
  (.fork (.eq (.old (.int (0))) (.int (0)))
  (.ret (some ⟨tm3, .int⟩) [])
  (.ret (some ⟨tm4, .int⟩) [])))
  (.fork (.not (.eq (.old tm4) (.old (.int (1)))))
  (.ret (some ⟨tm3, .int⟩) [])
  (.fork (.eq (.old (.int (1))) (.int (0)))
  (.ret (some ⟨tm3, .int⟩) [])
  (.ret (some ⟨tm4, .int⟩) [])))))))
  (.fork (.eq (.old tm2) (.int (0)))
  (.fork (.not (.eq (.old tm3) (.int (0))))
  (.fork (.not (.eq (.old tm4) (.old (.int (0)))))
  (.ret (some ⟨tm3, .int⟩) [])
  (.fork (.eq (.old (.int (0))) (.int (0)))
  (.ret (some ⟨tm3, .int⟩) [])
  (.ret (some ⟨tm4, .int⟩) [])))
  (.fork (.not (.eq (.old tm4) (.old (.int (0)))))
  (.ret (some ⟨tm3, .int⟩) [])
  (.fork (.eq (.old (.int (1))) (.int (0)))
  (.ret (some ⟨tm3, .int⟩) [])
  (.ret (some ⟨tm4, .int⟩) []))))
  (.fork (.le (.int (0)) (.old tm5))
  (.fork (.not (.eq (.old tm3) (.int (0))))
  (.fork (.not (.eq (.old tm4) (.old (.int (0)))))
  (.ret (some ⟨tm3, .int⟩) [])
  (.fork (.eq (.old (.int (0))) (.int (0)))
  (.ret (some ⟨tm3, .int⟩) [])
  (.ret (some ⟨tm4, .int⟩) [])))
  (.fork (.not (.eq (.old tm4) (.old (.int (0)))))
  (.ret (some ⟨tm3, .int⟩) [])
  (.fork (.eq (.old (.int (1))) (.int (0)))
  (.ret (some ⟨tm3, .int⟩) [])
  (.ret (some ⟨tm4, .int⟩) []))))
  (.fork (.not (.eq (.old tm4) (.int (0))))
  (.fork (.not (.eq (.old tm4) (.old (.int (0)))))
  (.ret (some ⟨tm3, .int⟩) [])
  (.fork (.eq (.old (.int (0))) (.int (0)))
  (.ret (some ⟨tm3, .int⟩) [])
  (.ret (some ⟨tm4, .int⟩) [])))
  (.fork (.not (.eq (.old tm4) (.old (.int (0)))))
  (.ret (some ⟨tm3, .int⟩) [])
  (.fork (.eq (.old (.int (1))) (.int (0)))
  (.ret (some ⟨tm3, .int⟩) [])
  (.ret (some ⟨tm4, .int⟩) []))))))))
theorem own_value (a : Int64) (b : Int64) (c : Int32) (d : Int64) (k5 : Int32) (f : Int64) (g : Int32) (s : State) : Kit.valueOf #[.long a, .long b, .int c, .long d, .int k5, .long f, .int g] s t1 = some (.int 1) := by
  have := Jvm.RoadKit.rng64 a
  have := Jvm.RoadKit.rng64 b
  have := Jvm.RoadKit.rng32 c
  have := Jvm.RoadKit.rng64 d
  have := Jvm.RoadKit.rng32 k5
  have := Jvm.RoadKit.rng64 f
  have := Jvm.RoadKit.rng32 g
  have : (-9223372036854775808 : Int64).toInt = -9223372036854775808 := by decide
  have : (0 : Int32).toInt = 0 := by decide
  have : (1 : Int32).toInt = 1 := by decide
  have := Jvm.RoadKit.rng32 ((0 : Int32) &&& (1 : Int32))
  have : ((0 : Int32) &&& (1 : Int32)).toInt = (0 : Int32).toInt % 2 := Jvm.RoadKit.c_mask (0 : Int32) (1 : Int32) 1 (by decide) (by decide)
  have := Jvm.RoadKit.rng32 ((1 : Int32) &&& (1 : Int32))
  have : ((1 : Int32) &&& (1 : Int32)).toInt = (1 : Int32).toInt % 2 := Jvm.RoadKit.c_mask (1 : Int32) (1 : Int32) 1 (by decide) (by decide)
  refine own_fork (P := d.toInt = (-9223372036854775808 : Int64).toInt) (own_leq (x := d) (y := (-9223372036854775808 : Int64)) rfl) (fun h1 => ?_) (fun h1 => ?_)
  · refine own_fork (P := ¬ (d.toInt = (-9223372036854775808 : Int64).toInt)) (own_not (own_leq (x := d) (y := (-9223372036854775808 : Int64)) rfl)) (fun h2 => ?_) (fun h2 => ?_)
    · refine own_fork (P := f.toInt ≤ d.toInt) (own_lle (x := f) (y := d) rfl) (fun h3 => ?_) (fun h3 => ?_)
      · refine own_fork (P := (-9223372036854775808 : Int64).toInt = (-9223372036854775808 : Int64).toInt) (own_leq (x := (-9223372036854775808 : Int64)) (y := (-9223372036854775808 : Int64)) rfl) (fun h4 => ?_) (fun h4 => ?_)
        · refine own_fork (P := ¬ (((0 : Int32) &&& (1 : Int32)).toInt = (0 : Int32).toInt)) (own_not (own_ieq (x := ((0 : Int32) &&& (1 : Int32))) (y := (0 : Int32)) rfl rfl)) (fun h => absurd h (by decide)) (fun _ => ?_)
          refine own_fork (P := ¬ (((0 : Int32) &&& (1 : Int32)).toInt = (0 : Int32).toInt)) (own_not (own_ieq (x := ((0 : Int32) &&& (1 : Int32))) (y := (0 : Int32)) rfl rfl)) (fun h => absurd h (by decide)) (fun _ => ?_)
          refine own_fork (P := (1 : Int32).toInt = (0 : Int32).toInt) (own_ieq (x := (1 : Int32)) (y := (0 : Int32)) rfl rfl) (fun h => absurd h (by decide)) (fun _ => ?_)
          rfl
        · refine own_fork (P := f.toInt ≤ (-9223372036854775808 : Int64).toInt) (own_lge (x := (-9223372036854775808 : Int64)) (y := f) rfl) (fun h5 => ?_) (fun h5 => ?_)
          · refine own_fork (P := ¬ (((0 : Int32) &&& (1 : Int32)).toInt = (0 : Int32).toInt)) (own_not (own_ieq (x := ((0 : Int32) &&& (1 : Int32))) (y := (0 : Int32)) rfl rfl)) (fun h => absurd h (by decide)) (fun _ => ?_)
            refine own_fork (P := ¬ (((0 : Int32) &&& (1 : Int32)).toInt = (0 : Int32).toInt)) (own_not (own_ieq (x := ((0 : Int32) &&& (1 : Int32))) (y := (0 : Int32)) rfl rfl)) (fun h => absurd h (by decide)) (fun _ => ?_)
            refine own_fork (P := (1 : Int32).toInt = (0 : Int32).toInt) (own_ieq (x := (1 : Int32)) (y := (0 : Int32)) rfl rfl) (fun h => absurd h (by decide)) (fun _ => ?_)
            rfl
          · refine own_fork (P := ¬ (((1 : Int32) &&& (1 : Int32)).toInt = (0 : Int32).toInt)) (own_not (own_ieq (x := ((1 : Int32) &&& (1 : Int32))) (y := (0 : Int32)) rfl rfl)) (fun _ => ?_) (fun h => absurd (by decide) h)
            refine own_fork (P := ¬ (((0 : Int32) &&& (1 : Int32)).toInt = (0 : Int32).toInt)) (own_not (own_ieq (x := ((0 : Int32) &&& (1 : Int32))) (y := (0 : Int32)) rfl rfl)) (fun h => absurd h (by decide)) (fun _ => ?_)
            refine own_fork (P := (0 : Int32).toInt = (0 : Int32).toInt) (own_ieq (x := (0 : Int32)) (y := (0 : Int32)) rfl rfl) (fun _ => ?_) (fun h => absurd (by decide) h)
            exfalso; omega
      · refine own_fork (P := (-9223372036854775808 : Int64).toInt = (-9223372036854775808 : Int64).toInt) (own_leq (x := (-9223372036854775808 : Int64)) (y := (-9223372036854775808 : Int64)) rfl) (fun h4 => ?_) (fun h4 => ?_)
        · refine own_fork (P := ¬ (((0 : Int32) &&& (1 : Int32)).toInt = (0 : Int32).toInt)) (own_not (own_ieq (x := ((0 : Int32) &&& (1 : Int32))) (y := (0 : Int32)) rfl rfl)) (fun h => absurd h (by decide)) (fun _ => ?_)
          refine own_fork (P := ¬ (((0 : Int32) &&& (1 : Int32)).toInt = (1 : Int32).toInt)) (own_not (own_ieq (x := ((0 : Int32) &&& (1 : Int32))) (y := (1 : Int32)) rfl rfl)) (fun _ => ?_) (fun h => absurd (by decide) h)
          exfalso; omega
        · refine own_fork (P := f.toInt ≤ (-9223372036854775808 : Int64).toInt) (own_lge (x := (-9223372036854775808 : Int64)) (y := f) rfl) (fun h5 => ?_) (fun h5 => ?_)
          · refine own_fork (P := ¬ (((0 : Int32) &&& (1 : Int32)).toInt = (0 : Int32).toInt)) (own_not (own_ieq (x := ((0 : Int32) &&& (1 : Int32))) (y := (0 : Int32)) rfl rfl)) (fun h => absurd h (by decide)) (fun _ => ?_)
            refine own_fork (P := ¬ (((0 : Int32) &&& (1 : Int32)).toInt = (1 : Int32).toInt)) (own_not (own_ieq (x := ((0 : Int32) &&& (1 : Int32))) (y := (1 : Int32)) rfl rfl)) (fun _ => ?_) (fun h => absurd (by decide) h)
            exfalso; omega
          · refine own_fork (P := ¬ (((1 : Int32) &&& (1 : Int32)).toInt = (0 : Int32).toInt)) (own_not (own_ieq (x := ((1 : Int32) &&& (1 : Int32))) (y := (0 : Int32)) rfl rfl)) (fun _ => ?_) (fun h => absurd (by decide) h)
            refine own_fork (P := ¬ (((0 : Int32) &&& (1 : Int32)).toInt = (1 : Int32).toInt)) (own_not (own_ieq (x := ((0 : Int32) &&& (1 : Int32))) (y := (1 : Int32)) rfl rfl)) (fun _ => ?_) (fun h => absurd (by decide) h)
            exfalso; omega
    · refine own_fork (P := (-9223372036854775808 : Int64).toInt = (-9223372036854775808 : Int64).toInt) (own_leq (x := (-9223372036854775808 : Int64)) (y := (-9223372036854775808 : Int64)) rfl) (fun h3 => ?_) (fun h3 => ?_)
      · refine own_fork (P := ¬ (((0 : Int32) &&& (1 : Int32)).toInt = (0 : Int32).toInt)) (own_not (own_ieq (x := ((0 : Int32) &&& (1 : Int32))) (y := (0 : Int32)) rfl rfl)) (fun h => absurd h (by decide)) (fun _ => ?_)
        refine own_fork (P := ¬ (((0 : Int32) &&& (1 : Int32)).toInt = (0 : Int32).toInt)) (own_not (own_ieq (x := ((0 : Int32) &&& (1 : Int32))) (y := (0 : Int32)) rfl rfl)) (fun h => absurd h (by decide)) (fun _ => ?_)
        refine own_fork (P := (1 : Int32).toInt = (0 : Int32).toInt) (own_ieq (x := (1 : Int32)) (y := (0 : Int32)) rfl rfl) (fun h => absurd h (by decide)) (fun _ => ?_)
        rfl
      · refine own_fork (P := f.toInt ≤ (-9223372036854775808 : Int64).toInt) (own_lge (x := (-9223372036854775808 : Int64)) (y := f) rfl) (fun h4 => ?_) (fun h4 => ?_)
        · refine own_fork (P := ¬ (((0 : Int32) &&& (1 : Int32)).toInt = (0 : Int32).toInt)) (own_not (own_ieq (x := ((0 : Int32) &&& (1 : Int32))) (y := (0 : Int32)) rfl rfl)) (fun h => absurd h (by decide)) (fun _ => ?_)
          refine own_fork (P := ¬ (((0 : Int32) &&& (1 : Int32)).toInt = (0 : Int32).toInt)) (own_not (own_ieq (x := ((0 : Int32) &&& (1 : Int32))) (y := (0 : Int32)) rfl rfl)) (fun h => absurd h (by decide)) (fun _ => ?_)
          refine own_fork (P := (1 : Int32).toInt = (0 : Int32).toInt) (own_ieq (x := (1 : Int32)) (y := (0 : Int32)) rfl rfl) (fun h => absurd h (by decide)) (fun _ => ?_)
          rfl
        · refine own_fork (P := ¬ (((1 : Int32) &&& (1 : Int32)).toInt = (0 : Int32).toInt)) (own_not (own_ieq (x := ((1 : Int32) &&& (1 : Int32))) (y := (0 : Int32)) rfl rfl)) (fun _ => ?_) (fun h => absurd (by decide) h)
          refine own_fork (P := ¬ (((0 : Int32) &&& (1 : Int32)).toInt = (0 : Int32).toInt)) (own_not (own_ieq (x := ((0 : Int32) &&& (1 : Int32))) (y := (0 : Int32)) rfl rfl)) (fun h => absurd h (by decide)) (fun _ => ?_)
          refine own_fork (P := (0 : Int32).toInt = (0 : Int32).toInt) (own_ieq (x := (0 : Int32)) (y := (0 : Int32)) rfl rfl) (fun _ => ?_) (fun h => absurd (by decide) h)
          exfalso; omega
  · refine own_fork (P := f.toInt ≤ d.toInt) (own_lge (x := d) (y := f) rfl) (fun h2 => ?_) (fun h2 => ?_)
    · refine own_fork (P := ¬ (d.toInt = (-9223372036854775808 : Int64).toInt)) (own_not (own_leq (x := d) (y := (-9223372036854775808 : Int64)) rfl)) (fun h3 => ?_) (fun h3 => ?_)
      · refine own_fork (P := f.toInt ≤ d.toInt) (own_lle (x := f) (y := d) rfl) (fun h4 => ?_) (fun h4 => ?_)
        · refine own_fork (P := (-9223372036854775808 : Int64).toInt = (-9223372036854775808 : Int64).toInt) (own_leq (x := (-9223372036854775808 : Int64)) (y := (-9223372036854775808 : Int64)) rfl) (fun h5 => ?_) (fun h5 => ?_)
          · refine own_fork (P := ¬ (((0 : Int32) &&& (1 : Int32)).toInt = (0 : Int32).toInt)) (own_not (own_ieq (x := ((0 : Int32) &&& (1 : Int32))) (y := (0 : Int32)) rfl rfl)) (fun h => absurd h (by decide)) (fun _ => ?_)
            refine own_fork (P := ¬ (((0 : Int32) &&& (1 : Int32)).toInt = (0 : Int32).toInt)) (own_not (own_ieq (x := ((0 : Int32) &&& (1 : Int32))) (y := (0 : Int32)) rfl rfl)) (fun h => absurd h (by decide)) (fun _ => ?_)
            refine own_fork (P := (1 : Int32).toInt = (0 : Int32).toInt) (own_ieq (x := (1 : Int32)) (y := (0 : Int32)) rfl rfl) (fun h => absurd h (by decide)) (fun _ => ?_)
            rfl
          · refine own_fork (P := f.toInt ≤ (-9223372036854775808 : Int64).toInt) (own_lge (x := (-9223372036854775808 : Int64)) (y := f) rfl) (fun h6 => ?_) (fun h6 => ?_)
            · refine own_fork (P := ¬ (((0 : Int32) &&& (1 : Int32)).toInt = (0 : Int32).toInt)) (own_not (own_ieq (x := ((0 : Int32) &&& (1 : Int32))) (y := (0 : Int32)) rfl rfl)) (fun h => absurd h (by decide)) (fun _ => ?_)
              refine own_fork (P := ¬ (((0 : Int32) &&& (1 : Int32)).toInt = (0 : Int32).toInt)) (own_not (own_ieq (x := ((0 : Int32) &&& (1 : Int32))) (y := (0 : Int32)) rfl rfl)) (fun h => absurd h (by decide)) (fun _ => ?_)
              refine own_fork (P := (1 : Int32).toInt = (0 : Int32).toInt) (own_ieq (x := (1 : Int32)) (y := (0 : Int32)) rfl rfl) (fun h => absurd h (by decide)) (fun _ => ?_)
              rfl
            · refine own_fork (P := ¬ (((1 : Int32) &&& (1 : Int32)).toInt = (0 : Int32).toInt)) (own_not (own_ieq (x := ((1 : Int32) &&& (1 : Int32))) (y := (0 : Int32)) rfl rfl)) (fun _ => ?_) (fun h => absurd (by decide) h)
              refine own_fork (P := ¬ (((0 : Int32) &&& (1 : Int32)).toInt = (0 : Int32).toInt)) (own_not (own_ieq (x := ((0 : Int32) &&& (1 : Int32))) (y := (0 : Int32)) rfl rfl)) (fun h => absurd h (by decide)) (fun _ => ?_)
              refine own_fork (P := (0 : Int32).toInt = (0 : Int32).toInt) (own_ieq (x := (0 : Int32)) (y := (0 : Int32)) rfl rfl) (fun _ => ?_) (fun h => absurd (by decide) h)
              exfalso; omega
        · refine own_fork (P := (-9223372036854775808 : Int64).toInt = (-9223372036854775808 : Int64).toInt) (own_leq (x := (-9223372036854775808 : Int64)) (y := (-9223372036854775808 : Int64)) rfl) (fun h5 => ?_) (fun h5 => ?_)
          · refine own_fork (P := ¬ (((0 : Int32) &&& (1 : Int32)).toInt = (0 : Int32).toInt)) (own_not (own_ieq (x := ((0 : Int32) &&& (1 : Int32))) (y := (0 : Int32)) rfl rfl)) (fun h => absurd h (by decide)) (fun _ => ?_)
            refine own_fork (P := ¬ (((0 : Int32) &&& (1 : Int32)).toInt = (1 : Int32).toInt)) (own_not (own_ieq (x := ((0 : Int32) &&& (1 : Int32))) (y := (1 : Int32)) rfl rfl)) (fun _ => ?_) (fun h => absurd (by decide) h)
            exfalso; omega
          · refine own_fork (P := f.toInt ≤ (-9223372036854775808 : Int64).toInt) (own_lge (x := (-9223372036854775808 : Int64)) (y := f) rfl) (fun h6 => ?_) (fun h6 => ?_)
            · refine own_fork (P := ¬ (((0 : Int32) &&& (1 : Int32)).toInt = (0 : Int32).toInt)) (own_not (own_ieq (x := ((0 : Int32) &&& (1 : Int32))) (y := (0 : Int32)) rfl rfl)) (fun h => absurd h (by decide)) (fun _ => ?_)
              refine own_fork (P := ¬ (((0 : Int32) &&& (1 : Int32)).toInt = (1 : Int32).toInt)) (own_not (own_ieq (x := ((0 : Int32) &&& (1 : Int32))) (y := (1 : Int32)) rfl rfl)) (fun _ => ?_) (fun h => absurd (by decide) h)
              exfalso; omega
            · refine own_fork (P := ¬ (((1 : Int32) &&& (1 : Int32)).toInt = (0 : Int32).toInt)) (own_not (own_ieq (x := ((1 : Int32) &&& (1 : Int32))) (y := (0 : Int32)) rfl rfl)) (fun _ => ?_) (fun h => absurd (by decide) h)
              refine own_fork (P := ¬ (((0 : Int32) &&& (1 : Int32)).toInt = (1 : Int32).toInt)) (own_not (own_ieq (x := ((0 : Int32) &&& (1 : Int32))) (y := (1 : Int32)) rfl rfl)) (fun _ => ?_) (fun h => absurd (by decide) h)
              exfalso; omega
      · refine own_fork (P := (-9223372036854775808 : Int64).toInt = (-9223372036854775808 : Int64).toInt) (own_leq (x := (-9223372036854775808 : Int64)) (y := (-9223372036854775808 : Int64)) rfl) (fun h4 => ?_) (fun h4 => ?_)
        · refine own_fork (P := ¬ (((0 : Int32) &&& (1 : Int32)).toInt = (0 : Int32).toInt)) (own_not (own_ieq (x := ((0 : Int32) &&& (1 : Int32))) (y := (0 : Int32)) rfl rfl)) (fun h => absurd h (by decide)) (fun _ => ?_)
          refine own_fork (P := ¬ (((0 : Int32) &&& (1 : Int32)).toInt = (0 : Int32).toInt)) (own_not (own_ieq (x := ((0 : Int32) &&& (1 : Int32))) (y := (0 : Int32)) rfl rfl)) (fun h => absurd h (by decide)) (fun _ => ?_)
          refine own_fork (P := (1 : Int32).toInt = (0 : Int32).toInt) (own_ieq (x := (1 : Int32)) (y := (0 : Int32)) rfl rfl) (fun h => absurd h (by decide)) (fun _ => ?_)
          rfl
        · refine own_fork (P := f.toInt ≤ (-9223372036854775808 : Int64).toInt) (own_lge (x := (-9223372036854775808 : Int64)) (y := f) rfl) (fun h5 => ?_) (fun h5 => ?_)
          · refine own_fork (P := ¬ (((0 : Int32) &&& (1 : Int32)).toInt = (0 : Int32).toInt)) (own_not (own_ieq (x := ((0 : Int32) &&& (1 : Int32))) (y := (0 : Int32)) rfl rfl)) (fun h => absurd h (by decide)) (fun _ => ?_)
            refine own_fork (P := ¬ (((0 : Int32) &&& (1 : Int32)).toInt = (0 : Int32).toInt)) (own_not (own_ieq (x := ((0 : Int32) &&& (1 : Int32))) (y := (0 : Int32)) rfl rfl)) (fun h => absurd h (by decide)) (fun _ => ?_)
            refine own_fork (P := (1 : Int32).toInt = (0 : Int32).toInt) (own_ieq (x := (1 : Int32)) (y := (0 : Int32)) rfl rfl) (fun h => absurd h (by decide)) (fun _ => ?_)
            rfl
          · refine own_fork (P := ¬ (((1 : Int32) &&& (1 : Int32)).toInt = (0 : Int32).toInt)) (own_not (own_ieq (x := ((1 : Int32) &&& (1 : Int32))) (y := (0 : Int32)) rfl rfl)) (fun _ => ?_) (fun h => absurd (by decide) h)
            refine own_fork (P := ¬ (((0 : Int32) &&& (1 : Int32)).toInt = (0 : Int32).toInt)) (own_not (own_ieq (x := ((0 : Int32) &&& (1 : Int32))) (y := (0 : Int32)) rfl rfl)) (fun h => absurd h (by decide)) (fun _ => ?_)
            refine own_fork (P := (0 : Int32).toInt = (0 : Int32).toInt) (own_ieq (x := (0 : Int32)) (y := (0 : Int32)) rfl rfl) (fun _ => ?_) (fun h => absurd (by decide) h)
            exfalso; omega
    · refine own_fork (P := ¬ (d.toInt = (-9223372036854775808 : Int64).toInt)) (own_not (own_leq (x := d) (y := (-9223372036854775808 : Int64)) rfl)) (fun h3 => ?_) (fun h3 => ?_)
      · refine own_fork (P := f.toInt ≤ d.toInt) (own_lle (x := f) (y := d) rfl) (fun h4 => ?_) (fun h4 => ?_)
        · refine own_fork (P := (-9223372036854775808 : Int64).toInt = (-9223372036854775808 : Int64).toInt) (own_leq (x := (-9223372036854775808 : Int64)) (y := (-9223372036854775808 : Int64)) rfl) (fun h5 => ?_) (fun h5 => ?_)
          · refine own_fork (P := ¬ (((0 : Int32) &&& (1 : Int32)).toInt = (0 : Int32).toInt)) (own_not (own_ieq (x := ((0 : Int32) &&& (1 : Int32))) (y := (0 : Int32)) rfl rfl)) (fun h => absurd h (by decide)) (fun _ => ?_)
            refine own_fork (P := ¬ (((1 : Int32) &&& (1 : Int32)).toInt = (0 : Int32).toInt)) (own_not (own_ieq (x := ((1 : Int32) &&& (1 : Int32))) (y := (0 : Int32)) rfl rfl)) (fun _ => ?_) (fun h => absurd (by decide) h)
            exfalso; omega
          · refine own_fork (P := f.toInt ≤ (-9223372036854775808 : Int64).toInt) (own_lge (x := (-9223372036854775808 : Int64)) (y := f) rfl) (fun h6 => ?_) (fun h6 => ?_)
            · refine own_fork (P := ¬ (((0 : Int32) &&& (1 : Int32)).toInt = (0 : Int32).toInt)) (own_not (own_ieq (x := ((0 : Int32) &&& (1 : Int32))) (y := (0 : Int32)) rfl rfl)) (fun h => absurd h (by decide)) (fun _ => ?_)
              refine own_fork (P := ¬ (((1 : Int32) &&& (1 : Int32)).toInt = (0 : Int32).toInt)) (own_not (own_ieq (x := ((1 : Int32) &&& (1 : Int32))) (y := (0 : Int32)) rfl rfl)) (fun _ => ?_) (fun h => absurd (by decide) h)
              exfalso; omega
            · refine own_fork (P := ¬ (((1 : Int32) &&& (1 : Int32)).toInt = (0 : Int32).toInt)) (own_not (own_ieq (x := ((1 : Int32) &&& (1 : Int32))) (y := (0 : Int32)) rfl rfl)) (fun _ => ?_) (fun h => absurd (by decide) h)
              refine own_fork (P := ¬ (((1 : Int32) &&& (1 : Int32)).toInt = (0 : Int32).toInt)) (own_not (own_ieq (x := ((1 : Int32) &&& (1 : Int32))) (y := (0 : Int32)) rfl rfl)) (fun _ => ?_) (fun h => absurd (by decide) h)
              exfalso; omega
        · refine own_fork (P := (-9223372036854775808 : Int64).toInt = (-9223372036854775808 : Int64).toInt) (own_leq (x := (-9223372036854775808 : Int64)) (y := (-9223372036854775808 : Int64)) rfl) (fun h5 => ?_) (fun h5 => ?_)
          · refine own_fork (P := ¬ (((0 : Int32) &&& (1 : Int32)).toInt = (0 : Int32).toInt)) (own_not (own_ieq (x := ((0 : Int32) &&& (1 : Int32))) (y := (0 : Int32)) rfl rfl)) (fun h => absurd h (by decide)) (fun _ => ?_)
            refine own_fork (P := ¬ (((1 : Int32) &&& (1 : Int32)).toInt = (1 : Int32).toInt)) (own_not (own_ieq (x := ((1 : Int32) &&& (1 : Int32))) (y := (1 : Int32)) rfl rfl)) (fun h => absurd h (by decide)) (fun _ => ?_)
            refine own_fork (P := (1 : Int32).toInt = (0 : Int32).toInt) (own_ieq (x := (1 : Int32)) (y := (0 : Int32)) rfl rfl) (fun h => absurd h (by decide)) (fun _ => ?_)
            rfl
          · refine own_fork (P := f.toInt ≤ (-9223372036854775808 : Int64).toInt) (own_lge (x := (-9223372036854775808 : Int64)) (y := f) rfl) (fun h6 => ?_) (fun h6 => ?_)
            · refine own_fork (P := ¬ (((0 : Int32) &&& (1 : Int32)).toInt = (0 : Int32).toInt)) (own_not (own_ieq (x := ((0 : Int32) &&& (1 : Int32))) (y := (0 : Int32)) rfl rfl)) (fun h => absurd h (by decide)) (fun _ => ?_)
              refine own_fork (P := ¬ (((1 : Int32) &&& (1 : Int32)).toInt = (1 : Int32).toInt)) (own_not (own_ieq (x := ((1 : Int32) &&& (1 : Int32))) (y := (1 : Int32)) rfl rfl)) (fun h => absurd h (by decide)) (fun _ => ?_)
              refine own_fork (P := (1 : Int32).toInt = (0 : Int32).toInt) (own_ieq (x := (1 : Int32)) (y := (0 : Int32)) rfl rfl) (fun h => absurd h (by decide)) (fun _ => ?_)
              rfl
            · refine own_fork (P := ¬ (((1 : Int32) &&& (1 : Int32)).toInt = (0 : Int32).toInt)) (own_not (own_ieq (x := ((1 : Int32) &&& (1 : Int32))) (y := (0 : Int32)) rfl rfl)) (fun _ => ?_) (fun h => absurd (by decide) h)
              refine own_fork (P := ¬ (((1 : Int32) &&& (1 : Int32)).toInt = (1 : Int32).toInt)) (own_not (own_ieq (x := ((1 : Int32) &&& (1 : Int32))) (y := (1 : Int32)) rfl rfl)) (fun h => absurd h (by decide)) (fun _ => ?_)
              refine own_fork (P := (0 : Int32).toInt = (0 : Int32).toInt) (own_ieq (x := (0 : Int32)) (y := (0 : Int32)) rfl rfl) (fun _ => ?_) (fun h => absurd (by decide) h)
              exfalso; omega
      · refine own_fork (P := (-9223372036854775808 : Int64).toInt = (-9223372036854775808 : Int64).toInt) (own_leq (x := (-9223372036854775808 : Int64)) (y := (-9223372036854775808 : Int64)) rfl) (fun h4 => ?_) (fun h4 => ?_)
        · refine own_fork (P := ¬ (((0 : Int32) &&& (1 : Int32)).toInt = (0 : Int32).toInt)) (own_not (own_ieq (x := ((0 : Int32) &&& (1 : Int32))) (y := (0 : Int32)) rfl rfl)) (fun h => absurd h (by decide)) (fun _ => ?_)
          refine own_fork (P := ¬ (((1 : Int32) &&& (1 : Int32)).toInt = (0 : Int32).toInt)) (own_not (own_ieq (x := ((1 : Int32) &&& (1 : Int32))) (y := (0 : Int32)) rfl rfl)) (fun _ => ?_) (fun h => absurd (by decide) h)
          exfalso; omega
        · refine own_fork (P := f.toInt ≤ (-9223372036854775808 : Int64).toInt) (own_lge (x := (-9223372036854775808 : Int64)) (y := f) rfl) (fun h5 => ?_) (fun h5 => ?_)
          · refine own_fork (P := ¬ (((0 : Int32) &&& (1 : Int32)).toInt = (0 : Int32).toInt)) (own_not (own_ieq (x := ((0 : Int32) &&& (1 : Int32))) (y := (0 : Int32)) rfl rfl)) (fun h => absurd h (by decide)) (fun _ => ?_)
            refine own_fork (P := ¬ (((1 : Int32) &&& (1 : Int32)).toInt = (0 : Int32).toInt)) (own_not (own_ieq (x := ((1 : Int32) &&& (1 : Int32))) (y := (0 : Int32)) rfl rfl)) (fun _ => ?_) (fun h => absurd (by decide) h)
            exfalso; omega
          · refine own_fork (P := ¬ (((1 : Int32) &&& (1 : Int32)).toInt = (0 : Int32).toInt)) (own_not (own_ieq (x := ((1 : Int32) &&& (1 : Int32))) (y := (0 : Int32)) rfl rfl)) (fun _ => ?_) (fun h => absurd (by decide) h)
            refine own_fork (P := ¬ (((1 : Int32) &&& (1 : Int32)).toInt = (0 : Int32).toInt)) (own_not (own_ieq (x := ((1 : Int32) &&& (1 : Int32))) (y := (0 : Int32)) rfl rfl)) (fun _ => ?_) (fun h => absurd (by decide) h)
            exfalso; omega
theorem tree1 : (w1.get w1_some).1 = t1 := by decide +kernel
theorem seg_walk : walkTo I code [126] 400 true (ident 126 [.long, .long, .int, .long, .int, .long, .int] maxLocals) = some (t1, (w1.get w1_some).2.1, (w1.get w1_some).2.2) := by
  rw [← tree1]; exact own_get w1_some
theorem own_sorts {a : Int64} {b : Int64} {c : Int32} {s : State} : ∀ q ∈ Sym.sorts 0 [.long, .long, .int], q.before #[.long a, .long b, .int c] s = true := by
  intro q hq
  simp only [Sym.sorts, List.mem_cons, List.not_mem_nil, or_false] at hq
  rcases hq with rfl | rfl | rfl <;> simp [isK, Cond.before, Cond.holds, Cond.value, Term.eval]
theorem own_hks {a : Int64} {b : Int64} {c : Int32} : ∀ (i : Nat) (k : VKind), ([.long, .long, .int] : List VKind)[i]? = some k → ∃ v, (#[.long a, .long b, .int c] : Array Value)[i]? = some v ∧ k.ok v = true := by
  intro i k h
  match i, h with
  | 0, h => exact ⟨_, rfl, by cases h; rfl⟩
  | 1, h => exact ⟨_, rfl, by cases h; rfl⟩
  | 2, h => exact ⟨_, rfl, by cases h; rfl⟩
  | i + 3, h => simp at h
theorem own_args {args : Array Value} {x0 x1 x2 : Value} (hn : args.size = 3) (h0 : args[0]? = some x0) (h1 : args[1]? = some x1) (h2 : args[2]? = some x2) : args = #[x0, x1, x2] := by
  obtain ⟨L⟩ := args
  match L, hn with
  | [u0, u1, u2], _ =>
    simp only [List.getElem?_toArray, List.getElem?_cons_zero, List.getElem?_cons_succ, Option.some.injEq] at h0 h1 h2
    subst h0 h1 h2; rfl
theorem own_hks1 {a : Int64} {b : Int64} {c : Int32} {d : Int64} {k5 : Int32} {f : Int64} {g : Int32} : ∀ (i : Nat) (k : VKind), ([.long, .long, .int, .long, .int, .long, .int] : List VKind)[i]? = some k → ∃ v, (#[.long a, .long b, .int c, .long d, .int k5, .long f, .int g] : Array Value)[i]? = some v ∧ k.ok v = true := by
  intro i k h
  match i, h with
  | 0, h => exact ⟨_, rfl, by cases h; rfl⟩
  | 1, h => exact ⟨_, rfl, by cases h; rfl⟩
  | 2, h => exact ⟨_, rfl, by cases h; rfl⟩
  | 3, h => exact ⟨_, rfl, by cases h; rfl⟩
  | 4, h => exact ⟨_, rfl, by cases h; rfl⟩
  | 5, h => exact ⟨_, rfl, by cases h; rfl⟩
  | 6, h => exact ⟨_, rfl, by cases h; rfl⟩
  | i + 7, h => simp at h
theorem own_lit {vs : List Value} (h : own_oks [.long, .long, .int, .long, .int, .long, .int] vs) : ∃ (a : Int64) (b : Int64) (c : Int32) (d : Int64) (k5 : Int32) (f : Int64) (g : Int32), vs = [.long a, .long b, .int c, .long d, .int k5, .long f, .int g] := by
  match vs, h with
  | [x0, x1, x2, x3, x4, x5, x6], h =>
    obtain ⟨h0, h1, h2, h3, h4, h5, h6, -⟩ := h
    obtain ⟨a, rfl⟩ := own_long h0
    obtain ⟨b, rfl⟩ := own_long h1
    obtain ⟨c, rfl⟩ := own_int h2
    obtain ⟨d, rfl⟩ := own_long h3
    obtain ⟨k5, rfl⟩ := own_int h4
    obtain ⟨f, rfl⟩ := own_long h5
    obtain ⟨g, rfl⟩ := own_int h6
    exact ⟨a, b, c, d, k5, f, g, rfl⟩
def own_J (B : Array Value) : Prop := ∃ (a : Int64) (b : Int64) (c : Int32) (d : Int64) (k5 : Int32) (f : Int64) (g : Int32), B = #[.long a, .long b, .int c, .long d, .int k5, .long f, .int g]
theorem own_vc126 (t : STree) (ht : own_cuts 126 [.long, .long, .int, .long, .int, .long, .int] maxLocals t = true) {sv : Vm} {F : Loc → Prop} {A : Array Value} {s : State} {Qr : Option SVal → List SWrite → Prop} : t.VC A s Qr (QCuts sv F A s (fun h => if h = 126 then some [.long, .long, .int, .long, .int, .long, .int] else none) maxLocals (fun _ B _ => own_J B)) :=
  own_cuts_ok (h := 126) (ks := [.long, .long, .int, .long, .int, .long, .int]) (ksOf := fun h => if h = 126 then some [.long, .long, .int, .long, .int, .long, .int] else none) (K := fun _ B _ => own_J B) rfl (fun vs _ hv => by
    obtain ⟨a, b, c, d, k5, f, g, rfl⟩ := own_lit hv
    exact ⟨a, b, c, d, k5, f, g, rfl⟩) t ht
theorem entry_ex : ∃ t tabs needs, walkTo I code [126] 400 true (entry [.long, .long, .int] maxLocals) = some (t, tabs, needs) ∧ own_cuts 126 [.long, .long, .int, .long, .int, .long, .int] maxLocals t = true ∧ (tabs.all fun q => (Cond.code x code maxLocals ret :: tables_1).contains q) = true ∧ (needs.all fun q => own_need [.long, .long, .int] [] (Cond.code x code maxLocals ret :: tables_1) q) = true :=
  ⟨(w.get w_some).1, (w.get w_some).2.1, (w.get w_some).2.2, own_get w_some, by decide +kernel, by decide +kernel, by decide +kernel⟩
theorem seg_ex : ∃ t tabs needs, walkTo I code [126] 400 true (ident 126 [.long, .long, .int, .long, .int, .long, .int] maxLocals) = some (t, tabs, needs) ∧ Kit.pureVal t = true ∧ (∀ (a : Int64) (b : Int64) (c : Int32) (d : Int64) (k5 : Int32) (f : Int64) (g : Int32) (s : State), Kit.valueOf #[.long a, .long b, .int c, .long d, .int k5, .long f, .int g] s t = some (.int 1)) ∧ (tabs.all fun q => (Cond.code x code maxLocals ret :: tables_1).contains q) = true ∧ (needs.all fun q => own_need [.long, .long, .int, .long, .int, .long, .int] [] (Cond.code x code maxLocals ret :: tables_1) q) = true :=
  ⟨t1, (w1.get w1_some).2.1, (w1.get w1_some).2.2, seg_walk, by decide +kernel, own_value, by decide +kernel, by decide +kernel⟩
def post_1 : Cond := .and limb_1_1 limb_1_2
theorem met_1 (l : Launch) : MeetsLoose l x (armSpec x code maxLocals ret tables_1 room_1 .tt (.and given_1 narrow_1) post_1 frame_1_writes frame_1_arrays frame_1_statics) := by
  obtain ⟨t, tabs, needs, hwalk, k1, k2, k3⟩ := entry_ex
  obtain ⟨t', tabs', needs', hwalk', p1, p2, p3, p4⟩ := seg_ex
  refine loops_meets (I := I) (ks0 := [.long, .long, .int]) (cuts := [126]) (by decide) rfl rfl rfl rfl rfl (fun args s h => ?_) hwalk (fun h => if h = 126 then some [.long, .long, .int, .long, .int, .long, .int] else none) (fun _ _ _ B _ => own_J B) (fun _ _ _ => 0) (fun args s h => ?_) (fun args s h hh ks hks => ?_) (callsOk l)
  · simp only [armSpec, allAtoms, List.foldr_cons, Cond.before_and, Bool.and_eq_true] at h; exact h.1.1
  · have hts : (allAtoms (Cond.code x code maxLocals ret :: tables_1)).before args s = true := by simp only [armSpec, Cond.before_and, Bool.and_eq_true] at h; exact h.1
    simp only [armSpec, given_1, Cond.before_and, Bool.and_eq_true] at h
    obtain ⟨-, -, ⟨hc, q0, q1, q2⟩, hn⟩ := h
    obtain ⟨a, e0⟩ := Cond.isLong_spec q0
    obtain ⟨b, e1⟩ := Cond.isLong_spec q1
    obtain ⟨c, e2⟩ := Cond.isInt_spec q2
    obtain rfl := own_args (by simpa [Cond.before, Cond.holds, Cond.value] using hc) (show args[0]? = some (.long a) from e0) (show args[1]? = some (.long b) from e1) (show args[2]? = some (.int c) from e2)
    exact ⟨rfl, own_sorts, tabs_of_sub hts k2, own_needs own_hks (fun p hp => by cases hp) (atoms_spec hts) k3, own_vc126 t k1⟩
  · have hts : (allAtoms (Cond.code x code maxLocals ret :: tables_1)).before args s = true := by simp only [armSpec, Cond.before_and, Bool.and_eq_true] at h; exact h.1
    by_cases e : hh = 126
    · subst e
      rw [if_pos rfl] at hks; cases hks
      refine ⟨400, t', tabs', needs', hwalk', fun A u hvm hJ => ?_⟩
      obtain ⟨a, b, c, d, k5, f, g, rfl⟩ := hJ
      refine ⟨own_tabs (own_move rfl hts (by decide +kernel)) p3, own_needs own_hks1 (fun p hp => by cases hp) (own_move hvm hts (by decide +kernel)) p4, Kit.vc_of_value (w₀ := .int 1) (fun E => ?_) t' p1 (p2 a b c d k5 f g u)⟩
      simp [armSpec, post_1, limb_1_1, limb_1_2, Cond.after, Cond.holds, Cond.value, Term.eval]
    · rw [if_neg e] at hks; cases hks
theorem main_1_1 : Claimed_1_1 := armFor_of_meets0 (fun l => (met_1 l).meets) fun _ _ _ _ h => by simp only [post_1, Cond.after_and, Bool.and_eq_true] at h; exact h.1
theorem main_1_2 : Claimed_1_2 := armFor_of_meets0 (fun l => (met_1 l).meets) fun _ _ _ _ h => by simp only [post_1, Cond.after_and, Bool.and_eq_true] at h; exact h.2
end Jvm.Pilot.@@N@@
namespace Jvm.Pilot.@@N@@
open Jvm Jvm.ClassFile Sem Op Lib Jvm.Free Jvm.Stand Jvm.Pilot.@@N@@.Jvm.D
/-! MADE BY PROGRAM (witnessworld.py) out of the Statement's table words and the real class files: 9 classes; the members and pool entries that the words name. The judged class is class 1, her method 1. -/
namespace start1
open Jvm.ClassFile
def u (s : String) : CpInfo := .utf8 (stringToUtf16 s)
/-- a pool by its gaps: so many unusable entries, then the entry; so many at the end -/
def gap : Nat → List CpInfo → List CpInfo
  | 0, r => r
  | n + 1, r => .unusable :: gap n r
def poolList (es : List (Nat × CpInfo)) (last : Nat) : List CpInfo := es.foldr (fun e r => gap e.1 (e.2 :: r)) (gap last [])
def pool (es : List (Nat × CpInfo)) (last : Nat) : Array CpInfo := ⟨poolList es last⟩
def fileOf (pool : Array CpInfo) (this : Nat) (attrs : Array Attribute := #[]) (ms : Array MethodInfo := #[]) (fl : Nat := 33) (sup : Nat := 0) (ifs : Array Nat := #[]) (fds : Array FieldInfo := #[]) : ClassFile where
  minorVersion := 0
  majorVersion := 65
  constantPool := pool
  accessFlags := fl
  thisClass := this
  superClass := sup
  interfaces := ifs
  fields := fds
  methods := ms
  attributes := attrs
def plain (name : String) (sup : Option ClassId) : Class where
  name := name
  kind := .ordinary
  loader := none
  accessFlags := 33
  super := sup
  interfaces := #[]
  cf := none
  fields := #[]
  methods := #[]
  instanceTypes := #[]
  staticTypes := #[]
  resolved := #[]
  callSites := []
  init := .initialized
  statics := none
  mirror := none

def pool0 : Array CpInfo := pool [(5, u "<init>"), (0, u "()V"), (1, .class_ 10), (1, u "java/lang/Object")] 113

def k0m0 : Method := { name := "<init>", desc := "()V", sig := { parameters := [], returnType := none }, accessFlags := 1, code := none }
/-- java/lang/Object -/
def k0 : Class := { plain "java/lang/Object" none with
  accessFlags := 33
  interfaces := #[]
  cf := some (fileOf pool0 8 #[] #[{ accessFlags := 1, nameIndex := 5, descriptorIndex := 6, attributes := #[] }] 33 0 #[] #[])
  fields := #[]
  methods := #[k0m0]
  instanceTypes := #[]
  staticTypes := #[]
  resolved := Array.replicate 124 none
  statics := none }

def pool1 : Array CpInfo := pool [(2, .class_ 4), (1, u "java/lang/Object"), (0, u "<init>"), (0, u "()V"), (2, .long 9223372036854775808), (1, .long 9223372036854775807), (1, .long 9223372036854775809), (1, .methodref 16 17), (0, .class_ 18), (0, .nameAndType 19 20), (0, u "rivermend/runtime/EventTimes"), (0, u "isLate"), (0, u "(JJ)Z"), (0, .class_ 22), (0, u "rivermend/runtime/EventTimesIsLatePinLaw"), (2, u "law"), (0, u "(JJI)Z")] 3

def k1m0 : Method := { name := "<init>", desc := "()V", sig := { parameters := [], returnType := none }, accessFlags := 2, code := none }
def k1c1 : Code := { maxStack := 4, maxLocals := 14, code := code, exceptionTable := #[], attributes := #[] }
def k1m1 : Method := { name := "law", desc := "(JJI)Z", sig := { parameters := [.long, .long, .int], returnType := some .boolean }, accessFlags := 9, code := some k1c1 }
/-- rivermend/runtime/EventTimesIsLatePinLaw -/
def k1 : Class := { plain "rivermend/runtime/EventTimesIsLatePinLaw" (some 0) with
  accessFlags := 49
  interfaces := #[]
  cf := some (fileOf pool1 21 #[] #[{ accessFlags := 2, nameIndex := 5, descriptorIndex := 6, attributes := #[] }, { accessFlags := 9, nameIndex := 25, descriptorIndex := 26, attributes := #[] }] 49 2 #[] #[])
  fields := #[]
  methods := #[k1m0, k1m1]
  instanceTypes := #[]
  staticTypes := #[]
  resolved := Array.replicate 30 none
  statics := none }

def pool2 : Array CpInfo := pool [(6, .class_ 8), (1, u "java/lang/Object"), (0, u "<init>"), (0, u "()V"), (0, .class_ 12), (0, u "rivermend/runtime/EventTimes"), (0, .long 9223372036854775808), (9, u "NONE"), (0, u "J"), (1, u "ENDED"), (4, u "isLate"), (0, u "(JJ)Z")] 4

def k2m0 : Method := { name := "<init>", desc := "()V", sig := { parameters := [], returnType := none }, accessFlags := 2, code := none }
def k2c1 : Code := { maxStack := 4, maxLocals := 4, code := prog_187_method_3_code, exceptionTable := #[], attributes := #[] }
def k2m1 : Method := { name := "isLate", desc := "(JJ)Z", sig := { parameters := [.long, .long], returnType := some .boolean }, accessFlags := 8, code := some k2c1 }
/-- rivermend/runtime/EventTimes -/
def k2 : Class := { plain "rivermend/runtime/EventTimes" (some 0) with
  accessFlags := 48
  interfaces := #[]
  cf := some (fileOf pool2 11 #[] #[{ accessFlags := 2, nameIndex := 9, descriptorIndex := 10, attributes := #[] }, { accessFlags := 8, nameIndex := 31, descriptorIndex := 32, attributes := #[] }] 48 6 #[] #[{ accessFlags := 24, nameIndex := 23, descriptorIndex := 24, attributes := #[] }, { accessFlags := 24, nameIndex := 26, descriptorIndex := 24, attributes := #[] }])
  fields := #[{ name := "NONE", type := .long, accessFlags := 24, slot := 0, constantValue := 0 }, { name := "ENDED", type := .long, accessFlags := 24, slot := 1, constantValue := 0 }]
  methods := #[k2m0, k2m1]
  instanceTypes := #[]
  staticTypes := #[.long, .long]
  resolved := Array.replicate 37 none
  statics := none }

def pool3 : Array CpInfo := pool [(1, u "java/lang/Cloneable"), (0, .class_ 1), (0, u "java/lang/Object"), (0, .class_ 3)] 3

/-- java/lang/Cloneable -/
def k3 : Class := { plain "java/lang/Cloneable" (some 0) with
  accessFlags := 1537
  interfaces := #[]
  cf := some (fileOf pool3 2 #[] #[] 1537 4 #[] #[])
  fields := #[]
  methods := #[]
  instanceTypes := #[]
  staticTypes := #[]
  resolved := Array.replicate 8 none
  statics := none }

def pool4 : Array CpInfo := pool [(1, u "java/io/Serializable"), (0, .class_ 1), (0, u "java/lang/Object"), (0, .class_ 3)] 3

/-- java/io/Serializable -/
def k4 : Class := { plain "java/io/Serializable" (some 0) with
  accessFlags := 1537
  interfaces := #[]
  cf := some (fileOf pool4 2 #[] #[] 1537 4 #[] #[])
  fields := #[]
  methods := #[]
  instanceTypes := #[]
  staticTypes := #[]
  resolved := Array.replicate 8 none
  statics := none }

/-- the primitive byte -/
def k5 : Class := { plain "byte" none with kind := .primitive 'B', accessFlags := 0x411 }
/-- [B -/
def k6 : Class := { plain "[B" (some 0) with kind := .array 5 .byte, interfaces := #[3, 4], accessFlags := 1041 }

/-- the primitive int -/
def k7 : Class := { plain "int" none with kind := .primitive 'I', accessFlags := 0x411 }
/-- [I -/
def k8 : Class := { plain "[I" (some 0) with kind := .array 7 .int, interfaces := #[3, 4], accessFlags := 1041 }

def heap : Heap := #[]
def classes : Array Class := #[k0, k1, k2, k3, k4, k5, k6, k7, k8]
def interned : List (Array UInt16 × Addr) := []
def slotsUsed : Nat := 0
def theMethod : MethodId := ⟨1, 1⟩
def args0 : Array Value := #[.long 5, .long 7, .int 9]
def aboutOver (below : List Frame) : State where
  vm := { classes := classes, interned := interned.toArray }
  heap := heap
  slotsUsed := slotsUsed
  threads := #[{ frames := .invoking theMethod args0 :: below }]
def below0 : List Frame := [.native { method := ⟨0, 0⟩, args := #[] }]
def about1 : State := aboutOver below0
def p0 : Program := .bare "" "" ""
def e0 : Env := launch0.env 0 0 0
theorem w_frames : about1.frames = Frame.invoking theMethod args0 :: below0 := rfl
set_option maxRecDepth 65536 in
theorem w_args : argsFit about1.vm theMethod args0 = true := by decide +kernel
set_option maxRecDepth 65536 in
theorem w_heap : heapFits about1 = true := by decide +kernel
set_option maxRecDepth 65536 in
theorem w_runnable : about1.curStatus? = some .runnable := by decide +kernel
set_option maxRecDepth 65536 in
theorem w_alone : about1.alone = true := by decide +kernel
set_option maxRecDepth 65536 in
theorem w_named : about1.methodNamed? x = some theMethod := by decide +kernel
set_option maxRecDepth 65536 in
theorem w_hears : about1.hears theMethod below0 = true := by decide +kernel
set_option maxRecDepth 65536 in
theorem w_ripe : about1.ripe theMethod args0 below0 = true := by decide +kernel
theorem w_running : about1.status = .running := rfl
set_option maxRecDepth 65536 in
theorem w_room : about1.hasRoom e0.platform room_1 = true :=
  launch0.hasRoom_least _ room_1 (by decide +kernel) (by decide +kernel) (by decide +kernel) (by decide +kernel) (by decide +kernel) (by decide +kernel)
theorem allAtoms_all (ts : List Jvm.Cond) (a : Array Jvm.Value) (st : Jvm.State) : (allAtoms ts).before a st = ts.all (fun c => c.before a st) := by
  induction ts with
  | nil => rfl
  | cons c t ih =>
    show (Jvm.Cond.and c (allAtoms t)).before a st = _
    rw [Jvm.Cond.before_and, ih, List.all_cons]
def words1 : List Jvm.Cond := Jvm.Cond.code x code maxLocals ret :: tables_1
/-- a 'code' word, met by the world's own term for the bytes: nothing is compared byte by byte -/
theorem code_word {y : MethodName} {bytes : ByteArray} {mx : Nat} {rt : Option FieldType} {a : Array Value} {s : State} {m : MethodId} {meth : Method} {c : Code} (h1 : s.methodNamed? y = some m) (h2 : s.vm.method? m = some meth) (h3 : meth.code = some c) (h4 : c.code = bytes)
    (h5 : (c.maxLocals == mx && c.exceptionTable.isEmpty && decide (c.maxStack ≤ mostOperands) && decide (meth.sig.returnType = rt) && !meth.locks && decide (parseMethodDescriptor y.desc = some meth.sig)) = true) : (Jvm.Cond.code y bytes mx rt).before a s = true := by
  simp only [Bool.and_eq_true, beq_iff_eq, Bool.not_eq_true', decide_eq_true_eq] at h5
  obtain ⟨⟨⟨⟨⟨g1, g2⟩, g3⟩, g4⟩, g5⟩, g6⟩ := h5
  simp [Cond.before, Cond.holds, Cond.value, h1, h2, h3, h4, g1, g2, g3, g4, g5, g6]
def isCode : Jvm.Cond → Bool
  | .code _ _ _ _ => true
  | _ => false
theorem all_split {L : List Jvm.Cond} {P : Jvm.Cond → Bool} (h1 : L.all (fun c => isCode c || P c) = true) (h2 : ∀ c ∈ L.filter isCode, P c = true) : L.all P = true := by
  refine List.all_eq_true.mpr fun c hc => ?_
  have h := List.all_eq_true.mp h1 c hc
  rcases Bool.eq_false_or_eq_true (isCode c) with hi | hi
  · exact h2 c (List.mem_filter.mpr ⟨hc, hi⟩)
  · simpa [hi] using h
set_option maxRecDepth 65536 in
theorem w_c0 : (Jvm.Cond.code x code maxLocals ret).before args0 about1 = true := code_word (m := ⟨1, 1⟩) (meth := k1m1) (c := k1c1) (by decide +kernel) rfl rfl rfl (by decide +kernel)
set_option maxRecDepth 65536 in
theorem w_c1 : (Jvm.Cond.code ({ cls := "rivermend/runtime/EventTimes", name := "isLate", desc := "(JJ)Z" } : Jvm.MethodName) prog_187_method_3_code (4 : Nat) (Option.some Jvm.ClassFile.FieldType.boolean)).before args0 about1 = true := code_word (m := ⟨2, 1⟩) (meth := k2m1) (c := k2c1) (by decide +kernel) rfl rfl rfl (by decide +kernel)
def codes1 : List Jvm.Cond := [Jvm.Cond.code x code maxLocals ret, Jvm.Cond.code ({ cls := "rivermend/runtime/EventTimes", name := "isLate", desc := "(JJ)Z" } : Jvm.MethodName) prog_187_method_3_code (4 : Nat) (Option.some Jvm.ClassFile.FieldType.boolean)]
set_option maxRecDepth 65536 in
theorem codes_eq : words1.filter isCode = codes1 := rfl
theorem w_codes : ∀ c ∈ words1.filter isCode, c.before args0 about1 = true := by
  rw [codes_eq]
  intro c hc
  simp only [codes1, List.mem_cons, List.not_mem_nil, or_false] at hc
  rcases hc with rfl | rfl
  · exact w_c0
  · exact w_c1
set_option maxRecDepth 65536 in
theorem w_t1 : words1.all (fun c => isCode c || c.before args0 about1) = true := by decide +kernel
theorem w_tables : (allAtoms (Jvm.Cond.code x code maxLocals ret :: tables_1)).before args0 about1 = true := by
  rw [allAtoms_all]
  show words1.all (fun c => c.before args0 about1) = true
  refine all_split ?_ w_codes
  rw [w_t1]
set_option maxRecDepth 65536 in
theorem w_case : (Jvm.Cond.and given_1 narrow_1).before args0 about1 = true := by decide +kernel
theorem w_applies : (headSpec (Jvm.Cond.code x code maxLocals ret :: tables_1) room_1).applies x e0.platform about1 = true :=
  (Spec.applies_iff w_frames).mpr ⟨w_running, w_runnable, w_alone, w_named, w_hears, w_ripe, w_room, w_tables⟩
theorem atStart : AtStart classFile x code maxLocals ret World_1 tables_1 room_1 Calls_1 rest_1 Pre_1 launch0 p0 e0 about1 theMethod args0 below0 :=
  ⟨lists_1, trivial, launch0.admits_env _ _ _, launch0.least_env, fairChoices_fair.cas, fairChoices_fair.clock, w_frames, w_args, w_heap, w_applies, trivial, trivial, w_case⟩
end start1
theorem witness_1 : WitnessClaimed_1 := ⟨start1.p0, start1.e0, start1.about1, start1.theMethod, start1.args0, start1.below0, start1.atStart⟩
end Jvm.Pilot.@@N@@
