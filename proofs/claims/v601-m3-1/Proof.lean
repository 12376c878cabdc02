import JvmDerived
import JvmDerived.Pilot.@@N@@Statement
import JvmDerived.Pilot.@@N@@Code
set_option linter.unusedVariables false
set_option linter.unusedSimpArgs false
namespace Jvm.RoadKit
open Sem ClassFile Op Lib Jvm.Stand Jvm.Free Jvm.LawKit
section New
variable {p : Program} {l : Launch} {e : Env} {R : Room} {s : State} {m : MethodId} {args : Array Value} {below : List Frame} {meth : Method} {c : Code} {T : State} {locs : List Loc} {cells slots : Nat}
theorem retI (X : Stand p l e R s m args below meth c T locs cells slots) (hx : p.tables.exec = Jvm.exec) {pc : Nat} {Ls : Array Slot} {z : Int32} {rest : List Value} (hret : meth.sig.returnType = some .int) (hd : decode c.code pc = .ok (.ireturn, 1)) {fs : List Frame}
    (hl : ∀ (f : JFrame) (acts : List Action), f.method = m → f.locked = none → f.entered = [] → (doReturn e (T.setTop f) acts (some (.int z))).1 = T.setFrames fs) : Steps p.tables e below (T.setTop (mkF m pc Ls (.int z :: rest))) (T.setFrames fs) := by
  have hm' : T.vm.method? m = some meth := X.method'
  have hn : narrow .int (.int z) = .int z := rfl
  show Steps p.tables e below (T.setTop { method := m, pc := pc, locals := Ls, stack := _ :: rest, locked := none }) _
  jvm_step X.here [X.here.top, hx, hd, hm', hret, hn]
  first | (intro acts; rw [hl _ acts rfl rfl rfl]) | rw [hl _ _ rfl rfl rfl]
  exact Steps.refl _
end New
end Jvm.RoadKit
namespace Jvm.Pilot.@@N@@
open Jvm Jvm.ClassFile Sem Op Lib Jvm.Free Jvm.Stand Jvm.LawKit Jvm.RoadKit Bundle Jvm.Pilot.@@N@@.Jvm.D
/-! 0. own, general: a walk that goes forward and may fork; byte arrays by a function -/
theorem own_tlt {x y : Int32} (h : x.toInt < y.toInt) : if_icmp.holds .lt x y = true ∧ if_icmp.holds .ge x y = false ∧ if_icmp.holds .gt y x = true ∧ if_icmp.holds .le y x = false := tlt (Int32.lt_iff_toInt_lt.mpr h)
theorem own_flt {x y : Int32} (h : ¬ x.toInt < y.toInt) : if_icmp.holds .lt x y = false ∧ if_icmp.holds .ge x y = true ∧ if_icmp.holds .gt y x = false ∧ if_icmp.holds .le y x = true := flt (fun q => h (Int32.lt_iff_toInt_lt.mp q))
theorem own_teq {x y : Int32} (h : x.toInt = y.toInt) : if_icmp.holds .eq x y = true ∧ if_icmp.holds .ne x y = false := teq (Int32.toInt_inj.mp h)
theorem own_feq {x y : Int32} (h : ¬ x.toInt = y.toInt) : if_icmp.holds .eq x y = false ∧ if_icmp.holds .ne x y = true := feq (fun q => h (congrArg Int32.toInt q))
theorem own_idx {j : Int32} {i : Nat} (h : j.toInt = i) : ¬ j < 0 ∧ j.toNatClampNeg = i := by
  constructor
  · rw [Int32.lt_iff_toInt_lt, h, show (0 : Int32).toInt = 0 from rfl]; omega
  · rw [Int32.toNatClampNeg, h]; rfl
/-- a byte array: n components, the i-th is f i -/
def own_arr (Z : State) (h : Heap) (a : Addr) (n : Nat) (f : Nat → Int32) : Prop :=
  ∃ cl : Cell, Arr Z h a cl .byte ∧ cl.slots.size = n ∧ (∀ i, i < n → cl.slots[i]? = some (.int (f i))) ∧ ∀ i, i < n → -128 ≤ (f i).toInt ∧ (f i).toInt < 128
theorem own_arr_rng {Z : State} {h : Heap} {a : Addr} {n : Nat} {f : Nat → Int32} (V : own_arr Z h a n f) : ∀ i, i < n → -128 ≤ (f i).toInt ∧ (f i).toInt < 128 := by
  obtain ⟨cl, -, -, -, G⟩ := V; exact G
theorem own_arr_lt {Z : State} {h : Heap} {a : Addr} {n : Nat} {f : Nat → Int32} (V : own_arr Z h a n f) : a < h.size := by
  obtain ⟨cl, A, -⟩ := V; exact A.lt
theorem own_nar (x : Int32) : -128 ≤ (nar .byte x).toInt ∧ (nar .byte x).toInt < 128 := (c_i2b x).2
section OwnN
variable {p : Program} {l : Launch} {e : Env} {R : Room} {s : State} {m : MethodId} {args : Array Value} {below : List Frame} {meth : Method} {c : Code} {T : State} {locs : List Loc} {cells slots : Nat} {Z : State} {a0 : Array Value} {h : Heap}
theorem own_ld (X : Stand p l e R s m args below meth c T locs cells slots) (hx : p.tables.exec = Jvm.exec) (hZ : Z.Warmed39 s.vm) (eT : T.heap = h) {a : Addr} {n : Nat} {f : Nat → Int32} (V : own_arr Z h a n f) {j : Int32} {i : Nat} (hj : j.toInt = i) (hi : i < n) {pc : Nat} {Ls : Array Slot} {rest : List Value} (hd : decode c.code pc = .ok (.baload, 1)) {target : State}
    (k : Steps p.tables e below (T.setTop (mkF m (pc + 1) Ls (.int (f i) :: rest))) target) : Steps p.tables e below (T.setTop (mkF m pc Ls (.int j :: .ref a :: rest))) target := by
  obtain ⟨cl, A, S, H, -⟩ := V
  obtain ⟨q1, q2⟩ := own_idx hj
  exact X.baloadBytes hx (j := j) (v := .int (f i)) (by rw [eT]; exact A.1) (State.isArrayOf_alike hZ.alike A.2.1) A.2.2 (fun q => by
    rcases q with q | q
    · exact q1 q
    · rw [q2, S] at q; omega) (by rw [q2]; exact H i hi) (g := mkF m pc Ls (.int j :: .ref a :: rest)) rfl rfl hd _ k
theorem own_sto (X : Stand p l e R s m args below meth c T locs cells slots) (hx : p.tables.exec = Jvm.exec) (hZ : Z.Warmed39 s.vm) (eT : T.heap = h) {a : Addr} {n : Nat} {f : Nat → Int32} (V : own_arr Z h a n f) {j x : Int32} {i : Nat} (hj : j.toInt = i) (hi : i < n) {pc : Nat} (hd : decode c.code pc = .ok (.bastore, 1)) {n0 : Nat} (N : Fr n0 locs) (ha : n0 ≤ a) :
    ∃ (T' : State) (locs' : List Loc) (f' : Nat → Int32), Stand p l e R s m args below meth c T' locs' cells slots ∧ Fr n0 locs' ∧ own_arr Z T'.heap a n f' ∧ f' i = nar .byte x ∧ (∀ k, k ≠ i → f' k = f k) ∧
      ∀ (Ls : Array Slot) (rest : List Value) (target : State), Steps p.tables e below (T'.setTop (mkF m (pc + 1) Ls rest)) target → Steps p.tables e below (T.setTop (mkF m pc Ls (.int x :: .int j :: .ref a :: rest))) target := by
  obtain ⟨cl, A, S, H, G⟩ := V
  obtain ⟨q1, q2⟩ := own_idx hj
  have hin : ¬ (j < 0 ∨ cl.slots.size ≤ j.toNatClampNeg) := fun q => by
    rcases q with q | q
    · exact q1 q
    · rw [q2, S] at q; omega
  obtain ⟨X', st⟩ : Stand p l e R s m args below meth c (T.setCell a (cl.setSlot j.toNatClampNeg (.int (nar .byte x)))) (locs ++ [⟨a, j.toNatClampNeg⟩]) cells slots ∧ ∀ (Ls : Array Slot) (rest : List Value) (target : State), Steps p.tables e below ((T.setCell a (cl.setSlot j.toNatClampNeg (.int (nar .byte x)))).setTop (mkF m (pc + 1) Ls rest)) target → Steps p.tables e below (T.setTop (mkF m pc Ls (.int x :: .int j :: .ref a :: rest))) target := by
    have q := fun (Ls : Array Slot) (rest : List Value) => bastoreB X hx (x := x) (by rw [eT]; exact A.1) (State.isArrayOf_alike hZ.alike A.2.1) A.2.2 hin (g := mkF m pc Ls (.int x :: .int j :: .ref a :: rest)) rfl rfl hd
    exact ⟨(q #[] []).1, fun Ls rest => (q Ls rest).2⟩
  refine ⟨_, _, fun k => if k = i then nar .byte x else f k, X', Fr.snoc X' N ha, ⟨cl.setSlot j.toNatClampNeg (.int (nar .byte x)), A.same (h' := (T.setCell a (cl.setSlot j.toNatClampNeg (.int (nar .byte x)))).heap) ⟨cl, A.1, A.plain, Nat.lt_of_not_le fun q => hin (Or.inr q), by rw [← eT]; rfl⟩, by rw [sz_set]; exact S, fun k hk => ?_, fun k hk => ?_⟩, if_pos rfl, fun k hk => if_neg hk, st⟩
  · rw [q2]
    by_cases u : k = i
    · subst u; simp [Cell.setSlot, S, hk]
    · show _ = some (Value.int (if k = i then nar .byte x else f k))
      rw [if_neg u]
      simp only [Cell.setSlot]
      rw [Array.getElem?_setIfInBounds_ne (fun q => u q.symm)]; exact H k hk
  · show -128 ≤ (if k = i then nar .byte x else f k).toInt ∧ (if k = i then nar .byte x else f k).toInt < 128
    by_cases u : k = i
    · rw [if_pos u]; exact own_nar x
    · rw [if_neg u]; exact G k hk
theorem own_mk (X : Stand p l e R s m args below meth c T locs cells slots) (hx : p.tables.exec = Jvm.exec) (hZ : Z.Warmed39 s.vm) (w : (Cond.arrayClass .byte).before a0 Z = true) (eT : T.heap = h) {pc : Nat} (hd : decode c.code pc = .ok (.newarray .byte, 2)) {z : Int32} {n : Nat} (hz : z.toInt = n) (hb : n * 8 ≤ 536870912) (hc : cells + 1 ≤ R.cells) (hl : slots + n ≤ R.slots) (Ls : Array Slot) (rest : List Value) :
    ∃ (T' : State) (a : Addr), Stand p l e R s m args below meth c T' locs (cells + 1) (slots + n) ∧ own_arr Z T'.heap a n (fun _ => 0) ∧ h.size ≤ a ∧
      ∀ target, Steps p.tables e below (T'.setTop (mkF m (pc + 2) Ls (.ref a :: rest))) target → Steps p.tables e below (T.setTop (mkF m pc Ls (.int z :: rest))) target := by
  obtain ⟨q1, q2⟩ := own_idx hz
  obtain ⟨T', h', cA, X', e', E', A', st⟩ := newP X hx hZ (aty := .byte) w eT (g := mkF m pc Ls (.int z :: rest)) rfl hd rfl q1 (cap := n) (by rw [q2]; exact Nat.le_refl _) hb hc hl
  refine ⟨T', h.size, X', ?_, Nat.le_refl _, st⟩
  rw [e']
  refine ⟨_, A', by rw [sz_new]; exact q2, fun i hi => ?_, fun i _ => (by decide : -128 ≤ (0 : Int32).toInt ∧ (0 : Int32).toInt < 128)⟩
  simp [newA, q2, hi, newarray.typeOf, defaultValue]
theorem own_call (X : Stand p l e R s m args below meth c T locs cells slots) (hx : p.tables.exec = Jvm.exec) (hZ : Z.Warmed39 s.vm) (eT : T.heap = h) {own : String} {index : Nat} {y : MethodName} {bytes : ByteArray} {maxL : Nat} {ret : Option FieldType} {rm : Room} {Q : Option Value → Heap → List Loc → Prop} {argsL rest : List Value} {W : Nat}
    (hown : s.vm.findClass own = some m.cls) (w1 : (Cond.methodLink own index y).before a0 Z = true) (w2 : (Cond.static y).before a0 Z = true) (w3 : (Cond.initialized y.cls).before a0 Z = true) (w4 : (Cond.code y bytes maxL ret).before a0 Z = true) (hy : y.cls ≠ "java/lang/invoke/MethodHandle" ∧ y.cls ≠ "java/lang/invoke/VarHandle")
    (hM : MetFree l y (head1 [Cond.code y bytes maxL ret] rm) (fun a U => a = argsL.toArray ∧ Z.Warmed39 U.vm ∧ U.heap = h) (fun _ _ _ _ _ => True) (fun _ U o U' => ∃ v L, o = .returned v ∧ Q v U'.heap L ∧ FrameEnd U o U' L rm.cells rm.slots))
    (hf : rm.frames + 1 ≤ R.frames) (hl : W + (maxL + 11) + rm.locals ≤ R.locals) {pc : Nat} {Ls : Array Slot} (hs : Ls.size = c.maxLocals) (hlen : ∀ sig, parseMethodDescriptor y.desc = some sig → argsL.length = sig.parameters.length) (hW : (rest.map fun v => v.category).sum ≤ W) (hd : decode c.code pc = .ok (.invokestatic index, 3))
    (hc : cells + rm.cells ≤ R.cells) (hsl : slots + rm.slots ≤ R.slots) :
    ∃ (v : Option Value) (T' : State) (L : List Loc), Stand p l e R s m args below meth c T' (locs ++ L) (cells + rm.cells) (slots + rm.slots) ∧ Q v T'.heap L ∧
      ∀ target, Steps p.tables e below (T'.setTop (mkF m (pc + 3) Ls (v.toList ++ rest))) target → Steps p.tables e below (T.setTop (mkF m pc Ls (argsL.reverse ++ rest))) target := by
  obtain ⟨v, _, ⟨T5, L5, k5, n5⟩, -, X5, ⟨Lc5, hQ5, l5, y5, z5⟩, st5⟩ := Jvm.LawKit.callS X hx (y := y) hown (mvT hZ w1) (mvT hZ w2) (mvT hZ w3) (mvT hZ w4) hy (backOf (W := W) hM hZ w4 w3 hf hl) (g := mkF m pc Ls (argsL.reverse ++ rest)) rfl hs (argsL := argsL) (rest := rest) hlen rfl (by show 2 * 0 + _ ≤ _; omega) hd (fun _ _ => ⟨rfl, eT, hc, hsl⟩)
  dsimp only [Pt.U, Pt.locs, Pt.cells, Pt.slots] at X5 l5 y5 z5 st5 hQ5
  subst l5 y5 z5
  exact ⟨v, T5, Lc5, X5, hQ5, st5⟩
/-- what holds where a step leads holds here -/
def own_moves (p : Program) (e : Env) (below : List Frame) (G : State → JFrame → Prop) : Prop := ∀ (T T1 : State) (g g1 : JFrame), (∀ target, Steps p.tables e below (T1.setTop g1) target → Steps p.tables e below (T.setTop g) target) → G T1 g1 → G T g
/-- what holds where the body returns v with Q -/
def own_rets (p : Program) (l : Launch) (e : Env) (R : Room) (s : State) (m : MethodId) (args : Array Value) (below : List Frame) (meth : Method) (c : Code) (n0 K S : Nat) (Q : Value → Heap → Prop) (G : State → JFrame → Prop) : Prop :=
  ∀ (T : State) (L : List Loc) (k n : Nat) (v : Value) (g : JFrame), Stand p l e R s m args below meth c T L k n → Fr n0 L → k ≤ K → n ≤ S → Q v T.heap →
    (∀ fs, (∀ (f : JFrame) (acts : List Action), f.method = m → f.locked = none → f.entered = [] → (doReturn e (T.setTop f) acts (some v)).1 = T.setFrames fs) → Steps p.tables e below (T.setTop g) (T.setFrames fs)) → G T g
/-- what a contract says: it returns w with Qx, all that it wrote is new -/
def own_q (Qx : Value → Heap → Prop) (n0 : Nat) (v : Option Value) (h : Heap) (L : List Loc) : Prop := ∃ w, v = some w ∧ Qx w h ∧ Fr n0 L
theorem own_end {n0 K S : Nat} {Q : Value → Heap → Prop} {T0 : State} {g0 : JFrame} {t : FieldType} (hret : meth.sig.returnType = some t) (hlocks : meth.locks = false)
    (H : ∀ G : State → JFrame → Prop, own_moves p e below G → own_rets p l e R s m args below meth c n0 K S Q G → G T0 g0) :
    ∃ s₂ o, Steps p.tables e below (T0.setTop g0) s₂ ∧ s₂.status = .running ∧ Ended s₂ below o ∧ ∃ v L, o = .returned v ∧ own_q Q n0 v s₂.heap L ∧ FrameEnd s o s₂ L K S := by
  refine H (fun T g => ∃ s₂ o, Steps p.tables e below (T.setTop g) s₂ ∧ s₂.status = .running ∧ Ended s₂ below o ∧ ∃ v L, o = .returned v ∧ own_q Q n0 v s₂.heap L ∧ FrameEnd s o s₂ L K S) ?_ ?_
  · rintro T T1 g g1 st ⟨s₂, o, h1, h2⟩
    exact ⟨s₂, o, st _ h1, h2⟩
  · intro T L k n v g X N hk hn hQ st
    obtain ⟨fs, hr, hrun, hended, hW, hsame⟩ := X.leave (v := some v) (fun q => by rw [hret] at q; cases q) hlocks
    exact ⟨_, _, st fs hr, hrun, hended, some v, L, rfl, ⟨v, rfl, hQ, N⟩, ⟨_, rfl⟩, hW, hsame.mono hk hn⟩
end OwnN
def own_us (w0 w1 w2 p q : Int32) : Int32 :=
  if w0.toInt = (-19 : Int32).toInt ∧ ¬ q.toInt < (p + (3 : Int32)).toInt ∧ ¬ (w1 &&& (255 : Int32)).toInt < (160 : Int32).toInt then (((53248 : Int32) ||| ((w1 &&& (63 : Int32)) <<< ((6 : Int32) &&& 31))) ||| (w2 &&& (63 : Int32))) else (-1 : Int32)
theorem own_us_yes {w0 w1 w2 p q : Int32} (h1 : w0.toInt = (-19 : Int32).toInt) (h2 : ¬ q.toInt < (p + (3 : Int32)).toInt) (h3 : ¬ (w1 &&& (255 : Int32)).toInt < (160 : Int32).toInt) : (((53248 : Int32) ||| ((w1 &&& (63 : Int32)) <<< ((6 : Int32) &&& 31))) ||| (w2 &&& (63 : Int32))) = own_us w0 w1 w2 p q := by
  rw [own_us, if_pos ⟨h1, h2, h3⟩]
theorem own_us_no {w0 w1 w2 p q : Int32} (h : ¬ (w0.toInt = (-19 : Int32).toInt ∧ ¬ q.toInt < (p + (3 : Int32)).toInt ∧ ¬ (w1 &&& (255 : Int32)).toInt < (160 : Int32).toInt)) : (-1 : Int32) = own_us w0 w1 w2 p q := by
  rw [own_us, if_neg h]
theorem own_c {a b c : Int32} : (255 : Int32).toInt = 255 ∧ (-19 : Int32).toInt = -19 ∧ (160 : Int32).toInt = 160 ∧ (237 : Int32).toInt = 237 ∧ (3 : Int32).toInt = 3 ∧ (53248 : Int32).toInt = 53248 ∧ (64 : Int32).toInt = 64 ∧ (63 : Int32).toInt = 63 ∧ (6 : Int32).toInt = 6 ∧ (1 : Int32).toInt = 1 ∧ (2 : Int32).toInt = 2 ∧ (4 : Int32).toInt = 4 := by decide
theorem own_law_pos {w0 w1 w2 p q : Int32} (hp : 0 ≤ p.toInt ∧ p.toInt ≤ 3) (hq : p.toInt < q.toInt ∧ q.toInt ≤ 6) (r0 : -128 ≤ w0.toInt ∧ w0.toInt < 128)
    (h1 : (w0 &&& (255 : Int32)).toInt = (237 : Int32).toInt) (h2 : ¬ (q - p).toInt < (3 : Int32).toInt) (h3 : ¬ (w1 &&& (255 : Int32)).toInt < (160 : Int32).toInt) :
    (own_us w0 w1 w2 p q).toInt = (((53248 : Int32) + (((w1 &&& (255 : Int32)) - ((w1 &&& (255 : Int32)) / (64 : Int32)) * (64 : Int32)) * (64 : Int32))) + ((w2 &&& (255 : Int32)) - ((w2 &&& (255 : Int32)) / (64 : Int32)) * (64 : Int32))).toInt := by
  obtain ⟨k1, k2, k3, k4, k5, k6, k7, k8, k9, -⟩ := @own_c 0 0 0
  have m0 : (w0 &&& (255 : Int32)).toInt = w0.toInt % 256 := c_mask w0 255 8 (by decide) (by decide)
  have m1 : (w1 &&& (255 : Int32)).toInt = w1.toInt % 256 := c_mask w1 255 8 (by decide) (by decide)
  have m2 : (w2 &&& (255 : Int32)).toInt = w2.toInt % 256 := c_mask w2 255 8 (by decide) (by decide)
  have s1 : (w1 &&& (63 : Int32)).toInt = w1.toInt % 64 := c_mask w1 63 6 (by decide) (by decide)
  have s2 : (w2 &&& (63 : Int32)).toInt = w2.toInt % 64 := c_mask w2 63 6 (by decide) (by decide)
  have a1 := c_isub q p
  have a2 := c_iadd p 3
  have g1 := rng32 (q - p)
  have g2 := rng32 (p + 3)
  have e1 : w0.toInt = (-19 : Int32).toInt := by omega
  have e2 : ¬ q.toInt < (p + (3 : Int32)).toInt := by omega
  rw [← own_us_yes e1 e2 h3, irem_eq_mod, irem_eq_mod]
  have t1 := (c_irem (w1 &&& (255 : Int32)) 64 64 (by decide)).1 (by omega)
  have t2 := (c_irem (w2 &&& (255 : Int32)) 64 64 (by decide)).1 (by omega)
  have b1 : ((w1 &&& (63 : Int32)) <<< ((6 : Int32) &&& 31)).toInt = (w1.toInt % 64) * 64 := by
    have := c_ishl (w1 &&& (63 : Int32)) 6 6 (by decide)
    have := rng32 ((w1 &&& (63 : Int32)) <<< ((6 : Int32) &&& 31))
    omega
  have b2 := c_or (53248 : Int32) ((w1 &&& (63 : Int32)) <<< ((6 : Int32) &&& 31)) 12 (by decide) 4096 (by decide) (by omega) (by omega) (by omega)
  have g3 := rng32 ((53248 : Int32) ||| ((w1 &&& (63 : Int32)) <<< ((6 : Int32) &&& 31)))
  have b3 := c_or ((53248 : Int32) ||| ((w1 &&& (63 : Int32)) <<< ((6 : Int32) &&& 31))) (w2 &&& (63 : Int32)) 6 (by decide) 64 (by decide) (by omega) (by omega) (by omega)
  have g4 := rng32 (((53248 : Int32) ||| ((w1 &&& (63 : Int32)) <<< ((6 : Int32) &&& 31))) ||| (w2 &&& (63 : Int32)))
  have d1 := c_imul ((w1 &&& (255 : Int32)) % (64 : Int32)) 64
  have g5 := rng32 (((w1 &&& (255 : Int32)) % (64 : Int32)) * 64)
  rw [t1, k7] at d1
  have d2 := c_iadd (53248 : Int32) (((w1 &&& (255 : Int32)) % (64 : Int32)) * 64)
  have g6 := rng32 ((53248 : Int32) + (((w1 &&& (255 : Int32)) % (64 : Int32)) * 64))
  have d3 := c_iadd ((53248 : Int32) + (((w1 &&& (255 : Int32)) % (64 : Int32)) * 64)) ((w2 &&& (255 : Int32)) % (64 : Int32))
  have g7 := rng32 (((53248 : Int32) + (((w1 &&& (255 : Int32)) % (64 : Int32)) * 64)) + ((w2 &&& (255 : Int32)) % (64 : Int32)))
  omega
theorem own_law_neg {w0 w1 w2 p q : Int32} (hp : 0 ≤ p.toInt ∧ p.toInt ≤ 3) (hq : p.toInt < q.toInt ∧ q.toInt ≤ 6) (r0 : -128 ≤ w0.toInt ∧ w0.toInt < 128)
    (h : ¬ (w0 &&& (255 : Int32)).toInt = (237 : Int32).toInt ∨ (q - p).toInt < (3 : Int32).toInt ∨ (w1 &&& (255 : Int32)).toInt < (160 : Int32).toInt) : (own_us w0 w1 w2 p q).toInt = (-1 : Int32).toInt := by
  obtain ⟨k1, k2, k3, k4, k5, k6, k7, k8, k9, -⟩ := @own_c 0 0 0
  have m0 : (w0 &&& (255 : Int32)).toInt = w0.toInt % 256 := c_mask w0 255 8 (by decide) (by decide)
  have a1 := c_isub q p
  have a2 := c_iadd p 3
  have g1 := rng32 (q - p)
  have g2 := rng32 (p + 3)
  rw [← own_us_no (fun k => by omega)]
theorem own_at (a : Int32) : ∃ (p : Int32) (A : Nat), ((a &&& (2147483647 : Int32)) - ((a &&& (2147483647 : Int32)) / (4 : Int32)) * (4 : Int32)) = p ∧ p.toInt = A ∧ A ≤ 3 := by
  refine ⟨_, ((a &&& (2147483647 : Int32)) - ((a &&& (2147483647 : Int32)) / (4 : Int32)) * (4 : Int32)).toInt.toNat, rfl, ?_⟩
  rw [irem_eq_mod]
  have m0 : (a &&& (2147483647 : Int32)).toInt = a.toInt % 2147483648 := c_mask a 2147483647 31 (by decide) (by decide)
  have t1 := (c_irem (a &&& (2147483647 : Int32)) 4 4 (by decide)).1 (by omega)
  omega
theorem own_to (t p : Int32) (hp : 0 ≤ p.toInt ∧ p.toInt ≤ 3) : (6 : Int32) - p ≠ 0 ∧ ∃ q : Int32, ((p + (1 : Int32)) + ((t &&& (2147483647 : Int32)) - ((t &&& (2147483647 : Int32)) / ((6 : Int32) - p)) * ((6 : Int32) - p))) = q ∧ p.toInt < q.toInt ∧ q.toInt ≤ 6 := by
  obtain ⟨k1, k2, k3, k4, k5, k6, k7, k8, k9, k10, -⟩ := @own_c 0 0 0
  have a1 := c_isub 6 p
  have g1 := rng32 ((6 : Int32) - p)
  refine ⟨fun z => ?_, _, rfl, ?_⟩
  · have := congrArg Int32.toInt z
    rw [show (0 : Int32).toInt = 0 from rfl] at this
    omega
  rw [irem_eq_mod]
  have m0 : (t &&& (2147483647 : Int32)).toInt = t.toInt % 2147483648 := c_mask t 2147483647 31 (by decide) (by decide)
  have t1 := (c_iremV (t &&& (2147483647 : Int32)) ((6 : Int32) - p)).1 (by omega) (by omega)
  have a2 := c_iadd p 1
  have g2 := rng32 (p + 1)
  have a3 := c_iadd (p + (1 : Int32)) ((t &&& (2147483647 : Int32)) % ((6 : Int32) - p))
  have g3 := rng32 ((p + (1 : Int32)) + ((t &&& (2147483647 : Int32)) % ((6 : Int32) - p)))
  omega
theorem own_ix {p : Int32} {A : Nat} (h : p.toInt = A) (hA : A ≤ 3) : (p + (1 : Int32)).toInt = ((A + 1 : Nat) : Int) ∧ (p + (2 : Int32)).toInt = ((A + 2 : Nat) : Int) := by
  have a1 := c_iadd p 1
  have g1 := rng32 (p + 1)
  have a2 := c_iadd p 2
  have g2 := rng32 (p + 2)
  rw [show (1 : Int32).toInt = 1 from rfl] at a1
  rw [show (2 : Int32).toInt = 2 from rfl] at a2
  omega
theorem d1_0 : decode prog_142_method_18_code 0 = .ok (.aload_n 0, 1) := by decide +kernel
theorem d1_1 : decode prog_142_method_18_code 1 = .ok (.iload_n 1, 1) := by decide +kernel
theorem d1_2 : decode prog_142_method_18_code 2 = .ok (.baload, 1) := by decide +kernel
theorem d1_3 : decode prog_142_method_18_code 3 = .ok (.bipush (-19), 2) := by decide +kernel
theorem d1_5 : decode prog_142_method_18_code 5 = .ok (.if_icmp .ne 29, 3) := by decide +kernel
theorem d1_8 : decode prog_142_method_18_code 8 = .ok (.iload_n 1, 1) := by decide +kernel
theorem d1_9 : decode prog_142_method_18_code 9 = .ok (.iconst 3, 1) := by decide +kernel
theorem d1_10 : decode prog_142_method_18_code 10 = .ok (.iadd, 1) := by decide +kernel
theorem d1_11 : decode prog_142_method_18_code 11 = .ok (.iload_n 2, 1) := by decide +kernel
theorem d1_12 : decode prog_142_method_18_code 12 = .ok (.if_icmp .gt 22, 3) := by decide +kernel
theorem d1_15 : decode prog_142_method_18_code 15 = .ok (.aload_n 0, 1) := by decide +kernel
theorem d1_16 : decode prog_142_method_18_code 16 = .ok (.iload_n 1, 1) := by decide +kernel
theorem d1_17 : decode prog_142_method_18_code 17 = .ok (.iconst 1, 1) := by decide +kernel
theorem d1_18 : decode prog_142_method_18_code 18 = .ok (.iadd, 1) := by decide +kernel
theorem d1_19 : decode prog_142_method_18_code 19 = .ok (.baload, 1) := by decide +kernel
theorem d1_20 : decode prog_142_method_18_code 20 = .ok (.sipush 255, 3) := by decide +kernel
theorem d1_23 : decode prog_142_method_18_code 23 = .ok (.iand, 1) := by decide +kernel
theorem d1_24 : decode prog_142_method_18_code 24 = .ok (.sipush 160, 3) := by decide +kernel
theorem d1_27 : decode prog_142_method_18_code 27 = .ok (.if_icmp .lt 7, 3) := by decide +kernel
theorem d1_30 : decode prog_142_method_18_code 30 = .ok (.iconst 1, 1) := by decide +kernel
theorem d1_31 : decode prog_142_method_18_code 31 = .ok (.goto 4, 3) := by decide +kernel
theorem d1_34 : decode prog_142_method_18_code 34 = .ok (.iconst 0, 1) := by decide +kernel
theorem d1_35 : decode prog_142_method_18_code 35 = .ok (.istore_n 3, 1) := by decide +kernel
theorem d1_36 : decode prog_142_method_18_code 36 = .ok (.iload_n 3, 1) := by decide +kernel
theorem d1_37 : decode prog_142_method_18_code 37 = .ok (.ifCond .eq 29, 3) := by decide +kernel
theorem d1_40 : decode prog_142_method_18_code 40 = .ok (.ldc 184, 2) := by decide +kernel
theorem d1_42 : decode prog_142_method_18_code 42 = .ok (.aload_n 0, 1) := by decide +kernel
theorem d1_43 : decode prog_142_method_18_code 43 = .ok (.iload_n 1, 1) := by decide +kernel
theorem d1_44 : decode prog_142_method_18_code 44 = .ok (.iconst 1, 1) := by decide +kernel
theorem d1_45 : decode prog_142_method_18_code 45 = .ok (.iadd, 1) := by decide +kernel
theorem d1_46 : decode prog_142_method_18_code 46 = .ok (.baload, 1) := by decide +kernel
theorem d1_47 : decode prog_142_method_18_code 47 = .ok (.bipush 63, 2) := by decide +kernel
theorem d1_49 : decode prog_142_method_18_code 49 = .ok (.iand, 1) := by decide +kernel
theorem d1_50 : decode prog_142_method_18_code 50 = .ok (.bipush 6, 2) := by decide +kernel
theorem d1_52 : decode prog_142_method_18_code 52 = .ok (.ishl, 1) := by decide +kernel
theorem d1_53 : decode prog_142_method_18_code 53 = .ok (.ior, 1) := by decide +kernel
theorem d1_54 : decode prog_142_method_18_code 54 = .ok (.aload_n 0, 1) := by decide +kernel
theorem d1_55 : decode prog_142_method_18_code 55 = .ok (.iload_n 1, 1) := by decide +kernel
theorem d1_56 : decode prog_142_method_18_code 56 = .ok (.iconst 2, 1) := by decide +kernel
theorem d1_57 : decode prog_142_method_18_code 57 = .ok (.iadd, 1) := by decide +kernel
theorem d1_58 : decode prog_142_method_18_code 58 = .ok (.baload, 1) := by decide +kernel
theorem d1_59 : decode prog_142_method_18_code 59 = .ok (.bipush 63, 2) := by decide +kernel
theorem d1_61 : decode prog_142_method_18_code 61 = .ok (.iand, 1) := by decide +kernel
theorem d1_62 : decode prog_142_method_18_code 62 = .ok (.ior, 1) := by decide +kernel
theorem d1_63 : decode prog_142_method_18_code 63 = .ok (.goto 4, 3) := by decide +kernel
theorem d1_66 : decode prog_142_method_18_code 66 = .ok (.iconst (-1), 1) := by decide +kernel
theorem d1_67 : decode prog_142_method_18_code 67 = .ok (.ireturn, 1) := by decide +kernel
theorem pn_rm1 : plainName "com/example/querytrail/querytrail/Utf8" = true := by first | (simp [plainName, overriddenIn]; done) | decide +kernel
theorem ef_rm1 (m : MethodId) (x0 : Addr) (x1 : Int32) (x2 : Int32) : entryFrame m #[(.ref x0), (.int x1), (.int x2)] 4 = mkF m 0 #[.val (.ref x0), .val (.int x1), .val (.int x2), .unset] [] := by first | (simp [entryFrame, mkF, argsToLocals, Value.category]; done) | rfl
theorem pd_1 : parseMethodDescriptor "([BII)I" = some ⟨[(.array .byte), .int, .int], some .int⟩ := by decide +kernel
set_option maxRecDepth 65536 in
set_option maxHeartbeats 40000000 in
theorem rm1 (l : Launch) (Z : State) (a0 : Array Value) (hw : ∀ d ∈ tables_1, d.before a0 Z = true) (ws : List Jvm.Cond) (a1 : Addr) (p2 p3 : Int32) (A n : Nat) (f : Nat → Int32) (h0 : Heap) (n0 : Nat) (Z0 : n0 ≤ h0.size) (V : own_arr Z h0 a1 n f) (hA : A ≤ 3) (hp : p2.toInt = A) (hn : A + 2 < n) :
    MetFree l (⟨"com/example/querytrail/querytrail/Utf8", "unpairedSurrogate", "([BII)I"⟩ : MethodName) (head1 (Jvm.Cond.code (⟨"com/example/querytrail/querytrail/Utf8", "unpairedSurrogate", "([BII)I"⟩ : MethodName) prog_142_method_18_code 4 (some .int) :: ws) ({ frames := 0, cells := 0, slots := 0, locals := 0 } : Room)) (fun a U => a = #[(.ref a1), (.int p2), (.int p3)] ∧ Z.Warmed39 U.vm ∧ U.heap = h0) (fun _ _ _ _ _ => True) (fun _ U o U' => ∃ v L, o = .returned v ∧ own_q (fun w h => w = .int (own_us (f A) (f (A + 1)) (f (A + 2)) p2 p3) ∧ h = h0) n0 v U'.heap L ∧ FrameEnd U o U' L ({ frames := 0, cells := 0, slots := 0, locals := 0 } : Room).cells ({ frames := 0, cells := 0, slots := 0, locals := 0 } : Room).slots) := by
  refine MetFree.of_bodySF (plainFor_of_name pn_rm1) hisR ?_
  intro p e s m args below meth c s₁ Bd hml0 hP hK
  obtain ⟨rfl, hZ, hh⟩ := hP
  have hx := Bd.exec
  have hby := Bd.bytes
  have hml : c.maxLocals = 4 := hml0
  have hown : s.vm.findClass "com/example/querytrail/querytrail/Utf8" = some m.cls := findClass_of_methodNamed Bd.named
  have hret : meth.sig.returnType = some .int := Bd.returns
  have X0 : Stand p l e ({ frames := 0, cells := 0, slots := 0, locals := 0 } : Room) s m #[(.ref a1), (.int p2), (.int p3)] below meth c s₁ [] 0 0 := Stand.of_body Bd
  have e0 : s₁.heap = h0 := by rw [← hh, Bd.state]; rfl
  have N0 := Fr.nil n0
  rw [ef_rm1 m a1 p2 p3]
  refine own_end (p := p) (l := l) (e := e) (R := ({ frames := 0, cells := 0, slots := 0, locals := 0 } : Room)) (s := s) (m := m) (args := #[(.ref a1), (.int p2), (.int p3)]) (below := below) (meth := meth) (c := c) (n0 := n0) (K := ({ frames := 0, cells := 0, slots := 0, locals := 0 } : Room).cells) (S := ({ frames := 0, cells := 0, slots := 0, locals := 0 } : Room).slots) (Q := (fun w h => w = .int (own_us (f A) (f (A + 1)) (f (A + 2)) p2 p3) ∧ h = h0)) hret Bd.notSynchronized (fun G hG hR => ?_)
  refine hG _ _ _ (mkF m 1 #[.val (.ref a1), .val (.int p2), .val (.int p3), .unset] [(.ref a1)]) (fun t k => XS.aloadN X0.here hx rfl (hb hby d1_0) rfl rfl k) ?_
  refine hG _ _ _ (mkF m 2 #[.val (.ref a1), .val (.int p2), .val (.int p3), .unset] [(.int p2), (.ref a1)]) (fun t k => XS.iloadN X0.here hx rfl (hb hby d1_1) rfl k) ?_
  refine hG _ _ _ (mkF m 3 #[.val (.ref a1), .val (.int p2), .val (.int p3), .unset] [(.int (f A))]) (fun t k => own_ld X0 hx hZ e0 V (j := p2) (i := A) hp (by omega) (hb hby d1_2) k) ?_
  refine hG _ _ _ (mkF m 5 #[.val (.ref a1), .val (.int p2), .val (.int p3), .unset] [(.int (-19 : Int32)), (.int (f A))]) (fun t k => XS.bipush X0.here hx rfl (hb hby d1_3) k) ?_
  by_cases c5 : (f A).toInt = (-19 : Int32).toInt
  · refine hG _ _ _ (mkF m 8 #[.val (.ref a1), .val (.int p2), .val (.int p3), .unset] []) (fun t k => XS.icmpNo X0.here hx rfl (hb hby d1_5) rfl (own_teq c5).2 k) ?_
    refine hG _ _ _ (mkF m 9 #[.val (.ref a1), .val (.int p2), .val (.int p3), .unset] [(.int p2)]) (fun t k => XS.iloadN X0.here hx rfl (hb hby d1_8) rfl k) ?_
    refine hG _ _ _ (mkF m 10 #[.val (.ref a1), .val (.int p2), .val (.int p3), .unset] [(.int (3 : Int32)), (.int p2)]) (fun t k => XS.iconst X0.here hx rfl (hb hby d1_9) k) ?_
    refine hG _ _ _ (mkF m 11 #[.val (.ref a1), .val (.int p2), .val (.int p3), .unset] [(.int (p2 + (3 : Int32)))]) (fun t k => XS.iadd X0.here hx rfl (hb hby d1_10) rfl k) ?_
    refine hG _ _ _ (mkF m 12 #[.val (.ref a1), .val (.int p2), .val (.int p3), .unset] [(.int p3), (.int (p2 + (3 : Int32)))]) (fun t k => XS.iloadN X0.here hx rfl (hb hby d1_11) rfl k) ?_
    by_cases c12 : p3.toInt < (p2 + (3 : Int32)).toInt
    · refine hG _ _ _ (mkF m 34 #[.val (.ref a1), .val (.int p2), .val (.int p3), .unset] []) (fun t k => XS.icmpYes X0.here hx rfl (pc0 := 12) (pc' := 34) rfl (hb hby d1_12) rfl (own_tlt c12).2.2.1 (by decide) (by decide) k) ?_
      refine hG _ _ _ (mkF m 35 #[.val (.ref a1), .val (.int p2), .val (.int p3), .unset] [(.int (0 : Int32))]) (fun t k => XS.iconst X0.here hx rfl (hb hby d1_34) k) ?_
      refine hG _ _ _ (mkF m 36 #[.val (.ref a1), .val (.int p2), .val (.int p3), .val (.int (0 : Int32))] []) (fun t k => XS.istoreN X0.here hx rfl (hb hby d1_35) rfl (l' := #[.val (.ref a1), .val (.int p2), .val (.int p3), .val (.int (0 : Int32))]) rfl k) ?_
      refine hG _ _ _ (mkF m 37 #[.val (.ref a1), .val (.int p2), .val (.int p3), .val (.int (0 : Int32))] [(.int (0 : Int32))]) (fun t k => XS.iloadN X0.here hx rfl (hb hby d1_36) rfl k) ?_
      refine hG _ _ _ (mkF m 66 #[.val (.ref a1), .val (.int p2), .val (.int p3), .val (.int (0 : Int32))] []) (fun t k => XS.ifYes X0.here hx rfl (pc0 := 37) (pc' := 66) rfl (hb hby d1_37) rfl ((if0 _ _).trans (own_teq (by decide)).1) (by decide) (by decide) k) ?_
      refine hG _ _ _ (mkF m 67 #[.val (.ref a1), .val (.int p2), .val (.int p3), .val (.int (0 : Int32))] [(.int (-1 : Int32))]) (fun t k => XS.iconst X0.here hx rfl (hb hby d1_66) k) ?_
      exact hR _ _ _ _ _ _ X0 N0 (by decide) (by decide) ⟨congrArg Value.int (own_us_no (fun k => k.2.1 c12)), e0⟩ (fun fs hr => retI X0 hx hret (hb hby d1_67) hr)
    · refine hG _ _ _ (mkF m 15 #[.val (.ref a1), .val (.int p2), .val (.int p3), .unset] []) (fun t k => XS.icmpNo X0.here hx rfl (hb hby d1_12) rfl (own_flt c12).2.2.1 k) ?_
      refine hG _ _ _ (mkF m 16 #[.val (.ref a1), .val (.int p2), .val (.int p3), .unset] [(.ref a1)]) (fun t k => XS.aloadN X0.here hx rfl (hb hby d1_15) rfl rfl k) ?_
      refine hG _ _ _ (mkF m 17 #[.val (.ref a1), .val (.int p2), .val (.int p3), .unset] [(.int p2), (.ref a1)]) (fun t k => XS.iloadN X0.here hx rfl (hb hby d1_16) rfl k) ?_
      refine hG _ _ _ (mkF m 18 #[.val (.ref a1), .val (.int p2), .val (.int p3), .unset] [(.int (1 : Int32)), (.int p2), (.ref a1)]) (fun t k => XS.iconst X0.here hx rfl (hb hby d1_17) k) ?_
      refine hG _ _ _ (mkF m 19 #[.val (.ref a1), .val (.int p2), .val (.int p3), .unset] [(.int (p2 + (1 : Int32))), (.ref a1)]) (fun t k => XS.iadd X0.here hx rfl (hb hby d1_18) rfl k) ?_
      refine hG _ _ _ (mkF m 20 #[.val (.ref a1), .val (.int p2), .val (.int p3), .unset] [(.int (f (A + 1)))]) (fun t k => own_ld X0 hx hZ e0 V (j := (p2 + (1 : Int32))) (i := (A + 1)) (own_ix hp hA).1 (by omega) (hb hby d1_19) k) ?_
      refine hG _ _ _ (mkF m 23 #[.val (.ref a1), .val (.int p2), .val (.int p3), .unset] [(.int (255 : Int32)), (.int (f (A + 1)))]) (fun t k => XS.sipush X0.here hx rfl (hb hby d1_20) k) ?_
      refine hG _ _ _ (mkF m 24 #[.val (.ref a1), .val (.int p2), .val (.int p3), .unset] [(.int ((f (A + 1)) &&& (255 : Int32)))]) (fun t k => XS.iand X0.here hx rfl (hb hby d1_23) rfl k) ?_
      refine hG _ _ _ (mkF m 27 #[.val (.ref a1), .val (.int p2), .val (.int p3), .unset] [(.int (160 : Int32)), (.int ((f (A + 1)) &&& (255 : Int32)))]) (fun t k => XS.sipush X0.here hx rfl (hb hby d1_24) k) ?_
      by_cases c27 : ((f (A + 1)) &&& (255 : Int32)).toInt < (160 : Int32).toInt
      · refine hG _ _ _ (mkF m 34 #[.val (.ref a1), .val (.int p2), .val (.int p3), .unset] []) (fun t k => XS.icmpYes X0.here hx rfl (pc0 := 27) (pc' := 34) rfl (hb hby d1_27) rfl (own_tlt c27).1 (by decide) (by decide) k) ?_
        refine hG _ _ _ (mkF m 35 #[.val (.ref a1), .val (.int p2), .val (.int p3), .unset] [(.int (0 : Int32))]) (fun t k => XS.iconst X0.here hx rfl (hb hby d1_34) k) ?_
        refine hG _ _ _ (mkF m 36 #[.val (.ref a1), .val (.int p2), .val (.int p3), .val (.int (0 : Int32))] []) (fun t k => XS.istoreN X0.here hx rfl (hb hby d1_35) rfl (l' := #[.val (.ref a1), .val (.int p2), .val (.int p3), .val (.int (0 : Int32))]) rfl k) ?_
        refine hG _ _ _ (mkF m 37 #[.val (.ref a1), .val (.int p2), .val (.int p3), .val (.int (0 : Int32))] [(.int (0 : Int32))]) (fun t k => XS.iloadN X0.here hx rfl (hb hby d1_36) rfl k) ?_
        refine hG _ _ _ (mkF m 66 #[.val (.ref a1), .val (.int p2), .val (.int p3), .val (.int (0 : Int32))] []) (fun t k => XS.ifYes X0.here hx rfl (pc0 := 37) (pc' := 66) rfl (hb hby d1_37) rfl ((if0 _ _).trans (own_teq (by decide)).1) (by decide) (by decide) k) ?_
        refine hG _ _ _ (mkF m 67 #[.val (.ref a1), .val (.int p2), .val (.int p3), .val (.int (0 : Int32))] [(.int (-1 : Int32))]) (fun t k => XS.iconst X0.here hx rfl (hb hby d1_66) k) ?_
        exact hR _ _ _ _ _ _ X0 N0 (by decide) (by decide) ⟨congrArg Value.int (own_us_no (fun k => k.2.2 c27)), e0⟩ (fun fs hr => retI X0 hx hret (hb hby d1_67) hr)
      · refine hG _ _ _ (mkF m 30 #[.val (.ref a1), .val (.int p2), .val (.int p3), .unset] []) (fun t k => XS.icmpNo X0.here hx rfl (hb hby d1_27) rfl (own_flt c27).1 k) ?_
        refine hG _ _ _ (mkF m 31 #[.val (.ref a1), .val (.int p2), .val (.int p3), .unset] [(.int (1 : Int32))]) (fun t k => XS.iconst X0.here hx rfl (hb hby d1_30) k) ?_
        refine hG _ _ _ (mkF m 35 #[.val (.ref a1), .val (.int p2), .val (.int p3), .unset] [(.int (1 : Int32))]) (fun t k => XS.goto X0.here hx rfl (pc0 := 31) (pc' := 35) rfl (hb hby d1_31) (by decide) (by decide) k) ?_
        refine hG _ _ _ (mkF m 36 #[.val (.ref a1), .val (.int p2), .val (.int p3), .val (.int (1 : Int32))] []) (fun t k => XS.istoreN X0.here hx rfl (hb hby d1_35) rfl (l' := #[.val (.ref a1), .val (.int p2), .val (.int p3), .val (.int (1 : Int32))]) rfl k) ?_
        refine hG _ _ _ (mkF m 37 #[.val (.ref a1), .val (.int p2), .val (.int p3), .val (.int (1 : Int32))] [(.int (1 : Int32))]) (fun t k => XS.iloadN X0.here hx rfl (hb hby d1_36) rfl k) ?_
        refine hG _ _ _ (mkF m 40 #[.val (.ref a1), .val (.int p2), .val (.int p3), .val (.int (1 : Int32))] []) (fun t k => XS.ifNo X0.here hx rfl (hb hby d1_37) rfl ((if0 _ _).trans (own_feq (by decide)).1) k) ?_
        refine hG _ _ _ (mkF m 42 #[.val (.ref a1), .val (.int p2), .val (.int p3), .val (.int (1 : Int32))] [(.int (53248 : Int32))]) (fun t k => X0.ldcInt hx (own := "com/example/querytrail/querytrail/Utf8") (v := (53248 : Int32)) hown (mvT hZ (hw _ (List.mem_of_getElem? (i := 7) rfl))) (g := (mkF m 40 #[.val (.ref a1), .val (.int p2), .val (.int p3), .val (.int (1 : Int32))] [])) rfl (hb hby d1_40) t k) ?_
        refine hG _ _ _ (mkF m 43 #[.val (.ref a1), .val (.int p2), .val (.int p3), .val (.int (1 : Int32))] [(.ref a1), (.int (53248 : Int32))]) (fun t k => XS.aloadN X0.here hx rfl (hb hby d1_42) rfl rfl k) ?_
        refine hG _ _ _ (mkF m 44 #[.val (.ref a1), .val (.int p2), .val (.int p3), .val (.int (1 : Int32))] [(.int p2), (.ref a1), (.int (53248 : Int32))]) (fun t k => XS.iloadN X0.here hx rfl (hb hby d1_43) rfl k) ?_
        refine hG _ _ _ (mkF m 45 #[.val (.ref a1), .val (.int p2), .val (.int p3), .val (.int (1 : Int32))] [(.int (1 : Int32)), (.int p2), (.ref a1), (.int (53248 : Int32))]) (fun t k => XS.iconst X0.here hx rfl (hb hby d1_44) k) ?_
        refine hG _ _ _ (mkF m 46 #[.val (.ref a1), .val (.int p2), .val (.int p3), .val (.int (1 : Int32))] [(.int (p2 + (1 : Int32))), (.ref a1), (.int (53248 : Int32))]) (fun t k => XS.iadd X0.here hx rfl (hb hby d1_45) rfl k) ?_
        refine hG _ _ _ (mkF m 47 #[.val (.ref a1), .val (.int p2), .val (.int p3), .val (.int (1 : Int32))] [(.int (f (A + 1))), (.int (53248 : Int32))]) (fun t k => own_ld X0 hx hZ e0 V (j := (p2 + (1 : Int32))) (i := (A + 1)) (own_ix hp hA).1 (by omega) (hb hby d1_46) k) ?_
        refine hG _ _ _ (mkF m 49 #[.val (.ref a1), .val (.int p2), .val (.int p3), .val (.int (1 : Int32))] [(.int (63 : Int32)), (.int (f (A + 1))), (.int (53248 : Int32))]) (fun t k => XS.bipush X0.here hx rfl (hb hby d1_47) k) ?_
        refine hG _ _ _ (mkF m 50 #[.val (.ref a1), .val (.int p2), .val (.int p3), .val (.int (1 : Int32))] [(.int ((f (A + 1)) &&& (63 : Int32))), (.int (53248 : Int32))]) (fun t k => XS.iand X0.here hx rfl (hb hby d1_49) rfl k) ?_
        refine hG _ _ _ (mkF m 52 #[.val (.ref a1), .val (.int p2), .val (.int p3), .val (.int (1 : Int32))] [(.int (6 : Int32)), (.int ((f (A + 1)) &&& (63 : Int32))), (.int (53248 : Int32))]) (fun t k => XS.bipush X0.here hx rfl (hb hby d1_50) k) ?_
        refine hG _ _ _ (mkF m 53 #[.val (.ref a1), .val (.int p2), .val (.int p3), .val (.int (1 : Int32))] [(.int (((f (A + 1)) &&& (63 : Int32)) <<< ((6 : Int32) &&& 31))), (.int (53248 : Int32))]) (fun t k => XS.ishl X0.here hx rfl (hb hby d1_52) rfl k) ?_
        refine hG _ _ _ (mkF m 54 #[.val (.ref a1), .val (.int p2), .val (.int p3), .val (.int (1 : Int32))] [(.int ((53248 : Int32) ||| (((f (A + 1)) &&& (63 : Int32)) <<< ((6 : Int32) &&& 31))))]) (fun t k => XS.ior X0.here hx rfl (hb hby d1_53) rfl k) ?_
        refine hG _ _ _ (mkF m 55 #[.val (.ref a1), .val (.int p2), .val (.int p3), .val (.int (1 : Int32))] [(.ref a1), (.int ((53248 : Int32) ||| (((f (A + 1)) &&& (63 : Int32)) <<< ((6 : Int32) &&& 31))))]) (fun t k => XS.aloadN X0.here hx rfl (hb hby d1_54) rfl rfl k) ?_
        refine hG _ _ _ (mkF m 56 #[.val (.ref a1), .val (.int p2), .val (.int p3), .val (.int (1 : Int32))] [(.int p2), (.ref a1), (.int ((53248 : Int32) ||| (((f (A + 1)) &&& (63 : Int32)) <<< ((6 : Int32) &&& 31))))]) (fun t k => XS.iloadN X0.here hx rfl (hb hby d1_55) rfl k) ?_
        refine hG _ _ _ (mkF m 57 #[.val (.ref a1), .val (.int p2), .val (.int p3), .val (.int (1 : Int32))] [(.int (2 : Int32)), (.int p2), (.ref a1), (.int ((53248 : Int32) ||| (((f (A + 1)) &&& (63 : Int32)) <<< ((6 : Int32) &&& 31))))]) (fun t k => XS.iconst X0.here hx rfl (hb hby d1_56) k) ?_
        refine hG _ _ _ (mkF m 58 #[.val (.ref a1), .val (.int p2), .val (.int p3), .val (.int (1 : Int32))] [(.int (p2 + (2 : Int32))), (.ref a1), (.int ((53248 : Int32) ||| (((f (A + 1)) &&& (63 : Int32)) <<< ((6 : Int32) &&& 31))))]) (fun t k => XS.iadd X0.here hx rfl (hb hby d1_57) rfl k) ?_
        refine hG _ _ _ (mkF m 59 #[.val (.ref a1), .val (.int p2), .val (.int p3), .val (.int (1 : Int32))] [(.int (f (A + 2))), (.int ((53248 : Int32) ||| (((f (A + 1)) &&& (63 : Int32)) <<< ((6 : Int32) &&& 31))))]) (fun t k => own_ld X0 hx hZ e0 V (j := (p2 + (2 : Int32))) (i := (A + 2)) (own_ix hp hA).2 (by omega) (hb hby d1_58) k) ?_
        refine hG _ _ _ (mkF m 61 #[.val (.ref a1), .val (.int p2), .val (.int p3), .val (.int (1 : Int32))] [(.int (63 : Int32)), (.int (f (A + 2))), (.int ((53248 : Int32) ||| (((f (A + 1)) &&& (63 : Int32)) <<< ((6 : Int32) &&& 31))))]) (fun t k => XS.bipush X0.here hx rfl (hb hby d1_59) k) ?_
        refine hG _ _ _ (mkF m 62 #[.val (.ref a1), .val (.int p2), .val (.int p3), .val (.int (1 : Int32))] [(.int ((f (A + 2)) &&& (63 : Int32))), (.int ((53248 : Int32) ||| (((f (A + 1)) &&& (63 : Int32)) <<< ((6 : Int32) &&& 31))))]) (fun t k => XS.iand X0.here hx rfl (hb hby d1_61) rfl k) ?_
        refine hG _ _ _ (mkF m 63 #[.val (.ref a1), .val (.int p2), .val (.int p3), .val (.int (1 : Int32))] [(.int (((53248 : Int32) ||| (((f (A + 1)) &&& (63 : Int32)) <<< ((6 : Int32) &&& 31))) ||| ((f (A + 2)) &&& (63 : Int32))))]) (fun t k => XS.ior X0.here hx rfl (hb hby d1_62) rfl k) ?_
        refine hG _ _ _ (mkF m 67 #[.val (.ref a1), .val (.int p2), .val (.int p3), .val (.int (1 : Int32))] [(.int (((53248 : Int32) ||| (((f (A + 1)) &&& (63 : Int32)) <<< ((6 : Int32) &&& 31))) ||| ((f (A + 2)) &&& (63 : Int32))))]) (fun t k => XS.goto X0.here hx rfl (pc0 := 63) (pc' := 67) rfl (hb hby d1_63) (by decide) (by decide) k) ?_
        exact hR _ _ _ _ _ _ X0 N0 (by decide) (by decide) ⟨congrArg Value.int (own_us_yes c5 c12 c27), e0⟩ (fun fs hr => retI X0 hx hret (hb hby d1_67) hr)
  · refine hG _ _ _ (mkF m 34 #[.val (.ref a1), .val (.int p2), .val (.int p3), .unset] []) (fun t k => XS.icmpYes X0.here hx rfl (pc0 := 5) (pc' := 34) rfl (hb hby d1_5) rfl (own_feq c5).2 (by decide) (by decide) k) ?_
    refine hG _ _ _ (mkF m 35 #[.val (.ref a1), .val (.int p2), .val (.int p3), .unset] [(.int (0 : Int32))]) (fun t k => XS.iconst X0.here hx rfl (hb hby d1_34) k) ?_
    refine hG _ _ _ (mkF m 36 #[.val (.ref a1), .val (.int p2), .val (.int p3), .val (.int (0 : Int32))] []) (fun t k => XS.istoreN X0.here hx rfl (hb hby d1_35) rfl (l' := #[.val (.ref a1), .val (.int p2), .val (.int p3), .val (.int (0 : Int32))]) rfl k) ?_
    refine hG _ _ _ (mkF m 37 #[.val (.ref a1), .val (.int p2), .val (.int p3), .val (.int (0 : Int32))] [(.int (0 : Int32))]) (fun t k => XS.iloadN X0.here hx rfl (hb hby d1_36) rfl k) ?_
    refine hG _ _ _ (mkF m 66 #[.val (.ref a1), .val (.int p2), .val (.int p3), .val (.int (0 : Int32))] []) (fun t k => XS.ifYes X0.here hx rfl (pc0 := 37) (pc' := 66) rfl (hb hby d1_37) rfl ((if0 _ _).trans (own_teq (by decide)).1) (by decide) (by decide) k) ?_
    refine hG _ _ _ (mkF m 67 #[.val (.ref a1), .val (.int p2), .val (.int p3), .val (.int (0 : Int32))] [(.int (-1 : Int32))]) (fun t k => XS.iconst X0.here hx rfl (hb hby d1_66) k) ?_
    exact hR _ _ _ _ _ _ X0 N0 (by decide) (by decide) ⟨congrArg Value.int (own_us_no (fun k => c5 k.1)), e0⟩ (fun fs hr => retI X0 hx hret (hb hby d1_67) hr)
set_option maxRecDepth 65536 in
set_option maxHeartbeats 40000000 in
theorem tail102 {p : Program} {l : Launch} {e : Env} {s : State} {m : MethodId} {args : Array Value} {below : List Frame} {meth : Method} {c : Code} {T0 : State} {locs : List Loc} {Z : State} {a0 : Array Value} {h0 : Heap} {n0 K S : Nat} (q1 : Int64) (i2 i3 i4 pa qa : Int32) (a : Addr) (A : Nat) (f : Nat → Int32) (X0 : Stand p l e room_1 s m args below meth c T0 locs 1 6) (hx : p.tables.exec = Jvm.exec) (hZ : Z.Warmed39 s.vm) (hw : ∀ d ∈ tables_1, d.before a0 Z = true) (hby : c.code = code) (hml : c.maxLocals = 14) (hown : s.vm.findClass "com/example/querytrail/querytrail/Utf8UnpairedSurrogatePinLaw" = some m.cls) (hret : meth.sig.returnType = some .boolean) (e0 : T0.heap = h0) (N0 : Fr n0 locs) (hk : 1 ≤ K) (hn : 6 ≤ S) {G : State → JFrame → Prop} (hG : own_moves p e below G) (hR : own_rets p l e room_1 s m args below meth c n0 K S (fun w _ => w = .int 1) G) (V : own_arr Z h0 a 6 f) (hA : A ≤ 3) (hp : pa.toInt = A) (hq : pa.toInt < qa.toInt ∧ qa.toInt ≤ 6) (Z0 : n0 ≤ h0.size) :
    G T0 (mkF m 102 #[.val (.long q1), .second, .val (.int i2), .val (.int i3), .val (.int i4), .val (.ref a), .val (.int pa), .val (.int qa), .unset, .unset, .unset, .unset, .unset, .unset] []) := by
  have hp3 : 0 ≤ pa.toInt ∧ pa.toInt ≤ 3 := by omega
  have r0 := own_arr_rng V A (by omega)
  refine hG _ _ _ (mkF m 104 #[.val (.long q1), .second, .val (.int i2), .val (.int i3), .val (.int i4), .val (.ref a), .val (.int pa), .val (.int qa), .unset, .unset, .unset, .unset, .unset, .unset] [(.ref a)]) (fun t k => XS.aload X0.here hx rfl (hb hby at_102) rfl rfl k) ?_
  refine hG _ _ _ (mkF m 106 #[.val (.long q1), .second, .val (.int i2), .val (.int i3), .val (.int i4), .val (.ref a), .val (.int pa), .val (.int qa), .unset, .unset, .unset, .unset, .unset, .unset] [(.int pa), (.ref a)]) (fun t k => XS.iload X0.here hx rfl (hb hby at_104) rfl k) ?_
  refine hG _ _ _ (mkF m 107 #[.val (.long q1), .second, .val (.int i2), .val (.int i3), .val (.int i4), .val (.ref a), .val (.int pa), .val (.int qa), .unset, .unset, .unset, .unset, .unset, .unset] [(.int (f A))]) (fun t k => own_ld X0 hx hZ e0 V (j := pa) (i := A) hp (by omega) (hb hby at_106) k) ?_
  refine hG _ _ _ (mkF m 110 #[.val (.long q1), .second, .val (.int i2), .val (.int i3), .val (.int i4), .val (.ref a), .val (.int pa), .val (.int qa), .unset, .unset, .unset, .unset, .unset, .unset] [(.int (255 : Int32)), (.int (f A))]) (fun t k => XS.sipush X0.here hx rfl (hb hby at_107) k) ?_
  refine hG _ _ _ (mkF m 111 #[.val (.long q1), .second, .val (.int i2), .val (.int i3), .val (.int i4), .val (.ref a), .val (.int pa), .val (.int qa), .unset, .unset, .unset, .unset, .unset, .unset] [(.int ((f A) &&& (255 : Int32)))]) (fun t k => XS.iand X0.here hx rfl (hb hby at_110) rfl k) ?_
  refine hG _ _ _ (mkF m 113 #[.val (.long q1), .second, .val (.int i2), .val (.int i3), .val (.int i4), .val (.ref a), .val (.int pa), .val (.int qa), .val (.int ((f A) &&& (255 : Int32))), .unset, .unset, .unset, .unset, .unset] []) (fun t k => XS.istore X0.here hx rfl (hb hby at_111) rfl (l' := #[.val (.long q1), .second, .val (.int i2), .val (.int i3), .val (.int i4), .val (.ref a), .val (.int pa), .val (.int qa), .val (.int ((f A) &&& (255 : Int32))), .unset, .unset, .unset, .unset, .unset]) rfl k) ?_
  refine hG _ _ _ (mkF m 115 #[.val (.long q1), .second, .val (.int i2), .val (.int i3), .val (.int i4), .val (.ref a), .val (.int pa), .val (.int qa), .val (.int ((f A) &&& (255 : Int32))), .unset, .unset, .unset, .unset, .unset] [(.ref a)]) (fun t k => XS.aload X0.here hx rfl (hb hby at_113) rfl rfl k) ?_
  refine hG _ _ _ (mkF m 117 #[.val (.long q1), .second, .val (.int i2), .val (.int i3), .val (.int i4), .val (.ref a), .val (.int pa), .val (.int qa), .val (.int ((f A) &&& (255 : Int32))), .unset, .unset, .unset, .unset, .unset] [(.int pa), (.ref a)]) (fun t k => XS.iload X0.here hx rfl (hb hby at_115) rfl k) ?_
  refine hG _ _ _ (mkF m 118 #[.val (.long q1), .second, .val (.int i2), .val (.int i3), .val (.int i4), .val (.ref a), .val (.int pa), .val (.int qa), .val (.int ((f A) &&& (255 : Int32))), .unset, .unset, .unset, .unset, .unset] [(.int (1 : Int32)), (.int pa), (.ref a)]) (fun t k => XS.iconst X0.here hx rfl (hb hby at_117) k) ?_
  refine hG _ _ _ (mkF m 119 #[.val (.long q1), .second, .val (.int i2), .val (.int i3), .val (.int i4), .val (.ref a), .val (.int pa), .val (.int qa), .val (.int ((f A) &&& (255 : Int32))), .unset, .unset, .unset, .unset, .unset] [(.int (pa + (1 : Int32))), (.ref a)]) (fun t k => XS.iadd X0.here hx rfl (hb hby at_118) rfl k) ?_
  refine hG _ _ _ (mkF m 120 #[.val (.long q1), .second, .val (.int i2), .val (.int i3), .val (.int i4), .val (.ref a), .val (.int pa), .val (.int qa), .val (.int ((f A) &&& (255 : Int32))), .unset, .unset, .unset, .unset, .unset] [(.int (f (A + 1)))]) (fun t k => own_ld X0 hx hZ e0 V (j := (pa + (1 : Int32))) (i := (A + 1)) (own_ix hp hA).1 (by omega) (hb hby at_119) k) ?_
  refine hG _ _ _ (mkF m 123 #[.val (.long q1), .second, .val (.int i2), .val (.int i3), .val (.int i4), .val (.ref a), .val (.int pa), .val (.int qa), .val (.int ((f A) &&& (255 : Int32))), .unset, .unset, .unset, .unset, .unset] [(.int (255 : Int32)), (.int (f (A + 1)))]) (fun t k => XS.sipush X0.here hx rfl (hb hby at_120) k) ?_
  refine hG _ _ _ (mkF m 124 #[.val (.long q1), .second, .val (.int i2), .val (.int i3), .val (.int i4), .val (.ref a), .val (.int pa), .val (.int qa), .val (.int ((f A) &&& (255 : Int32))), .unset, .unset, .unset, .unset, .unset] [(.int ((f (A + 1)) &&& (255 : Int32)))]) (fun t k => XS.iand X0.here hx rfl (hb hby at_123) rfl k) ?_
  refine hG _ _ _ (mkF m 126 #[.val (.long q1), .second, .val (.int i2), .val (.int i3), .val (.int i4), .val (.ref a), .val (.int pa), .val (.int qa), .val (.int ((f A) &&& (255 : Int32))), .val (.int ((f (A + 1)) &&& (255 : Int32))), .unset, .unset, .unset, .unset] []) (fun t k => XS.istore X0.here hx rfl (hb hby at_124) rfl (l' := #[.val (.long q1), .second, .val (.int i2), .val (.int i3), .val (.int i4), .val (.ref a), .val (.int pa), .val (.int qa), .val (.int ((f A) &&& (255 : Int32))), .val (.int ((f (A + 1)) &&& (255 : Int32))), .unset, .unset, .unset, .unset]) rfl k) ?_
  refine hG _ _ _ (mkF m 128 #[.val (.long q1), .second, .val (.int i2), .val (.int i3), .val (.int i4), .val (.ref a), .val (.int pa), .val (.int qa), .val (.int ((f A) &&& (255 : Int32))), .val (.int ((f (A + 1)) &&& (255 : Int32))), .unset, .unset, .unset, .unset] [(.ref a)]) (fun t k => XS.aload X0.here hx rfl (hb hby at_126) rfl rfl k) ?_
  refine hG _ _ _ (mkF m 130 #[.val (.long q1), .second, .val (.int i2), .val (.int i3), .val (.int i4), .val (.ref a), .val (.int pa), .val (.int qa), .val (.int ((f A) &&& (255 : Int32))), .val (.int ((f (A + 1)) &&& (255 : Int32))), .unset, .unset, .unset, .unset] [(.int pa), (.ref a)]) (fun t k => XS.iload X0.here hx rfl (hb hby at_128) rfl k) ?_
  refine hG _ _ _ (mkF m 131 #[.val (.long q1), .second, .val (.int i2), .val (.int i3), .val (.int i4), .val (.ref a), .val (.int pa), .val (.int qa), .val (.int ((f A) &&& (255 : Int32))), .val (.int ((f (A + 1)) &&& (255 : Int32))), .unset, .unset, .unset, .unset] [(.int (2 : Int32)), (.int pa), (.ref a)]) (fun t k => XS.iconst X0.here hx rfl (hb hby at_130) k) ?_
  refine hG _ _ _ (mkF m 132 #[.val (.long q1), .second, .val (.int i2), .val (.int i3), .val (.int i4), .val (.ref a), .val (.int pa), .val (.int qa), .val (.int ((f A) &&& (255 : Int32))), .val (.int ((f (A + 1)) &&& (255 : Int32))), .unset, .unset, .unset, .unset] [(.int (pa + (2 : Int32))), (.ref a)]) (fun t k => XS.iadd X0.here hx rfl (hb hby at_131) rfl k) ?_
  refine hG _ _ _ (mkF m 133 #[.val (.long q1), .second, .val (.int i2), .val (.int i3), .val (.int i4), .val (.ref a), .val (.int pa), .val (.int qa), .val (.int ((f A) &&& (255 : Int32))), .val (.int ((f (A + 1)) &&& (255 : Int32))), .unset, .unset, .unset, .unset] [(.int (f (A + 2)))]) (fun t k => own_ld X0 hx hZ e0 V (j := (pa + (2 : Int32))) (i := (A + 2)) (own_ix hp hA).2 (by omega) (hb hby at_132) k) ?_
  refine hG _ _ _ (mkF m 136 #[.val (.long q1), .second, .val (.int i2), .val (.int i3), .val (.int i4), .val (.ref a), .val (.int pa), .val (.int qa), .val (.int ((f A) &&& (255 : Int32))), .val (.int ((f (A + 1)) &&& (255 : Int32))), .unset, .unset, .unset, .unset] [(.int (255 : Int32)), (.int (f (A + 2)))]) (fun t k => XS.sipush X0.here hx rfl (hb hby at_133) k) ?_
  refine hG _ _ _ (mkF m 137 #[.val (.long q1), .second, .val (.int i2), .val (.int i3), .val (.int i4), .val (.ref a), .val (.int pa), .val (.int qa), .val (.int ((f A) &&& (255 : Int32))), .val (.int ((f (A + 1)) &&& (255 : Int32))), .unset, .unset, .unset, .unset] [(.int ((f (A + 2)) &&& (255 : Int32)))]) (fun t k => XS.iand X0.here hx rfl (hb hby at_136) rfl k) ?_
  refine hG _ _ _ (mkF m 139 #[.val (.long q1), .second, .val (.int i2), .val (.int i3), .val (.int i4), .val (.ref a), .val (.int pa), .val (.int qa), .val (.int ((f A) &&& (255 : Int32))), .val (.int ((f (A + 1)) &&& (255 : Int32))), .val (.int ((f (A + 2)) &&& (255 : Int32))), .unset, .unset, .unset] []) (fun t k => XS.istore X0.here hx rfl (hb hby at_137) rfl (l' := #[.val (.long q1), .second, .val (.int i2), .val (.int i3), .val (.int i4), .val (.ref a), .val (.int pa), .val (.int qa), .val (.int ((f A) &&& (255 : Int32))), .val (.int ((f (A + 1)) &&& (255 : Int32))), .val (.int ((f (A + 2)) &&& (255 : Int32))), .unset, .unset, .unset]) rfl k) ?_
  refine hG _ _ _ (mkF m 141 #[.val (.long q1), .second, .val (.int i2), .val (.int i3), .val (.int i4), .val (.ref a), .val (.int pa), .val (.int qa), .val (.int ((f A) &&& (255 : Int32))), .val (.int ((f (A + 1)) &&& (255 : Int32))), .val (.int ((f (A + 2)) &&& (255 : Int32))), .unset, .unset, .unset] [(.int ((f A) &&& (255 : Int32)))]) (fun t k => XS.iload X0.here hx rfl (hb hby at_139) rfl k) ?_
  refine hG _ _ _ (mkF m 144 #[.val (.long q1), .second, .val (.int i2), .val (.int i3), .val (.int i4), .val (.ref a), .val (.int pa), .val (.int qa), .val (.int ((f A) &&& (255 : Int32))), .val (.int ((f (A + 1)) &&& (255 : Int32))), .val (.int ((f (A + 2)) &&& (255 : Int32))), .unset, .unset, .unset] [(.int (237 : Int32)), (.int ((f A) &&& (255 : Int32)))]) (fun t k => XS.sipush X0.here hx rfl (hb hby at_141) k) ?_
  by_cases c1 : ((f A) &&& (255 : Int32)).toInt = (237 : Int32).toInt
  · refine hG _ _ _ (mkF m 147 #[.val (.long q1), .second, .val (.int i2), .val (.int i3), .val (.int i4), .val (.ref a), .val (.int pa), .val (.int qa), .val (.int ((f A) &&& (255 : Int32))), .val (.int ((f (A + 1)) &&& (255 : Int32))), .val (.int ((f (A + 2)) &&& (255 : Int32))), .unset, .unset, .unset] []) (fun t k => XS.icmpNo X0.here hx rfl (hb hby at_144) rfl (own_teq c1).2 k) ?_
    refine hG _ _ _ (mkF m 149 #[.val (.long q1), .second, .val (.int i2), .val (.int i3), .val (.int i4), .val (.ref a), .val (.int pa), .val (.int qa), .val (.int ((f A) &&& (255 : Int32))), .val (.int ((f (A + 1)) &&& (255 : Int32))), .val (.int ((f (A + 2)) &&& (255 : Int32))), .unset, .unset, .unset] [(.int qa)]) (fun t k => XS.iload X0.here hx rfl (hb hby at_147) rfl k) ?_
    refine hG _ _ _ (mkF m 151 #[.val (.long q1), .second, .val (.int i2), .val (.int i3), .val (.int i4), .val (.ref a), .val (.int pa), .val (.int qa), .val (.int ((f A) &&& (255 : Int32))), .val (.int ((f (A + 1)) &&& (255 : Int32))), .val (.int ((f (A + 2)) &&& (255 : Int32))), .unset, .unset, .unset] [(.int pa), (.int qa)]) (fun t k => XS.iload X0.here hx rfl (hb hby at_149) rfl k) ?_
    refine hG _ _ _ (mkF m 152 #[.val (.long q1), .second, .val (.int i2), .val (.int i3), .val (.int i4), .val (.ref a), .val (.int pa), .val (.int qa), .val (.int ((f A) &&& (255 : Int32))), .val (.int ((f (A + 1)) &&& (255 : Int32))), .val (.int ((f (A + 2)) &&& (255 : Int32))), .unset, .unset, .unset] [(.int (qa - pa))]) (fun t k => XS.isub X0.here hx rfl (hb hby at_151) rfl k) ?_
    refine hG _ _ _ (mkF m 153 #[.val (.long q1), .second, .val (.int i2), .val (.int i3), .val (.int i4), .val (.ref a), .val (.int pa), .val (.int qa), .val (.int ((f A) &&& (255 : Int32))), .val (.int ((f (A + 1)) &&& (255 : Int32))), .val (.int ((f (A + 2)) &&& (255 : Int32))), .unset, .unset, .unset] [(.int (3 : Int32)), (.int (qa - pa))]) (fun t k => XS.iconst X0.here hx rfl (hb hby at_152) k) ?_
    by_cases c2 : (qa - pa).toInt < (3 : Int32).toInt
    · refine hG _ _ _ (mkF m 168 #[.val (.long q1), .second, .val (.int i2), .val (.int i3), .val (.int i4), .val (.ref a), .val (.int pa), .val (.int qa), .val (.int ((f A) &&& (255 : Int32))), .val (.int ((f (A + 1)) &&& (255 : Int32))), .val (.int ((f (A + 2)) &&& (255 : Int32))), .unset, .unset, .unset] []) (fun t k => XS.icmpYes X0.here hx rfl (pc0 := 153) (pc' := 168) rfl (hb hby at_153) rfl (own_tlt c2).1 (by decide) (by decide) k) ?_
      refine hG _ _ _ (mkF m 169 #[.val (.long q1), .second, .val (.int i2), .val (.int i3), .val (.int i4), .val (.ref a), .val (.int pa), .val (.int qa), .val (.int ((f A) &&& (255 : Int32))), .val (.int ((f (A + 1)) &&& (255 : Int32))), .val (.int ((f (A + 2)) &&& (255 : Int32))), .unset, .unset, .unset] [(.int (0 : Int32))]) (fun t k => XS.iconst X0.here hx rfl (hb hby at_168) k) ?_
      refine hG _ _ _ (mkF m 171 #[.val (.long q1), .second, .val (.int i2), .val (.int i3), .val (.int i4), .val (.ref a), .val (.int pa), .val (.int qa), .val (.int ((f A) &&& (255 : Int32))), .val (.int ((f (A + 1)) &&& (255 : Int32))), .val (.int ((f (A + 2)) &&& (255 : Int32))), .val (.int (0 : Int32)), .unset, .unset] []) (fun t k => XS.istore X0.here hx rfl (hb hby at_169) rfl (l' := #[.val (.long q1), .second, .val (.int i2), .val (.int i3), .val (.int i4), .val (.ref a), .val (.int pa), .val (.int qa), .val (.int ((f A) &&& (255 : Int32))), .val (.int ((f (A + 1)) &&& (255 : Int32))), .val (.int ((f (A + 2)) &&& (255 : Int32))), .val (.int (0 : Int32)), .unset, .unset]) rfl k) ?_
      refine hG _ _ _ (mkF m 173 #[.val (.long q1), .second, .val (.int i2), .val (.int i3), .val (.int i4), .val (.ref a), .val (.int pa), .val (.int qa), .val (.int ((f A) &&& (255 : Int32))), .val (.int ((f (A + 1)) &&& (255 : Int32))), .val (.int ((f (A + 2)) &&& (255 : Int32))), .val (.int (0 : Int32)), .unset, .unset] [(.int (0 : Int32))]) (fun t k => XS.iload X0.here hx rfl (hb hby at_171) rfl k) ?_
      refine hG _ _ _ (mkF m 196 #[.val (.long q1), .second, .val (.int i2), .val (.int i3), .val (.int i4), .val (.ref a), .val (.int pa), .val (.int qa), .val (.int ((f A) &&& (255 : Int32))), .val (.int ((f (A + 1)) &&& (255 : Int32))), .val (.int ((f (A + 2)) &&& (255 : Int32))), .val (.int (0 : Int32)), .unset, .unset] []) (fun t k => XS.ifYes X0.here hx rfl (pc0 := 173) (pc' := 196) rfl (hb hby at_173) rfl ((if0 _ _).trans (own_teq (by decide)).1) (by decide) (by decide) k) ?_
      refine hG _ _ _ (mkF m 197 #[.val (.long q1), .second, .val (.int i2), .val (.int i3), .val (.int i4), .val (.ref a), .val (.int pa), .val (.int qa), .val (.int ((f A) &&& (255 : Int32))), .val (.int ((f (A + 1)) &&& (255 : Int32))), .val (.int ((f (A + 2)) &&& (255 : Int32))), .val (.int (0 : Int32)), .unset, .unset] [(.int (-1 : Int32))]) (fun t k => XS.iconst X0.here hx rfl (hb hby at_196) k) ?_
      refine hG _ _ _ (mkF m 199 #[.val (.long q1), .second, .val (.int i2), .val (.int i3), .val (.int i4), .val (.ref a), .val (.int pa), .val (.int qa), .val (.int ((f A) &&& (255 : Int32))), .val (.int ((f (A + 1)) &&& (255 : Int32))), .val (.int ((f (A + 2)) &&& (255 : Int32))), .val (.int (0 : Int32)), .val (.int (-1 : Int32)), .unset] []) (fun t k => XS.istore X0.here hx rfl (hb hby at_197) rfl (l' := #[.val (.long q1), .second, .val (.int i2), .val (.int i3), .val (.int i4), .val (.ref a), .val (.int pa), .val (.int qa), .val (.int ((f A) &&& (255 : Int32))), .val (.int ((f (A + 1)) &&& (255 : Int32))), .val (.int ((f (A + 2)) &&& (255 : Int32))), .val (.int (0 : Int32)), .val (.int (-1 : Int32)), .unset]) rfl k) ?_
      refine hG _ _ _ (mkF m 201 #[.val (.long q1), .second, .val (.int i2), .val (.int i3), .val (.int i4), .val (.ref a), .val (.int pa), .val (.int qa), .val (.int ((f A) &&& (255 : Int32))), .val (.int ((f (A + 1)) &&& (255 : Int32))), .val (.int ((f (A + 2)) &&& (255 : Int32))), .val (.int (0 : Int32)), .val (.int (-1 : Int32)), .unset] [(.ref a)]) (fun t k => XS.aload X0.here hx rfl (hb hby at_199) rfl rfl k) ?_
      refine hG _ _ _ (mkF m 203 #[.val (.long q1), .second, .val (.int i2), .val (.int i3), .val (.int i4), .val (.ref a), .val (.int pa), .val (.int qa), .val (.int ((f A) &&& (255 : Int32))), .val (.int ((f (A + 1)) &&& (255 : Int32))), .val (.int ((f (A + 2)) &&& (255 : Int32))), .val (.int (0 : Int32)), .val (.int (-1 : Int32)), .unset] [(.int pa), (.ref a)]) (fun t k => XS.iload X0.here hx rfl (hb hby at_201) rfl k) ?_
      refine hG _ _ _ (mkF m 205 #[.val (.long q1), .second, .val (.int i2), .val (.int i3), .val (.int i4), .val (.ref a), .val (.int pa), .val (.int qa), .val (.int ((f A) &&& (255 : Int32))), .val (.int ((f (A + 1)) &&& (255 : Int32))), .val (.int ((f (A + 2)) &&& (255 : Int32))), .val (.int (0 : Int32)), .val (.int (-1 : Int32)), .unset] [(.int qa), (.int pa), (.ref a)]) (fun t k => XS.iload X0.here hx rfl (hb hby at_203) rfl k) ?_
      obtain ⟨v9, T9, L9, X9, q9, st9⟩ := own_call X0 hx hZ e0 (argsL := [(.ref a), (.int pa), (.int qa)]) (rest := []) (W := 0) hown (hw _ (List.mem_of_getElem? (i := 2) rfl)) (hw _ (List.mem_of_getElem? (i := 3) rfl)) (hw _ (List.mem_of_getElem? (i := 4) rfl)) (hw _ (List.mem_of_getElem? (i := 5) rfl)) (by decide) (rm1 l Z a0 hw [] a pa qa A 6 f h0 n0 Z0 V hA hp (by omega)) (by decide) (by decide) (Ls := #[.val (.long q1), .second, .val (.int i2), .val (.int i3), .val (.int i4), .val (.ref a), .val (.int pa), .val (.int qa), .val (.int ((f A) &&& (255 : Int32))), .val (.int ((f (A + 1)) &&& (255 : Int32))), .val (.int ((f (A + 2)) &&& (255 : Int32))), .val (.int (0 : Int32)), .val (.int (-1 : Int32)), .unset]) (by rw [hml]; rfl) (lenOf pd_1 rfl) (by decide) (hb hby at_205) (by decide) (by decide)
      obtain ⟨w9, rfl, ⟨rfl, e9⟩, M9⟩ := q9
      have N9 := Fr.app N0 M9
      refine hG _ _ _ (mkF m 208 #[.val (.long q1), .second, .val (.int i2), .val (.int i3), .val (.int i4), .val (.ref a), .val (.int pa), .val (.int qa), .val (.int ((f A) &&& (255 : Int32))), .val (.int ((f (A + 1)) &&& (255 : Int32))), .val (.int ((f (A + 2)) &&& (255 : Int32))), .val (.int (0 : Int32)), .val (.int (-1 : Int32)), .unset] [(.int (own_us (f A) (f (A + 1)) (f (A + 2)) pa qa))]) (fun t k => st9 t k) ?_
      refine hG _ _ _ (mkF m 210 #[.val (.long q1), .second, .val (.int i2), .val (.int i3), .val (.int i4), .val (.ref a), .val (.int pa), .val (.int qa), .val (.int ((f A) &&& (255 : Int32))), .val (.int ((f (A + 1)) &&& (255 : Int32))), .val (.int ((f (A + 2)) &&& (255 : Int32))), .val (.int (0 : Int32)), .val (.int (-1 : Int32)), .val (.int (own_us (f A) (f (A + 1)) (f (A + 2)) pa qa))] []) (fun t k => XS.istore X9.here hx rfl (hb hby at_208) rfl (l' := #[.val (.long q1), .second, .val (.int i2), .val (.int i3), .val (.int i4), .val (.ref a), .val (.int pa), .val (.int qa), .val (.int ((f A) &&& (255 : Int32))), .val (.int ((f (A + 1)) &&& (255 : Int32))), .val (.int ((f (A + 2)) &&& (255 : Int32))), .val (.int (0 : Int32)), .val (.int (-1 : Int32)), .val (.int (own_us (f A) (f (A + 1)) (f (A + 2)) pa qa))]) rfl k) ?_
      refine hG _ _ _ (mkF m 212 #[.val (.long q1), .second, .val (.int i2), .val (.int i3), .val (.int i4), .val (.ref a), .val (.int pa), .val (.int qa), .val (.int ((f A) &&& (255 : Int32))), .val (.int ((f (A + 1)) &&& (255 : Int32))), .val (.int ((f (A + 2)) &&& (255 : Int32))), .val (.int (0 : Int32)), .val (.int (-1 : Int32)), .val (.int (own_us (f A) (f (A + 1)) (f (A + 2)) pa qa))] [(.int (own_us (f A) (f (A + 1)) (f (A + 2)) pa qa))]) (fun t k => XS.iload X9.here hx rfl (hb hby at_210) rfl k) ?_
      refine hG _ _ _ (mkF m 214 #[.val (.long q1), .second, .val (.int i2), .val (.int i3), .val (.int i4), .val (.ref a), .val (.int pa), .val (.int qa), .val (.int ((f A) &&& (255 : Int32))), .val (.int ((f (A + 1)) &&& (255 : Int32))), .val (.int ((f (A + 2)) &&& (255 : Int32))), .val (.int (0 : Int32)), .val (.int (-1 : Int32)), .val (.int (own_us (f A) (f (A + 1)) (f (A + 2)) pa qa))] [(.int (-1 : Int32)), (.int (own_us (f A) (f (A + 1)) (f (A + 2)) pa qa))]) (fun t k => XS.iload X9.here hx rfl (hb hby at_212) rfl k) ?_
      refine hG _ _ _ (mkF m 217 #[.val (.long q1), .second, .val (.int i2), .val (.int i3), .val (.int i4), .val (.ref a), .val (.int pa), .val (.int qa), .val (.int ((f A) &&& (255 : Int32))), .val (.int ((f (A + 1)) &&& (255 : Int32))), .val (.int ((f (A + 2)) &&& (255 : Int32))), .val (.int (0 : Int32)), .val (.int (-1 : Int32)), .val (.int (own_us (f A) (f (A + 1)) (f (A + 2)) pa qa))] []) (fun t k => XS.icmpNo X9.here hx rfl (hb hby at_214) rfl (own_teq (own_law_neg hp3 hq r0 (Or.inr (Or.inl c2)))).2 k) ?_
      refine hG _ _ _ (mkF m 218 #[.val (.long q1), .second, .val (.int i2), .val (.int i3), .val (.int i4), .val (.ref a), .val (.int pa), .val (.int qa), .val (.int ((f A) &&& (255 : Int32))), .val (.int ((f (A + 1)) &&& (255 : Int32))), .val (.int ((f (A + 2)) &&& (255 : Int32))), .val (.int (0 : Int32)), .val (.int (-1 : Int32)), .val (.int (own_us (f A) (f (A + 1)) (f (A + 2)) pa qa))] [(.int (1 : Int32))]) (fun t k => XS.iconst X9.here hx rfl (hb hby at_217) k) ?_
      refine hG _ _ _ (mkF m 222 #[.val (.long q1), .second, .val (.int i2), .val (.int i3), .val (.int i4), .val (.ref a), .val (.int pa), .val (.int qa), .val (.int ((f A) &&& (255 : Int32))), .val (.int ((f (A + 1)) &&& (255 : Int32))), .val (.int ((f (A + 2)) &&& (255 : Int32))), .val (.int (0 : Int32)), .val (.int (-1 : Int32)), .val (.int (own_us (f A) (f (A + 1)) (f (A + 2)) pa qa))] [(.int (1 : Int32))]) (fun t k => XS.goto X9.here hx rfl (pc0 := 218) (pc' := 222) rfl (hb hby at_218) (by decide) (by decide) k) ?_
      exact hR _ _ _ _ _ _ X9 N9 hk hn rfl (fun fs hr => retN X9 hx (t := .boolean) hret (by simp) (hb hby at_222) hr)
    · refine hG _ _ _ (mkF m 156 #[.val (.long q1), .second, .val (.int i2), .val (.int i3), .val (.int i4), .val (.ref a), .val (.int pa), .val (.int qa), .val (.int ((f A) &&& (255 : Int32))), .val (.int ((f (A + 1)) &&& (255 : Int32))), .val (.int ((f (A + 2)) &&& (255 : Int32))), .unset, .unset, .unset] []) (fun t k => XS.icmpNo X0.here hx rfl (hb hby at_153) rfl (own_flt c2).1 k) ?_
      refine hG _ _ _ (mkF m 158 #[.val (.long q1), .second, .val (.int i2), .val (.int i3), .val (.int i4), .val (.ref a), .val (.int pa), .val (.int qa), .val (.int ((f A) &&& (255 : Int32))), .val (.int ((f (A + 1)) &&& (255 : Int32))), .val (.int ((f (A + 2)) &&& (255 : Int32))), .unset, .unset, .unset] [(.int ((f (A + 1)) &&& (255 : Int32)))]) (fun t k => XS.iload X0.here hx rfl (hb hby at_156) rfl k) ?_
      refine hG _ _ _ (mkF m 161 #[.val (.long q1), .second, .val (.int i2), .val (.int i3), .val (.int i4), .val (.ref a), .val (.int pa), .val (.int qa), .val (.int ((f A) &&& (255 : Int32))), .val (.int ((f (A + 1)) &&& (255 : Int32))), .val (.int ((f (A + 2)) &&& (255 : Int32))), .unset, .unset, .unset] [(.int (160 : Int32)), (.int ((f (A + 1)) &&& (255 : Int32)))]) (fun t k => XS.sipush X0.here hx rfl (hb hby at_158) k) ?_
      by_cases c3 : ((f (A + 1)) &&& (255 : Int32)).toInt < (160 : Int32).toInt
      · refine hG _ _ _ (mkF m 168 #[.val (.long q1), .second, .val (.int i2), .val (.int i3), .val (.int i4), .val (.ref a), .val (.int pa), .val (.int qa), .val (.int ((f A) &&& (255 : Int32))), .val (.int ((f (A + 1)) &&& (255 : Int32))), .val (.int ((f (A + 2)) &&& (255 : Int32))), .unset, .unset, .unset] []) (fun t k => XS.icmpYes X0.here hx rfl (pc0 := 161) (pc' := 168) rfl (hb hby at_161) rfl (own_tlt c3).1 (by decide) (by decide) k) ?_
        refine hG _ _ _ (mkF m 169 #[.val (.long q1), .second, .val (.int i2), .val (.int i3), .val (.int i4), .val (.ref a), .val (.int pa), .val (.int qa), .val (.int ((f A) &&& (255 : Int32))), .val (.int ((f (A + 1)) &&& (255 : Int32))), .val (.int ((f (A + 2)) &&& (255 : Int32))), .unset, .unset, .unset] [(.int (0 : Int32))]) (fun t k => XS.iconst X0.here hx rfl (hb hby at_168) k) ?_
        refine hG _ _ _ (mkF m 171 #[.val (.long q1), .second, .val (.int i2), .val (.int i3), .val (.int i4), .val (.ref a), .val (.int pa), .val (.int qa), .val (.int ((f A) &&& (255 : Int32))), .val (.int ((f (A + 1)) &&& (255 : Int32))), .val (.int ((f (A + 2)) &&& (255 : Int32))), .val (.int (0 : Int32)), .unset, .unset] []) (fun t k => XS.istore X0.here hx rfl (hb hby at_169) rfl (l' := #[.val (.long q1), .second, .val (.int i2), .val (.int i3), .val (.int i4), .val (.ref a), .val (.int pa), .val (.int qa), .val (.int ((f A) &&& (255 : Int32))), .val (.int ((f (A + 1)) &&& (255 : Int32))), .val (.int ((f (A + 2)) &&& (255 : Int32))), .val (.int (0 : Int32)), .unset, .unset]) rfl k) ?_
        refine hG _ _ _ (mkF m 173 #[.val (.long q1), .second, .val (.int i2), .val (.int i3), .val (.int i4), .val (.ref a), .val (.int pa), .val (.int qa), .val (.int ((f A) &&& (255 : Int32))), .val (.int ((f (A + 1)) &&& (255 : Int32))), .val (.int ((f (A + 2)) &&& (255 : Int32))), .val (.int (0 : Int32)), .unset, .unset] [(.int (0 : Int32))]) (fun t k => XS.iload X0.here hx rfl (hb hby at_171) rfl k) ?_
        refine hG _ _ _ (mkF m 196 #[.val (.long q1), .second, .val (.int i2), .val (.int i3), .val (.int i4), .val (.ref a), .val (.int pa), .val (.int qa), .val (.int ((f A) &&& (255 : Int32))), .val (.int ((f (A + 1)) &&& (255 : Int32))), .val (.int ((f (A + 2)) &&& (255 : Int32))), .val (.int (0 : Int32)), .unset, .unset] []) (fun t k => XS.ifYes X0.here hx rfl (pc0 := 173) (pc' := 196) rfl (hb hby at_173) rfl ((if0 _ _).trans (own_teq (by decide)).1) (by decide) (by decide) k) ?_
        refine hG _ _ _ (mkF m 197 #[.val (.long q1), .second, .val (.int i2), .val (.int i3), .val (.int i4), .val (.ref a), .val (.int pa), .val (.int qa), .val (.int ((f A) &&& (255 : Int32))), .val (.int ((f (A + 1)) &&& (255 : Int32))), .val (.int ((f (A + 2)) &&& (255 : Int32))), .val (.int (0 : Int32)), .unset, .unset] [(.int (-1 : Int32))]) (fun t k => XS.iconst X0.here hx rfl (hb hby at_196) k) ?_
        refine hG _ _ _ (mkF m 199 #[.val (.long q1), .second, .val (.int i2), .val (.int i3), .val (.int i4), .val (.ref a), .val (.int pa), .val (.int qa), .val (.int ((f A) &&& (255 : Int32))), .val (.int ((f (A + 1)) &&& (255 : Int32))), .val (.int ((f (A + 2)) &&& (255 : Int32))), .val (.int (0 : Int32)), .val (.int (-1 : Int32)), .unset] []) (fun t k => XS.istore X0.here hx rfl (hb hby at_197) rfl (l' := #[.val (.long q1), .second, .val (.int i2), .val (.int i3), .val (.int i4), .val (.ref a), .val (.int pa), .val (.int qa), .val (.int ((f A) &&& (255 : Int32))), .val (.int ((f (A + 1)) &&& (255 : Int32))), .val (.int ((f (A + 2)) &&& (255 : Int32))), .val (.int (0 : Int32)), .val (.int (-1 : Int32)), .unset]) rfl k) ?_
        refine hG _ _ _ (mkF m 201 #[.val (.long q1), .second, .val (.int i2), .val (.int i3), .val (.int i4), .val (.ref a), .val (.int pa), .val (.int qa), .val (.int ((f A) &&& (255 : Int32))), .val (.int ((f (A + 1)) &&& (255 : Int32))), .val (.int ((f (A + 2)) &&& (255 : Int32))), .val (.int (0 : Int32)), .val (.int (-1 : Int32)), .unset] [(.ref a)]) (fun t k => XS.aload X0.here hx rfl (hb hby at_199) rfl rfl k) ?_
        refine hG _ _ _ (mkF m 203 #[.val (.long q1), .second, .val (.int i2), .val (.int i3), .val (.int i4), .val (.ref a), .val (.int pa), .val (.int qa), .val (.int ((f A) &&& (255 : Int32))), .val (.int ((f (A + 1)) &&& (255 : Int32))), .val (.int ((f (A + 2)) &&& (255 : Int32))), .val (.int (0 : Int32)), .val (.int (-1 : Int32)), .unset] [(.int pa), (.ref a)]) (fun t k => XS.iload X0.here hx rfl (hb hby at_201) rfl k) ?_
        refine hG _ _ _ (mkF m 205 #[.val (.long q1), .second, .val (.int i2), .val (.int i3), .val (.int i4), .val (.ref a), .val (.int pa), .val (.int qa), .val (.int ((f A) &&& (255 : Int32))), .val (.int ((f (A + 1)) &&& (255 : Int32))), .val (.int ((f (A + 2)) &&& (255 : Int32))), .val (.int (0 : Int32)), .val (.int (-1 : Int32)), .unset] [(.int qa), (.int pa), (.ref a)]) (fun t k => XS.iload X0.here hx rfl (hb hby at_203) rfl k) ?_
        obtain ⟨v9, T9, L9, X9, q9, st9⟩ := own_call X0 hx hZ e0 (argsL := [(.ref a), (.int pa), (.int qa)]) (rest := []) (W := 0) hown (hw _ (List.mem_of_getElem? (i := 2) rfl)) (hw _ (List.mem_of_getElem? (i := 3) rfl)) (hw _ (List.mem_of_getElem? (i := 4) rfl)) (hw _ (List.mem_of_getElem? (i := 5) rfl)) (by decide) (rm1 l Z a0 hw [] a pa qa A 6 f h0 n0 Z0 V hA hp (by omega)) (by decide) (by decide) (Ls := #[.val (.long q1), .second, .val (.int i2), .val (.int i3), .val (.int i4), .val (.ref a), .val (.int pa), .val (.int qa), .val (.int ((f A) &&& (255 : Int32))), .val (.int ((f (A + 1)) &&& (255 : Int32))), .val (.int ((f (A + 2)) &&& (255 : Int32))), .val (.int (0 : Int32)), .val (.int (-1 : Int32)), .unset]) (by rw [hml]; rfl) (lenOf pd_1 rfl) (by decide) (hb hby at_205) (by decide) (by decide)
        obtain ⟨w9, rfl, ⟨rfl, e9⟩, M9⟩ := q9
        have N9 := Fr.app N0 M9
        refine hG _ _ _ (mkF m 208 #[.val (.long q1), .second, .val (.int i2), .val (.int i3), .val (.int i4), .val (.ref a), .val (.int pa), .val (.int qa), .val (.int ((f A) &&& (255 : Int32))), .val (.int ((f (A + 1)) &&& (255 : Int32))), .val (.int ((f (A + 2)) &&& (255 : Int32))), .val (.int (0 : Int32)), .val (.int (-1 : Int32)), .unset] [(.int (own_us (f A) (f (A + 1)) (f (A + 2)) pa qa))]) (fun t k => st9 t k) ?_
        refine hG _ _ _ (mkF m 210 #[.val (.long q1), .second, .val (.int i2), .val (.int i3), .val (.int i4), .val (.ref a), .val (.int pa), .val (.int qa), .val (.int ((f A) &&& (255 : Int32))), .val (.int ((f (A + 1)) &&& (255 : Int32))), .val (.int ((f (A + 2)) &&& (255 : Int32))), .val (.int (0 : Int32)), .val (.int (-1 : Int32)), .val (.int (own_us (f A) (f (A + 1)) (f (A + 2)) pa qa))] []) (fun t k => XS.istore X9.here hx rfl (hb hby at_208) rfl (l' := #[.val (.long q1), .second, .val (.int i2), .val (.int i3), .val (.int i4), .val (.ref a), .val (.int pa), .val (.int qa), .val (.int ((f A) &&& (255 : Int32))), .val (.int ((f (A + 1)) &&& (255 : Int32))), .val (.int ((f (A + 2)) &&& (255 : Int32))), .val (.int (0 : Int32)), .val (.int (-1 : Int32)), .val (.int (own_us (f A) (f (A + 1)) (f (A + 2)) pa qa))]) rfl k) ?_
        refine hG _ _ _ (mkF m 212 #[.val (.long q1), .second, .val (.int i2), .val (.int i3), .val (.int i4), .val (.ref a), .val (.int pa), .val (.int qa), .val (.int ((f A) &&& (255 : Int32))), .val (.int ((f (A + 1)) &&& (255 : Int32))), .val (.int ((f (A + 2)) &&& (255 : Int32))), .val (.int (0 : Int32)), .val (.int (-1 : Int32)), .val (.int (own_us (f A) (f (A + 1)) (f (A + 2)) pa qa))] [(.int (own_us (f A) (f (A + 1)) (f (A + 2)) pa qa))]) (fun t k => XS.iload X9.here hx rfl (hb hby at_210) rfl k) ?_
        refine hG _ _ _ (mkF m 214 #[.val (.long q1), .second, .val (.int i2), .val (.int i3), .val (.int i4), .val (.ref a), .val (.int pa), .val (.int qa), .val (.int ((f A) &&& (255 : Int32))), .val (.int ((f (A + 1)) &&& (255 : Int32))), .val (.int ((f (A + 2)) &&& (255 : Int32))), .val (.int (0 : Int32)), .val (.int (-1 : Int32)), .val (.int (own_us (f A) (f (A + 1)) (f (A + 2)) pa qa))] [(.int (-1 : Int32)), (.int (own_us (f A) (f (A + 1)) (f (A + 2)) pa qa))]) (fun t k => XS.iload X9.here hx rfl (hb hby at_212) rfl k) ?_
        refine hG _ _ _ (mkF m 217 #[.val (.long q1), .second, .val (.int i2), .val (.int i3), .val (.int i4), .val (.ref a), .val (.int pa), .val (.int qa), .val (.int ((f A) &&& (255 : Int32))), .val (.int ((f (A + 1)) &&& (255 : Int32))), .val (.int ((f (A + 2)) &&& (255 : Int32))), .val (.int (0 : Int32)), .val (.int (-1 : Int32)), .val (.int (own_us (f A) (f (A + 1)) (f (A + 2)) pa qa))] []) (fun t k => XS.icmpNo X9.here hx rfl (hb hby at_214) rfl (own_teq (own_law_neg hp3 hq r0 (Or.inr (Or.inr c3)))).2 k) ?_
        refine hG _ _ _ (mkF m 218 #[.val (.long q1), .second, .val (.int i2), .val (.int i3), .val (.int i4), .val (.ref a), .val (.int pa), .val (.int qa), .val (.int ((f A) &&& (255 : Int32))), .val (.int ((f (A + 1)) &&& (255 : Int32))), .val (.int ((f (A + 2)) &&& (255 : Int32))), .val (.int (0 : Int32)), .val (.int (-1 : Int32)), .val (.int (own_us (f A) (f (A + 1)) (f (A + 2)) pa qa))] [(.int (1 : Int32))]) (fun t k => XS.iconst X9.here hx rfl (hb hby at_217) k) ?_
        refine hG _ _ _ (mkF m 222 #[.val (.long q1), .second, .val (.int i2), .val (.int i3), .val (.int i4), .val (.ref a), .val (.int pa), .val (.int qa), .val (.int ((f A) &&& (255 : Int32))), .val (.int ((f (A + 1)) &&& (255 : Int32))), .val (.int ((f (A + 2)) &&& (255 : Int32))), .val (.int (0 : Int32)), .val (.int (-1 : Int32)), .val (.int (own_us (f A) (f (A + 1)) (f (A + 2)) pa qa))] [(.int (1 : Int32))]) (fun t k => XS.goto X9.here hx rfl (pc0 := 218) (pc' := 222) rfl (hb hby at_218) (by decide) (by decide) k) ?_
        exact hR _ _ _ _ _ _ X9 N9 hk hn rfl (fun fs hr => retN X9 hx (t := .boolean) hret (by simp) (hb hby at_222) hr)
      · refine hG _ _ _ (mkF m 164 #[.val (.long q1), .second, .val (.int i2), .val (.int i3), .val (.int i4), .val (.ref a), .val (.int pa), .val (.int qa), .val (.int ((f A) &&& (255 : Int32))), .val (.int ((f (A + 1)) &&& (255 : Int32))), .val (.int ((f (A + 2)) &&& (255 : Int32))), .unset, .unset, .unset] []) (fun t k => XS.icmpNo X0.here hx rfl (hb hby at_161) rfl (own_flt c3).1 k) ?_
        refine hG _ _ _ (mkF m 165 #[.val (.long q1), .second, .val (.int i2), .val (.int i3), .val (.int i4), .val (.ref a), .val (.int pa), .val (.int qa), .val (.int ((f A) &&& (255 : Int32))), .val (.int ((f (A + 1)) &&& (255 : Int32))), .val (.int ((f (A + 2)) &&& (255 : Int32))), .unset, .unset, .unset] [(.int (1 : Int32))]) (fun t k => XS.iconst X0.here hx rfl (hb hby at_164) k) ?_
        refine hG _ _ _ (mkF m 169 #[.val (.long q1), .second, .val (.int i2), .val (.int i3), .val (.int i4), .val (.ref a), .val (.int pa), .val (.int qa), .val (.int ((f A) &&& (255 : Int32))), .val (.int ((f (A + 1)) &&& (255 : Int32))), .val (.int ((f (A + 2)) &&& (255 : Int32))), .unset, .unset, .unset] [(.int (1 : Int32))]) (fun t k => XS.goto X0.here hx rfl (pc0 := 165) (pc' := 169) rfl (hb hby at_165) (by decide) (by decide) k) ?_
        refine hG _ _ _ (mkF m 171 #[.val (.long q1), .second, .val (.int i2), .val (.int i3), .val (.int i4), .val (.ref a), .val (.int pa), .val (.int qa), .val (.int ((f A) &&& (255 : Int32))), .val (.int ((f (A + 1)) &&& (255 : Int32))), .val (.int ((f (A + 2)) &&& (255 : Int32))), .val (.int (1 : Int32)), .unset, .unset] []) (fun t k => XS.istore X0.here hx rfl (hb hby at_169) rfl (l' := #[.val (.long q1), .second, .val (.int i2), .val (.int i3), .val (.int i4), .val (.ref a), .val (.int pa), .val (.int qa), .val (.int ((f A) &&& (255 : Int32))), .val (.int ((f (A + 1)) &&& (255 : Int32))), .val (.int ((f (A + 2)) &&& (255 : Int32))), .val (.int (1 : Int32)), .unset, .unset]) rfl k) ?_
        refine hG _ _ _ (mkF m 173 #[.val (.long q1), .second, .val (.int i2), .val (.int i3), .val (.int i4), .val (.ref a), .val (.int pa), .val (.int qa), .val (.int ((f A) &&& (255 : Int32))), .val (.int ((f (A + 1)) &&& (255 : Int32))), .val (.int ((f (A + 2)) &&& (255 : Int32))), .val (.int (1 : Int32)), .unset, .unset] [(.int (1 : Int32))]) (fun t k => XS.iload X0.here hx rfl (hb hby at_171) rfl k) ?_
        refine hG _ _ _ (mkF m 176 #[.val (.long q1), .second, .val (.int i2), .val (.int i3), .val (.int i4), .val (.ref a), .val (.int pa), .val (.int qa), .val (.int ((f A) &&& (255 : Int32))), .val (.int ((f (A + 1)) &&& (255 : Int32))), .val (.int ((f (A + 2)) &&& (255 : Int32))), .val (.int (1 : Int32)), .unset, .unset] []) (fun t k => XS.ifNo X0.here hx rfl (hb hby at_173) rfl ((if0 _ _).trans (own_feq (by decide)).1) k) ?_
        refine hG _ _ _ (mkF m 178 #[.val (.long q1), .second, .val (.int i2), .val (.int i3), .val (.int i4), .val (.ref a), .val (.int pa), .val (.int qa), .val (.int ((f A) &&& (255 : Int32))), .val (.int ((f (A + 1)) &&& (255 : Int32))), .val (.int ((f (A + 2)) &&& (255 : Int32))), .val (.int (1 : Int32)), .unset, .unset] [(.int (53248 : Int32))]) (fun t k => X0.ldcInt hx (own := "com/example/querytrail/querytrail/Utf8UnpairedSurrogatePinLaw") (v := (53248 : Int32)) hown (mvT hZ (hw _ (List.mem_of_getElem? (i := 6) rfl))) (g := (mkF m 176 #[.val (.long q1), .second, .val (.int i2), .val (.int i3), .val (.int i4), .val (.ref a), .val (.int pa), .val (.int qa), .val (.int ((f A) &&& (255 : Int32))), .val (.int ((f (A + 1)) &&& (255 : Int32))), .val (.int ((f (A + 2)) &&& (255 : Int32))), .val (.int (1 : Int32)), .unset, .unset] [])) rfl (hb hby at_176) t k) ?_
        refine hG _ _ _ (mkF m 180 #[.val (.long q1), .second, .val (.int i2), .val (.int i3), .val (.int i4), .val (.ref a), .val (.int pa), .val (.int qa), .val (.int ((f A) &&& (255 : Int32))), .val (.int ((f (A + 1)) &&& (255 : Int32))), .val (.int ((f (A + 2)) &&& (255 : Int32))), .val (.int (1 : Int32)), .unset, .unset] [(.int ((f (A + 1)) &&& (255 : Int32))), (.int (53248 : Int32))]) (fun t k => XS.iload X0.here hx rfl (hb hby at_178) rfl k) ?_
        refine hG _ _ _ (mkF m 182 #[.val (.long q1), .second, .val (.int i2), .val (.int i3), .val (.int i4), .val (.ref a), .val (.int pa), .val (.int qa), .val (.int ((f A) &&& (255 : Int32))), .val (.int ((f (A + 1)) &&& (255 : Int32))), .val (.int ((f (A + 2)) &&& (255 : Int32))), .val (.int (1 : Int32)), .unset, .unset] [(.int (64 : Int32)), (.int ((f (A + 1)) &&& (255 : Int32))), (.int (53248 : Int32))]) (fun t k => XS.bipush X0.here hx rfl (hb hby at_180) k) ?_
        refine hG _ _ _ (mkF m 183 #[.val (.long q1), .second, .val (.int i2), .val (.int i3), .val (.int i4), .val (.ref a), .val (.int pa), .val (.int qa), .val (.int ((f A) &&& (255 : Int32))), .val (.int ((f (A + 1)) &&& (255 : Int32))), .val (.int ((f (A + 2)) &&& (255 : Int32))), .val (.int (1 : Int32)), .unset, .unset] [(.int (((f (A + 1)) &&& (255 : Int32)) - (((f (A + 1)) &&& (255 : Int32)) / (64 : Int32)) * (64 : Int32))), (.int (53248 : Int32))]) (fun t k => XS.irem X0.here hx rfl (hb hby at_182) rfl (by decide) k) ?_
        refine hG _ _ _ (mkF m 185 #[.val (.long q1), .second, .val (.int i2), .val (.int i3), .val (.int i4), .val (.ref a), .val (.int pa), .val (.int qa), .val (.int ((f A) &&& (255 : Int32))), .val (.int ((f (A + 1)) &&& (255 : Int32))), .val (.int ((f (A + 2)) &&& (255 : Int32))), .val (.int (1 : Int32)), .unset, .unset] [(.int (64 : Int32)), (.int (((f (A + 1)) &&& (255 : Int32)) - (((f (A + 1)) &&& (255 : Int32)) / (64 : Int32)) * (64 : Int32))), (.int (53248 : Int32))]) (fun t k => XS.bipush X0.here hx rfl (hb hby at_183) k) ?_
        refine hG _ _ _ (mkF m 186 #[.val (.long q1), .second, .val (.int i2), .val (.int i3), .val (.int i4), .val (.ref a), .val (.int pa), .val (.int qa), .val (.int ((f A) &&& (255 : Int32))), .val (.int ((f (A + 1)) &&& (255 : Int32))), .val (.int ((f (A + 2)) &&& (255 : Int32))), .val (.int (1 : Int32)), .unset, .unset] [(.int ((((f (A + 1)) &&& (255 : Int32)) - (((f (A + 1)) &&& (255 : Int32)) / (64 : Int32)) * (64 : Int32)) * (64 : Int32))), (.int (53248 : Int32))]) (fun t k => XS.imul X0.here hx rfl (hb hby at_185) rfl k) ?_
        refine hG _ _ _ (mkF m 187 #[.val (.long q1), .second, .val (.int i2), .val (.int i3), .val (.int i4), .val (.ref a), .val (.int pa), .val (.int qa), .val (.int ((f A) &&& (255 : Int32))), .val (.int ((f (A + 1)) &&& (255 : Int32))), .val (.int ((f (A + 2)) &&& (255 : Int32))), .val (.int (1 : Int32)), .unset, .unset] [(.int ((53248 : Int32) + ((((f (A + 1)) &&& (255 : Int32)) - (((f (A + 1)) &&& (255 : Int32)) / (64 : Int32)) * (64 : Int32)) * (64 : Int32))))]) (fun t k => XS.iadd X0.here hx rfl (hb hby at_186) rfl k) ?_
        refine hG _ _ _ (mkF m 189 #[.val (.long q1), .second, .val (.int i2), .val (.int i3), .val (.int i4), .val (.ref a), .val (.int pa), .val (.int qa), .val (.int ((f A) &&& (255 : Int32))), .val (.int ((f (A + 1)) &&& (255 : Int32))), .val (.int ((f (A + 2)) &&& (255 : Int32))), .val (.int (1 : Int32)), .unset, .unset] [(.int ((f (A + 2)) &&& (255 : Int32))), (.int ((53248 : Int32) + ((((f (A + 1)) &&& (255 : Int32)) - (((f (A + 1)) &&& (255 : Int32)) / (64 : Int32)) * (64 : Int32)) * (64 : Int32))))]) (fun t k => XS.iload X0.here hx rfl (hb hby at_187) rfl k) ?_
        refine hG _ _ _ (mkF m 191 #[.val (.long q1), .second, .val (.int i2), .val (.int i3), .val (.int i4), .val (.ref a), .val (.int pa), .val (.int qa), .val (.int ((f A) &&& (255 : Int32))), .val (.int ((f (A + 1)) &&& (255 : Int32))), .val (.int ((f (A + 2)) &&& (255 : Int32))), .val (.int (1 : Int32)), .unset, .unset] [(.int (64 : Int32)), (.int ((f (A + 2)) &&& (255 : Int32))), (.int ((53248 : Int32) + ((((f (A + 1)) &&& (255 : Int32)) - (((f (A + 1)) &&& (255 : Int32)) / (64 : Int32)) * (64 : Int32)) * (64 : Int32))))]) (fun t k => XS.bipush X0.here hx rfl (hb hby at_189) k) ?_
        refine hG _ _ _ (mkF m 192 #[.val (.long q1), .second, .val (.int i2), .val (.int i3), .val (.int i4), .val (.ref a), .val (.int pa), .val (.int qa), .val (.int ((f A) &&& (255 : Int32))), .val (.int ((f (A + 1)) &&& (255 : Int32))), .val (.int ((f (A + 2)) &&& (255 : Int32))), .val (.int (1 : Int32)), .unset, .unset] [(.int (((f (A + 2)) &&& (255 : Int32)) - (((f (A + 2)) &&& (255 : Int32)) / (64 : Int32)) * (64 : Int32))), (.int ((53248 : Int32) + ((((f (A + 1)) &&& (255 : Int32)) - (((f (A + 1)) &&& (255 : Int32)) / (64 : Int32)) * (64 : Int32)) * (64 : Int32))))]) (fun t k => XS.irem X0.here hx rfl (hb hby at_191) rfl (by decide) k) ?_
        refine hG _ _ _ (mkF m 193 #[.val (.long q1), .second, .val (.int i2), .val (.int i3), .val (.int i4), .val (.ref a), .val (.int pa), .val (.int qa), .val (.int ((f A) &&& (255 : Int32))), .val (.int ((f (A + 1)) &&& (255 : Int32))), .val (.int ((f (A + 2)) &&& (255 : Int32))), .val (.int (1 : Int32)), .unset, .unset] [(.int (((53248 : Int32) + ((((f (A + 1)) &&& (255 : Int32)) - (((f (A + 1)) &&& (255 : Int32)) / (64 : Int32)) * (64 : Int32)) * (64 : Int32))) + (((f (A + 2)) &&& (255 : Int32)) - (((f (A + 2)) &&& (255 : Int32)) / (64 : Int32)) * (64 : Int32))))]) (fun t k => XS.iadd X0.here hx rfl (hb hby at_192) rfl k) ?_
        refine hG _ _ _ (mkF m 197 #[.val (.long q1), .second, .val (.int i2), .val (.int i3), .val (.int i4), .val (.ref a), .val (.int pa), .val (.int qa), .val (.int ((f A) &&& (255 : Int32))), .val (.int ((f (A + 1)) &&& (255 : Int32))), .val (.int ((f (A + 2)) &&& (255 : Int32))), .val (.int (1 : Int32)), .unset, .unset] [(.int (((53248 : Int32) + ((((f (A + 1)) &&& (255 : Int32)) - (((f (A + 1)) &&& (255 : Int32)) / (64 : Int32)) * (64 : Int32)) * (64 : Int32))) + (((f (A + 2)) &&& (255 : Int32)) - (((f (A + 2)) &&& (255 : Int32)) / (64 : Int32)) * (64 : Int32))))]) (fun t k => XS.goto X0.here hx rfl (pc0 := 193) (pc' := 197) rfl (hb hby at_193) (by decide) (by decide) k) ?_
        refine hG _ _ _ (mkF m 199 #[.val (.long q1), .second, .val (.int i2), .val (.int i3), .val (.int i4), .val (.ref a), .val (.int pa), .val (.int qa), .val (.int ((f A) &&& (255 : Int32))), .val (.int ((f (A + 1)) &&& (255 : Int32))), .val (.int ((f (A + 2)) &&& (255 : Int32))), .val (.int (1 : Int32)), .val (.int (((53248 : Int32) + ((((f (A + 1)) &&& (255 : Int32)) - (((f (A + 1)) &&& (255 : Int32)) / (64 : Int32)) * (64 : Int32)) * (64 : Int32))) + (((f (A + 2)) &&& (255 : Int32)) - (((f (A + 2)) &&& (255 : Int32)) / (64 : Int32)) * (64 : Int32)))), .unset] []) (fun t k => XS.istore X0.here hx rfl (hb hby at_197) rfl (l' := #[.val (.long q1), .second, .val (.int i2), .val (.int i3), .val (.int i4), .val (.ref a), .val (.int pa), .val (.int qa), .val (.int ((f A) &&& (255 : Int32))), .val (.int ((f (A + 1)) &&& (255 : Int32))), .val (.int ((f (A + 2)) &&& (255 : Int32))), .val (.int (1 : Int32)), .val (.int (((53248 : Int32) + ((((f (A + 1)) &&& (255 : Int32)) - (((f (A + 1)) &&& (255 : Int32)) / (64 : Int32)) * (64 : Int32)) * (64 : Int32))) + (((f (A + 2)) &&& (255 : Int32)) - (((f (A + 2)) &&& (255 : Int32)) / (64 : Int32)) * (64 : Int32)))), .unset]) rfl k) ?_
        refine hG _ _ _ (mkF m 201 #[.val (.long q1), .second, .val (.int i2), .val (.int i3), .val (.int i4), .val (.ref a), .val (.int pa), .val (.int qa), .val (.int ((f A) &&& (255 : Int32))), .val (.int ((f (A + 1)) &&& (255 : Int32))), .val (.int ((f (A + 2)) &&& (255 : Int32))), .val (.int (1 : Int32)), .val (.int (((53248 : Int32) + ((((f (A + 1)) &&& (255 : Int32)) - (((f (A + 1)) &&& (255 : Int32)) / (64 : Int32)) * (64 : Int32)) * (64 : Int32))) + (((f (A + 2)) &&& (255 : Int32)) - (((f (A + 2)) &&& (255 : Int32)) / (64 : Int32)) * (64 : Int32)))), .unset] [(.ref a)]) (fun t k => XS.aload X0.here hx rfl (hb hby at_199) rfl rfl k) ?_
        refine hG _ _ _ (mkF m 203 #[.val (.long q1), .second, .val (.int i2), .val (.int i3), .val (.int i4), .val (.ref a), .val (.int pa), .val (.int qa), .val (.int ((f A) &&& (255 : Int32))), .val (.int ((f (A + 1)) &&& (255 : Int32))), .val (.int ((f (A + 2)) &&& (255 : Int32))), .val (.int (1 : Int32)), .val (.int (((53248 : Int32) + ((((f (A + 1)) &&& (255 : Int32)) - (((f (A + 1)) &&& (255 : Int32)) / (64 : Int32)) * (64 : Int32)) * (64 : Int32))) + (((f (A + 2)) &&& (255 : Int32)) - (((f (A + 2)) &&& (255 : Int32)) / (64 : Int32)) * (64 : Int32)))), .unset] [(.int pa), (.ref a)]) (fun t k => XS.iload X0.here hx rfl (hb hby at_201) rfl k) ?_
        refine hG _ _ _ (mkF m 205 #[.val (.long q1), .second, .val (.int i2), .val (.int i3), .val (.int i4), .val (.ref a), .val (.int pa), .val (.int qa), .val (.int ((f A) &&& (255 : Int32))), .val (.int ((f (A + 1)) &&& (255 : Int32))), .val (.int ((f (A + 2)) &&& (255 : Int32))), .val (.int (1 : Int32)), .val (.int (((53248 : Int32) + ((((f (A + 1)) &&& (255 : Int32)) - (((f (A + 1)) &&& (255 : Int32)) / (64 : Int32)) * (64 : Int32)) * (64 : Int32))) + (((f (A + 2)) &&& (255 : Int32)) - (((f (A + 2)) &&& (255 : Int32)) / (64 : Int32)) * (64 : Int32)))), .unset] [(.int qa), (.int pa), (.ref a)]) (fun t k => XS.iload X0.here hx rfl (hb hby at_203) rfl k) ?_
        obtain ⟨v9, T9, L9, X9, q9, st9⟩ := own_call X0 hx hZ e0 (argsL := [(.ref a), (.int pa), (.int qa)]) (rest := []) (W := 0) hown (hw _ (List.mem_of_getElem? (i := 2) rfl)) (hw _ (List.mem_of_getElem? (i := 3) rfl)) (hw _ (List.mem_of_getElem? (i := 4) rfl)) (hw _ (List.mem_of_getElem? (i := 5) rfl)) (by decide) (rm1 l Z a0 hw [] a pa qa A 6 f h0 n0 Z0 V hA hp (by omega)) (by decide) (by decide) (Ls := #[.val (.long q1), .second, .val (.int i2), .val (.int i3), .val (.int i4), .val (.ref a), .val (.int pa), .val (.int qa), .val (.int ((f A) &&& (255 : Int32))), .val (.int ((f (A + 1)) &&& (255 : Int32))), .val (.int ((f (A + 2)) &&& (255 : Int32))), .val (.int (1 : Int32)), .val (.int (((53248 : Int32) + ((((f (A + 1)) &&& (255 : Int32)) - (((f (A + 1)) &&& (255 : Int32)) / (64 : Int32)) * (64 : Int32)) * (64 : Int32))) + (((f (A + 2)) &&& (255 : Int32)) - (((f (A + 2)) &&& (255 : Int32)) / (64 : Int32)) * (64 : Int32)))), .unset]) (by rw [hml]; rfl) (lenOf pd_1 rfl) (by decide) (hb hby at_205) (by decide) (by decide)
        obtain ⟨w9, rfl, ⟨rfl, e9⟩, M9⟩ := q9
        have N9 := Fr.app N0 M9
        refine hG _ _ _ (mkF m 208 #[.val (.long q1), .second, .val (.int i2), .val (.int i3), .val (.int i4), .val (.ref a), .val (.int pa), .val (.int qa), .val (.int ((f A) &&& (255 : Int32))), .val (.int ((f (A + 1)) &&& (255 : Int32))), .val (.int ((f (A + 2)) &&& (255 : Int32))), .val (.int (1 : Int32)), .val (.int (((53248 : Int32) + ((((f (A + 1)) &&& (255 : Int32)) - (((f (A + 1)) &&& (255 : Int32)) / (64 : Int32)) * (64 : Int32)) * (64 : Int32))) + (((f (A + 2)) &&& (255 : Int32)) - (((f (A + 2)) &&& (255 : Int32)) / (64 : Int32)) * (64 : Int32)))), .unset] [(.int (own_us (f A) (f (A + 1)) (f (A + 2)) pa qa))]) (fun t k => st9 t k) ?_
        refine hG _ _ _ (mkF m 210 #[.val (.long q1), .second, .val (.int i2), .val (.int i3), .val (.int i4), .val (.ref a), .val (.int pa), .val (.int qa), .val (.int ((f A) &&& (255 : Int32))), .val (.int ((f (A + 1)) &&& (255 : Int32))), .val (.int ((f (A + 2)) &&& (255 : Int32))), .val (.int (1 : Int32)), .val (.int (((53248 : Int32) + ((((f (A + 1)) &&& (255 : Int32)) - (((f (A + 1)) &&& (255 : Int32)) / (64 : Int32)) * (64 : Int32)) * (64 : Int32))) + (((f (A + 2)) &&& (255 : Int32)) - (((f (A + 2)) &&& (255 : Int32)) / (64 : Int32)) * (64 : Int32)))), .val (.int (own_us (f A) (f (A + 1)) (f (A + 2)) pa qa))] []) (fun t k => XS.istore X9.here hx rfl (hb hby at_208) rfl (l' := #[.val (.long q1), .second, .val (.int i2), .val (.int i3), .val (.int i4), .val (.ref a), .val (.int pa), .val (.int qa), .val (.int ((f A) &&& (255 : Int32))), .val (.int ((f (A + 1)) &&& (255 : Int32))), .val (.int ((f (A + 2)) &&& (255 : Int32))), .val (.int (1 : Int32)), .val (.int (((53248 : Int32) + ((((f (A + 1)) &&& (255 : Int32)) - (((f (A + 1)) &&& (255 : Int32)) / (64 : Int32)) * (64 : Int32)) * (64 : Int32))) + (((f (A + 2)) &&& (255 : Int32)) - (((f (A + 2)) &&& (255 : Int32)) / (64 : Int32)) * (64 : Int32)))), .val (.int (own_us (f A) (f (A + 1)) (f (A + 2)) pa qa))]) rfl k) ?_
        refine hG _ _ _ (mkF m 212 #[.val (.long q1), .second, .val (.int i2), .val (.int i3), .val (.int i4), .val (.ref a), .val (.int pa), .val (.int qa), .val (.int ((f A) &&& (255 : Int32))), .val (.int ((f (A + 1)) &&& (255 : Int32))), .val (.int ((f (A + 2)) &&& (255 : Int32))), .val (.int (1 : Int32)), .val (.int (((53248 : Int32) + ((((f (A + 1)) &&& (255 : Int32)) - (((f (A + 1)) &&& (255 : Int32)) / (64 : Int32)) * (64 : Int32)) * (64 : Int32))) + (((f (A + 2)) &&& (255 : Int32)) - (((f (A + 2)) &&& (255 : Int32)) / (64 : Int32)) * (64 : Int32)))), .val (.int (own_us (f A) (f (A + 1)) (f (A + 2)) pa qa))] [(.int (own_us (f A) (f (A + 1)) (f (A + 2)) pa qa))]) (fun t k => XS.iload X9.here hx rfl (hb hby at_210) rfl k) ?_
        refine hG _ _ _ (mkF m 214 #[.val (.long q1), .second, .val (.int i2), .val (.int i3), .val (.int i4), .val (.ref a), .val (.int pa), .val (.int qa), .val (.int ((f A) &&& (255 : Int32))), .val (.int ((f (A + 1)) &&& (255 : Int32))), .val (.int ((f (A + 2)) &&& (255 : Int32))), .val (.int (1 : Int32)), .val (.int (((53248 : Int32) + ((((f (A + 1)) &&& (255 : Int32)) - (((f (A + 1)) &&& (255 : Int32)) / (64 : Int32)) * (64 : Int32)) * (64 : Int32))) + (((f (A + 2)) &&& (255 : Int32)) - (((f (A + 2)) &&& (255 : Int32)) / (64 : Int32)) * (64 : Int32)))), .val (.int (own_us (f A) (f (A + 1)) (f (A + 2)) pa qa))] [(.int (((53248 : Int32) + ((((f (A + 1)) &&& (255 : Int32)) - (((f (A + 1)) &&& (255 : Int32)) / (64 : Int32)) * (64 : Int32)) * (64 : Int32))) + (((f (A + 2)) &&& (255 : Int32)) - (((f (A + 2)) &&& (255 : Int32)) / (64 : Int32)) * (64 : Int32)))), (.int (own_us (f A) (f (A + 1)) (f (A + 2)) pa qa))]) (fun t k => XS.iload X9.here hx rfl (hb hby at_212) rfl k) ?_
        refine hG _ _ _ (mkF m 217 #[.val (.long q1), .second, .val (.int i2), .val (.int i3), .val (.int i4), .val (.ref a), .val (.int pa), .val (.int qa), .val (.int ((f A) &&& (255 : Int32))), .val (.int ((f (A + 1)) &&& (255 : Int32))), .val (.int ((f (A + 2)) &&& (255 : Int32))), .val (.int (1 : Int32)), .val (.int (((53248 : Int32) + ((((f (A + 1)) &&& (255 : Int32)) - (((f (A + 1)) &&& (255 : Int32)) / (64 : Int32)) * (64 : Int32)) * (64 : Int32))) + (((f (A + 2)) &&& (255 : Int32)) - (((f (A + 2)) &&& (255 : Int32)) / (64 : Int32)) * (64 : Int32)))), .val (.int (own_us (f A) (f (A + 1)) (f (A + 2)) pa qa))] []) (fun t k => XS.icmpNo X9.here hx rfl (hb hby at_214) rfl (own_teq (own_law_pos hp3 hq r0 c1 c2 c3)).2 k) ?_
        refine hG _ _ _ (mkF m 218 #[.val (.long q1), .second, .val (.int i2), .val (.int i3), .val (.int i4), .val (.ref a), .val (.int pa), .val (.int qa), .val (.int ((f A) &&& (255 : Int32))), .val (.int ((f (A + 1)) &&& (255 : Int32))), .val (.int ((f (A + 2)) &&& (255 : Int32))), .val (.int (1 : Int32)), .val (.int (((53248 : Int32) + ((((f (A + 1)) &&& (255 : Int32)) - (((f (A + 1)) &&& (255 : Int32)) / (64 : Int32)) * (64 : Int32)) * (64 : Int32))) + (((f (A + 2)) &&& (255 : Int32)) - (((f (A + 2)) &&& (255 : Int32)) / (64 : Int32)) * (64 : Int32)))), .val (.int (own_us (f A) (f (A + 1)) (f (A + 2)) pa qa))] [(.int (1 : Int32))]) (fun t k => XS.iconst X9.here hx rfl (hb hby at_217) k) ?_
        refine hG _ _ _ (mkF m 222 #[.val (.long q1), .second, .val (.int i2), .val (.int i3), .val (.int i4), .val (.ref a), .val (.int pa), .val (.int qa), .val (.int ((f A) &&& (255 : Int32))), .val (.int ((f (A + 1)) &&& (255 : Int32))), .val (.int ((f (A + 2)) &&& (255 : Int32))), .val (.int (1 : Int32)), .val (.int (((53248 : Int32) + ((((f (A + 1)) &&& (255 : Int32)) - (((f (A + 1)) &&& (255 : Int32)) / (64 : Int32)) * (64 : Int32)) * (64 : Int32))) + (((f (A + 2)) &&& (255 : Int32)) - (((f (A + 2)) &&& (255 : Int32)) / (64 : Int32)) * (64 : Int32)))), .val (.int (own_us (f A) (f (A + 1)) (f (A + 2)) pa qa))] [(.int (1 : Int32))]) (fun t k => XS.goto X9.here hx rfl (pc0 := 218) (pc' := 222) rfl (hb hby at_218) (by decide) (by decide) k) ?_
        exact hR _ _ _ _ _ _ X9 N9 hk hn rfl (fun fs hr => retN X9 hx (t := .boolean) hret (by simp) (hb hby at_222) hr)
  · refine hG _ _ _ (mkF m 168 #[.val (.long q1), .second, .val (.int i2), .val (.int i3), .val (.int i4), .val (.ref a), .val (.int pa), .val (.int qa), .val (.int ((f A) &&& (255 : Int32))), .val (.int ((f (A + 1)) &&& (255 : Int32))), .val (.int ((f (A + 2)) &&& (255 : Int32))), .unset, .unset, .unset] []) (fun t k => XS.icmpYes X0.here hx rfl (pc0 := 144) (pc' := 168) rfl (hb hby at_144) rfl (own_feq c1).2 (by decide) (by decide) k) ?_
    refine hG _ _ _ (mkF m 169 #[.val (.long q1), .second, .val (.int i2), .val (.int i3), .val (.int i4), .val (.ref a), .val (.int pa), .val (.int qa), .val (.int ((f A) &&& (255 : Int32))), .val (.int ((f (A + 1)) &&& (255 : Int32))), .val (.int ((f (A + 2)) &&& (255 : Int32))), .unset, .unset, .unset] [(.int (0 : Int32))]) (fun t k => XS.iconst X0.here hx rfl (hb hby at_168) k) ?_
    refine hG _ _ _ (mkF m 171 #[.val (.long q1), .second, .val (.int i2), .val (.int i3), .val (.int i4), .val (.ref a), .val (.int pa), .val (.int qa), .val (.int ((f A) &&& (255 : Int32))), .val (.int ((f (A + 1)) &&& (255 : Int32))), .val (.int ((f (A + 2)) &&& (255 : Int32))), .val (.int (0 : Int32)), .unset, .unset] []) (fun t k => XS.istore X0.here hx rfl (hb hby at_169) rfl (l' := #[.val (.long q1), .second, .val (.int i2), .val (.int i3), .val (.int i4), .val (.ref a), .val (.int pa), .val (.int qa), .val (.int ((f A) &&& (255 : Int32))), .val (.int ((f (A + 1)) &&& (255 : Int32))), .val (.int ((f (A + 2)) &&& (255 : Int32))), .val (.int (0 : Int32)), .unset, .unset]) rfl k) ?_
    refine hG _ _ _ (mkF m 173 #[.val (.long q1), .second, .val (.int i2), .val (.int i3), .val (.int i4), .val (.ref a), .val (.int pa), .val (.int qa), .val (.int ((f A) &&& (255 : Int32))), .val (.int ((f (A + 1)) &&& (255 : Int32))), .val (.int ((f (A + 2)) &&& (255 : Int32))), .val (.int (0 : Int32)), .unset, .unset] [(.int (0 : Int32))]) (fun t k => XS.iload X0.here hx rfl (hb hby at_171) rfl k) ?_
    refine hG _ _ _ (mkF m 196 #[.val (.long q1), .second, .val (.int i2), .val (.int i3), .val (.int i4), .val (.ref a), .val (.int pa), .val (.int qa), .val (.int ((f A) &&& (255 : Int32))), .val (.int ((f (A + 1)) &&& (255 : Int32))), .val (.int ((f (A + 2)) &&& (255 : Int32))), .val (.int (0 : Int32)), .unset, .unset] []) (fun t k => XS.ifYes X0.here hx rfl (pc0 := 173) (pc' := 196) rfl (hb hby at_173) rfl ((if0 _ _).trans (own_teq (by decide)).1) (by decide) (by decide) k) ?_
    refine hG _ _ _ (mkF m 197 #[.val (.long q1), .second, .val (.int i2), .val (.int i3), .val (.int i4), .val (.ref a), .val (.int pa), .val (.int qa), .val (.int ((f A) &&& (255 : Int32))), .val (.int ((f (A + 1)) &&& (255 : Int32))), .val (.int ((f (A + 2)) &&& (255 : Int32))), .val (.int (0 : Int32)), .unset, .unset] [(.int (-1 : Int32))]) (fun t k => XS.iconst X0.here hx rfl (hb hby at_196) k) ?_
    refine hG _ _ _ (mkF m 199 #[.val (.long q1), .second, .val (.int i2), .val (.int i3), .val (.int i4), .val (.ref a), .val (.int pa), .val (.int qa), .val (.int ((f A) &&& (255 : Int32))), .val (.int ((f (A + 1)) &&& (255 : Int32))), .val (.int ((f (A + 2)) &&& (255 : Int32))), .val (.int (0 : Int32)), .val (.int (-1 : Int32)), .unset] []) (fun t k => XS.istore X0.here hx rfl (hb hby at_197) rfl (l' := #[.val (.long q1), .second, .val (.int i2), .val (.int i3), .val (.int i4), .val (.ref a), .val (.int pa), .val (.int qa), .val (.int ((f A) &&& (255 : Int32))), .val (.int ((f (A + 1)) &&& (255 : Int32))), .val (.int ((f (A + 2)) &&& (255 : Int32))), .val (.int (0 : Int32)), .val (.int (-1 : Int32)), .unset]) rfl k) ?_
    refine hG _ _ _ (mkF m 201 #[.val (.long q1), .second, .val (.int i2), .val (.int i3), .val (.int i4), .val (.ref a), .val (.int pa), .val (.int qa), .val (.int ((f A) &&& (255 : Int32))), .val (.int ((f (A + 1)) &&& (255 : Int32))), .val (.int ((f (A + 2)) &&& (255 : Int32))), .val (.int (0 : Int32)), .val (.int (-1 : Int32)), .unset] [(.ref a)]) (fun t k => XS.aload X0.here hx rfl (hb hby at_199) rfl rfl k) ?_
    refine hG _ _ _ (mkF m 203 #[.val (.long q1), .second, .val (.int i2), .val (.int i3), .val (.int i4), .val (.ref a), .val (.int pa), .val (.int qa), .val (.int ((f A) &&& (255 : Int32))), .val (.int ((f (A + 1)) &&& (255 : Int32))), .val (.int ((f (A + 2)) &&& (255 : Int32))), .val (.int (0 : Int32)), .val (.int (-1 : Int32)), .unset] [(.int pa), (.ref a)]) (fun t k => XS.iload X0.here hx rfl (hb hby at_201) rfl k) ?_
    refine hG _ _ _ (mkF m 205 #[.val (.long q1), .second, .val (.int i2), .val (.int i3), .val (.int i4), .val (.ref a), .val (.int pa), .val (.int qa), .val (.int ((f A) &&& (255 : Int32))), .val (.int ((f (A + 1)) &&& (255 : Int32))), .val (.int ((f (A + 2)) &&& (255 : Int32))), .val (.int (0 : Int32)), .val (.int (-1 : Int32)), .unset] [(.int qa), (.int pa), (.ref a)]) (fun t k => XS.iload X0.here hx rfl (hb hby at_203) rfl k) ?_
    obtain ⟨v9, T9, L9, X9, q9, st9⟩ := own_call X0 hx hZ e0 (argsL := [(.ref a), (.int pa), (.int qa)]) (rest := []) (W := 0) hown (hw _ (List.mem_of_getElem? (i := 2) rfl)) (hw _ (List.mem_of_getElem? (i := 3) rfl)) (hw _ (List.mem_of_getElem? (i := 4) rfl)) (hw _ (List.mem_of_getElem? (i := 5) rfl)) (by decide) (rm1 l Z a0 hw [] a pa qa A 6 f h0 n0 Z0 V hA hp (by omega)) (by decide) (by decide) (Ls := #[.val (.long q1), .second, .val (.int i2), .val (.int i3), .val (.int i4), .val (.ref a), .val (.int pa), .val (.int qa), .val (.int ((f A) &&& (255 : Int32))), .val (.int ((f (A + 1)) &&& (255 : Int32))), .val (.int ((f (A + 2)) &&& (255 : Int32))), .val (.int (0 : Int32)), .val (.int (-1 : Int32)), .unset]) (by rw [hml]; rfl) (lenOf pd_1 rfl) (by decide) (hb hby at_205) (by decide) (by decide)
    obtain ⟨w9, rfl, ⟨rfl, e9⟩, M9⟩ := q9
    have N9 := Fr.app N0 M9
    refine hG _ _ _ (mkF m 208 #[.val (.long q1), .second, .val (.int i2), .val (.int i3), .val (.int i4), .val (.ref a), .val (.int pa), .val (.int qa), .val (.int ((f A) &&& (255 : Int32))), .val (.int ((f (A + 1)) &&& (255 : Int32))), .val (.int ((f (A + 2)) &&& (255 : Int32))), .val (.int (0 : Int32)), .val (.int (-1 : Int32)), .unset] [(.int (own_us (f A) (f (A + 1)) (f (A + 2)) pa qa))]) (fun t k => st9 t k) ?_
    refine hG _ _ _ (mkF m 210 #[.val (.long q1), .second, .val (.int i2), .val (.int i3), .val (.int i4), .val (.ref a), .val (.int pa), .val (.int qa), .val (.int ((f A) &&& (255 : Int32))), .val (.int ((f (A + 1)) &&& (255 : Int32))), .val (.int ((f (A + 2)) &&& (255 : Int32))), .val (.int (0 : Int32)), .val (.int (-1 : Int32)), .val (.int (own_us (f A) (f (A + 1)) (f (A + 2)) pa qa))] []) (fun t k => XS.istore X9.here hx rfl (hb hby at_208) rfl (l' := #[.val (.long q1), .second, .val (.int i2), .val (.int i3), .val (.int i4), .val (.ref a), .val (.int pa), .val (.int qa), .val (.int ((f A) &&& (255 : Int32))), .val (.int ((f (A + 1)) &&& (255 : Int32))), .val (.int ((f (A + 2)) &&& (255 : Int32))), .val (.int (0 : Int32)), .val (.int (-1 : Int32)), .val (.int (own_us (f A) (f (A + 1)) (f (A + 2)) pa qa))]) rfl k) ?_
    refine hG _ _ _ (mkF m 212 #[.val (.long q1), .second, .val (.int i2), .val (.int i3), .val (.int i4), .val (.ref a), .val (.int pa), .val (.int qa), .val (.int ((f A) &&& (255 : Int32))), .val (.int ((f (A + 1)) &&& (255 : Int32))), .val (.int ((f (A + 2)) &&& (255 : Int32))), .val (.int (0 : Int32)), .val (.int (-1 : Int32)), .val (.int (own_us (f A) (f (A + 1)) (f (A + 2)) pa qa))] [(.int (own_us (f A) (f (A + 1)) (f (A + 2)) pa qa))]) (fun t k => XS.iload X9.here hx rfl (hb hby at_210) rfl k) ?_
    refine hG _ _ _ (mkF m 214 #[.val (.long q1), .second, .val (.int i2), .val (.int i3), .val (.int i4), .val (.ref a), .val (.int pa), .val (.int qa), .val (.int ((f A) &&& (255 : Int32))), .val (.int ((f (A + 1)) &&& (255 : Int32))), .val (.int ((f (A + 2)) &&& (255 : Int32))), .val (.int (0 : Int32)), .val (.int (-1 : Int32)), .val (.int (own_us (f A) (f (A + 1)) (f (A + 2)) pa qa))] [(.int (-1 : Int32)), (.int (own_us (f A) (f (A + 1)) (f (A + 2)) pa qa))]) (fun t k => XS.iload X9.here hx rfl (hb hby at_212) rfl k) ?_
    refine hG _ _ _ (mkF m 217 #[.val (.long q1), .second, .val (.int i2), .val (.int i3), .val (.int i4), .val (.ref a), .val (.int pa), .val (.int qa), .val (.int ((f A) &&& (255 : Int32))), .val (.int ((f (A + 1)) &&& (255 : Int32))), .val (.int ((f (A + 2)) &&& (255 : Int32))), .val (.int (0 : Int32)), .val (.int (-1 : Int32)), .val (.int (own_us (f A) (f (A + 1)) (f (A + 2)) pa qa))] []) (fun t k => XS.icmpNo X9.here hx rfl (hb hby at_214) rfl (own_teq (own_law_neg hp3 hq r0 (Or.inl c1))).2 k) ?_
    refine hG _ _ _ (mkF m 218 #[.val (.long q1), .second, .val (.int i2), .val (.int i3), .val (.int i4), .val (.ref a), .val (.int pa), .val (.int qa), .val (.int ((f A) &&& (255 : Int32))), .val (.int ((f (A + 1)) &&& (255 : Int32))), .val (.int ((f (A + 2)) &&& (255 : Int32))), .val (.int (0 : Int32)), .val (.int (-1 : Int32)), .val (.int (own_us (f A) (f (A + 1)) (f (A + 2)) pa qa))] [(.int (1 : Int32))]) (fun t k => XS.iconst X9.here hx rfl (hb hby at_217) k) ?_
    refine hG _ _ _ (mkF m 222 #[.val (.long q1), .second, .val (.int i2), .val (.int i3), .val (.int i4), .val (.ref a), .val (.int pa), .val (.int qa), .val (.int ((f A) &&& (255 : Int32))), .val (.int ((f (A + 1)) &&& (255 : Int32))), .val (.int ((f (A + 2)) &&& (255 : Int32))), .val (.int (0 : Int32)), .val (.int (-1 : Int32)), .val (.int (own_us (f A) (f (A + 1)) (f (A + 2)) pa qa))] [(.int (1 : Int32))]) (fun t k => XS.goto X9.here hx rfl (pc0 := 218) (pc' := 222) rfl (hb hby at_218) (by decide) (by decide) k) ?_
    exact hR _ _ _ _ _ _ X9 N9 hk hn rfl (fun fs hr => retN X9 hx (t := .boolean) hret (by simp) (hb hby at_222) hr)
theorem pn_rm0 : plainName "com/example/querytrail/querytrail/Utf8UnpairedSurrogatePinLaw" = true := by first | (simp [plainName, overriddenIn]; done) | decide +kernel
theorem ef_rm0 (m : MethodId) (x0 : Int64) (x1 : Int32) (x2 : Int32) (x3 : Int32) : entryFrame m #[(.long x0), (.int x1), (.int x2), (.int x3)] maxLocals = mkF m 0 #[.val (.long x0), .second, .val (.int x1), .val (.int x2), .val (.int x3), .unset, .unset, .unset, .unset, .unset, .unset, .unset, .unset, .unset] [] := by first | (simp [entryFrame, mkF, argsToLocals, Value.category, maxLocals]; done) | rfl
set_option maxRecDepth 65536 in
set_option maxHeartbeats 40000000 in
theorem rm0 (l : Launch) (Z : State) (a0 : Array Value) (hw : ∀ d ∈ tables_1, d.before a0 Z = true) (ws : List Jvm.Cond) (q1 : Int64) (i2 i3 i4 : Int32) (h0 : Heap) (n0 : Nat) (Z0 : n0 ≤ h0.size)  :
    MetFree l x (head1 (Jvm.Cond.code x code maxLocals ret :: ws) room_1) (fun a U => a = #[(.long q1), (.int i2), (.int i3), (.int i4)] ∧ Z.Warmed39 U.vm ∧ U.heap = h0) (fun _ _ _ _ _ => True) (fun _ U o U' => ∃ v L, o = .returned v ∧ own_q (fun w _ => w = .int 1) n0 v U'.heap L ∧ FrameEnd U o U' L 16 128) := by
  refine MetFree.of_bodySF (plainFor_of_name pn_rm0) hisR ?_
  intro p e s m args below meth c s₁ Bd hml0 hP hK
  obtain ⟨rfl, hZ, hh⟩ := hP
  have hx := Bd.exec
  have hby := Bd.bytes
  have hml : c.maxLocals = 14 := hml0
  have hown : s.vm.findClass "com/example/querytrail/querytrail/Utf8UnpairedSurrogatePinLaw" = some m.cls := findClass_of_methodNamed Bd.named
  have hret : meth.sig.returnType = some .boolean := Bd.returns
  have X0 : Stand p l e room_1 s m #[(.long q1), (.int i2), (.int i3), (.int i4)] below meth c s₁ [] 0 0 := Stand.of_body Bd
  have e0 : s₁.heap = h0 := by rw [← hh, Bd.state]; rfl
  have N0 := Fr.nil n0
  rw [ef_rm0 m q1 i2 i3 i4]
  refine own_end (p := p) (l := l) (e := e) (R := room_1) (s := s) (m := m) (args := #[(.long q1), (.int i2), (.int i3), (.int i4)]) (below := below) (meth := meth) (c := c) (n0 := n0) (K := 16) (S := 128) (Q := (fun w _ => w = .int 1)) hret Bd.notSynchronized (fun G hG hR => ?_)
  refine hG _ _ _ (mkF m 2 #[.val (.long q1), .second, .val (.int i2), .val (.int i3), .val (.int i4), .unset, .unset, .unset, .unset, .unset, .unset, .unset, .unset, .unset] [(.int (6 : Int32))]) (fun t k => XS.bipush X0.here hx rfl (hb hby at_0) k) ?_
  obtain ⟨T1, a1, X1, V1, g1, st1⟩ := own_mk X0 hx hZ (hw _ (List.mem_of_getElem? (i := 0) rfl)) e0 (hb hby at_2) (z := (6 : Int32)) (n := 6) (by decide) (by decide) (by decide) (by decide) #[.val (.long q1), .second, .val (.int i2), .val (.int i3), .val (.int i4), .unset, .unset, .unset, .unset, .unset, .unset, .unset, .unset, .unset] []
  refine hG _ _ _ (mkF m 4 #[.val (.long q1), .second, .val (.int i2), .val (.int i3), .val (.int i4), .unset, .unset, .unset, .unset, .unset, .unset, .unset, .unset, .unset] [(.ref a1)]) (fun t k => st1 t k) ?_
  have ga : n0 ≤ a1 := Nat.le_trans Z0 g1
  refine hG _ _ _ (mkF m 6 #[.val (.long q1), .second, .val (.int i2), .val (.int i3), .val (.int i4), .val (.ref a1), .unset, .unset, .unset, .unset, .unset, .unset, .unset, .unset] []) (fun t k => XS.astore X1.here hx rfl (hb hby at_4) rfl rfl (l' := #[.val (.long q1), .second, .val (.int i2), .val (.int i3), .val (.int i4), .val (.ref a1), .unset, .unset, .unset, .unset, .unset, .unset, .unset, .unset]) rfl k) ?_
  refine hG _ _ _ (mkF m 8 #[.val (.long q1), .second, .val (.int i2), .val (.int i3), .val (.int i4), .val (.ref a1), .unset, .unset, .unset, .unset, .unset, .unset, .unset, .unset] [(.ref a1)]) (fun t k => XS.aload X1.here hx rfl (hb hby at_6) rfl rfl k) ?_
  refine hG _ _ _ (mkF m 9 #[.val (.long q1), .second, .val (.int i2), .val (.int i3), .val (.int i4), .val (.ref a1), .unset, .unset, .unset, .unset, .unset, .unset, .unset, .unset] [(.int (0 : Int32)), (.ref a1)]) (fun t k => XS.iconst X1.here hx rfl (hb hby at_8) k) ?_
  refine hG _ _ _ (mkF m 10 #[.val (.long q1), .second, .val (.int i2), .val (.int i3), .val (.int i4), .val (.ref a1), .unset, .unset, .unset, .unset, .unset, .unset, .unset, .unset] [(.long q1), (.int (0 : Int32)), (.ref a1)]) (fun t k => XS.lloadN X1.here hx rfl (hb hby at_9) rfl k) ?_
  refine hG _ _ _ (mkF m 11 #[.val (.long q1), .second, .val (.int i2), .val (.int i3), .val (.int i4), .val (.ref a1), .unset, .unset, .unset, .unset, .unset, .unset, .unset, .unset] [(.int (q1.toInt32)), (.int (0 : Int32)), (.ref a1)]) (fun t k => XS.l2i X1.here hx rfl (hb hby at_10) rfl k) ?_
  refine hG _ _ _ (mkF m 12 #[.val (.long q1), .second, .val (.int i2), .val (.int i3), .val (.int i4), .val (.ref a1), .unset, .unset, .unset, .unset, .unset, .unset, .unset, .unset] [(.int ((q1.toInt32).toInt8.toInt32)), (.int (0 : Int32)), (.ref a1)]) (fun t k => XS.i2b X1.here hx rfl (hb hby at_11) rfl k) ?_
  obtain ⟨T2, L2, f2, X2, N2, V2, u2, r2, st2⟩ := own_sto X1 hx hZ rfl V1 (j := (0 : Int32)) (x := ((q1.toInt32).toInt8.toInt32)) (i := 0) (by decide) (by decide) (hb hby at_12) N0 ga
  refine hG _ _ _ (mkF m 13 #[.val (.long q1), .second, .val (.int i2), .val (.int i3), .val (.int i4), .val (.ref a1), .unset, .unset, .unset, .unset, .unset, .unset, .unset, .unset] []) (fun t k => st2 _ _ t k) ?_
  refine hG _ _ _ (mkF m 15 #[.val (.long q1), .second, .val (.int i2), .val (.int i3), .val (.int i4), .val (.ref a1), .unset, .unset, .unset, .unset, .unset, .unset, .unset, .unset] [(.ref a1)]) (fun t k => XS.aload X2.here hx rfl (hb hby at_13) rfl rfl k) ?_
  refine hG _ _ _ (mkF m 16 #[.val (.long q1), .second, .val (.int i2), .val (.int i3), .val (.int i4), .val (.ref a1), .unset, .unset, .unset, .unset, .unset, .unset, .unset, .unset] [(.int (1 : Int32)), (.ref a1)]) (fun t k => XS.iconst X2.here hx rfl (hb hby at_15) k) ?_
  refine hG _ _ _ (mkF m 17 #[.val (.long q1), .second, .val (.int i2), .val (.int i3), .val (.int i4), .val (.ref a1), .unset, .unset, .unset, .unset, .unset, .unset, .unset, .unset] [(.long q1), (.int (1 : Int32)), (.ref a1)]) (fun t k => XS.lloadN X2.here hx rfl (hb hby at_16) rfl k) ?_
  refine hG _ _ _ (mkF m 19 #[.val (.long q1), .second, .val (.int i2), .val (.int i3), .val (.int i4), .val (.ref a1), .unset, .unset, .unset, .unset, .unset, .unset, .unset, .unset] [(.int (8 : Int32)), (.long q1), (.int (1 : Int32)), (.ref a1)]) (fun t k => XS.bipush X2.here hx rfl (hb hby at_17) k) ?_
  refine hG _ _ _ (mkF m 20 #[.val (.long q1), .second, .val (.int i2), .val (.int i3), .val (.int i4), .val (.ref a1), .unset, .unset, .unset, .unset, .unset, .unset, .unset, .unset] [(.long ((q1.toUInt64 >>> ((8 : Int32) &&& 0x3f).toInt64.toUInt64).toInt64)), (.int (1 : Int32)), (.ref a1)]) (fun t k => XS.lushr X2.here hx rfl (hb hby at_19) rfl k) ?_
  refine hG _ _ _ (mkF m 21 #[.val (.long q1), .second, .val (.int i2), .val (.int i3), .val (.int i4), .val (.ref a1), .unset, .unset, .unset, .unset, .unset, .unset, .unset, .unset] [(.int (((q1.toUInt64 >>> ((8 : Int32) &&& 0x3f).toInt64.toUInt64).toInt64).toInt32)), (.int (1 : Int32)), (.ref a1)]) (fun t k => XS.l2i X2.here hx rfl (hb hby at_20) rfl k) ?_
  refine hG _ _ _ (mkF m 22 #[.val (.long q1), .second, .val (.int i2), .val (.int i3), .val (.int i4), .val (.ref a1), .unset, .unset, .unset, .unset, .unset, .unset, .unset, .unset] [(.int ((((q1.toUInt64 >>> ((8 : Int32) &&& 0x3f).toInt64.toUInt64).toInt64).toInt32).toInt8.toInt32)), (.int (1 : Int32)), (.ref a1)]) (fun t k => XS.i2b X2.here hx rfl (hb hby at_21) rfl k) ?_
  obtain ⟨T3, L3, f3, X3, N3, V3, u3, r3, st3⟩ := own_sto X2 hx hZ rfl V2 (j := (1 : Int32)) (x := ((((q1.toUInt64 >>> ((8 : Int32) &&& 0x3f).toInt64.toUInt64).toInt64).toInt32).toInt8.toInt32)) (i := 1) (by decide) (by decide) (hb hby at_22) N2 ga
  refine hG _ _ _ (mkF m 23 #[.val (.long q1), .second, .val (.int i2), .val (.int i3), .val (.int i4), .val (.ref a1), .unset, .unset, .unset, .unset, .unset, .unset, .unset, .unset] []) (fun t k => st3 _ _ t k) ?_
  refine hG _ _ _ (mkF m 25 #[.val (.long q1), .second, .val (.int i2), .val (.int i3), .val (.int i4), .val (.ref a1), .unset, .unset, .unset, .unset, .unset, .unset, .unset, .unset] [(.ref a1)]) (fun t k => XS.aload X3.here hx rfl (hb hby at_23) rfl rfl k) ?_
  refine hG _ _ _ (mkF m 26 #[.val (.long q1), .second, .val (.int i2), .val (.int i3), .val (.int i4), .val (.ref a1), .unset, .unset, .unset, .unset, .unset, .unset, .unset, .unset] [(.int (2 : Int32)), (.ref a1)]) (fun t k => XS.iconst X3.here hx rfl (hb hby at_25) k) ?_
  refine hG _ _ _ (mkF m 27 #[.val (.long q1), .second, .val (.int i2), .val (.int i3), .val (.int i4), .val (.ref a1), .unset, .unset, .unset, .unset, .unset, .unset, .unset, .unset] [(.long q1), (.int (2 : Int32)), (.ref a1)]) (fun t k => XS.lloadN X3.here hx rfl (hb hby at_26) rfl k) ?_
  refine hG _ _ _ (mkF m 29 #[.val (.long q1), .second, .val (.int i2), .val (.int i3), .val (.int i4), .val (.ref a1), .unset, .unset, .unset, .unset, .unset, .unset, .unset, .unset] [(.int (16 : Int32)), (.long q1), (.int (2 : Int32)), (.ref a1)]) (fun t k => XS.bipush X3.here hx rfl (hb hby at_27) k) ?_
  refine hG _ _ _ (mkF m 30 #[.val (.long q1), .second, .val (.int i2), .val (.int i3), .val (.int i4), .val (.ref a1), .unset, .unset, .unset, .unset, .unset, .unset, .unset, .unset] [(.long ((q1.toUInt64 >>> ((16 : Int32) &&& 0x3f).toInt64.toUInt64).toInt64)), (.int (2 : Int32)), (.ref a1)]) (fun t k => XS.lushr X3.here hx rfl (hb hby at_29) rfl k) ?_
  refine hG _ _ _ (mkF m 31 #[.val (.long q1), .second, .val (.int i2), .val (.int i3), .val (.int i4), .val (.ref a1), .unset, .unset, .unset, .unset, .unset, .unset, .unset, .unset] [(.int (((q1.toUInt64 >>> ((16 : Int32) &&& 0x3f).toInt64.toUInt64).toInt64).toInt32)), (.int (2 : Int32)), (.ref a1)]) (fun t k => XS.l2i X3.here hx rfl (hb hby at_30) rfl k) ?_
  refine hG _ _ _ (mkF m 32 #[.val (.long q1), .second, .val (.int i2), .val (.int i3), .val (.int i4), .val (.ref a1), .unset, .unset, .unset, .unset, .unset, .unset, .unset, .unset] [(.int ((((q1.toUInt64 >>> ((16 : Int32) &&& 0x3f).toInt64.toUInt64).toInt64).toInt32).toInt8.toInt32)), (.int (2 : Int32)), (.ref a1)]) (fun t k => XS.i2b X3.here hx rfl (hb hby at_31) rfl k) ?_
  obtain ⟨T4, L4, f4, X4, N4, V4, u4, r4, st4⟩ := own_sto X3 hx hZ rfl V3 (j := (2 : Int32)) (x := ((((q1.toUInt64 >>> ((16 : Int32) &&& 0x3f).toInt64.toUInt64).toInt64).toInt32).toInt8.toInt32)) (i := 2) (by decide) (by decide) (hb hby at_32) N3 ga
  refine hG _ _ _ (mkF m 33 #[.val (.long q1), .second, .val (.int i2), .val (.int i3), .val (.int i4), .val (.ref a1), .unset, .unset, .unset, .unset, .unset, .unset, .unset, .unset] []) (fun t k => st4 _ _ t k) ?_
  refine hG _ _ _ (mkF m 35 #[.val (.long q1), .second, .val (.int i2), .val (.int i3), .val (.int i4), .val (.ref a1), .unset, .unset, .unset, .unset, .unset, .unset, .unset, .unset] [(.ref a1)]) (fun t k => XS.aload X4.here hx rfl (hb hby at_33) rfl rfl k) ?_
  refine hG _ _ _ (mkF m 36 #[.val (.long q1), .second, .val (.int i2), .val (.int i3), .val (.int i4), .val (.ref a1), .unset, .unset, .unset, .unset, .unset, .unset, .unset, .unset] [(.int (3 : Int32)), (.ref a1)]) (fun t k => XS.iconst X4.here hx rfl (hb hby at_35) k) ?_
  refine hG _ _ _ (mkF m 37 #[.val (.long q1), .second, .val (.int i2), .val (.int i3), .val (.int i4), .val (.ref a1), .unset, .unset, .unset, .unset, .unset, .unset, .unset, .unset] [(.long q1), (.int (3 : Int32)), (.ref a1)]) (fun t k => XS.lloadN X4.here hx rfl (hb hby at_36) rfl k) ?_
  refine hG _ _ _ (mkF m 39 #[.val (.long q1), .second, .val (.int i2), .val (.int i3), .val (.int i4), .val (.ref a1), .unset, .unset, .unset, .unset, .unset, .unset, .unset, .unset] [(.int (24 : Int32)), (.long q1), (.int (3 : Int32)), (.ref a1)]) (fun t k => XS.bipush X4.here hx rfl (hb hby at_37) k) ?_
  refine hG _ _ _ (mkF m 40 #[.val (.long q1), .second, .val (.int i2), .val (.int i3), .val (.int i4), .val (.ref a1), .unset, .unset, .unset, .unset, .unset, .unset, .unset, .unset] [(.long ((q1.toUInt64 >>> ((24 : Int32) &&& 0x3f).toInt64.toUInt64).toInt64)), (.int (3 : Int32)), (.ref a1)]) (fun t k => XS.lushr X4.here hx rfl (hb hby at_39) rfl k) ?_
  refine hG _ _ _ (mkF m 41 #[.val (.long q1), .second, .val (.int i2), .val (.int i3), .val (.int i4), .val (.ref a1), .unset, .unset, .unset, .unset, .unset, .unset, .unset, .unset] [(.int (((q1.toUInt64 >>> ((24 : Int32) &&& 0x3f).toInt64.toUInt64).toInt64).toInt32)), (.int (3 : Int32)), (.ref a1)]) (fun t k => XS.l2i X4.here hx rfl (hb hby at_40) rfl k) ?_
  refine hG _ _ _ (mkF m 42 #[.val (.long q1), .second, .val (.int i2), .val (.int i3), .val (.int i4), .val (.ref a1), .unset, .unset, .unset, .unset, .unset, .unset, .unset, .unset] [(.int ((((q1.toUInt64 >>> ((24 : Int32) &&& 0x3f).toInt64.toUInt64).toInt64).toInt32).toInt8.toInt32)), (.int (3 : Int32)), (.ref a1)]) (fun t k => XS.i2b X4.here hx rfl (hb hby at_41) rfl k) ?_
  obtain ⟨T5, L5, f5, X5, N5, V5, u5, r5, st5⟩ := own_sto X4 hx hZ rfl V4 (j := (3 : Int32)) (x := ((((q1.toUInt64 >>> ((24 : Int32) &&& 0x3f).toInt64.toUInt64).toInt64).toInt32).toInt8.toInt32)) (i := 3) (by decide) (by decide) (hb hby at_42) N4 ga
  refine hG _ _ _ (mkF m 43 #[.val (.long q1), .second, .val (.int i2), .val (.int i3), .val (.int i4), .val (.ref a1), .unset, .unset, .unset, .unset, .unset, .unset, .unset, .unset] []) (fun t k => st5 _ _ t k) ?_
  refine hG _ _ _ (mkF m 45 #[.val (.long q1), .second, .val (.int i2), .val (.int i3), .val (.int i4), .val (.ref a1), .unset, .unset, .unset, .unset, .unset, .unset, .unset, .unset] [(.ref a1)]) (fun t k => XS.aload X5.here hx rfl (hb hby at_43) rfl rfl k) ?_
  refine hG _ _ _ (mkF m 46 #[.val (.long q1), .second, .val (.int i2), .val (.int i3), .val (.int i4), .val (.ref a1), .unset, .unset, .unset, .unset, .unset, .unset, .unset, .unset] [(.int (4 : Int32)), (.ref a1)]) (fun t k => XS.iconst X5.here hx rfl (hb hby at_45) k) ?_
  refine hG _ _ _ (mkF m 47 #[.val (.long q1), .second, .val (.int i2), .val (.int i3), .val (.int i4), .val (.ref a1), .unset, .unset, .unset, .unset, .unset, .unset, .unset, .unset] [(.long q1), (.int (4 : Int32)), (.ref a1)]) (fun t k => XS.lloadN X5.here hx rfl (hb hby at_46) rfl k) ?_
  refine hG _ _ _ (mkF m 49 #[.val (.long q1), .second, .val (.int i2), .val (.int i3), .val (.int i4), .val (.ref a1), .unset, .unset, .unset, .unset, .unset, .unset, .unset, .unset] [(.int (32 : Int32)), (.long q1), (.int (4 : Int32)), (.ref a1)]) (fun t k => XS.bipush X5.here hx rfl (hb hby at_47) k) ?_
  refine hG _ _ _ (mkF m 50 #[.val (.long q1), .second, .val (.int i2), .val (.int i3), .val (.int i4), .val (.ref a1), .unset, .unset, .unset, .unset, .unset, .unset, .unset, .unset] [(.long ((q1.toUInt64 >>> ((32 : Int32) &&& 0x3f).toInt64.toUInt64).toInt64)), (.int (4 : Int32)), (.ref a1)]) (fun t k => XS.lushr X5.here hx rfl (hb hby at_49) rfl k) ?_
  refine hG _ _ _ (mkF m 51 #[.val (.long q1), .second, .val (.int i2), .val (.int i3), .val (.int i4), .val (.ref a1), .unset, .unset, .unset, .unset, .unset, .unset, .unset, .unset] [(.int (((q1.toUInt64 >>> ((32 : Int32) &&& 0x3f).toInt64.toUInt64).toInt64).toInt32)), (.int (4 : Int32)), (.ref a1)]) (fun t k => XS.l2i X5.here hx rfl (hb hby at_50) rfl k) ?_
  refine hG _ _ _ (mkF m 52 #[.val (.long q1), .second, .val (.int i2), .val (.int i3), .val (.int i4), .val (.ref a1), .unset, .unset, .unset, .unset, .unset, .unset, .unset, .unset] [(.int ((((q1.toUInt64 >>> ((32 : Int32) &&& 0x3f).toInt64.toUInt64).toInt64).toInt32).toInt8.toInt32)), (.int (4 : Int32)), (.ref a1)]) (fun t k => XS.i2b X5.here hx rfl (hb hby at_51) rfl k) ?_
  obtain ⟨T6, L6, f6, X6, N6, V6, u6, r6, st6⟩ := own_sto X5 hx hZ rfl V5 (j := (4 : Int32)) (x := ((((q1.toUInt64 >>> ((32 : Int32) &&& 0x3f).toInt64.toUInt64).toInt64).toInt32).toInt8.toInt32)) (i := 4) (by decide) (by decide) (hb hby at_52) N5 ga
  refine hG _ _ _ (mkF m 53 #[.val (.long q1), .second, .val (.int i2), .val (.int i3), .val (.int i4), .val (.ref a1), .unset, .unset, .unset, .unset, .unset, .unset, .unset, .unset] []) (fun t k => st6 _ _ t k) ?_
  refine hG _ _ _ (mkF m 55 #[.val (.long q1), .second, .val (.int i2), .val (.int i3), .val (.int i4), .val (.ref a1), .unset, .unset, .unset, .unset, .unset, .unset, .unset, .unset] [(.ref a1)]) (fun t k => XS.aload X6.here hx rfl (hb hby at_53) rfl rfl k) ?_
  refine hG _ _ _ (mkF m 56 #[.val (.long q1), .second, .val (.int i2), .val (.int i3), .val (.int i4), .val (.ref a1), .unset, .unset, .unset, .unset, .unset, .unset, .unset, .unset] [(.int (5 : Int32)), (.ref a1)]) (fun t k => XS.iconst X6.here hx rfl (hb hby at_55) k) ?_
  refine hG _ _ _ (mkF m 57 #[.val (.long q1), .second, .val (.int i2), .val (.int i3), .val (.int i4), .val (.ref a1), .unset, .unset, .unset, .unset, .unset, .unset, .unset, .unset] [(.long q1), (.int (5 : Int32)), (.ref a1)]) (fun t k => XS.lloadN X6.here hx rfl (hb hby at_56) rfl k) ?_
  refine hG _ _ _ (mkF m 59 #[.val (.long q1), .second, .val (.int i2), .val (.int i3), .val (.int i4), .val (.ref a1), .unset, .unset, .unset, .unset, .unset, .unset, .unset, .unset] [(.int (40 : Int32)), (.long q1), (.int (5 : Int32)), (.ref a1)]) (fun t k => XS.bipush X6.here hx rfl (hb hby at_57) k) ?_
  refine hG _ _ _ (mkF m 60 #[.val (.long q1), .second, .val (.int i2), .val (.int i3), .val (.int i4), .val (.ref a1), .unset, .unset, .unset, .unset, .unset, .unset, .unset, .unset] [(.long ((q1.toUInt64 >>> ((40 : Int32) &&& 0x3f).toInt64.toUInt64).toInt64)), (.int (5 : Int32)), (.ref a1)]) (fun t k => XS.lushr X6.here hx rfl (hb hby at_59) rfl k) ?_
  refine hG _ _ _ (mkF m 61 #[.val (.long q1), .second, .val (.int i2), .val (.int i3), .val (.int i4), .val (.ref a1), .unset, .unset, .unset, .unset, .unset, .unset, .unset, .unset] [(.int (((q1.toUInt64 >>> ((40 : Int32) &&& 0x3f).toInt64.toUInt64).toInt64).toInt32)), (.int (5 : Int32)), (.ref a1)]) (fun t k => XS.l2i X6.here hx rfl (hb hby at_60) rfl k) ?_
  refine hG _ _ _ (mkF m 62 #[.val (.long q1), .second, .val (.int i2), .val (.int i3), .val (.int i4), .val (.ref a1), .unset, .unset, .unset, .unset, .unset, .unset, .unset, .unset] [(.int ((((q1.toUInt64 >>> ((40 : Int32) &&& 0x3f).toInt64.toUInt64).toInt64).toInt32).toInt8.toInt32)), (.int (5 : Int32)), (.ref a1)]) (fun t k => XS.i2b X6.here hx rfl (hb hby at_61) rfl k) ?_
  obtain ⟨T7, L7, f7, X7, N7, V7, u7, r7, st7⟩ := own_sto X6 hx hZ rfl V6 (j := (5 : Int32)) (x := ((((q1.toUInt64 >>> ((40 : Int32) &&& 0x3f).toInt64.toUInt64).toInt64).toInt32).toInt8.toInt32)) (i := 5) (by decide) (by decide) (hb hby at_62) N6 ga
  refine hG _ _ _ (mkF m 63 #[.val (.long q1), .second, .val (.int i2), .val (.int i3), .val (.int i4), .val (.ref a1), .unset, .unset, .unset, .unset, .unset, .unset, .unset, .unset] []) (fun t k => st7 _ _ t k) ?_
  refine hG _ _ _ (mkF m 64 #[.val (.long q1), .second, .val (.int i2), .val (.int i3), .val (.int i4), .val (.ref a1), .unset, .unset, .unset, .unset, .unset, .unset, .unset, .unset] [(.int i2)]) (fun t k => XS.iloadN X7.here hx rfl (hb hby at_63) rfl k) ?_
  refine hG _ _ _ (mkF m 66 #[.val (.long q1), .second, .val (.int i2), .val (.int i3), .val (.int i4), .val (.ref a1), .unset, .unset, .unset, .unset, .unset, .unset, .unset, .unset] [(.int (2147483647 : Int32)), (.int i2)]) (fun t k => X7.ldcInt hx (own := "com/example/querytrail/querytrail/Utf8UnpairedSurrogatePinLaw") (v := (2147483647 : Int32)) hown (mvT hZ (hw _ (List.mem_of_getElem? (i := 1) rfl))) (g := (mkF m 64 #[.val (.long q1), .second, .val (.int i2), .val (.int i3), .val (.int i4), .val (.ref a1), .unset, .unset, .unset, .unset, .unset, .unset, .unset, .unset] [(.int i2)])) rfl (hb hby at_64) t k) ?_
  refine hG _ _ _ (mkF m 67 #[.val (.long q1), .second, .val (.int i2), .val (.int i3), .val (.int i4), .val (.ref a1), .unset, .unset, .unset, .unset, .unset, .unset, .unset, .unset] [(.int (i2 &&& (2147483647 : Int32)))]) (fun t k => XS.iand X7.here hx rfl (hb hby at_66) rfl k) ?_
  refine hG _ _ _ (mkF m 68 #[.val (.long q1), .second, .val (.int i2), .val (.int i3), .val (.int i4), .val (.ref a1), .unset, .unset, .unset, .unset, .unset, .unset, .unset, .unset] [(.int (4 : Int32)), (.int (i2 &&& (2147483647 : Int32)))]) (fun t k => XS.iconst X7.here hx rfl (hb hby at_67) k) ?_
  refine hG _ _ _ (mkF m 69 #[.val (.long q1), .second, .val (.int i2), .val (.int i3), .val (.int i4), .val (.ref a1), .unset, .unset, .unset, .unset, .unset, .unset, .unset, .unset] [(.int ((i2 &&& (2147483647 : Int32)) - ((i2 &&& (2147483647 : Int32)) / (4 : Int32)) * (4 : Int32)))]) (fun t k => XS.irem X7.here hx rfl (hb hby at_68) rfl (by decide) k) ?_
  obtain ⟨pa, A, ep, hp, hA⟩ := own_at i2
  rw [ep]
  have hp3 : 0 ≤ pa.toInt ∧ pa.toInt ≤ 3 := by omega
  obtain ⟨nz, qa, eq, hq⟩ := own_to i3 pa hp3
  refine hG _ _ _ (mkF m 71 #[.val (.long q1), .second, .val (.int i2), .val (.int i3), .val (.int i4), .val (.ref a1), .val (.int pa), .unset, .unset, .unset, .unset, .unset, .unset, .unset] []) (fun t k => XS.istore X7.here hx rfl (hb hby at_69) rfl (l' := #[.val (.long q1), .second, .val (.int i2), .val (.int i3), .val (.int i4), .val (.ref a1), .val (.int pa), .unset, .unset, .unset, .unset, .unset, .unset, .unset]) rfl k) ?_
  refine hG _ _ _ (mkF m 73 #[.val (.long q1), .second, .val (.int i2), .val (.int i3), .val (.int i4), .val (.ref a1), .val (.int pa), .unset, .unset, .unset, .unset, .unset, .unset, .unset] [(.int pa)]) (fun t k => XS.iload X7.here hx rfl (hb hby at_71) rfl k) ?_
  refine hG _ _ _ (mkF m 74 #[.val (.long q1), .second, .val (.int i2), .val (.int i3), .val (.int i4), .val (.ref a1), .val (.int pa), .unset, .unset, .unset, .unset, .unset, .unset, .unset] [(.int (1 : Int32)), (.int pa)]) (fun t k => XS.iconst X7.here hx rfl (hb hby at_73) k) ?_
  refine hG _ _ _ (mkF m 75 #[.val (.long q1), .second, .val (.int i2), .val (.int i3), .val (.int i4), .val (.ref a1), .val (.int pa), .unset, .unset, .unset, .unset, .unset, .unset, .unset] [(.int (pa + (1 : Int32)))]) (fun t k => XS.iadd X7.here hx rfl (hb hby at_74) rfl k) ?_
  refine hG _ _ _ (mkF m 76 #[.val (.long q1), .second, .val (.int i2), .val (.int i3), .val (.int i4), .val (.ref a1), .val (.int pa), .unset, .unset, .unset, .unset, .unset, .unset, .unset] [(.int i3), (.int (pa + (1 : Int32)))]) (fun t k => XS.iloadN X7.here hx rfl (hb hby at_75) rfl k) ?_
  refine hG _ _ _ (mkF m 78 #[.val (.long q1), .second, .val (.int i2), .val (.int i3), .val (.int i4), .val (.ref a1), .val (.int pa), .unset, .unset, .unset, .unset, .unset, .unset, .unset] [(.int (2147483647 : Int32)), (.int i3), (.int (pa + (1 : Int32)))]) (fun t k => X7.ldcInt hx (own := "com/example/querytrail/querytrail/Utf8UnpairedSurrogatePinLaw") (v := (2147483647 : Int32)) hown (mvT hZ (hw _ (List.mem_of_getElem? (i := 1) rfl))) (g := (mkF m 76 #[.val (.long q1), .second, .val (.int i2), .val (.int i3), .val (.int i4), .val (.ref a1), .val (.int pa), .unset, .unset, .unset, .unset, .unset, .unset, .unset] [(.int i3), (.int (pa + (1 : Int32)))])) rfl (hb hby at_76) t k) ?_
  refine hG _ _ _ (mkF m 79 #[.val (.long q1), .second, .val (.int i2), .val (.int i3), .val (.int i4), .val (.ref a1), .val (.int pa), .unset, .unset, .unset, .unset, .unset, .unset, .unset] [(.int (i3 &&& (2147483647 : Int32))), (.int (pa + (1 : Int32)))]) (fun t k => XS.iand X7.here hx rfl (hb hby at_78) rfl k) ?_
  refine hG _ _ _ (mkF m 81 #[.val (.long q1), .second, .val (.int i2), .val (.int i3), .val (.int i4), .val (.ref a1), .val (.int pa), .unset, .unset, .unset, .unset, .unset, .unset, .unset] [(.int (6 : Int32)), (.int (i3 &&& (2147483647 : Int32))), (.int (pa + (1 : Int32)))]) (fun t k => XS.bipush X7.here hx rfl (hb hby at_79) k) ?_
  refine hG _ _ _ (mkF m 83 #[.val (.long q1), .second, .val (.int i2), .val (.int i3), .val (.int i4), .val (.ref a1), .val (.int pa), .unset, .unset, .unset, .unset, .unset, .unset, .unset] [(.int pa), (.int (6 : Int32)), (.int (i3 &&& (2147483647 : Int32))), (.int (pa + (1 : Int32)))]) (fun t k => XS.iload X7.here hx rfl (hb hby at_81) rfl k) ?_
  refine hG _ _ _ (mkF m 84 #[.val (.long q1), .second, .val (.int i2), .val (.int i3), .val (.int i4), .val (.ref a1), .val (.int pa), .unset, .unset, .unset, .unset, .unset, .unset, .unset] [(.int ((6 : Int32) - pa)), (.int (i3 &&& (2147483647 : Int32))), (.int (pa + (1 : Int32)))]) (fun t k => XS.isub X7.here hx rfl (hb hby at_83) rfl k) ?_
  refine hG _ _ _ (mkF m 85 #[.val (.long q1), .second, .val (.int i2), .val (.int i3), .val (.int i4), .val (.ref a1), .val (.int pa), .unset, .unset, .unset, .unset, .unset, .unset, .unset] [(.int ((i3 &&& (2147483647 : Int32)) - ((i3 &&& (2147483647 : Int32)) / ((6 : Int32) - pa)) * ((6 : Int32) - pa))), (.int (pa + (1 : Int32)))]) (fun t k => XS.irem X7.here hx rfl (hb hby at_84) rfl nz k) ?_
  refine hG _ _ _ (mkF m 86 #[.val (.long q1), .second, .val (.int i2), .val (.int i3), .val (.int i4), .val (.ref a1), .val (.int pa), .unset, .unset, .unset, .unset, .unset, .unset, .unset] [(.int ((pa + (1 : Int32)) + ((i3 &&& (2147483647 : Int32)) - ((i3 &&& (2147483647 : Int32)) / ((6 : Int32) - pa)) * ((6 : Int32) - pa))))]) (fun t k => XS.iadd X7.here hx rfl (hb hby at_85) rfl k) ?_
  rw [eq]
  refine hG _ _ _ (mkF m 88 #[.val (.long q1), .second, .val (.int i2), .val (.int i3), .val (.int i4), .val (.ref a1), .val (.int pa), .val (.int qa), .unset, .unset, .unset, .unset, .unset, .unset] []) (fun t k => XS.istore X7.here hx rfl (hb hby at_86) rfl (l' := #[.val (.long q1), .second, .val (.int i2), .val (.int i3), .val (.int i4), .val (.ref a1), .val (.int pa), .val (.int qa), .unset, .unset, .unset, .unset, .unset, .unset]) rfl k) ?_
  refine hG _ _ _ (mkF m 90 #[.val (.long q1), .second, .val (.int i2), .val (.int i3), .val (.int i4), .val (.ref a1), .val (.int pa), .val (.int qa), .unset, .unset, .unset, .unset, .unset, .unset] [(.int i4)]) (fun t k => XS.iload X7.here hx rfl (hb hby at_88) rfl k) ?_
  refine hG _ _ _ (mkF m 91 #[.val (.long q1), .second, .val (.int i2), .val (.int i3), .val (.int i4), .val (.ref a1), .val (.int pa), .val (.int qa), .unset, .unset, .unset, .unset, .unset, .unset] [(.int (1 : Int32)), (.int i4)]) (fun t k => XS.iconst X7.here hx rfl (hb hby at_90) k) ?_
  refine hG _ _ _ (mkF m 92 #[.val (.long q1), .second, .val (.int i2), .val (.int i3), .val (.int i4), .val (.ref a1), .val (.int pa), .val (.int qa), .unset, .unset, .unset, .unset, .unset, .unset] [(.int (i4 &&& (1 : Int32)))]) (fun t k => XS.iand X7.here hx rfl (hb hby at_91) rfl k) ?_
  by_cases c92 : (i4 &&& (1 : Int32)).toInt = (0 : Int32).toInt
  · refine hG _ _ _ (mkF m 102 #[.val (.long q1), .second, .val (.int i2), .val (.int i3), .val (.int i4), .val (.ref a1), .val (.int pa), .val (.int qa), .unset, .unset, .unset, .unset, .unset, .unset] []) (fun t k => XS.ifYes X7.here hx rfl (pc0 := 92) (pc' := 102) rfl (hb hby at_92) rfl ((if0 _ _).trans (own_teq c92).1) (by decide) (by decide) k) ?_
    exact tail102 q1 i2 i3 i4 pa qa a1 A f7 X7 hx hZ hw hby hml hown hret rfl N7 (by decide) (by decide) hG hR V7 hA hp hq (Nat.le_trans (Nat.le_trans Z0 g1) (Nat.le_of_lt (own_arr_lt V7)))
  · refine hG _ _ _ (mkF m 95 #[.val (.long q1), .second, .val (.int i2), .val (.int i3), .val (.int i4), .val (.ref a1), .val (.int pa), .val (.int qa), .unset, .unset, .unset, .unset, .unset, .unset] []) (fun t k => XS.ifNo X7.here hx rfl (hb hby at_92) rfl ((if0 _ _).trans (own_feq c92).1) k) ?_
    refine hG _ _ _ (mkF m 97 #[.val (.long q1), .second, .val (.int i2), .val (.int i3), .val (.int i4), .val (.ref a1), .val (.int pa), .val (.int qa), .unset, .unset, .unset, .unset, .unset, .unset] [(.ref a1)]) (fun t k => XS.aload X7.here hx rfl (hb hby at_95) rfl rfl k) ?_
    refine hG _ _ _ (mkF m 99 #[.val (.long q1), .second, .val (.int i2), .val (.int i3), .val (.int i4), .val (.ref a1), .val (.int pa), .val (.int qa), .unset, .unset, .unset, .unset, .unset, .unset] [(.int pa), (.ref a1)]) (fun t k => XS.iload X7.here hx rfl (hb hby at_97) rfl k) ?_
    refine hG _ _ _ (mkF m 101 #[.val (.long q1), .second, .val (.int i2), .val (.int i3), .val (.int i4), .val (.ref a1), .val (.int pa), .val (.int qa), .unset, .unset, .unset, .unset, .unset, .unset] [(.int (-19 : Int32)), (.int pa), (.ref a1)]) (fun t k => XS.bipush X7.here hx rfl (hb hby at_99) k) ?_
    obtain ⟨T8, L8, f8, X8, N8, V8, u8, r8, st8⟩ := own_sto X7 hx hZ rfl V7 (j := pa) (x := (-19 : Int32)) (i := A) hp (by omega) (hb hby at_101) N7 ga
    refine hG _ _ _ (mkF m 102 #[.val (.long q1), .second, .val (.int i2), .val (.int i3), .val (.int i4), .val (.ref a1), .val (.int pa), .val (.int qa), .unset, .unset, .unset, .unset, .unset, .unset] []) (fun t k => st8 _ _ t k) ?_
    exact tail102 q1 i2 i3 i4 pa qa a1 A f8 X8 hx hZ hw hby hml hown hret rfl N8 (by decide) (by decide) hG hR V8 hA hp hq (Nat.le_trans (Nat.le_trans Z0 g1) (Nat.le_of_lt (own_arr_lt V8)))
set_option maxRecDepth 65536 in
set_option maxHeartbeats 40000000 in
theorem comes_1 {Post : Tables → Env → Array Value → State → Outcome → State → Prop} (hpost : ∀ tb e args s v u, (limb_1_1.after args s (.returned v) u = true ∧ limb_1_2.after args s (.returned v) u = true ∧ True) → FrameEnd s (.returned v) u (Jvm.fieldLocs frame_1_writes args s ++ Jvm.arrayLocs frame_1_arrays args s ++ Jvm.staticLocs frame_1_statics s) 16 128 → Post tb e args s (.returned v) u) :
    ArmFor flags0 classFile x code maxLocals ret World_1 tables_1 room_1 Calls_1 rest_1 Pre_1 Post := by
  intro l hfl _ _ p e ha hc hk s m args below hf hA hF happ hP
  obtain ⟨hcalls, hrest, hpre⟩ := hP
  obtain ⟨-, -, -, hnamed, -, -, -, hat⟩ := (Spec.applies_iff hf).mp happ
  obtain ⟨hg, hn⟩ := and_e (Cond.before_iff.mp (show (Jvm.Cond.and given_1 narrow_1).before args s = true from hpre))
  obtain ⟨h1, h2⟩ := and_e hg
  obtain ⟨w0, w1, w2, w3, rfl⟩ : ∃ w0 w1 w2 w3 : Value, args = #[w0, w1, w2, w3] := by
    have hs : args.size = 4 := by simpa [Cond.value, given_1] using h1
    obtain ⟨L⟩ := args
    match L, hs with
    | [w0, w1, w2, w3], _ => exact ⟨w0, w1, w2, w3, rfl⟩
  have hw := fun d (hd : d ∈ tables_1) => atoms_spec (ws := Jvm.Cond.code x code maxLocals ret :: tables_1) hat d (List.mem_cons_of_mem _ hd)
  obtain ⟨q0, r0⟩ := and_e h2
  obtain ⟨i0, e0⟩ := isL_v q0
  obtain rfl : w0 = (.long i0) := Option.some.inj e0
  obtain ⟨q1, r1⟩ := and_e r0
  obtain ⟨i1, e1⟩ := is_v q1
  obtain rfl : w1 = (.int i1) := Option.some.inj e1
  obtain ⟨q2, r2⟩ := and_e r1
  obtain ⟨i2, e2⟩ := is_v q2
  obtain rfl : w2 = (.int i2) := Option.some.inj e2
  obtain ⟨i3, e3⟩ := is_v r2
  obtain rfl : w3 = (.int i3) := Option.some.inj e3
  obtain ⟨n, o, h1, h2, h3, _, L, rfl, ⟨w, rfl, rfl, N⟩, hq⟩ := rm0 l s _ hw tables_1 i0 i1 i2 i3 s.heap s.heap.size (Nat.le_refl _) p e ha hc hk s m _ below hf ((Spec.applies_iff_loose hf).mp happ).1 ⟨rfl, State.Warmed39.refl s, rfl⟩ trivial
  refine ⟨n, _, h1, h2, h3, hpost _ _ _ _ _ _ ⟨Cond.after_iff.mpr rfl, Cond.after_iff.mpr (eq_i res_at (Term.int_eval (1)) rfl), trivial⟩ ⟨hq.1, hq.2.1, (hq.2.2.sift fun y hy => Or.inr (N y hy)).mono (by decide) (by decide)⟩⟩
theorem main_1_1 : Claimed_1_1 := comes_1 fun _ _ _ _ _ _ h hF => ⟨h.1, hF⟩
theorem main_1_2 : Claimed_1_2 := comes_1 fun _ _ _ _ _ _ h hF => ⟨h.2.1, hF⟩
end Jvm.Pilot.@@N@@
namespace Jvm.Pilot.@@N@@
open Jvm Jvm.ClassFile Sem Op Lib Jvm.Free Jvm.Stand Jvm.Pilot.@@N@@.Jvm.D
/-! MADE BY PROGRAM (witnessworld.py) out of the Statement's table words and the real class files: 9 classes; the members and pool entries that the words name. The judged class is class 1, her method 1. -/
namespace start1
open Jvm.ClassFile
def u (s : String) : CpInfo := .utf8 (stringToUtf16 s)
/-- a pool by its gaps: so many unusable entries, then the entry; so many at the end -/
def gap : Nat → List CpInfo → List CpInfo
  | 0, r => r
  | n + 1, r => .unusable :: gap n r
def poolList (es : List (Nat × CpInfo)) (last : Nat) : List CpInfo := es.foldr (fun e r => gap e.1 (e.2 :: r)) (gap last [])
def pool (es : List (Nat × CpInfo)) (last : Nat) : Array CpInfo := ⟨poolList es last⟩
def fileOf (pool : Array CpInfo) (this : Nat) (attrs : Array Attribute := #[]) (ms : Array MethodInfo := #[]) (fl : Nat := 33) (sup : Nat := 0) (ifs : Array Nat := #[]) (fds : Array FieldInfo := #[]) : ClassFile where
  minorVersion := 0
  majorVersion := 65
  constantPool := pool
  accessFlags := fl
  thisClass := this
  superClass := sup
  interfaces := ifs
  fields := fds
  methods := ms
  attributes := attrs
def plain (name : String) (sup : Option ClassId) : Class where
  name := name
  kind := .ordinary
  loader := none
  accessFlags := 33
  super := sup
  interfaces := #[]
  cf := none
  fields := #[]
  methods := #[]
  instanceTypes := #[]
  staticTypes := #[]
  resolved := #[]
  callSites := []
  init := .initialized
  statics := none
  mirror := none

def pool0 : Array CpInfo := pool [(5, u "<init>"), (0, u "()V"), (1, .class_ 10), (1, u "java/lang/Object")] 113

def k0m0 : Method := { name := "<init>", desc := "()V", sig := { parameters := [], returnType := none }, accessFlags := 1, code := none }
/-- java/lang/Object -/
def k0 : Class := { plain "java/lang/Object" none with
  accessFlags := 33
  interfaces := #[]
  cf := some (fileOf pool0 8 #[] #[{ accessFlags := 1, nameIndex := 5, descriptorIndex := 6, attributes := #[] }] 33 0 #[] #[])
  fields := #[]
  methods := #[k0m0]
  instanceTypes := #[]
  staticTypes := #[]
  resolved := Array.replicate 124 none
  statics := none }

def pool1 : Array CpInfo := pool [(2, .class_ 4), (1, u "java/lang/Object"), (0, u "<init>"), (0, u "()V"), (0, .integer 2147483647), (0, .integer 53248), (0, .methodref 10 11), (0, .class_ 12), (0, .nameAndType 13 14), (0, u "com/example/querytrail/querytrail/Utf8"), (0, u "unpairedSurrogate"), (0, u "([BII)I"), (0, .class_ 16), (0, u "com/example/querytrail/querytrail/Utf8UnpairedSurrogatePinLaw"), (2, u "law"), (0, u "(JIII)Z")] 5

def k1m0 : Method := { name := "<init>", desc := "()V", sig := { parameters := [], returnType := none }, accessFlags := 2, code := none }
def k1c1 : Code := { maxStack := 5, maxLocals := 14, code := code, exceptionTable := #[], attributes := #[] }
def k1m1 : Method := { name := "law", desc := "(JIII)Z", sig := { parameters := [.long, .int, .int, .int], returnType := some .boolean }, accessFlags := 9, code := some k1c1 }
/-- com/example/querytrail/querytrail/Utf8UnpairedSurrogatePinLaw -/
def k1 : Class := { plain "com/example/querytrail/querytrail/Utf8UnpairedSurrogatePinLaw" (some 0) with
  accessFlags := 49
  interfaces := #[]
  cf := some (fileOf pool1 15 #[] #[{ accessFlags := 2, nameIndex := 5, descriptorIndex := 6, attributes := #[] }, { accessFlags := 9, nameIndex := 19, descriptorIndex := 20, attributes := #[] }] 49 2 #[] #[])
  fields := #[]
  methods := #[k1m0, k1m1]
  instanceTypes := #[]
  staticTypes := #[]
  resolved := Array.replicate 26 none
  statics := none }

def pool2 : Array CpInfo := pool [(4, .class_ 6), (1, u "java/lang/Object"), (0, u "<init>"), (0, u "()V"), (1, .class_ 12), (1, u "com/example/querytrail/querytrail/Utf8"), (0, u "WORDS"), (0, u "Ljava/lang/invoke/VarHandle;"), (32, u "BYTE_ORDER_MARK_LENGTH"), (0, u "I"), (2, u "BYTE_ORDER_MARK"), (0, u "[B"), (110, u "unpairedSurrogate"), (0, u "([BII)I"), (19, .integer 53248), (16, u "ONES"), (0, u "J"), (3, u "HIGH_BITS"), (0, u "CHARACTERS_A_TURN"), (1, u "BLOCK"), (1, u "UNPAIRED_LENGTH")] 22

def k2m0 : Method := { name := "<init>", desc := "()V", sig := { parameters := [], returnType := none }, accessFlags := 2, code := none }
def k2c1 : Code := { maxStack := 4, maxLocals := 4, code := prog_142_method_18_code, exceptionTable := #[], attributes := #[] }
def k2m1 : Method := { name := "unpairedSurrogate", desc := "([BII)I", sig := { parameters := [(.array .byte), .int, .int], returnType := some .int }, accessFlags := 8, code := some k2c1 }
/-- com/example/querytrail/querytrail/Utf8 -/
def k2 : Class := { plain "com/example/querytrail/querytrail/Utf8" (some 0) with
  accessFlags := 48
  interfaces := #[]
  cf := some (fileOf pool2 10 #[] #[{ accessFlags := 2, nameIndex := 7, descriptorIndex := 8, attributes := #[] }, { accessFlags := 8, nameIndex := 163, descriptorIndex := 164, attributes := #[] }] 48 4 #[] #[{ accessFlags := 24, nameIndex := 201, descriptorIndex := 202, attributes := #[] }, { accessFlags := 24, nameIndex := 206, descriptorIndex := 202, attributes := #[] }, { accessFlags := 26, nameIndex := 51, descriptorIndex := 52, attributes := #[] }, { accessFlags := 24, nameIndex := 47, descriptorIndex := 48, attributes := #[] }, { accessFlags := 26, nameIndex := 207, descriptorIndex := 48, attributes := #[] }, { accessFlags := 26, nameIndex := 209, descriptorIndex := 48, attributes := #[] }, { accessFlags := 24, nameIndex := 211, descriptorIndex := 48, attributes := #[] }, { accessFlags := 26, nameIndex := 13, descriptorIndex := 14, attributes := #[] }])
  fields := #[{ name := "ONES", type := .long, accessFlags := 24, slot := 0, constantValue := 0 }, { name := "HIGH_BITS", type := .long, accessFlags := 24, slot := 1, constantValue := 0 }, { name := "BYTE_ORDER_MARK", type := (.array .byte), accessFlags := 26, slot := 2, constantValue := 0 }, { name := "BYTE_ORDER_MARK_LENGTH", type := .int, accessFlags := 24, slot := 3, constantValue := 0 }, { name := "CHARACTERS_A_TURN", type := .int, accessFlags := 26, slot := 4, constantValue := 0 }, { name := "BLOCK", type := .int, accessFlags := 26, slot := 5, constantValue := 0 }, { name := "UNPAIRED_LENGTH", type := .int, accessFlags := 24, slot := 6, constantValue := 0 }, { name := "WORDS", type := (.object "java/lang/invoke/VarHandle"), accessFlags := 26, slot := 7, constantValue := 0 }]
  methods := #[k2m0, k2m1]
  instanceTypes := #[]
  staticTypes := #[.long, .long, (.array .byte), .int, .int, .int, .int, (.object "java/lang/invoke/VarHandle")]
  resolved := Array.replicate 234 none
  statics := none }

def pool3 : Array CpInfo := pool [(1, u "java/lang/Cloneable"), (0, .class_ 1), (0, u "java/lang/Object"), (0, .class_ 3)] 3

/-- java/lang/Cloneable -/
def k3 : Class := { plain "java/lang/Cloneable" (some 0) with
  accessFlags := 1537
  interfaces := #[]
  cf := some (fileOf pool3 2 #[] #[] 1537 4 #[] #[])
  fields := #[]
  methods := #[]
  instanceTypes := #[]
  staticTypes := #[]
  resolved := Array.replicate 8 none
  statics := none }

def pool4 : Array CpInfo := pool [(1, u "java/io/Serializable"), (0, .class_ 1), (0, u "java/lang/Object"), (0, .class_ 3)] 3

/-- java/io/Serializable -/
def k4 : Class := { plain "java/io/Serializable" (some 0) with
  accessFlags := 1537
  interfaces := #[]
  cf := some (fileOf pool4 2 #[] #[] 1537 4 #[] #[])
  fields := #[]
  methods := #[]
  instanceTypes := #[]
  staticTypes := #[]
  resolved := Array.replicate 8 none
  statics := none }

/-- the primitive byte -/
def k5 : Class := { plain "byte" none with kind := .primitive 'B', accessFlags := 0x411 }
/-- [B -/
def k6 : Class := { plain "[B" (some 0) with kind := .array 5 .byte, interfaces := #[3, 4], accessFlags := 1041 }

/-- the primitive int -/
def k7 : Class := { plain "int" none with kind := .primitive 'I', accessFlags := 0x411 }
/-- [I -/
def k8 : Class := { plain "[I" (some 0) with kind := .array 7 .int, interfaces := #[3, 4], accessFlags := 1041 }

def heap : Heap := #[]
def classes : Array Class := #[k0, k1, k2, k3, k4, k5, k6, k7, k8]
def interned : List (Array UInt16 × Addr) := []
def slotsUsed : Nat := 0
def theMethod : MethodId := ⟨1, 1⟩
def args0 : Array Value := #[.long 5, .int 1, .int 2, .int 3]
def aboutOver (below : List Frame) : State where
  vm := { classes := classes, interned := interned.toArray }
  heap := heap
  slotsUsed := slotsUsed
  threads := #[{ frames := .invoking theMethod args0 :: below }]
def below0 : List Frame := [.native { method := ⟨0, 0⟩, args := #[] }]
def about1 : State := aboutOver below0
def p0 : Program := .bare "" "" ""
def e0 : Env := launch0.env 0 0 0
theorem w_frames : about1.frames = Frame.invoking theMethod args0 :: below0 := rfl
set_option maxRecDepth 65536 in
theorem w_args : argsFit about1.vm theMethod args0 = true := by decide +kernel
set_option maxRecDepth 65536 in
theorem w_heap : heapFits about1 = true := by decide +kernel
set_option maxRecDepth 65536 in
theorem w_runnable : about1.curStatus? = some .runnable := by decide +kernel
set_option maxRecDepth 65536 in
theorem w_alone : about1.alone = true := by decide +kernel
set_option maxRecDepth 65536 in
theorem w_named : about1.methodNamed? x = some theMethod := by decide +kernel
set_option maxRecDepth 65536 in
theorem w_hears : about1.hears theMethod below0 = true := by decide +kernel
set_option maxRecDepth 65536 in
theorem w_ripe : about1.ripe theMethod args0 below0 = true := by decide +kernel
theorem w_running : about1.status = .running := rfl
set_option maxRecDepth 65536 in
theorem w_room : about1.hasRoom e0.platform room_1 = true :=
  launch0.hasRoom_least _ room_1 (by decide +kernel) (by decide +kernel) (by decide +kernel) (by decide +kernel) (by decide +kernel) (by decide +kernel)
theorem allAtoms_all (ts : List Jvm.Cond) (a : Array Jvm.Value) (st : Jvm.State) : (allAtoms ts).before a st = ts.all (fun c => c.before a st) := by
  induction ts with
  | nil => rfl
  | cons c t ih =>
    show (Jvm.Cond.and c (allAtoms t)).before a st = _
    rw [Jvm.Cond.before_and, ih, List.all_cons]
def words1 : List Jvm.Cond := Jvm.Cond.code x code maxLocals ret :: tables_1
/-- a 'code' word, met by the world's own term for the bytes: nothing is compared byte by byte -/
theorem code_word {y : MethodName} {bytes : ByteArray} {mx : Nat} {rt : Option FieldType} {a : Array Value} {s : State} {m : MethodId} {meth : Method} {c : Code} (h1 : s.methodNamed? y = some m) (h2 : s.vm.method? m = some meth) (h3 : meth.code = some c) (h4 : c.code = bytes)
    (h5 : (c.maxLocals == mx && c.exceptionTable.isEmpty && decide (c.maxStack ≤ mostOperands) && decide (meth.sig.returnType = rt) && !meth.locks && decide (parseMethodDescriptor y.desc = some meth.sig)) = true) : (Jvm.Cond.code y bytes mx rt).before a s = true := by
  simp only [Bool.and_eq_true, beq_iff_eq, Bool.not_eq_true', decide_eq_true_eq] at h5
  obtain ⟨⟨⟨⟨⟨g1, g2⟩, g3⟩, g4⟩, g5⟩, g6⟩ := h5
  simp [Cond.before, Cond.holds, Cond.value, h1, h2, h3, h4, g1, g2, g3, g4, g5, g6]
def isCode : Jvm.Cond → Bool
  | .code _ _ _ _ => true
  | _ => false
theorem all_split {L : List Jvm.Cond} {P : Jvm.Cond → Bool} (h1 : L.all (fun c => isCode c || P c) = true) (h2 : ∀ c ∈ L.filter isCode, P c = true) : L.all P = true := by
  refine List.all_eq_true.mpr fun c hc => ?_
  have h := List.all_eq_true.mp h1 c hc
  rcases Bool.eq_false_or_eq_true (isCode c) with hi | hi
  · exact h2 c (List.mem_filter.mpr ⟨hc, hi⟩)
  · simpa [hi] using h
set_option maxRecDepth 65536 in
theorem w_c0 : (Jvm.Cond.code x code maxLocals ret).before args0 about1 = true := code_word (m := ⟨1, 1⟩) (meth := k1m1) (c := k1c1) (by decide +kernel) rfl rfl rfl (by decide +kernel)
set_option maxRecDepth 65536 in
theorem w_c1 : (Jvm.Cond.code ({ cls := "com/example/querytrail/querytrail/Utf8", name := "unpairedSurrogate", desc := "([BII)I" } : Jvm.MethodName) prog_142_method_18_code (4 : Nat) (Option.some Jvm.ClassFile.FieldType.int)).before args0 about1 = true := code_word (m := ⟨2, 1⟩) (meth := k2m1) (c := k2c1) (by decide +kernel) rfl rfl rfl (by decide +kernel)
def codes1 : List Jvm.Cond := [Jvm.Cond.code x code maxLocals ret, Jvm.Cond.code ({ cls := "com/example/querytrail/querytrail/Utf8", name := "unpairedSurrogate", desc := "([BII)I" } : Jvm.MethodName) prog_142_method_18_code (4 : Nat) (Option.some Jvm.ClassFile.FieldType.int)]
set_option maxRecDepth 65536 in
theorem codes_eq : words1.filter isCode = codes1 := rfl
theorem w_codes : ∀ c ∈ words1.filter isCode, c.before args0 about1 = true := by
  rw [codes_eq]
  intro c hc
  simp only [codes1, List.mem_cons, List.not_mem_nil, or_false] at hc
  rcases hc with rfl | rfl
  · exact w_c0
  · exact w_c1
set_option maxRecDepth 65536 in
theorem w_t1 : words1.all (fun c => isCode c || c.before args0 about1) = true := by decide +kernel
theorem w_tables : (allAtoms (Jvm.Cond.code x code maxLocals ret :: tables_1)).before args0 about1 = true := by
  rw [allAtoms_all]
  show words1.all (fun c => c.before args0 about1) = true
  refine all_split ?_ w_codes
  rw [w_t1]
set_option maxRecDepth 65536 in
theorem w_case : (Jvm.Cond.and given_1 narrow_1).before args0 about1 = true := by decide +kernel
theorem w_applies : (headSpec (Jvm.Cond.code x code maxLocals ret :: tables_1) room_1).applies x e0.platform about1 = true :=
  (Spec.applies_iff w_frames).mpr ⟨w_running, w_runnable, w_alone, w_named, w_hears, w_ripe, w_room, w_tables⟩
theorem atStart : AtStart classFile x code maxLocals ret World_1 tables_1 room_1 Calls_1 rest_1 Pre_1 launch0 p0 e0 about1 theMethod args0 below0 :=
  ⟨lists_1, trivial, launch0.admits_env _ _ _, launch0.least_env, fairChoices_fair.cas, fairChoices_fair.clock, w_frames, w_args, w_heap, w_applies, trivial, trivial, w_case⟩
end start1
theorem witness_1 : WitnessClaimed_1 := ⟨start1.p0, start1.e0, start1.about1, start1.theMethod, start1.args0, start1.below0, start1.atStart⟩
end Jvm.Pilot.@@N@@
