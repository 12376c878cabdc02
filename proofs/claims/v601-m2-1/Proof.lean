import JvmDerived
import JvmDerived.Pilot.@@N@@Statement
import JvmDerived.Pilot.@@N@@Code
set_option linter.unusedVariables false
set_option linter.unusedSimpArgs false
namespace Jvm.RoadKit
open Sem ClassFile Op Lib Jvm.Stand Jvm.Free Jvm.LawKit
section New
variable {p : Program} {l : Launch} {e : Env} {R : Room} {s : State} {m : MethodId} {args : Array Value} {below : List Frame} {meth : Method} {c : Code} {T : State} {locs : List Loc} {cells slots : Nat}
theorem retI (X : Stand p l e R s m args below meth c T locs cells slots) (hx : p.tables.exec = Jvm.exec) {pc : Nat} {Ls : Array Slot} {z : Int32} {rest : List Value} (hret : meth.sig.returnType = some .int) (hd : decode c.code pc = .ok (.ireturn, 1)) {fs : List Frame}
    (hl : ∀ (f : JFrame) (acts : List Action), f.method = m → f.locked = none → f.entered = [] → (doReturn e (T.setTop f) acts (some (.int z))).1 = T.setFrames fs) : Steps p.tables e below (T.setTop (mkF m pc Ls (.int z :: rest))) (T.setFrames fs) := by
  have hm' : T.vm.method? m = some meth := X.method'
  have hn : narrow .int (.int z) = .int z := rfl
  show Steps p.tables e below (T.setTop { method := m, pc := pc, locals := Ls, stack := _ :: rest, locked := none }) _
  jvm_step X.here [X.here.top, hx, hd, hm', hret, hn]
  first | (intro acts; rw [hl _ acts rfl rfl rfl]) | rw [hl _ _ rfl rfl rfl]
  exact Steps.refl _
end New
end Jvm.RoadKit
namespace Jvm.Pilot.@@N@@
open Jvm Jvm.ClassFile Sem Op Lib Jvm.Free Jvm.Stand Jvm.LawKit Jvm.RoadKit Bundle Jvm.Pilot.@@N@@.Jvm.D
/-! 0. own, general: a walk that goes forward and may fork; byte arrays by a function -/
theorem own_tlt {x y : Int32} (h : x.toInt < y.toInt) : if_icmp.holds .lt x y = true ∧ if_icmp.holds .ge x y = false ∧ if_icmp.holds .gt y x = true ∧ if_icmp.holds .le y x = false := tlt (Int32.lt_iff_toInt_lt.mpr h)
theorem own_flt {x y : Int32} (h : ¬ x.toInt < y.toInt) : if_icmp.holds .lt x y = false ∧ if_icmp.holds .ge x y = true ∧ if_icmp.holds .gt y x = false ∧ if_icmp.holds .le y x = true := flt (fun q => h (Int32.lt_iff_toInt_lt.mp q))
theorem own_teq {x y : Int32} (h : x.toInt = y.toInt) : if_icmp.holds .eq x y = true ∧ if_icmp.holds .ne x y = false := teq (Int32.toInt_inj.mp h)
theorem own_feq {x y : Int32} (h : ¬ x.toInt = y.toInt) : if_icmp.holds .eq x y = false ∧ if_icmp.holds .ne x y = true := feq (fun q => h (congrArg Int32.toInt q))
theorem own_idx {j : Int32} {i : Nat} (h : j.toInt = i) : ¬ j < 0 ∧ j.toNatClampNeg = i := by
  constructor
  · rw [Int32.lt_iff_toInt_lt, h, show (0 : Int32).toInt = 0 from rfl]; omega
  · rw [Int32.toNatClampNeg, h]; rfl
/-- a byte array: n components, the i-th is f i -/
def own_arr (Z : State) (h : Heap) (a : Addr) (n : Nat) (f : Nat → Int32) : Prop :=
  ∃ cl : Cell, Arr Z h a cl .byte ∧ cl.slots.size = n ∧ (∀ i, i < n → cl.slots[i]? = some (.int (f i))) ∧ ∀ i, i < n → -128 ≤ (f i).toInt ∧ (f i).toInt < 128
theorem own_arr_rng {Z : State} {h : Heap} {a : Addr} {n : Nat} {f : Nat → Int32} (V : own_arr Z h a n f) : ∀ i, i < n → -128 ≤ (f i).toInt ∧ (f i).toInt < 128 := by
  obtain ⟨cl, -, -, -, G⟩ := V; exact G
theorem own_arr_lt {Z : State} {h : Heap} {a : Addr} {n : Nat} {f : Nat → Int32} (V : own_arr Z h a n f) : a < h.size := by
  obtain ⟨cl, A, -⟩ := V; exact A.lt
theorem own_nar (x : Int32) : -128 ≤ (nar .byte x).toInt ∧ (nar .byte x).toInt < 128 := (c_i2b x).2
section OwnN
variable {p : Program} {l : Launch} {e : Env} {R : Room} {s : State} {m : MethodId} {args : Array Value} {below : List Frame} {meth : Method} {c : Code} {T : State} {locs : List Loc} {cells slots : Nat} {Z : State} {a0 : Array Value} {h : Heap}
theorem own_ld (X : Stand p l e R s m args below meth c T locs cells slots) (hx : p.tables.exec = Jvm.exec) (hZ : Z.Warmed39 s.vm) (eT : T.heap = h) {a : Addr} {n : Nat} {f : Nat → Int32} (V : own_arr Z h a n f) {j : Int32} {i : Nat} (hj : j.toInt = i) (hi : i < n) {pc : Nat} {Ls : Array Slot} {rest : List Value} (hd : decode c.code pc = .ok (.baload, 1)) {target : State}
    (k : Steps p.tables e below (T.setTop (mkF m (pc + 1) Ls (.int (f i) :: rest))) target) : Steps p.tables e below (T.setTop (mkF m pc Ls (.int j :: .ref a :: rest))) target := by
  obtain ⟨cl, A, S, H, -⟩ := V
  obtain ⟨q1, q2⟩ := own_idx hj
  exact X.baloadBytes hx (j := j) (v := .int (f i)) (by rw [eT]; exact A.1) (State.isArrayOf_alike hZ.alike A.2.1) A.2.2 (fun q => by
    rcases q with q | q
    · exact q1 q
    · rw [q2, S] at q; omega) (by rw [q2]; exact H i hi) (g := mkF m pc Ls (.int j :: .ref a :: rest)) rfl rfl hd _ k
theorem own_sto (X : Stand p l e R s m args below meth c T locs cells slots) (hx : p.tables.exec = Jvm.exec) (hZ : Z.Warmed39 s.vm) (eT : T.heap = h) {a : Addr} {n : Nat} {f : Nat → Int32} (V : own_arr Z h a n f) {j x : Int32} {i : Nat} (hj : j.toInt = i) (hi : i < n) {pc : Nat} (hd : decode c.code pc = .ok (.bastore, 1)) {n0 : Nat} (N : Fr n0 locs) (ha : n0 ≤ a) :
    ∃ (T' : State) (locs' : List Loc) (f' : Nat → Int32), Stand p l e R s m args below meth c T' locs' cells slots ∧ Fr n0 locs' ∧ own_arr Z T'.heap a n f' ∧ f' i = nar .byte x ∧ (∀ k, k ≠ i → f' k = f k) ∧
      ∀ (Ls : Array Slot) (rest : List Value) (target : State), Steps p.tables e below (T'.setTop (mkF m (pc + 1) Ls rest)) target → Steps p.tables e below (T.setTop (mkF m pc Ls (.int x :: .int j :: .ref a :: rest))) target := by
  obtain ⟨cl, A, S, H, G⟩ := V
  obtain ⟨q1, q2⟩ := own_idx hj
  have hin : ¬ (j < 0 ∨ cl.slots.size ≤ j.toNatClampNeg) := fun q => by
    rcases q with q | q
    · exact q1 q
    · rw [q2, S] at q; omega
  obtain ⟨X', st⟩ : Stand p l e R s m args below meth c (T.setCell a (cl.setSlot j.toNatClampNeg (.int (nar .byte x)))) (locs ++ [⟨a, j.toNatClampNeg⟩]) cells slots ∧ ∀ (Ls : Array Slot) (rest : List Value) (target : State), Steps p.tables e below ((T.setCell a (cl.setSlot j.toNatClampNeg (.int (nar .byte x)))).setTop (mkF m (pc + 1) Ls rest)) target → Steps p.tables e below (T.setTop (mkF m pc Ls (.int x :: .int j :: .ref a :: rest))) target := by
    have q := fun (Ls : Array Slot) (rest : List Value) => bastoreB X hx (x := x) (by rw [eT]; exact A.1) (State.isArrayOf_alike hZ.alike A.2.1) A.2.2 hin (g := mkF m pc Ls (.int x :: .int j :: .ref a :: rest)) rfl rfl hd
    exact ⟨(q #[] []).1, fun Ls rest => (q Ls rest).2⟩
  refine ⟨_, _, fun k => if k = i then nar .byte x else f k, X', Fr.snoc X' N ha, ⟨cl.setSlot j.toNatClampNeg (.int (nar .byte x)), A.same (h' := (T.setCell a (cl.setSlot j.toNatClampNeg (.int (nar .byte x)))).heap) ⟨cl, A.1, A.plain, Nat.lt_of_not_le fun q => hin (Or.inr q), by rw [← eT]; rfl⟩, by rw [sz_set]; exact S, fun k hk => ?_, fun k hk => ?_⟩, if_pos rfl, fun k hk => if_neg hk, st⟩
  · rw [q2]
    by_cases u : k = i
    · subst u; simp [Cell.setSlot, S, hk]
    · show _ = some (Value.int (if k = i then nar .byte x else f k))
      rw [if_neg u]
      simp only [Cell.setSlot]
      rw [Array.getElem?_setIfInBounds_ne (fun q => u q.symm)]; exact H k hk
  · show -128 ≤ (if k = i then nar .byte x else f k).toInt ∧ (if k = i then nar .byte x else f k).toInt < 128
    by_cases u : k = i
    · rw [if_pos u]; exact own_nar x
    · rw [if_neg u]; exact G k hk
theorem own_mk (X : Stand p l e R s m args below meth c T locs cells slots) (hx : p.tables.exec = Jvm.exec) (hZ : Z.Warmed39 s.vm) (w : (Cond.arrayClass .byte).before a0 Z = true) (eT : T.heap = h) {pc : Nat} (hd : decode c.code pc = .ok (.newarray .byte, 2)) {z : Int32} {n : Nat} (hz : z.toInt = n) (hb : n * 8 ≤ 536870912) (hc : cells + 1 ≤ R.cells) (hl : slots + n ≤ R.slots) (Ls : Array Slot) (rest : List Value) :
    ∃ (T' : State) (a : Addr), Stand p l e R s m args below meth c T' locs (cells + 1) (slots + n) ∧ own_arr Z T'.heap a n (fun _ => 0) ∧ h.size ≤ a ∧
      ∀ target, Steps p.tables e below (T'.setTop (mkF m (pc + 2) Ls (.ref a :: rest))) target → Steps p.tables e below (T.setTop (mkF m pc Ls (.int z :: rest))) target := by
  obtain ⟨q1, q2⟩ := own_idx hz
  obtain ⟨T', h', cA, X', e', E', A', st⟩ := newP X hx hZ (aty := .byte) w eT (g := mkF m pc Ls (.int z :: rest)) rfl hd rfl q1 (cap := n) (by rw [q2]; exact Nat.le_refl _) hb hc hl
  refine ⟨T', h.size, X', ?_, Nat.le_refl _, st⟩
  rw [e']
  refine ⟨_, A', by rw [sz_new]; exact q2, fun i hi => ?_, fun i _ => (by decide : -128 ≤ (0 : Int32).toInt ∧ (0 : Int32).toInt < 128)⟩
  simp [newA, q2, hi, newarray.typeOf, defaultValue]
theorem own_call (X : Stand p l e R s m args below meth c T locs cells slots) (hx : p.tables.exec = Jvm.exec) (hZ : Z.Warmed39 s.vm) (eT : T.heap = h) {own : String} {index : Nat} {y : MethodName} {bytes : ByteArray} {maxL : Nat} {ret : Option FieldType} {rm : Room} {Q : Option Value → Heap → List Loc → Prop} {argsL rest : List Value} {W : Nat}
    (hown : s.vm.findClass own = some m.cls) (w1 : (Cond.methodLink own index y).before a0 Z = true) (w2 : (Cond.static y).before a0 Z = true) (w3 : (Cond.initialized y.cls).before a0 Z = true) (w4 : (Cond.code y bytes maxL ret).before a0 Z = true) (hy : y.cls ≠ "java/lang/invoke/MethodHandle" ∧ y.cls ≠ "java/lang/invoke/VarHandle")
    (hM : MetFree l y (head1 [Cond.code y bytes maxL ret] rm) (fun a U => a = argsL.toArray ∧ Z.Warmed39 U.vm ∧ U.heap = h) (fun _ _ _ _ _ => True) (fun _ U o U' => ∃ v L, o = .returned v ∧ Q v U'.heap L ∧ FrameEnd U o U' L rm.cells rm.slots))
    (hf : rm.frames + 1 ≤ R.frames) (hl : W + (maxL + 11) + rm.locals ≤ R.locals) {pc : Nat} {Ls : Array Slot} (hs : Ls.size = c.maxLocals) (hlen : ∀ sig, parseMethodDescriptor y.desc = some sig → argsL.length = sig.parameters.length) (hW : (rest.map fun v => v.category).sum ≤ W) (hd : decode c.code pc = .ok (.invokestatic index, 3))
    (hc : cells + rm.cells ≤ R.cells) (hsl : slots + rm.slots ≤ R.slots) :
    ∃ (v : Option Value) (T' : State) (L : List Loc), Stand p l e R s m args below meth c T' (locs ++ L) (cells + rm.cells) (slots + rm.slots) ∧ Q v T'.heap L ∧
      ∀ target, Steps p.tables e below (T'.setTop (mkF m (pc + 3) Ls (v.toList ++ rest))) target → Steps p.tables e below (T.setTop (mkF m pc Ls (argsL.reverse ++ rest))) target := by
  obtain ⟨v, _, ⟨T5, L5, k5, n5⟩, -, X5, ⟨Lc5, hQ5, l5, y5, z5⟩, st5⟩ := Jvm.LawKit.callS X hx (y := y) hown (mvT hZ w1) (mvT hZ w2) (mvT hZ w3) (mvT hZ w4) hy (backOf (W := W) hM hZ w4 w3 hf hl) (g := mkF m pc Ls (argsL.reverse ++ rest)) rfl hs (argsL := argsL) (rest := rest) hlen rfl (by show 2 * 0 + _ ≤ _; omega) hd (fun _ _ => ⟨rfl, eT, hc, hsl⟩)
  dsimp only [Pt.U, Pt.locs, Pt.cells, Pt.slots] at X5 l5 y5 z5 st5 hQ5
  subst l5 y5 z5
  exact ⟨v, T5, Lc5, X5, hQ5, st5⟩
/-- what holds where a step leads holds here -/
def own_moves (p : Program) (e : Env) (below : List Frame) (G : State → JFrame → Prop) : Prop := ∀ (T T1 : State) (g g1 : JFrame), (∀ target, Steps p.tables e below (T1.setTop g1) target → Steps p.tables e below (T.setTop g) target) → G T1 g1 → G T g
/-- what holds where the body returns v with Q -/
def own_rets (p : Program) (l : Launch) (e : Env) (R : Room) (s : State) (m : MethodId) (args : Array Value) (below : List Frame) (meth : Method) (c : Code) (n0 K S : Nat) (Q : Value → Heap → Prop) (G : State → JFrame → Prop) : Prop :=
  ∀ (T : State) (L : List Loc) (k n : Nat) (v : Value) (g : JFrame), Stand p l e R s m args below meth c T L k n → Fr n0 L → k ≤ K → n ≤ S → Q v T.heap →
    (∀ fs, (∀ (f : JFrame) (acts : List Action), f.method = m → f.locked = none → f.entered = [] → (doReturn e (T.setTop f) acts (some v)).1 = T.setFrames fs) → Steps p.tables e below (T.setTop g) (T.setFrames fs)) → G T g
/-- what a contract says: it returns w with Qx, all that it wrote is new -/
def own_q (Qx : Value → Heap → Prop) (n0 : Nat) (v : Option Value) (h : Heap) (L : List Loc) : Prop := ∃ w, v = some w ∧ Qx w h ∧ Fr n0 L
theorem own_end {n0 K S : Nat} {Q : Value → Heap → Prop} {T0 : State} {g0 : JFrame} {t : FieldType} (hret : meth.sig.returnType = some t) (hlocks : meth.locks = false)
    (H : ∀ G : State → JFrame → Prop, own_moves p e below G → own_rets p l e R s m args below meth c n0 K S Q G → G T0 g0) :
    ∃ s₂ o, Steps p.tables e below (T0.setTop g0) s₂ ∧ s₂.status = .running ∧ Ended s₂ below o ∧ ∃ v L, o = .returned v ∧ own_q Q n0 v s₂.heap L ∧ FrameEnd s o s₂ L K S := by
  refine H (fun T g => ∃ s₂ o, Steps p.tables e below (T.setTop g) s₂ ∧ s₂.status = .running ∧ Ended s₂ below o ∧ ∃ v L, o = .returned v ∧ own_q Q n0 v s₂.heap L ∧ FrameEnd s o s₂ L K S) ?_ ?_
  · rintro T T1 g g1 st ⟨s₂, o, h1, h2⟩
    exact ⟨s₂, o, st _ h1, h2⟩
  · intro T L k n v g X N hk hn hQ st
    obtain ⟨fs, hr, hrun, hended, hW, hsame⟩ := X.leave (v := some v) (fun q => by rw [hret] at q; cases q) hlocks
    exact ⟨_, _, st fs hr, hrun, hended, some v, L, rfl, ⟨v, rfl, hQ, N⟩, ⟨_, rfl⟩, hW, hsame.mono hk hn⟩
end OwnN
theorem own_c : (255 : Int32).toInt = 255 ∧ (128 : Int32).toInt = 128 ∧ (64 : Int32).toInt = 64 ∧ (63 : Int32).toInt = 63 ∧ (31 : Int32).toInt = 31 ∧ (15 : Int32).toInt = 15 ∧ (7 : Int32).toInt = 7 ∧ (192 : Int32).toInt = 192 ∧ (224 : Int32).toInt = 224 ∧ (240 : Int32).toInt = 240 ∧ (2048 : Int32).toInt = 2048 ∧ (65536 : Int32).toInt = 65536 ∧ (4096 : Int32).toInt = 4096 ∧ (262144 : Int32).toInt = 262144 ∧ (1114112 : Int32).toInt = 1114112 ∧ (65533 : Int32).toInt = 65533 ∧ (1 : Int32).toInt = 1 ∧ (2 : Int32).toInt = 2 ∧ (3 : Int32).toInt = 3 ∧ (4 : Int32).toInt = 4 := by decide
def own_cp (f : Nat → Int32) (A : Nat) (k : Int32) : Int32 :=
  if k.toInt = (1 : Int32).toInt then (if ((f A) &&& (255 : Int32)).toInt < (128 : Int32).toInt then ((f A) &&& (255 : Int32)) else (65533 : Int32))
  else if k.toInt = (2 : Int32).toInt then (((((f A) &&& (255 : Int32)) &&& (31 : Int32)) <<< ((6 : Int32) &&& 31)) ||| ((f (A + 1)) &&& (63 : Int32)))
  else if k.toInt = (3 : Int32).toInt then ((((((f A) &&& (255 : Int32)) &&& (15 : Int32)) <<< ((12 : Int32) &&& 31)) ||| (((f (A + 1)) &&& (63 : Int32)) <<< ((6 : Int32) &&& 31))) ||| ((f (A + 2)) &&& (63 : Int32)))
  else (((((((f A) &&& (255 : Int32)) &&& (7 : Int32)) <<< ((18 : Int32) &&& 31)) ||| (((f (A + 1)) &&& (63 : Int32)) <<< ((12 : Int32) &&& 31))) ||| (((f (A + 2)) &&& (63 : Int32)) <<< ((6 : Int32) &&& 31))) ||| ((f (A + 3)) &&& (63 : Int32)))
/-- the byte of x, read back -/
theorem own_by (x : Int32) : ((nar .byte x.toInt8.toInt32) &&& (255 : Int32)).toInt = x.toInt % 256 ∧ ((nar .byte x.toInt8.toInt32) &&& (63 : Int32)).toInt = x.toInt % 64 := by
  have a := c_i2b x
  have b := c_i2b x.toInt8.toInt32
  have m0 : ((nar .byte x.toInt8.toInt32) &&& (255 : Int32)).toInt = (nar .byte x.toInt8.toInt32).toInt % 256 := c_mask _ 255 8 (by decide) (by decide)
  have m1 : ((nar .byte x.toInt8.toInt32) &&& (63 : Int32)).toInt = (nar .byte x.toInt8.toInt32).toInt % 64 := c_mask _ 63 6 (by decide) (by decide)
  have e : (nar .byte x.toInt8.toInt32) = x.toInt8.toInt32.toInt8.toInt32 := rfl
  rw [e] at m0 m1 ⊢
  omega
theorem own_shl (x s : Int32) (k : Nat) (P : Int) (hk : s.toBitVec.toNat % 32 = k) (hP : ((2 ^ k : Nat) : Int) = P) (h0 : 0 ≤ x.toInt) (h1 : x.toInt * P < 2147483648) : (x <<< (s &&& 31)).toInt = x.toInt * P := by
  have a := c_ishl x s k hk
  rw [hP] at a
  have g := rng32 (x <<< (s &&& 31))
  have p0 : 0 ≤ x.toInt * P := Int.mul_nonneg h0 (by rw [← hP]; exact Int.natCast_nonneg _)
  omega
theorem own_or (a b : Int32) (k : Nat) (P : Int) (hk : k ≤ 31) (hP : P = ((2 ^ k : Nat) : Int)) (h0 : a.toInt % P = 0) (h1 : 0 ≤ b.toInt) (h2 : b.toInt < P) (h3 : 0 ≤ a.toInt) (h4 : a.toInt + b.toInt < 2147483648) : (a ||| b).toInt = a.toInt + b.toInt := by
  have q := c_or a b k hk P hP h0 h1 h2
  have g := rng32 (a ||| b)
  omega
theorem own_cc (i : Int32) : ∃ cc : Int32, ((i &&& (2147483647 : Int32)) - ((i &&& (2147483647 : Int32)) / (1114112 : Int32)) * (1114112 : Int32)) = cc ∧ 0 ≤ cc.toInt ∧ cc.toInt < 1114112 := by
  refine ⟨_, rfl, ?_⟩
  rw [irem_eq_mod]
  have m0 : (i &&& (2147483647 : Int32)).toInt = i.toInt % 2147483648 := c_mask i 2147483647 31 (by decide) (by decide)
  have t1 := (c_irem (i &&& (2147483647 : Int32)) 1114112 1114112 (by decide)).1 (by omega)
  omega
theorem own_at (a : Int32) : ∃ (p : Int32) (A : Nat), (a &&& (3 : Int32)) = p ∧ p.toInt = A ∧ A ≤ 3 := by
  have m0 : (a &&& (3 : Int32)).toInt = a.toInt % 4 := c_mask a 3 2 (by decide) (by decide)
  exact ⟨_, (a &&& (3 : Int32)).toInt.toNat, rfl, by omega⟩
theorem own_ix {p : Int32} {A : Nat} (h : p.toInt = A) (hA : A ≤ 3) : (p + (1 : Int32)).toInt = ((A + 1 : Nat) : Int) ∧ (p + (2 : Int32)).toInt = ((A + 2 : Nat) : Int) ∧ (p + (3 : Int32)).toInt = ((A + 3 : Nat) : Int) := by
  have a1 := c_iadd p 1
  have g1 := rng32 (p + 1)
  have a2 := c_iadd p 2
  have g2 := rng32 (p + 2)
  have a3 := c_iadd p 3
  have g3 := rng32 (p + 3)
  rw [show (1 : Int32).toInt = 1 from rfl] at a1
  rw [show (2 : Int32).toInt = 2 from rfl] at a2
  rw [show (3 : Int32).toInt = 3 from rfl] at a3
  omega
theorem own_dv (cc : Int32) (h : 0 ≤ cc.toInt) : (cc / (64 : Int32)).toInt = cc.toInt / 64 ∧ (cc / (4096 : Int32)).toInt = cc.toInt / 4096 ∧ (cc / (262144 : Int32)).toInt = cc.toInt / 262144 ∧ (cc - (cc / (64 : Int32)) * (64 : Int32)).toInt = cc.toInt % 64 := by
  refine ⟨(c_idiv cc 64 64 (by decide) (by decide)).1 h, (c_idiv cc 4096 4096 (by decide) (by decide)).1 h, (c_idiv cc 262144 262144 (by decide) (by decide)).1 h, ?_⟩
  rw [irem_eq_mod]; exact (c_irem cc 64 64 (by decide)).1 h
theorem own_add (a b : Int32) (h0 : 0 ≤ a.toInt) (h1 : 0 ≤ b.toInt) (h2 : a.toInt + b.toInt < 2147483648) : (a + b).toInt = a.toInt + b.toInt := by
  have q := c_iadd a b
  have g := rng32 (a + b)
  omega
theorem own_m (x : Int32) : (x &&& (31 : Int32)).toInt = x.toInt % 32 ∧ (x &&& (15 : Int32)).toInt = x.toInt % 16 ∧ (x &&& (7 : Int32)).toInt = x.toInt % 8 :=
  ⟨c_mask x 31 5 (by decide) (by decide), c_mask x 15 4 (by decide) (by decide), c_mask x 7 3 (by decide) (by decide)⟩
theorem own_dec1 {f : Nat → Int32} {A : Nat} {cc : Int32} (h0 : 0 ≤ cc.toInt) (h : cc.toInt < (128 : Int32).toInt) (e0 : f A = nar .byte cc.toInt8.toInt32) : (own_cp f A (1 : Int32)).toInt = cc.toInt := by
  obtain ⟨k1, k2, -⟩ := own_c
  have b0 := (own_by cc).1
  rw [← e0] at b0
  rw [own_cp, if_pos rfl, if_pos (by omega)]
  omega
theorem own_dec2 {f : Nat → Int32} {A : Nat} {cc : Int32} (h0 : ¬ cc.toInt < (128 : Int32).toInt) (h : cc.toInt < (2048 : Int32).toInt) (e0 : f A = nar .byte ((192 : Int32) + (cc / (64 : Int32))).toInt8.toInt32) (e1 : f (A + 1) = nar .byte ((128 : Int32) + (cc - (cc / (64 : Int32)) * (64 : Int32))).toInt8.toInt32) : (own_cp f A (2 : Int32)).toInt = cc.toInt := by
  obtain ⟨k1, k2, k3, k4, k5, k6, k7, k8, k9, k10, k11, -⟩ := own_c
  obtain ⟨d1, -, -, d4⟩ := own_dv cc (by omega)
  have s0 := own_add (192 : Int32) (cc / (64 : Int32)) (by omega) (by omega) (by omega)
  have s1 := own_add (128 : Int32) (cc - (cc / (64 : Int32)) * (64 : Int32)) (by omega) (by omega) (by omega)
  have b0 := (own_by ((192 : Int32) + (cc / (64 : Int32)))).1
  have b1 := (own_by ((128 : Int32) + (cc - (cc / (64 : Int32)) * (64 : Int32)))).2
  rw [← e0] at b0
  rw [← e1] at b1
  have m := (own_m ((f A) &&& (255 : Int32))).1
  rw [own_cp, if_neg (by decide), if_pos rfl]
  have l0 := own_shl (((f A) &&& (255 : Int32)) &&& (31 : Int32)) 6 6 64 (by decide) (by decide) (by omega) (by omega)
  have o0 := own_or ((((f A) &&& (255 : Int32)) &&& (31 : Int32)) <<< ((6 : Int32) &&& 31)) ((f (A + 1)) &&& (63 : Int32)) 6 64 (by decide) (by decide) (by omega) (by omega) (by omega) (by omega) (by omega)
  omega
theorem own_rm (cc y : Int32) (h : 0 ≤ y.toInt) : (y - (y / (64 : Int32)) * (64 : Int32)).toInt = y.toInt % 64 := by
  rw [irem_eq_mod]; exact (c_irem y 64 64 (by decide)).1 h
theorem own_dec3 {f : Nat → Int32} {A : Nat} {cc : Int32} (h0 : ¬ cc.toInt < (2048 : Int32).toInt) (h : cc.toInt < (65536 : Int32).toInt) (e0 : f A = nar .byte ((224 : Int32) + (cc / (4096 : Int32))).toInt8.toInt32) (e1 : f (A + 1) = nar .byte ((128 : Int32) + ((cc / (64 : Int32)) - ((cc / (64 : Int32)) / (64 : Int32)) * (64 : Int32))).toInt8.toInt32) (e2 : f (A + 2) = nar .byte ((128 : Int32) + (cc - (cc / (64 : Int32)) * (64 : Int32))).toInt8.toInt32) : (own_cp f A (3 : Int32)).toInt = cc.toInt := by
  obtain ⟨k1, k2, k3, k4, k5, k6, k7, k8, k9, k10, k11, k12, -⟩ := own_c
  obtain ⟨d1, d2, -, d4⟩ := own_dv cc (by omega)
  have d5 := own_rm cc (cc / (64 : Int32)) (by omega)
  have s0 := own_add (224 : Int32) (cc / (4096 : Int32)) (by omega) (by omega) (by omega)
  have s1 := own_add (128 : Int32) ((cc / (64 : Int32)) - ((cc / (64 : Int32)) / (64 : Int32)) * (64 : Int32)) (by omega) (by omega) (by omega)
  have s2 := own_add (128 : Int32) (cc - (cc / (64 : Int32)) * (64 : Int32)) (by omega) (by omega) (by omega)
  have b0 := (own_by ((224 : Int32) + (cc / (4096 : Int32)))).1
  have b1 := (own_by ((128 : Int32) + ((cc / (64 : Int32)) - ((cc / (64 : Int32)) / (64 : Int32)) * (64 : Int32)))).2
  have b2 := (own_by ((128 : Int32) + (cc - (cc / (64 : Int32)) * (64 : Int32)))).2
  rw [← e0] at b0
  rw [← e1] at b1
  rw [← e2] at b2
  have m := (own_m ((f A) &&& (255 : Int32))).2.1
  rw [own_cp, if_neg (by decide), if_neg (by decide), if_pos rfl]
  have l0 := own_shl (((f A) &&& (255 : Int32)) &&& (15 : Int32)) 12 12 4096 (by decide) (by decide) (by omega) (by omega)
  have l1 := own_shl ((f (A + 1)) &&& (63 : Int32)) 6 6 64 (by decide) (by decide) (by omega) (by omega)
  have o0 := own_or ((((f A) &&& (255 : Int32)) &&& (15 : Int32)) <<< ((12 : Int32) &&& 31)) (((f (A + 1)) &&& (63 : Int32)) <<< ((6 : Int32) &&& 31)) 12 4096 (by decide) (by decide) (by omega) (by omega) (by omega) (by omega) (by omega)
  have o1 := own_or (((((f A) &&& (255 : Int32)) &&& (15 : Int32)) <<< ((12 : Int32) &&& 31)) ||| (((f (A + 1)) &&& (63 : Int32)) <<< ((6 : Int32) &&& 31))) ((f (A + 2)) &&& (63 : Int32)) 6 64 (by decide) (by decide) (by omega) (by omega) (by omega) (by omega) (by omega)
  omega
theorem own_dec4 {f : Nat → Int32} {A : Nat} {cc : Int32} (h0 : ¬ cc.toInt < (65536 : Int32).toInt) (h : cc.toInt < 1114112) (e0 : f A = nar .byte ((240 : Int32) + (cc / (262144 : Int32))).toInt8.toInt32) (e1 : f (A + 1) = nar .byte ((128 : Int32) + ((cc / (4096 : Int32)) - ((cc / (4096 : Int32)) / (64 : Int32)) * (64 : Int32))).toInt8.toInt32)
    (e2 : f (A + 2) = nar .byte ((128 : Int32) + ((cc / (64 : Int32)) - ((cc / (64 : Int32)) / (64 : Int32)) * (64 : Int32))).toInt8.toInt32) (e3 : f (A + 3) = nar .byte ((128 : Int32) + (cc - (cc / (64 : Int32)) * (64 : Int32))).toInt8.toInt32) : (own_cp f A (4 : Int32)).toInt = cc.toInt := by
  obtain ⟨k1, k2, k3, k4, k5, k6, k7, k8, k9, k10, k11, k12, -⟩ := own_c
  obtain ⟨d1, d2, d3, d4⟩ := own_dv cc (by omega)
  have d5 := own_rm cc (cc / (64 : Int32)) (by omega)
  have d6 := own_rm cc (cc / (4096 : Int32)) (by omega)
  have s0 := own_add (240 : Int32) (cc / (262144 : Int32)) (by omega) (by omega) (by omega)
  have s1 := own_add (128 : Int32) ((cc / (4096 : Int32)) - ((cc / (4096 : Int32)) / (64 : Int32)) * (64 : Int32)) (by omega) (by omega) (by omega)
  have s2 := own_add (128 : Int32) ((cc / (64 : Int32)) - ((cc / (64 : Int32)) / (64 : Int32)) * (64 : Int32)) (by omega) (by omega) (by omega)
  have s3 := own_add (128 : Int32) (cc - (cc / (64 : Int32)) * (64 : Int32)) (by omega) (by omega) (by omega)
  have b0 := (own_by ((240 : Int32) + (cc / (262144 : Int32)))).1
  have b1 := (own_by ((128 : Int32) + ((cc / (4096 : Int32)) - ((cc / (4096 : Int32)) / (64 : Int32)) * (64 : Int32)))).2
  have b2 := (own_by ((128 : Int32) + ((cc / (64 : Int32)) - ((cc / (64 : Int32)) / (64 : Int32)) * (64 : Int32)))).2
  have b3 := (own_by ((128 : Int32) + (cc - (cc / (64 : Int32)) * (64 : Int32)))).2
  rw [← e0] at b0
  rw [← e1] at b1
  rw [← e2] at b2
  rw [← e3] at b3
  have m := (own_m ((f A) &&& (255 : Int32))).2.2
  rw [own_cp, if_neg (by decide), if_neg (by decide), if_neg (by decide)]
  have l0 := own_shl (((f A) &&& (255 : Int32)) &&& (7 : Int32)) 18 18 262144 (by decide) (by decide) (by omega) (by omega)
  have l1 := own_shl ((f (A + 1)) &&& (63 : Int32)) 12 12 4096 (by decide) (by decide) (by omega) (by omega)
  have l2 := own_shl ((f (A + 2)) &&& (63 : Int32)) 6 6 64 (by decide) (by decide) (by omega) (by omega)
  have o0 := own_or ((((f A) &&& (255 : Int32)) &&& (7 : Int32)) <<< ((18 : Int32) &&& 31)) (((f (A + 1)) &&& (63 : Int32)) <<< ((12 : Int32) &&& 31)) 18 262144 (by decide) (by decide) (by omega) (by omega) (by omega) (by omega) (by omega)
  have o1 := own_or (((((f A) &&& (255 : Int32)) &&& (7 : Int32)) <<< ((18 : Int32) &&& 31)) ||| (((f (A + 1)) &&& (63 : Int32)) <<< ((12 : Int32) &&& 31))) (((f (A + 2)) &&& (63 : Int32)) <<< ((6 : Int32) &&& 31)) 12 4096 (by decide) (by decide) (by omega) (by omega) (by omega) (by omega) (by omega)
  have o2 := own_or ((((((f A) &&& (255 : Int32)) &&& (7 : Int32)) <<< ((18 : Int32) &&& 31)) ||| (((f (A + 1)) &&& (63 : Int32)) <<< ((12 : Int32) &&& 31))) ||| (((f (A + 2)) &&& (63 : Int32)) <<< ((6 : Int32) &&& 31))) ((f (A + 3)) &&& (63 : Int32)) 6 64 (by decide) (by decide) (by omega) (by omega) (by omega) (by omega) (by omega)
  omega
/-- one byte alone -/
theorem own_lone {f : Nat → Int32} {i : Int32} (e : f 1 = nar .byte (i &&& (255 : Int32)).toInt8.toInt32) : ((i &&& (255 : Int32)).toInt < (128 : Int32).toInt → (own_cp f 1 (1 : Int32)).toInt = (i &&& (255 : Int32)).toInt) ∧ (¬ (i &&& (255 : Int32)).toInt < (128 : Int32).toInt → (own_cp f 1 (1 : Int32)).toInt = (65533 : Int32).toInt) := by
  have m0 : (i &&& (255 : Int32)).toInt = i.toInt % 256 := c_mask i 255 8 (by decide) (by decide)
  have b0 := (own_by (i &&& (255 : Int32))).1
  rw [← e] at b0
  refine ⟨fun h => ?_, fun h => ?_⟩
  · rw [own_cp, if_pos rfl, if_pos (by omega)]; omega
  · rw [own_cp, if_pos rfl, if_neg (by omega)]
theorem d1_0 : decode prog_142_method_20_code 0 = .ok (.aload_n 0, 1) := by decide +kernel
theorem d1_1 : decode prog_142_method_20_code 1 = .ok (.iload_n 1, 1) := by decide +kernel
theorem d1_2 : decode prog_142_method_20_code 2 = .ok (.baload, 1) := by decide +kernel
theorem d1_3 : decode prog_142_method_20_code 3 = .ok (.sipush 255, 3) := by decide +kernel
theorem d1_6 : decode prog_142_method_20_code 6 = .ok (.iand, 1) := by decide +kernel
theorem d1_7 : decode prog_142_method_20_code 7 = .ok (.istore_n 3, 1) := by decide +kernel
theorem d1_8 : decode prog_142_method_20_code 8 = .ok (.iload_n 2, 1) := by decide +kernel
theorem d1_9 : decode prog_142_method_20_code 9 = .ok (.iconst 1, 1) := by decide +kernel
theorem d1_10 : decode prog_142_method_20_code 10 = .ok (.if_icmp .ne 21, 3) := by decide +kernel
theorem d1_13 : decode prog_142_method_20_code 13 = .ok (.iload_n 3, 1) := by decide +kernel
theorem d1_14 : decode prog_142_method_20_code 14 = .ok (.sipush 128, 3) := by decide +kernel
theorem d1_17 : decode prog_142_method_20_code 17 = .ok (.if_icmp .ge 7, 3) := by decide +kernel
theorem d1_20 : decode prog_142_method_20_code 20 = .ok (.iload_n 3, 1) := by decide +kernel
theorem d1_21 : decode prog_142_method_20_code 21 = .ok (.goto 5, 3) := by decide +kernel
theorem d1_24 : decode prog_142_method_20_code 24 = .ok (.ldc 185, 2) := by decide +kernel
theorem d1_26 : decode prog_142_method_20_code 26 = .ok (.istore 4, 2) := by decide +kernel
theorem d1_28 : decode prog_142_method_20_code 28 = .ok (.goto 109, 3) := by decide +kernel
theorem d1_31 : decode prog_142_method_20_code 31 = .ok (.iload_n 2, 1) := by decide +kernel
theorem d1_32 : decode prog_142_method_20_code 32 = .ok (.iconst 2, 1) := by decide +kernel
theorem d1_33 : decode prog_142_method_20_code 33 = .ok (.if_icmp .ne 24, 3) := by decide +kernel
theorem d1_36 : decode prog_142_method_20_code 36 = .ok (.iload_n 3, 1) := by decide +kernel
theorem d1_37 : decode prog_142_method_20_code 37 = .ok (.bipush 31, 2) := by decide +kernel
theorem d1_39 : decode prog_142_method_20_code 39 = .ok (.iand, 1) := by decide +kernel
theorem d1_40 : decode prog_142_method_20_code 40 = .ok (.bipush 6, 2) := by decide +kernel
theorem d1_42 : decode prog_142_method_20_code 42 = .ok (.ishl, 1) := by decide +kernel
theorem d1_43 : decode prog_142_method_20_code 43 = .ok (.aload_n 0, 1) := by decide +kernel
theorem d1_44 : decode prog_142_method_20_code 44 = .ok (.iload_n 1, 1) := by decide +kernel
theorem d1_45 : decode prog_142_method_20_code 45 = .ok (.iconst 1, 1) := by decide +kernel
theorem d1_46 : decode prog_142_method_20_code 46 = .ok (.iadd, 1) := by decide +kernel
theorem d1_47 : decode prog_142_method_20_code 47 = .ok (.baload, 1) := by decide +kernel
theorem d1_48 : decode prog_142_method_20_code 48 = .ok (.bipush 63, 2) := by decide +kernel
theorem d1_50 : decode prog_142_method_20_code 50 = .ok (.iand, 1) := by decide +kernel
theorem d1_51 : decode prog_142_method_20_code 51 = .ok (.ior, 1) := by decide +kernel
theorem d1_52 : decode prog_142_method_20_code 52 = .ok (.istore 4, 2) := by decide +kernel
theorem d1_54 : decode prog_142_method_20_code 54 = .ok (.goto 83, 3) := by decide +kernel
theorem d1_57 : decode prog_142_method_20_code 57 = .ok (.iload_n 2, 1) := by decide +kernel
theorem d1_58 : decode prog_142_method_20_code 58 = .ok (.iconst 3, 1) := by decide +kernel
theorem d1_59 : decode prog_142_method_20_code 59 = .ok (.if_icmp .ne 36, 3) := by decide +kernel
theorem d1_62 : decode prog_142_method_20_code 62 = .ok (.iload_n 3, 1) := by decide +kernel
theorem d1_63 : decode prog_142_method_20_code 63 = .ok (.bipush 15, 2) := by decide +kernel
theorem d1_65 : decode prog_142_method_20_code 65 = .ok (.iand, 1) := by decide +kernel
theorem d1_66 : decode prog_142_method_20_code 66 = .ok (.bipush 12, 2) := by decide +kernel
theorem d1_68 : decode prog_142_method_20_code 68 = .ok (.ishl, 1) := by decide +kernel
theorem d1_69 : decode prog_142_method_20_code 69 = .ok (.aload_n 0, 1) := by decide +kernel
theorem d1_70 : decode prog_142_method_20_code 70 = .ok (.iload_n 1, 1) := by decide +kernel
theorem d1_71 : decode prog_142_method_20_code 71 = .ok (.iconst 1, 1) := by decide +kernel
theorem d1_72 : decode prog_142_method_20_code 72 = .ok (.iadd, 1) := by decide +kernel
theorem d1_73 : decode prog_142_method_20_code 73 = .ok (.baload, 1) := by decide +kernel
theorem d1_74 : decode prog_142_method_20_code 74 = .ok (.bipush 63, 2) := by decide +kernel
theorem d1_76 : decode prog_142_method_20_code 76 = .ok (.iand, 1) := by decide +kernel
theorem d1_77 : decode prog_142_method_20_code 77 = .ok (.bipush 6, 2) := by decide +kernel
theorem d1_79 : decode prog_142_method_20_code 79 = .ok (.ishl, 1) := by decide +kernel
theorem d1_80 : decode prog_142_method_20_code 80 = .ok (.ior, 1) := by decide +kernel
theorem d1_81 : decode prog_142_method_20_code 81 = .ok (.aload_n 0, 1) := by decide +kernel
theorem d1_82 : decode prog_142_method_20_code 82 = .ok (.iload_n 1, 1) := by decide +kernel
theorem d1_83 : decode prog_142_method_20_code 83 = .ok (.iconst 2, 1) := by decide +kernel
theorem d1_84 : decode prog_142_method_20_code 84 = .ok (.iadd, 1) := by decide +kernel
theorem d1_85 : decode prog_142_method_20_code 85 = .ok (.baload, 1) := by decide +kernel
theorem d1_86 : decode prog_142_method_20_code 86 = .ok (.bipush 63, 2) := by decide +kernel
theorem d1_88 : decode prog_142_method_20_code 88 = .ok (.iand, 1) := by decide +kernel
theorem d1_89 : decode prog_142_method_20_code 89 = .ok (.ior, 1) := by decide +kernel
theorem d1_90 : decode prog_142_method_20_code 90 = .ok (.istore 4, 2) := by decide +kernel
theorem d1_92 : decode prog_142_method_20_code 92 = .ok (.goto 45, 3) := by decide +kernel
theorem d1_95 : decode prog_142_method_20_code 95 = .ok (.iload_n 3, 1) := by decide +kernel
theorem d1_96 : decode prog_142_method_20_code 96 = .ok (.bipush 7, 2) := by decide +kernel
theorem d1_98 : decode prog_142_method_20_code 98 = .ok (.iand, 1) := by decide +kernel
theorem d1_99 : decode prog_142_method_20_code 99 = .ok (.bipush 18, 2) := by decide +kernel
theorem d1_101 : decode prog_142_method_20_code 101 = .ok (.ishl, 1) := by decide +kernel
theorem d1_102 : decode prog_142_method_20_code 102 = .ok (.aload_n 0, 1) := by decide +kernel
theorem d1_103 : decode prog_142_method_20_code 103 = .ok (.iload_n 1, 1) := by decide +kernel
theorem d1_104 : decode prog_142_method_20_code 104 = .ok (.iconst 1, 1) := by decide +kernel
theorem d1_105 : decode prog_142_method_20_code 105 = .ok (.iadd, 1) := by decide +kernel
theorem d1_106 : decode prog_142_method_20_code 106 = .ok (.baload, 1) := by decide +kernel
theorem d1_107 : decode prog_142_method_20_code 107 = .ok (.bipush 63, 2) := by decide +kernel
theorem d1_109 : decode prog_142_method_20_code 109 = .ok (.iand, 1) := by decide +kernel
theorem d1_110 : decode prog_142_method_20_code 110 = .ok (.bipush 12, 2) := by decide +kernel
theorem d1_112 : decode prog_142_method_20_code 112 = .ok (.ishl, 1) := by decide +kernel
theorem d1_113 : decode prog_142_method_20_code 113 = .ok (.ior, 1) := by decide +kernel
theorem d1_114 : decode prog_142_method_20_code 114 = .ok (.aload_n 0, 1) := by decide +kernel
theorem d1_115 : decode prog_142_method_20_code 115 = .ok (.iload_n 1, 1) := by decide +kernel
theorem d1_116 : decode prog_142_method_20_code 116 = .ok (.iconst 2, 1) := by decide +kernel
theorem d1_117 : decode prog_142_method_20_code 117 = .ok (.iadd, 1) := by decide +kernel
theorem d1_118 : decode prog_142_method_20_code 118 = .ok (.baload, 1) := by decide +kernel
theorem d1_119 : decode prog_142_method_20_code 119 = .ok (.bipush 63, 2) := by decide +kernel
theorem d1_121 : decode prog_142_method_20_code 121 = .ok (.iand, 1) := by decide +kernel
theorem d1_122 : decode prog_142_method_20_code 122 = .ok (.bipush 6, 2) := by decide +kernel
theorem d1_124 : decode prog_142_method_20_code 124 = .ok (.ishl, 1) := by decide +kernel
theorem d1_125 : decode prog_142_method_20_code 125 = .ok (.ior, 1) := by decide +kernel
theorem d1_126 : decode prog_142_method_20_code 126 = .ok (.aload_n 0, 1) := by decide +kernel
theorem d1_127 : decode prog_142_method_20_code 127 = .ok (.iload_n 1, 1) := by decide +kernel
theorem d1_128 : decode prog_142_method_20_code 128 = .ok (.iconst 3, 1) := by decide +kernel
theorem d1_129 : decode prog_142_method_20_code 129 = .ok (.iadd, 1) := by decide +kernel
theorem d1_130 : decode prog_142_method_20_code 130 = .ok (.baload, 1) := by decide +kernel
theorem d1_131 : decode prog_142_method_20_code 131 = .ok (.bipush 63, 2) := by decide +kernel
theorem d1_133 : decode prog_142_method_20_code 133 = .ok (.iand, 1) := by decide +kernel
theorem d1_134 : decode prog_142_method_20_code 134 = .ok (.ior, 1) := by decide +kernel
theorem d1_135 : decode prog_142_method_20_code 135 = .ok (.istore 4, 2) := by decide +kernel
theorem d1_137 : decode prog_142_method_20_code 137 = .ok (.iload 4, 2) := by decide +kernel
theorem d1_139 : decode prog_142_method_20_code 139 = .ok (.ireturn, 1) := by decide +kernel
theorem pn_rm1 : plainName "com/example/querytrail/querytrail/Utf8" = true := by first | (simp [plainName, overriddenIn]; done) | decide +kernel
theorem ef_rm1 (m : MethodId) (x0 : Addr) (x1 : Int32) (x2 : Int32) : entryFrame m #[(.ref x0), (.int x1), (.int x2)] 5 = mkF m 0 #[.val (.ref x0), .val (.int x1), .val (.int x2), .unset, .unset] [] := by first | (simp [entryFrame, mkF, argsToLocals, Value.category]; done) | rfl
theorem pd_1 : parseMethodDescriptor "([BII)I" = some ⟨[(.array .byte), .int, .int], some .int⟩ := by decide +kernel
set_option maxRecDepth 65536 in
set_option maxHeartbeats 40000000 in
theorem rm1 (l : Launch) (Z : State) (a0 : Array Value) (hw : ∀ d ∈ tables_1, d.before a0 Z = true) (ws : List Jvm.Cond) (a1 : Addr) (p2 p3 : Int32) (A n : Nat) (f : Nat → Int32) (h0 : Heap) (n0 : Nat) (Z0 : n0 ≤ h0.size) (V : own_arr Z h0 a1 n f) (hA : A ≤ 3) (hp : p2.toInt = A) (hn1 : A < n) (hn2 : ¬ p3.toInt = (1 : Int32).toInt → A + 1 < n) (hn3 : ¬ p3.toInt = (1 : Int32).toInt → ¬ p3.toInt = (2 : Int32).toInt → A + 2 < n) (hn4 : ¬ p3.toInt = (1 : Int32).toInt → ¬ p3.toInt = (2 : Int32).toInt → ¬ p3.toInt = (3 : Int32).toInt → A + 3 < n) :
    MetFree l (⟨"com/example/querytrail/querytrail/Utf8", "codePoint", "([BII)I"⟩ : MethodName) (head1 (Jvm.Cond.code (⟨"com/example/querytrail/querytrail/Utf8", "codePoint", "([BII)I"⟩ : MethodName) prog_142_method_20_code 5 (some .int) :: ws) ({ frames := 0, cells := 0, slots := 0, locals := 0 } : Room)) (fun a U => a = #[(.ref a1), (.int p2), (.int p3)] ∧ Z.Warmed39 U.vm ∧ U.heap = h0) (fun _ _ _ _ _ => True) (fun _ U o U' => ∃ v L, o = .returned v ∧ own_q (fun w h => w = .int (own_cp f A p3) ∧ h = h0) n0 v U'.heap L ∧ FrameEnd U o U' L ({ frames := 0, cells := 0, slots := 0, locals := 0 } : Room).cells ({ frames := 0, cells := 0, slots := 0, locals := 0 } : Room).slots) := by
  refine MetFree.of_bodySF (plainFor_of_name pn_rm1) hisR ?_
  intro p e s m args below meth c s₁ Bd hml0 hP hK
  obtain ⟨rfl, hZ, hh⟩ := hP
  have hx := Bd.exec
  have hby := Bd.bytes
  have hml : c.maxLocals = 5 := hml0
  have hown : s.vm.findClass "com/example/querytrail/querytrail/Utf8" = some m.cls := findClass_of_methodNamed Bd.named
  have hret : meth.sig.returnType = some .int := Bd.returns
  have X0 : Stand p l e ({ frames := 0, cells := 0, slots := 0, locals := 0 } : Room) s m #[(.ref a1), (.int p2), (.int p3)] below meth c s₁ [] 0 0 := Stand.of_body Bd
  have e0 : s₁.heap = h0 := by rw [← hh, Bd.state]; rfl
  have N0 := Fr.nil n0
  rw [ef_rm1 m a1 p2 p3]
  refine own_end (p := p) (l := l) (e := e) (R := ({ frames := 0, cells := 0, slots := 0, locals := 0 } : Room)) (s := s) (m := m) (args := #[(.ref a1), (.int p2), (.int p3)]) (below := below) (meth := meth) (c := c) (n0 := n0) (K := ({ frames := 0, cells := 0, slots := 0, locals := 0 } : Room).cells) (S := ({ frames := 0, cells := 0, slots := 0, locals := 0 } : Room).slots) (Q := (fun w h => w = .int (own_cp f A p3) ∧ h = h0)) hret Bd.notSynchronized (fun G hG hR => ?_)
  refine hG _ _ _ (mkF m 1 #[.val (.ref a1), .val (.int p2), .val (.int p3), .unset, .unset] [(.ref a1)]) (fun t k => XS.aloadN X0.here hx rfl (hb hby d1_0) rfl rfl k) ?_
  refine hG _ _ _ (mkF m 2 #[.val (.ref a1), .val (.int p2), .val (.int p3), .unset, .unset] [(.int p2), (.ref a1)]) (fun t k => XS.iloadN X0.here hx rfl (hb hby d1_1) rfl k) ?_
  refine hG _ _ _ (mkF m 3 #[.val (.ref a1), .val (.int p2), .val (.int p3), .unset, .unset] [(.int (f A))]) (fun t k => own_ld X0 hx hZ e0 V (j := p2) (i := A) hp hn1 (hb hby d1_2) k) ?_
  refine hG _ _ _ (mkF m 6 #[.val (.ref a1), .val (.int p2), .val (.int p3), .unset, .unset] [(.int (255 : Int32)), (.int (f A))]) (fun t k => XS.sipush X0.here hx rfl (hb hby d1_3) k) ?_
  refine hG _ _ _ (mkF m 7 #[.val (.ref a1), .val (.int p2), .val (.int p3), .unset, .unset] [(.int ((f A) &&& (255 : Int32)))]) (fun t k => XS.iand X0.here hx rfl (hb hby d1_6) rfl k) ?_
  refine hG _ _ _ (mkF m 8 #[.val (.ref a1), .val (.int p2), .val (.int p3), .val (.int ((f A) &&& (255 : Int32))), .unset] []) (fun t k => XS.istoreN X0.here hx rfl (hb hby d1_7) rfl (l' := #[.val (.ref a1), .val (.int p2), .val (.int p3), .val (.int ((f A) &&& (255 : Int32))), .unset]) rfl k) ?_
  refine hG _ _ _ (mkF m 9 #[.val (.ref a1), .val (.int p2), .val (.int p3), .val (.int ((f A) &&& (255 : Int32))), .unset] [(.int p3)]) (fun t k => XS.iloadN X0.here hx rfl (hb hby d1_8) rfl k) ?_
  refine hG _ _ _ (mkF m 10 #[.val (.ref a1), .val (.int p2), .val (.int p3), .val (.int ((f A) &&& (255 : Int32))), .unset] [(.int (1 : Int32)), (.int p3)]) (fun t k => XS.iconst X0.here hx rfl (hb hby d1_9) k) ?_
  by_cases c1 : p3.toInt = (1 : Int32).toInt
  · refine hG _ _ _ (mkF m 13 #[.val (.ref a1), .val (.int p2), .val (.int p3), .val (.int ((f A) &&& (255 : Int32))), .unset] []) (fun t k => XS.icmpNo X0.here hx rfl (hb hby d1_10) rfl (own_teq c1).2 k) ?_
    refine hG _ _ _ (mkF m 14 #[.val (.ref a1), .val (.int p2), .val (.int p3), .val (.int ((f A) &&& (255 : Int32))), .unset] [(.int ((f A) &&& (255 : Int32)))]) (fun t k => XS.iloadN X0.here hx rfl (hb hby d1_13) rfl k) ?_
    refine hG _ _ _ (mkF m 17 #[.val (.ref a1), .val (.int p2), .val (.int p3), .val (.int ((f A) &&& (255 : Int32))), .unset] [(.int (128 : Int32)), (.int ((f A) &&& (255 : Int32)))]) (fun t k => XS.sipush X0.here hx rfl (hb hby d1_14) k) ?_
    by_cases c2 : ((f A) &&& (255 : Int32)).toInt < (128 : Int32).toInt
    · refine hG _ _ _ (mkF m 20 #[.val (.ref a1), .val (.int p2), .val (.int p3), .val (.int ((f A) &&& (255 : Int32))), .unset] []) (fun t k => XS.icmpNo X0.here hx rfl (hb hby d1_17) rfl (own_tlt c2).2.1 k) ?_
      refine hG _ _ _ (mkF m 21 #[.val (.ref a1), .val (.int p2), .val (.int p3), .val (.int ((f A) &&& (255 : Int32))), .unset] [(.int ((f A) &&& (255 : Int32)))]) (fun t k => XS.iloadN X0.here hx rfl (hb hby d1_20) rfl k) ?_
      refine hG _ _ _ (mkF m 26 #[.val (.ref a1), .val (.int p2), .val (.int p3), .val (.int ((f A) &&& (255 : Int32))), .unset] [(.int ((f A) &&& (255 : Int32)))]) (fun t k => XS.goto X0.here hx rfl (pc0 := 21) (pc' := 26) rfl (hb hby d1_21) (by decide) (by decide) k) ?_
      refine hG _ _ _ (mkF m 28 #[.val (.ref a1), .val (.int p2), .val (.int p3), .val (.int ((f A) &&& (255 : Int32))), .val (.int ((f A) &&& (255 : Int32)))] []) (fun t k => XS.istore X0.here hx rfl (hb hby d1_26) rfl (l' := #[.val (.ref a1), .val (.int p2), .val (.int p3), .val (.int ((f A) &&& (255 : Int32))), .val (.int ((f A) &&& (255 : Int32)))]) rfl k) ?_
      refine hG _ _ _ (mkF m 137 #[.val (.ref a1), .val (.int p2), .val (.int p3), .val (.int ((f A) &&& (255 : Int32))), .val (.int ((f A) &&& (255 : Int32)))] []) (fun t k => XS.goto X0.here hx rfl (pc0 := 28) (pc' := 137) rfl (hb hby d1_28) (by decide) (by decide) k) ?_
      refine hG _ _ _ (mkF m 139 #[.val (.ref a1), .val (.int p2), .val (.int p3), .val (.int ((f A) &&& (255 : Int32))), .val (.int ((f A) &&& (255 : Int32)))] [(.int ((f A) &&& (255 : Int32)))]) (fun t k => XS.iload X0.here hx rfl (hb hby d1_137) rfl k) ?_
      exact hR _ _ _ _ _ _ X0 N0 (by decide) (by decide) ⟨congrArg Value.int (by rw [own_cp, if_pos c1, if_pos c2]), e0⟩ (fun fs hr => retI X0 hx hret (hb hby d1_139) hr)
    · refine hG _ _ _ (mkF m 24 #[.val (.ref a1), .val (.int p2), .val (.int p3), .val (.int ((f A) &&& (255 : Int32))), .unset] []) (fun t k => XS.icmpYes X0.here hx rfl (pc0 := 17) (pc' := 24) rfl (hb hby d1_17) rfl (own_flt c2).2.1 (by decide) (by decide) k) ?_
      refine hG _ _ _ (mkF m 26 #[.val (.ref a1), .val (.int p2), .val (.int p3), .val (.int ((f A) &&& (255 : Int32))), .unset] [(.int (65533 : Int32))]) (fun t k => X0.ldcInt hx (own := "com/example/querytrail/querytrail/Utf8") (v := (65533 : Int32)) hown (mvT hZ (hw _ (List.mem_of_getElem? (i := 10) rfl))) (g := (mkF m 24 #[.val (.ref a1), .val (.int p2), .val (.int p3), .val (.int ((f A) &&& (255 : Int32))), .unset] [])) rfl (hb hby d1_24) t k) ?_
      refine hG _ _ _ (mkF m 28 #[.val (.ref a1), .val (.int p2), .val (.int p3), .val (.int ((f A) &&& (255 : Int32))), .val (.int (65533 : Int32))] []) (fun t k => XS.istore X0.here hx rfl (hb hby d1_26) rfl (l' := #[.val (.ref a1), .val (.int p2), .val (.int p3), .val (.int ((f A) &&& (255 : Int32))), .val (.int (65533 : Int32))]) rfl k) ?_
      refine hG _ _ _ (mkF m 137 #[.val (.ref a1), .val (.int p2), .val (.int p3), .val (.int ((f A) &&& (255 : Int32))), .val (.int (65533 : Int32))] []) (fun t k => XS.goto X0.here hx rfl (pc0 := 28) (pc' := 137) rfl (hb hby d1_28) (by decide) (by decide) k) ?_
      refine hG _ _ _ (mkF m 139 #[.val (.ref a1), .val (.int p2), .val (.int p3), .val (.int ((f A) &&& (255 : Int32))), .val (.int (65533 : Int32))] [(.int (65533 : Int32))]) (fun t k => XS.iload X0.here hx rfl (hb hby d1_137) rfl k) ?_
      exact hR _ _ _ _ _ _ X0 N0 (by decide) (by decide) ⟨congrArg Value.int (by rw [own_cp, if_pos c1, if_neg c2]), e0⟩ (fun fs hr => retI X0 hx hret (hb hby d1_139) hr)
  · refine hG _ _ _ (mkF m 31 #[.val (.ref a1), .val (.int p2), .val (.int p3), .val (.int ((f A) &&& (255 : Int32))), .unset] []) (fun t k => XS.icmpYes X0.here hx rfl (pc0 := 10) (pc' := 31) rfl (hb hby d1_10) rfl (own_feq c1).2 (by decide) (by decide) k) ?_
    refine hG _ _ _ (mkF m 32 #[.val (.ref a1), .val (.int p2), .val (.int p3), .val (.int ((f A) &&& (255 : Int32))), .unset] [(.int p3)]) (fun t k => XS.iloadN X0.here hx rfl (hb hby d1_31) rfl k) ?_
    refine hG _ _ _ (mkF m 33 #[.val (.ref a1), .val (.int p2), .val (.int p3), .val (.int ((f A) &&& (255 : Int32))), .unset] [(.int (2 : Int32)), (.int p3)]) (fun t k => XS.iconst X0.here hx rfl (hb hby d1_32) k) ?_
    by_cases c3 : p3.toInt = (2 : Int32).toInt
    · refine hG _ _ _ (mkF m 36 #[.val (.ref a1), .val (.int p2), .val (.int p3), .val (.int ((f A) &&& (255 : Int32))), .unset] []) (fun t k => XS.icmpNo X0.here hx rfl (hb hby d1_33) rfl (own_teq c3).2 k) ?_
      refine hG _ _ _ (mkF m 37 #[.val (.ref a1), .val (.int p2), .val (.int p3), .val (.int ((f A) &&& (255 : Int32))), .unset] [(.int ((f A) &&& (255 : Int32)))]) (fun t k => XS.iloadN X0.here hx rfl (hb hby d1_36) rfl k) ?_
      refine hG _ _ _ (mkF m 39 #[.val (.ref a1), .val (.int p2), .val (.int p3), .val (.int ((f A) &&& (255 : Int32))), .unset] [(.int (31 : Int32)), (.int ((f A) &&& (255 : Int32)))]) (fun t k => XS.bipush X0.here hx rfl (hb hby d1_37) k) ?_
      refine hG _ _ _ (mkF m 40 #[.val (.ref a1), .val (.int p2), .val (.int p3), .val (.int ((f A) &&& (255 : Int32))), .unset] [(.int (((f A) &&& (255 : Int32)) &&& (31 : Int32)))]) (fun t k => XS.iand X0.here hx rfl (hb hby d1_39) rfl k) ?_
      refine hG _ _ _ (mkF m 42 #[.val (.ref a1), .val (.int p2), .val (.int p3), .val (.int ((f A) &&& (255 : Int32))), .unset] [(.int (6 : Int32)), (.int (((f A) &&& (255 : Int32)) &&& (31 : Int32)))]) (fun t k => XS.bipush X0.here hx rfl (hb hby d1_40) k) ?_
      refine hG _ _ _ (mkF m 43 #[.val (.ref a1), .val (.int p2), .val (.int p3), .val (.int ((f A) &&& (255 : Int32))), .unset] [(.int ((((f A) &&& (255 : Int32)) &&& (31 : Int32)) <<< ((6 : Int32) &&& 31)))]) (fun t k => XS.ishl X0.here hx rfl (hb hby d1_42) rfl k) ?_
      refine hG _ _ _ (mkF m 44 #[.val (.ref a1), .val (.int p2), .val (.int p3), .val (.int ((f A) &&& (255 : Int32))), .unset] [(.ref a1), (.int ((((f A) &&& (255 : Int32)) &&& (31 : Int32)) <<< ((6 : Int32) &&& 31)))]) (fun t k => XS.aloadN X0.here hx rfl (hb hby d1_43) rfl rfl k) ?_
      refine hG _ _ _ (mkF m 45 #[.val (.ref a1), .val (.int p2), .val (.int p3), .val (.int ((f A) &&& (255 : Int32))), .unset] [(.int p2), (.ref a1), (.int ((((f A) &&& (255 : Int32)) &&& (31 : Int32)) <<< ((6 : Int32) &&& 31)))]) (fun t k => XS.iloadN X0.here hx rfl (hb hby d1_44) rfl k) ?_
      refine hG _ _ _ (mkF m 46 #[.val (.ref a1), .val (.int p2), .val (.int p3), .val (.int ((f A) &&& (255 : Int32))), .unset] [(.int (1 : Int32)), (.int p2), (.ref a1), (.int ((((f A) &&& (255 : Int32)) &&& (31 : Int32)) <<< ((6 : Int32) &&& 31)))]) (fun t k => XS.iconst X0.here hx rfl (hb hby d1_45) k) ?_
      refine hG _ _ _ (mkF m 47 #[.val (.ref a1), .val (.int p2), .val (.int p3), .val (.int ((f A) &&& (255 : Int32))), .unset] [(.int (p2 + (1 : Int32))), (.ref a1), (.int ((((f A) &&& (255 : Int32)) &&& (31 : Int32)) <<< ((6 : Int32) &&& 31)))]) (fun t k => XS.iadd X0.here hx rfl (hb hby d1_46) rfl k) ?_
      refine hG _ _ _ (mkF m 48 #[.val (.ref a1), .val (.int p2), .val (.int p3), .val (.int ((f A) &&& (255 : Int32))), .unset] [(.int (f (A + 1))), (.int ((((f A) &&& (255 : Int32)) &&& (31 : Int32)) <<< ((6 : Int32) &&& 31)))]) (fun t k => own_ld X0 hx hZ e0 V (j := (p2 + (1 : Int32))) (i := (A + 1)) (own_ix hp hA).1 (hn2 c1) (hb hby d1_47) k) ?_
      refine hG _ _ _ (mkF m 50 #[.val (.ref a1), .val (.int p2), .val (.int p3), .val (.int ((f A) &&& (255 : Int32))), .unset] [(.int (63 : Int32)), (.int (f (A + 1))), (.int ((((f A) &&& (255 : Int32)) &&& (31 : Int32)) <<< ((6 : Int32) &&& 31)))]) (fun t k => XS.bipush X0.here hx rfl (hb hby d1_48) k) ?_
      refine hG _ _ _ (mkF m 51 #[.val (.ref a1), .val (.int p2), .val (.int p3), .val (.int ((f A) &&& (255 : Int32))), .unset] [(.int ((f (A + 1)) &&& (63 : Int32))), (.int ((((f A) &&& (255 : Int32)) &&& (31 : Int32)) <<< ((6 : Int32) &&& 31)))]) (fun t k => XS.iand X0.here hx rfl (hb hby d1_50) rfl k) ?_
      refine hG _ _ _ (mkF m 52 #[.val (.ref a1), .val (.int p2), .val (.int p3), .val (.int ((f A) &&& (255 : Int32))), .unset] [(.int (((((f A) &&& (255 : Int32)) &&& (31 : Int32)) <<< ((6 : Int32) &&& 31)) ||| ((f (A + 1)) &&& (63 : Int32))))]) (fun t k => XS.ior X0.here hx rfl (hb hby d1_51) rfl k) ?_
      refine hG _ _ _ (mkF m 54 #[.val (.ref a1), .val (.int p2), .val (.int p3), .val (.int ((f A) &&& (255 : Int32))), .val (.int (((((f A) &&& (255 : Int32)) &&& (31 : Int32)) <<< ((6 : Int32) &&& 31)) ||| ((f (A + 1)) &&& (63 : Int32))))] []) (fun t k => XS.istore X0.here hx rfl (hb hby d1_52) rfl (l' := #[.val (.ref a1), .val (.int p2), .val (.int p3), .val (.int ((f A) &&& (255 : Int32))), .val (.int (((((f A) &&& (255 : Int32)) &&& (31 : Int32)) <<< ((6 : Int32) &&& 31)) ||| ((f (A + 1)) &&& (63 : Int32))))]) rfl k) ?_
      refine hG _ _ _ (mkF m 137 #[.val (.ref a1), .val (.int p2), .val (.int p3), .val (.int ((f A) &&& (255 : Int32))), .val (.int (((((f A) &&& (255 : Int32)) &&& (31 : Int32)) <<< ((6 : Int32) &&& 31)) ||| ((f (A + 1)) &&& (63 : Int32))))] []) (fun t k => XS.goto X0.here hx rfl (pc0 := 54) (pc' := 137) rfl (hb hby d1_54) (by decide) (by decide) k) ?_
      refine hG _ _ _ (mkF m 139 #[.val (.ref a1), .val (.int p2), .val (.int p3), .val (.int ((f A) &&& (255 : Int32))), .val (.int (((((f A) &&& (255 : Int32)) &&& (31 : Int32)) <<< ((6 : Int32) &&& 31)) ||| ((f (A + 1)) &&& (63 : Int32))))] [(.int (((((f A) &&& (255 : Int32)) &&& (31 : Int32)) <<< ((6 : Int32) &&& 31)) ||| ((f (A + 1)) &&& (63 : Int32))))]) (fun t k => XS.iload X0.here hx rfl (hb hby d1_137) rfl k) ?_
      exact hR _ _ _ _ _ _ X0 N0 (by decide) (by decide) ⟨congrArg Value.int (by rw [own_cp, if_neg c1, if_pos c3]), e0⟩ (fun fs hr => retI X0 hx hret (hb hby d1_139) hr)
    · refine hG _ _ _ (mkF m 57 #[.val (.ref a1), .val (.int p2), .val (.int p3), .val (.int ((f A) &&& (255 : Int32))), .unset] []) (fun t k => XS.icmpYes X0.here hx rfl (pc0 := 33) (pc' := 57) rfl (hb hby d1_33) rfl (own_feq c3).2 (by decide) (by decide) k) ?_
      refine hG _ _ _ (mkF m 58 #[.val (.ref a1), .val (.int p2), .val (.int p3), .val (.int ((f A) &&& (255 : Int32))), .unset] [(.int p3)]) (fun t k => XS.iloadN X0.here hx rfl (hb hby d1_57) rfl k) ?_
      refine hG _ _ _ (mkF m 59 #[.val (.ref a1), .val (.int p2), .val (.int p3), .val (.int ((f A) &&& (255 : Int32))), .unset] [(.int (3 : Int32)), (.int p3)]) (fun t k => XS.iconst X0.here hx rfl (hb hby d1_58) k) ?_
      by_cases c4 : p3.toInt = (3 : Int32).toInt
      · refine hG _ _ _ (mkF m 62 #[.val (.ref a1), .val (.int p2), .val (.int p3), .val (.int ((f A) &&& (255 : Int32))), .unset] []) (fun t k => XS.icmpNo X0.here hx rfl (hb hby d1_59) rfl (own_teq c4).2 k) ?_
        refine hG _ _ _ (mkF m 63 #[.val (.ref a1), .val (.int p2), .val (.int p3), .val (.int ((f A) &&& (255 : Int32))), .unset] [(.int ((f A) &&& (255 : Int32)))]) (fun t k => XS.iloadN X0.here hx rfl (hb hby d1_62) rfl k) ?_
        refine hG _ _ _ (mkF m 65 #[.val (.ref a1), .val (.int p2), .val (.int p3), .val (.int ((f A) &&& (255 : Int32))), .unset] [(.int (15 : Int32)), (.int ((f A) &&& (255 : Int32)))]) (fun t k => XS.bipush X0.here hx rfl (hb hby d1_63) k) ?_
        refine hG _ _ _ (mkF m 66 #[.val (.ref a1), .val (.int p2), .val (.int p3), .val (.int ((f A) &&& (255 : Int32))), .unset] [(.int (((f A) &&& (255 : Int32)) &&& (15 : Int32)))]) (fun t k => XS.iand X0.here hx rfl (hb hby d1_65) rfl k) ?_
        refine hG _ _ _ (mkF m 68 #[.val (.ref a1), .val (.int p2), .val (.int p3), .val (.int ((f A) &&& (255 : Int32))), .unset] [(.int (12 : Int32)), (.int (((f A) &&& (255 : Int32)) &&& (15 : Int32)))]) (fun t k => XS.bipush X0.here hx rfl (hb hby d1_66) k) ?_
        refine hG _ _ _ (mkF m 69 #[.val (.ref a1), .val (.int p2), .val (.int p3), .val (.int ((f A) &&& (255 : Int32))), .unset] [(.int ((((f A) &&& (255 : Int32)) &&& (15 : Int32)) <<< ((12 : Int32) &&& 31)))]) (fun t k => XS.ishl X0.here hx rfl (hb hby d1_68) rfl k) ?_
        refine hG _ _ _ (mkF m 70 #[.val (.ref a1), .val (.int p2), .val (.int p3), .val (.int ((f A) &&& (255 : Int32))), .unset] [(.ref a1), (.int ((((f A) &&& (255 : Int32)) &&& (15 : Int32)) <<< ((12 : Int32) &&& 31)))]) (fun t k => XS.aloadN X0.here hx rfl (hb hby d1_69) rfl rfl k) ?_
        refine hG _ _ _ (mkF m 71 #[.val (.ref a1), .val (.int p2), .val (.int p3), .val (.int ((f A) &&& (255 : Int32))), .unset] [(.int p2), (.ref a1), (.int ((((f A) &&& (255 : Int32)) &&& (15 : Int32)) <<< ((12 : Int32) &&& 31)))]) (fun t k => XS.iloadN X0.here hx rfl (hb hby d1_70) rfl k) ?_
        refine hG _ _ _ (mkF m 72 #[.val (.ref a1), .val (.int p2), .val (.int p3), .val (.int ((f A) &&& (255 : Int32))), .unset] [(.int (1 : Int32)), (.int p2), (.ref a1), (.int ((((f A) &&& (255 : Int32)) &&& (15 : Int32)) <<< ((12 : Int32) &&& 31)))]) (fun t k => XS.iconst X0.here hx rfl (hb hby d1_71) k) ?_
        refine hG _ _ _ (mkF m 73 #[.val (.ref a1), .val (.int p2), .val (.int p3), .val (.int ((f A) &&& (255 : Int32))), .unset] [(.int (p2 + (1 : Int32))), (.ref a1), (.int ((((f A) &&& (255 : Int32)) &&& (15 : Int32)) <<< ((12 : Int32) &&& 31)))]) (fun t k => XS.iadd X0.here hx rfl (hb hby d1_72) rfl k) ?_
        refine hG _ _ _ (mkF m 74 #[.val (.ref a1), .val (.int p2), .val (.int p3), .val (.int ((f A) &&& (255 : Int32))), .unset] [(.int (f (A + 1))), (.int ((((f A) &&& (255 : Int32)) &&& (15 : Int32)) <<< ((12 : Int32) &&& 31)))]) (fun t k => own_ld X0 hx hZ e0 V (j := (p2 + (1 : Int32))) (i := (A + 1)) (own_ix hp hA).1 (hn2 c1) (hb hby d1_73) k) ?_
        refine hG _ _ _ (mkF m 76 #[.val (.ref a1), .val (.int p2), .val (.int p3), .val (.int ((f A) &&& (255 : Int32))), .unset] [(.int (63 : Int32)), (.int (f (A + 1))), (.int ((((f A) &&& (255 : Int32)) &&& (15 : Int32)) <<< ((12 : Int32) &&& 31)))]) (fun t k => XS.bipush X0.here hx rfl (hb hby d1_74) k) ?_
        refine hG _ _ _ (mkF m 77 #[.val (.ref a1), .val (.int p2), .val (.int p3), .val (.int ((f A) &&& (255 : Int32))), .unset] [(.int ((f (A + 1)) &&& (63 : Int32))), (.int ((((f A) &&& (255 : Int32)) &&& (15 : Int32)) <<< ((12 : Int32) &&& 31)))]) (fun t k => XS.iand X0.here hx rfl (hb hby d1_76) rfl k) ?_
        refine hG _ _ _ (mkF m 79 #[.val (.ref a1), .val (.int p2), .val (.int p3), .val (.int ((f A) &&& (255 : Int32))), .unset] [(.int (6 : Int32)), (.int ((f (A + 1)) &&& (63 : Int32))), (.int ((((f A) &&& (255 : Int32)) &&& (15 : Int32)) <<< ((12 : Int32) &&& 31)))]) (fun t k => XS.bipush X0.here hx rfl (hb hby d1_77) k) ?_
        refine hG _ _ _ (mkF m 80 #[.val (.ref a1), .val (.int p2), .val (.int p3), .val (.int ((f A) &&& (255 : Int32))), .unset] [(.int (((f (A + 1)) &&& (63 : Int32)) <<< ((6 : Int32) &&& 31))), (.int ((((f A) &&& (255 : Int32)) &&& (15 : Int32)) <<< ((12 : Int32) &&& 31)))]) (fun t k => XS.ishl X0.here hx rfl (hb hby d1_79) rfl k) ?_
        refine hG _ _ _ (mkF m 81 #[.val (.ref a1), .val (.int p2), .val (.int p3), .val (.int ((f A) &&& (255 : Int32))), .unset] [(.int (((((f A) &&& (255 : Int32)) &&& (15 : Int32)) <<< ((12 : Int32) &&& 31)) ||| (((f (A + 1)) &&& (63 : Int32)) <<< ((6 : Int32) &&& 31))))]) (fun t k => XS.ior X0.here hx rfl (hb hby d1_80) rfl k) ?_
        refine hG _ _ _ (mkF m 82 #[.val (.ref a1), .val (.int p2), .val (.int p3), .val (.int ((f A) &&& (255 : Int32))), .unset] [(.ref a1), (.int (((((f A) &&& (255 : Int32)) &&& (15 : Int32)) <<< ((12 : Int32) &&& 31)) ||| (((f (A + 1)) &&& (63 : Int32)) <<< ((6 : Int32) &&& 31))))]) (fun t k => XS.aloadN X0.here hx rfl (hb hby d1_81) rfl rfl k) ?_
        refine hG _ _ _ (mkF m 83 #[.val (.ref a1), .val (.int p2), .val (.int p3), .val (.int ((f A) &&& (255 : Int32))), .unset] [(.int p2), (.ref a1), (.int (((((f A) &&& (255 : Int32)) &&& (15 : Int32)) <<< ((12 : Int32) &&& 31)) ||| (((f (A + 1)) &&& (63 : Int32)) <<< ((6 : Int32) &&& 31))))]) (fun t k => XS.iloadN X0.here hx rfl (hb hby d1_82) rfl k) ?_
        refine hG _ _ _ (mkF m 84 #[.val (.ref a1), .val (.int p2), .val (.int p3), .val (.int ((f A) &&& (255 : Int32))), .unset] [(.int (2 : Int32)), (.int p2), (.ref a1), (.int (((((f A) &&& (255 : Int32)) &&& (15 : Int32)) <<< ((12 : Int32) &&& 31)) ||| (((f (A + 1)) &&& (63 : Int32)) <<< ((6 : Int32) &&& 31))))]) (fun t k => XS.iconst X0.here hx rfl (hb hby d1_83) k) ?_
        refine hG _ _ _ (mkF m 85 #[.val (.ref a1), .val (.int p2), .val (.int p3), .val (.int ((f A) &&& (255 : Int32))), .unset] [(.int (p2 + (2 : Int32))), (.ref a1), (.int (((((f A) &&& (255 : Int32)) &&& (15 : Int32)) <<< ((12 : Int32) &&& 31)) ||| (((f (A + 1)) &&& (63 : Int32)) <<< ((6 : Int32) &&& 31))))]) (fun t k => XS.iadd X0.here hx rfl (hb hby d1_84) rfl k) ?_
        refine hG _ _ _ (mkF m 86 #[.val (.ref a1), .val (.int p2), .val (.int p3), .val (.int ((f A) &&& (255 : Int32))), .unset] [(.int (f (A + 2))), (.int (((((f A) &&& (255 : Int32)) &&& (15 : Int32)) <<< ((12 : Int32) &&& 31)) ||| (((f (A + 1)) &&& (63 : Int32)) <<< ((6 : Int32) &&& 31))))]) (fun t k => own_ld X0 hx hZ e0 V (j := (p2 + (2 : Int32))) (i := (A + 2)) (own_ix hp hA).2.1 (hn3 c1 c3) (hb hby d1_85) k) ?_
        refine hG _ _ _ (mkF m 88 #[.val (.ref a1), .val (.int p2), .val (.int p3), .val (.int ((f A) &&& (255 : Int32))), .unset] [(.int (63 : Int32)), (.int (f (A + 2))), (.int (((((f A) &&& (255 : Int32)) &&& (15 : Int32)) <<< ((12 : Int32) &&& 31)) ||| (((f (A + 1)) &&& (63 : Int32)) <<< ((6 : Int32) &&& 31))))]) (fun t k => XS.bipush X0.here hx rfl (hb hby d1_86) k) ?_
        refine hG _ _ _ (mkF m 89 #[.val (.ref a1), .val (.int p2), .val (.int p3), .val (.int ((f A) &&& (255 : Int32))), .unset] [(.int ((f (A + 2)) &&& (63 : Int32))), (.int (((((f A) &&& (255 : Int32)) &&& (15 : Int32)) <<< ((12 : Int32) &&& 31)) ||| (((f (A + 1)) &&& (63 : Int32)) <<< ((6 : Int32) &&& 31))))]) (fun t k => XS.iand X0.here hx rfl (hb hby d1_88) rfl k) ?_
        refine hG _ _ _ (mkF m 90 #[.val (.ref a1), .val (.int p2), .val (.int p3), .val (.int ((f A) &&& (255 : Int32))), .unset] [(.int ((((((f A) &&& (255 : Int32)) &&& (15 : Int32)) <<< ((12 : Int32) &&& 31)) ||| (((f (A + 1)) &&& (63 : Int32)) <<< ((6 : Int32) &&& 31))) ||| ((f (A + 2)) &&& (63 : Int32))))]) (fun t k => XS.ior X0.here hx rfl (hb hby d1_89) rfl k) ?_
        refine hG _ _ _ (mkF m 92 #[.val (.ref a1), .val (.int p2), .val (.int p3), .val (.int ((f A) &&& (255 : Int32))), .val (.int ((((((f A) &&& (255 : Int32)) &&& (15 : Int32)) <<< ((12 : Int32) &&& 31)) ||| (((f (A + 1)) &&& (63 : Int32)) <<< ((6 : Int32) &&& 31))) ||| ((f (A + 2)) &&& (63 : Int32))))] []) (fun t k => XS.istore X0.here hx rfl (hb hby d1_90) rfl (l' := #[.val (.ref a1), .val (.int p2), .val (.int p3), .val (.int ((f A) &&& (255 : Int32))), .val (.int ((((((f A) &&& (255 : Int32)) &&& (15 : Int32)) <<< ((12 : Int32) &&& 31)) ||| (((f (A + 1)) &&& (63 : Int32)) <<< ((6 : Int32) &&& 31))) ||| ((f (A + 2)) &&& (63 : Int32))))]) rfl k) ?_
        refine hG _ _ _ (mkF m 137 #[.val (.ref a1), .val (.int p2), .val (.int p3), .val (.int ((f A) &&& (255 : Int32))), .val (.int ((((((f A) &&& (255 : Int32)) &&& (15 : Int32)) <<< ((12 : Int32) &&& 31)) ||| (((f (A + 1)) &&& (63 : Int32)) <<< ((6 : Int32) &&& 31))) ||| ((f (A + 2)) &&& (63 : Int32))))] []) (fun t k => XS.goto X0.here hx rfl (pc0 := 92) (pc' := 137) rfl (hb hby d1_92) (by decide) (by decide) k) ?_
        refine hG _ _ _ (mkF m 139 #[.val (.ref a1), .val (.int p2), .val (.int p3), .val (.int ((f A) &&& (255 : Int32))), .val (.int ((((((f A) &&& (255 : Int32)) &&& (15 : Int32)) <<< ((12 : Int32) &&& 31)) ||| (((f (A + 1)) &&& (63 : Int32)) <<< ((6 : Int32) &&& 31))) ||| ((f (A + 2)) &&& (63 : Int32))))] [(.int ((((((f A) &&& (255 : Int32)) &&& (15 : Int32)) <<< ((12 : Int32) &&& 31)) ||| (((f (A + 1)) &&& (63 : Int32)) <<< ((6 : Int32) &&& 31))) ||| ((f (A + 2)) &&& (63 : Int32))))]) (fun t k => XS.iload X0.here hx rfl (hb hby d1_137) rfl k) ?_
        exact hR _ _ _ _ _ _ X0 N0 (by decide) (by decide) ⟨congrArg Value.int (by rw [own_cp, if_neg c1, if_neg c3, if_pos c4]), e0⟩ (fun fs hr => retI X0 hx hret (hb hby d1_139) hr)
      · refine hG _ _ _ (mkF m 95 #[.val (.ref a1), .val (.int p2), .val (.int p3), .val (.int ((f A) &&& (255 : Int32))), .unset] []) (fun t k => XS.icmpYes X0.here hx rfl (pc0 := 59) (pc' := 95) rfl (hb hby d1_59) rfl (own_feq c4).2 (by decide) (by decide) k) ?_
        refine hG _ _ _ (mkF m 96 #[.val (.ref a1), .val (.int p2), .val (.int p3), .val (.int ((f A) &&& (255 : Int32))), .unset] [(.int ((f A) &&& (255 : Int32)))]) (fun t k => XS.iloadN X0.here hx rfl (hb hby d1_95) rfl k) ?_
        refine hG _ _ _ (mkF m 98 #[.val (.ref a1), .val (.int p2), .val (.int p3), .val (.int ((f A) &&& (255 : Int32))), .unset] [(.int (7 : Int32)), (.int ((f A) &&& (255 : Int32)))]) (fun t k => XS.bipush X0.here hx rfl (hb hby d1_96) k) ?_
        refine hG _ _ _ (mkF m 99 #[.val (.ref a1), .val (.int p2), .val (.int p3), .val (.int ((f A) &&& (255 : Int32))), .unset] [(.int (((f A) &&& (255 : Int32)) &&& (7 : Int32)))]) (fun t k => XS.iand X0.here hx rfl (hb hby d1_98) rfl k) ?_
        refine hG _ _ _ (mkF m 101 #[.val (.ref a1), .val (.int p2), .val (.int p3), .val (.int ((f A) &&& (255 : Int32))), .unset] [(.int (18 : Int32)), (.int (((f A) &&& (255 : Int32)) &&& (7 : Int32)))]) (fun t k => XS.bipush X0.here hx rfl (hb hby d1_99) k) ?_
        refine hG _ _ _ (mkF m 102 #[.val (.ref a1), .val (.int p2), .val (.int p3), .val (.int ((f A) &&& (255 : Int32))), .unset] [(.int ((((f A) &&& (255 : Int32)) &&& (7 : Int32)) <<< ((18 : Int32) &&& 31)))]) (fun t k => XS.ishl X0.here hx rfl (hb hby d1_101) rfl k) ?_
        refine hG _ _ _ (mkF m 103 #[.val (.ref a1), .val (.int p2), .val (.int p3), .val (.int ((f A) &&& (255 : Int32))), .unset] [(.ref a1), (.int ((((f A) &&& (255 : Int32)) &&& (7 : Int32)) <<< ((18 : Int32) &&& 31)))]) (fun t k => XS.aloadN X0.here hx rfl (hb hby d1_102) rfl rfl k) ?_
        refine hG _ _ _ (mkF m 104 #[.val (.ref a1), .val (.int p2), .val (.int p3), .val (.int ((f A) &&& (255 : Int32))), .unset] [(.int p2), (.ref a1), (.int ((((f A) &&& (255 : Int32)) &&& (7 : Int32)) <<< ((18 : Int32) &&& 31)))]) (fun t k => XS.iloadN X0.here hx rfl (hb hby d1_103) rfl k) ?_
        refine hG _ _ _ (mkF m 105 #[.val (.ref a1), .val (.int p2), .val (.int p3), .val (.int ((f A) &&& (255 : Int32))), .unset] [(.int (1 : Int32)), (.int p2), (.ref a1), (.int ((((f A) &&& (255 : Int32)) &&& (7 : Int32)) <<< ((18 : Int32) &&& 31)))]) (fun t k => XS.iconst X0.here hx rfl (hb hby d1_104) k) ?_
        refine hG _ _ _ (mkF m 106 #[.val (.ref a1), .val (.int p2), .val (.int p3), .val (.int ((f A) &&& (255 : Int32))), .unset] [(.int (p2 + (1 : Int32))), (.ref a1), (.int ((((f A) &&& (255 : Int32)) &&& (7 : Int32)) <<< ((18 : Int32) &&& 31)))]) (fun t k => XS.iadd X0.here hx rfl (hb hby d1_105) rfl k) ?_
        refine hG _ _ _ (mkF m 107 #[.val (.ref a1), .val (.int p2), .val (.int p3), .val (.int ((f A) &&& (255 : Int32))), .unset] [(.int (f (A + 1))), (.int ((((f A) &&& (255 : Int32)) &&& (7 : Int32)) <<< ((18 : Int32) &&& 31)))]) (fun t k => own_ld X0 hx hZ e0 V (j := (p2 + (1 : Int32))) (i := (A + 1)) (own_ix hp hA).1 (hn2 c1) (hb hby d1_106) k) ?_
        refine hG _ _ _ (mkF m 109 #[.val (.ref a1), .val (.int p2), .val (.int p3), .val (.int ((f A) &&& (255 : Int32))), .unset] [(.int (63 : Int32)), (.int (f (A + 1))), (.int ((((f A) &&& (255 : Int32)) &&& (7 : Int32)) <<< ((18 : Int32) &&& 31)))]) (fun t k => XS.bipush X0.here hx rfl (hb hby d1_107) k) ?_
        refine hG _ _ _ (mkF m 110 #[.val (.ref a1), .val (.int p2), .val (.int p3), .val (.int ((f A) &&& (255 : Int32))), .unset] [(.int ((f (A + 1)) &&& (63 : Int32))), (.int ((((f A) &&& (255 : Int32)) &&& (7 : Int32)) <<< ((18 : Int32) &&& 31)))]) (fun t k => XS.iand X0.here hx rfl (hb hby d1_109) rfl k) ?_
        refine hG _ _ _ (mkF m 112 #[.val (.ref a1), .val (.int p2), .val (.int p3), .val (.int ((f A) &&& (255 : Int32))), .unset] [(.int (12 : Int32)), (.int ((f (A + 1)) &&& (63 : Int32))), (.int ((((f A) &&& (255 : Int32)) &&& (7 : Int32)) <<< ((18 : Int32) &&& 31)))]) (fun t k => XS.bipush X0.here hx rfl (hb hby d1_110) k) ?_
        refine hG _ _ _ (mkF m 113 #[.val (.ref a1), .val (.int p2), .val (.int p3), .val (.int ((f A) &&& (255 : Int32))), .unset] [(.int (((f (A + 1)) &&& (63 : Int32)) <<< ((12 : Int32) &&& 31))), (.int ((((f A) &&& (255 : Int32)) &&& (7 : Int32)) <<< ((18 : Int32) &&& 31)))]) (fun t k => XS.ishl X0.here hx rfl (hb hby d1_112) rfl k) ?_
        refine hG _ _ _ (mkF m 114 #[.val (.ref a1), .val (.int p2), .val (.int p3), .val (.int ((f A) &&& (255 : Int32))), .unset] [(.int (((((f A) &&& (255 : Int32)) &&& (7 : Int32)) <<< ((18 : Int32) &&& 31)) ||| (((f (A + 1)) &&& (63 : Int32)) <<< ((12 : Int32) &&& 31))))]) (fun t k => XS.ior X0.here hx rfl (hb hby d1_113) rfl k) ?_
        refine hG _ _ _ (mkF m 115 #[.val (.ref a1), .val (.int p2), .val (.int p3), .val (.int ((f A) &&& (255 : Int32))), .unset] [(.ref a1), (.int (((((f A) &&& (255 : Int32)) &&& (7 : Int32)) <<< ((18 : Int32) &&& 31)) ||| (((f (A + 1)) &&& (63 : Int32)) <<< ((12 : Int32) &&& 31))))]) (fun t k => XS.aloadN X0.here hx rfl (hb hby d1_114) rfl rfl k) ?_
        refine hG _ _ _ (mkF m 116 #[.val (.ref a1), .val (.int p2), .val (.int p3), .val (.int ((f A) &&& (255 : Int32))), .unset] [(.int p2), (.ref a1), (.int (((((f A) &&& (255 : Int32)) &&& (7 : Int32)) <<< ((18 : Int32) &&& 31)) ||| (((f (A + 1)) &&& (63 : Int32)) <<< ((12 : Int32) &&& 31))))]) (fun t k => XS.iloadN X0.here hx rfl (hb hby d1_115) rfl k) ?_
        refine hG _ _ _ (mkF m 117 #[.val (.ref a1), .val (.int p2), .val (.int p3), .val (.int ((f A) &&& (255 : Int32))), .unset] [(.int (2 : Int32)), (.int p2), (.ref a1), (.int (((((f A) &&& (255 : Int32)) &&& (7 : Int32)) <<< ((18 : Int32) &&& 31)) ||| (((f (A + 1)) &&& (63 : Int32)) <<< ((12 : Int32) &&& 31))))]) (fun t k => XS.iconst X0.here hx rfl (hb hby d1_116) k) ?_
        refine hG _ _ _ (mkF m 118 #[.val (.ref a1), .val (.int p2), .val (.int p3), .val (.int ((f A) &&& (255 : Int32))), .unset] [(.int (p2 + (2 : Int32))), (.ref a1), (.int (((((f A) &&& (255 : Int32)) &&& (7 : Int32)) <<< ((18 : Int32) &&& 31)) ||| (((f (A + 1)) &&& (63 : Int32)) <<< ((12 : Int32) &&& 31))))]) (fun t k => XS.iadd X0.here hx rfl (hb hby d1_117) rfl k) ?_
        refine hG _ _ _ (mkF m 119 #[.val (.ref a1), .val (.int p2), .val (.int p3), .val (.int ((f A) &&& (255 : Int32))), .unset] [(.int (f (A + 2))), (.int (((((f A) &&& (255 : Int32)) &&& (7 : Int32)) <<< ((18 : Int32) &&& 31)) ||| (((f (A + 1)) &&& (63 : Int32)) <<< ((12 : Int32) &&& 31))))]) (fun t k => own_ld X0 hx hZ e0 V (j := (p2 + (2 : Int32))) (i := (A + 2)) (own_ix hp hA).2.1 (hn3 c1 c3) (hb hby d1_118) k) ?_
        refine hG _ _ _ (mkF m 121 #[.val (.ref a1), .val (.int p2), .val (.int p3), .val (.int ((f A) &&& (255 : Int32))), .unset] [(.int (63 : Int32)), (.int (f (A + 2))), (.int (((((f A) &&& (255 : Int32)) &&& (7 : Int32)) <<< ((18 : Int32) &&& 31)) ||| (((f (A + 1)) &&& (63 : Int32)) <<< ((12 : Int32) &&& 31))))]) (fun t k => XS.bipush X0.here hx rfl (hb hby d1_119) k) ?_
        refine hG _ _ _ (mkF m 122 #[.val (.ref a1), .val (.int p2), .val (.int p3), .val (.int ((f A) &&& (255 : Int32))), .unset] [(.int ((f (A + 2)) &&& (63 : Int32))), (.int (((((f A) &&& (255 : Int32)) &&& (7 : Int32)) <<< ((18 : Int32) &&& 31)) ||| (((f (A + 1)) &&& (63 : Int32)) <<< ((12 : Int32) &&& 31))))]) (fun t k => XS.iand X0.here hx rfl (hb hby d1_121) rfl k) ?_
        refine hG _ _ _ (mkF m 124 #[.val (.ref a1), .val (.int p2), .val (.int p3), .val (.int ((f A) &&& (255 : Int32))), .unset] [(.int (6 : Int32)), (.int ((f (A + 2)) &&& (63 : Int32))), (.int (((((f A) &&& (255 : Int32)) &&& (7 : Int32)) <<< ((18 : Int32) &&& 31)) ||| (((f (A + 1)) &&& (63 : Int32)) <<< ((12 : Int32) &&& 31))))]) (fun t k => XS.bipush X0.here hx rfl (hb hby d1_122) k) ?_
        refine hG _ _ _ (mkF m 125 #[.val (.ref a1), .val (.int p2), .val (.int p3), .val (.int ((f A) &&& (255 : Int32))), .unset] [(.int (((f (A + 2)) &&& (63 : Int32)) <<< ((6 : Int32) &&& 31))), (.int (((((f A) &&& (255 : Int32)) &&& (7 : Int32)) <<< ((18 : Int32) &&& 31)) ||| (((f (A + 1)) &&& (63 : Int32)) <<< ((12 : Int32) &&& 31))))]) (fun t k => XS.ishl X0.here hx rfl (hb hby d1_124) rfl k) ?_
        refine hG _ _ _ (mkF m 126 #[.val (.ref a1), .val (.int p2), .val (.int p3), .val (.int ((f A) &&& (255 : Int32))), .unset] [(.int ((((((f A) &&& (255 : Int32)) &&& (7 : Int32)) <<< ((18 : Int32) &&& 31)) ||| (((f (A + 1)) &&& (63 : Int32)) <<< ((12 : Int32) &&& 31))) ||| (((f (A + 2)) &&& (63 : Int32)) <<< ((6 : Int32) &&& 31))))]) (fun t k => XS.ior X0.here hx rfl (hb hby d1_125) rfl k) ?_
        refine hG _ _ _ (mkF m 127 #[.val (.ref a1), .val (.int p2), .val (.int p3), .val (.int ((f A) &&& (255 : Int32))), .unset] [(.ref a1), (.int ((((((f A) &&& (255 : Int32)) &&& (7 : Int32)) <<< ((18 : Int32) &&& 31)) ||| (((f (A + 1)) &&& (63 : Int32)) <<< ((12 : Int32) &&& 31))) ||| (((f (A + 2)) &&& (63 : Int32)) <<< ((6 : Int32) &&& 31))))]) (fun t k => XS.aloadN X0.here hx rfl (hb hby d1_126) rfl rfl k) ?_
        refine hG _ _ _ (mkF m 128 #[.val (.ref a1), .val (.int p2), .val (.int p3), .val (.int ((f A) &&& (255 : Int32))), .unset] [(.int p2), (.ref a1), (.int ((((((f A) &&& (255 : Int32)) &&& (7 : Int32)) <<< ((18 : Int32) &&& 31)) ||| (((f (A + 1)) &&& (63 : Int32)) <<< ((12 : Int32) &&& 31))) ||| (((f (A + 2)) &&& (63 : Int32)) <<< ((6 : Int32) &&& 31))))]) (fun t k => XS.iloadN X0.here hx rfl (hb hby d1_127) rfl k) ?_
        refine hG _ _ _ (mkF m 129 #[.val (.ref a1), .val (.int p2), .val (.int p3), .val (.int ((f A) &&& (255 : Int32))), .unset] [(.int (3 : Int32)), (.int p2), (.ref a1), (.int ((((((f A) &&& (255 : Int32)) &&& (7 : Int32)) <<< ((18 : Int32) &&& 31)) ||| (((f (A + 1)) &&& (63 : Int32)) <<< ((12 : Int32) &&& 31))) ||| (((f (A + 2)) &&& (63 : Int32)) <<< ((6 : Int32) &&& 31))))]) (fun t k => XS.iconst X0.here hx rfl (hb hby d1_128) k) ?_
        refine hG _ _ _ (mkF m 130 #[.val (.ref a1), .val (.int p2), .val (.int p3), .val (.int ((f A) &&& (255 : Int32))), .unset] [(.int (p2 + (3 : Int32))), (.ref a1), (.int ((((((f A) &&& (255 : Int32)) &&& (7 : Int32)) <<< ((18 : Int32) &&& 31)) ||| (((f (A + 1)) &&& (63 : Int32)) <<< ((12 : Int32) &&& 31))) ||| (((f (A + 2)) &&& (63 : Int32)) <<< ((6 : Int32) &&& 31))))]) (fun t k => XS.iadd X0.here hx rfl (hb hby d1_129) rfl k) ?_
        refine hG _ _ _ (mkF m 131 #[.val (.ref a1), .val (.int p2), .val (.int p3), .val (.int ((f A) &&& (255 : Int32))), .unset] [(.int (f (A + 3))), (.int ((((((f A) &&& (255 : Int32)) &&& (7 : Int32)) <<< ((18 : Int32) &&& 31)) ||| (((f (A + 1)) &&& (63 : Int32)) <<< ((12 : Int32) &&& 31))) ||| (((f (A + 2)) &&& (63 : Int32)) <<< ((6 : Int32) &&& 31))))]) (fun t k => own_ld X0 hx hZ e0 V (j := (p2 + (3 : Int32))) (i := (A + 3)) (own_ix hp hA).2.2 (hn4 c1 c3 c4) (hb hby d1_130) k) ?_
        refine hG _ _ _ (mkF m 133 #[.val (.ref a1), .val (.int p2), .val (.int p3), .val (.int ((f A) &&& (255 : Int32))), .unset] [(.int (63 : Int32)), (.int (f (A + 3))), (.int ((((((f A) &&& (255 : Int32)) &&& (7 : Int32)) <<< ((18 : Int32) &&& 31)) ||| (((f (A + 1)) &&& (63 : Int32)) <<< ((12 : Int32) &&& 31))) ||| (((f (A + 2)) &&& (63 : Int32)) <<< ((6 : Int32) &&& 31))))]) (fun t k => XS.bipush X0.here hx rfl (hb hby d1_131) k) ?_
        refine hG _ _ _ (mkF m 134 #[.val (.ref a1), .val (.int p2), .val (.int p3), .val (.int ((f A) &&& (255 : Int32))), .unset] [(.int ((f (A + 3)) &&& (63 : Int32))), (.int ((((((f A) &&& (255 : Int32)) &&& (7 : Int32)) <<< ((18 : Int32) &&& 31)) ||| (((f (A + 1)) &&& (63 : Int32)) <<< ((12 : Int32) &&& 31))) ||| (((f (A + 2)) &&& (63 : Int32)) <<< ((6 : Int32) &&& 31))))]) (fun t k => XS.iand X0.here hx rfl (hb hby d1_133) rfl k) ?_
        refine hG _ _ _ (mkF m 135 #[.val (.ref a1), .val (.int p2), .val (.int p3), .val (.int ((f A) &&& (255 : Int32))), .unset] [(.int (((((((f A) &&& (255 : Int32)) &&& (7 : Int32)) <<< ((18 : Int32) &&& 31)) ||| (((f (A + 1)) &&& (63 : Int32)) <<< ((12 : Int32) &&& 31))) ||| (((f (A + 2)) &&& (63 : Int32)) <<< ((6 : Int32) &&& 31))) ||| ((f (A + 3)) &&& (63 : Int32))))]) (fun t k => XS.ior X0.here hx rfl (hb hby d1_134) rfl k) ?_
        refine hG _ _ _ (mkF m 137 #[.val (.ref a1), .val (.int p2), .val (.int p3), .val (.int ((f A) &&& (255 : Int32))), .val (.int (((((((f A) &&& (255 : Int32)) &&& (7 : Int32)) <<< ((18 : Int32) &&& 31)) ||| (((f (A + 1)) &&& (63 : Int32)) <<< ((12 : Int32) &&& 31))) ||| (((f (A + 2)) &&& (63 : Int32)) <<< ((6 : Int32) &&& 31))) ||| ((f (A + 3)) &&& (63 : Int32))))] []) (fun t k => XS.istore X0.here hx rfl (hb hby d1_135) rfl (l' := #[.val (.ref a1), .val (.int p2), .val (.int p3), .val (.int ((f A) &&& (255 : Int32))), .val (.int (((((((f A) &&& (255 : Int32)) &&& (7 : Int32)) <<< ((18 : Int32) &&& 31)) ||| (((f (A + 1)) &&& (63 : Int32)) <<< ((12 : Int32) &&& 31))) ||| (((f (A + 2)) &&& (63 : Int32)) <<< ((6 : Int32) &&& 31))) ||| ((f (A + 3)) &&& (63 : Int32))))]) rfl k) ?_
        refine hG _ _ _ (mkF m 139 #[.val (.ref a1), .val (.int p2), .val (.int p3), .val (.int ((f A) &&& (255 : Int32))), .val (.int (((((((f A) &&& (255 : Int32)) &&& (7 : Int32)) <<< ((18 : Int32) &&& 31)) ||| (((f (A + 1)) &&& (63 : Int32)) <<< ((12 : Int32) &&& 31))) ||| (((f (A + 2)) &&& (63 : Int32)) <<< ((6 : Int32) &&& 31))) ||| ((f (A + 3)) &&& (63 : Int32))))] [(.int (((((((f A) &&& (255 : Int32)) &&& (7 : Int32)) <<< ((18 : Int32) &&& 31)) ||| (((f (A + 1)) &&& (63 : Int32)) <<< ((12 : Int32) &&& 31))) ||| (((f (A + 2)) &&& (63 : Int32)) <<< ((6 : Int32) &&& 31))) ||| ((f (A + 3)) &&& (63 : Int32))))]) (fun t k => XS.iload X0.here hx rfl (hb hby d1_137) rfl k) ?_
        exact hR _ _ _ _ _ _ X0 N0 (by decide) (by decide) ⟨congrArg Value.int (by rw [own_cp, if_neg c1, if_neg c3, if_neg c4]), e0⟩ (fun fs hr => retI X0 hx hret (hb hby d1_139) hr)
set_option maxRecDepth 65536 in
set_option maxHeartbeats 40000000 in
theorem tail309 {p : Program} {l : Launch} {e : Env} {s : State} {m : MethodId} {args : Array Value} {below : List Frame} {meth : Method} {c : Code} {T0 : State} {locs : List Loc} {Z : State} {a0 : Array Value} {h0 : Heap} {n0 K S : Nat} (i0 i1 i4 cc pa k8 : Int32) (q2 : Int64) (a : Addr) (A : Nat) (f : Nat → Int32) (X0 : Stand p l e room_1 s m args below meth c T0 locs 1 8) (hx : p.tables.exec = Jvm.exec) (hZ : Z.Warmed39 s.vm) (hw : ∀ d ∈ tables_1, d.before a0 Z = true) (hby : c.code = code) (hml : c.maxLocals = 14) (hown : s.vm.findClass "com/example/querytrail/querytrail/Utf8CodePointPinLaw" = some m.cls) (hret : meth.sig.returnType = some .boolean) (e0 : T0.heap = h0) (N0 : Fr n0 locs) (hk : 2 ≤ K) (hn : 10 ≤ S) {G : State → JFrame → Prop} (hG : own_moves p e below G) (hR : own_rets p l e room_1 s m args below meth c n0 K S (fun w _ => w = .int 1) G) (V : own_arr Z h0 a 8 f) (hA : A ≤ 3) (hp : pa.toInt = A) (Z0 : n0 ≤ h0.size) (hd : (own_cp f A k8).toInt = cc.toInt) :
    G T0 (mkF m 309 #[.val (.int i0), .val (.int i1), .val (.long q2), .second, .val (.int i4), .val (.int cc), .val (.int pa), .val (.ref a), .val (.int k8), .unset, .unset, .unset, .unset, .unset] []) := by
  refine hG _ _ _ (mkF m 311 #[.val (.int i0), .val (.int i1), .val (.long q2), .second, .val (.int i4), .val (.int cc), .val (.int pa), .val (.ref a), .val (.int k8), .unset, .unset, .unset, .unset, .unset] [(.ref a)]) (fun t k => XS.aload X0.here hx rfl (hb hby at_309) rfl rfl k) ?_
  refine hG _ _ _ (mkF m 313 #[.val (.int i0), .val (.int i1), .val (.long q2), .second, .val (.int i4), .val (.int cc), .val (.int pa), .val (.ref a), .val (.int k8), .unset, .unset, .unset, .unset, .unset] [(.int pa), (.ref a)]) (fun t k => XS.iload X0.here hx rfl (hb hby at_311) rfl k) ?_
  refine hG _ _ _ (mkF m 315 #[.val (.int i0), .val (.int i1), .val (.long q2), .second, .val (.int i4), .val (.int cc), .val (.int pa), .val (.ref a), .val (.int k8), .unset, .unset, .unset, .unset, .unset] [(.int k8), (.int pa), (.ref a)]) (fun t k => XS.iload X0.here hx rfl (hb hby at_313) rfl k) ?_
  obtain ⟨v9, T9, L9, X9, q9, st9⟩ := own_call X0 hx hZ e0 (argsL := [(.ref a), (.int pa), (.int k8)]) (rest := []) (W := 0) hown (hw _ (List.mem_of_getElem? (i := 3) rfl)) (hw _ (List.mem_of_getElem? (i := 4) rfl)) (hw _ (List.mem_of_getElem? (i := 5) rfl)) (hw _ (List.mem_of_getElem? (i := 6) rfl)) (by decide) (rm1 l Z a0 hw [] a pa k8 A 8 f h0 n0 Z0 V hA hp (by omega) (fun _ => by omega) (fun _ _ => by omega) (fun _ _ _ => by omega)) (by decide) (by decide) (Ls := #[.val (.int i0), .val (.int i1), .val (.long q2), .second, .val (.int i4), .val (.int cc), .val (.int pa), .val (.ref a), .val (.int k8), .unset, .unset, .unset, .unset, .unset]) (by rw [hml]; rfl) (lenOf pd_1 rfl) (by decide) (hb hby at_315) (by decide) (by decide)
  obtain ⟨w9, rfl, ⟨rfl, e9⟩, M9⟩ := q9
  have N9 := Fr.app N0 M9
  refine hG _ _ _ (mkF m 318 #[.val (.int i0), .val (.int i1), .val (.long q2), .second, .val (.int i4), .val (.int cc), .val (.int pa), .val (.ref a), .val (.int k8), .unset, .unset, .unset, .unset, .unset] [(.int (own_cp f A k8))]) (fun t k => st9 t k) ?_
  refine hG _ _ _ (mkF m 320 #[.val (.int i0), .val (.int i1), .val (.long q2), .second, .val (.int i4), .val (.int cc), .val (.int pa), .val (.ref a), .val (.int k8), .unset, .unset, .unset, .unset, .unset] [(.int cc), (.int (own_cp f A k8))]) (fun t k => XS.iload X9.here hx rfl (hb hby at_318) rfl k) ?_
  refine hG _ _ _ (mkF m 323 #[.val (.int i0), .val (.int i1), .val (.long q2), .second, .val (.int i4), .val (.int cc), .val (.int pa), .val (.ref a), .val (.int k8), .unset, .unset, .unset, .unset, .unset] []) (fun t k => XS.icmpNo X9.here hx rfl (hb hby at_320) rfl (own_teq hd).2 k) ?_
  refine hG _ _ _ (mkF m 324 #[.val (.int i0), .val (.int i1), .val (.long q2), .second, .val (.int i4), .val (.int cc), .val (.int pa), .val (.ref a), .val (.int k8), .unset, .unset, .unset, .unset, .unset] [(.int (1 : Int32))]) (fun t k => XS.iconst X9.here hx rfl (hb hby at_323) k) ?_
  refine hG _ _ _ (mkF m 328 #[.val (.int i0), .val (.int i1), .val (.long q2), .second, .val (.int i4), .val (.int cc), .val (.int pa), .val (.ref a), .val (.int k8), .unset, .unset, .unset, .unset, .unset] [(.int (1 : Int32))]) (fun t k => XS.goto X9.here hx rfl (pc0 := 324) (pc' := 328) rfl (hb hby at_324) (by decide) (by decide) k) ?_
  refine hG _ _ _ (mkF m 330 #[.val (.int i0), .val (.int i1), .val (.long q2), .second, .val (.int i4), .val (.int cc), .val (.int pa), .val (.ref a), .val (.int k8), .val (.int (1 : Int32)), .unset, .unset, .unset, .unset] []) (fun t k => XS.istore X9.here hx rfl (hb hby at_328) rfl (l' := #[.val (.int i0), .val (.int i1), .val (.long q2), .second, .val (.int i4), .val (.int cc), .val (.int pa), .val (.ref a), .val (.int k8), .val (.int (1 : Int32)), .unset, .unset, .unset, .unset]) rfl k) ?_
  refine hG _ _ _ (mkF m 332 #[.val (.int i0), .val (.int i1), .val (.long q2), .second, .val (.int i4), .val (.int cc), .val (.int pa), .val (.ref a), .val (.int k8), .val (.int (1 : Int32)), .unset, .unset, .unset, .unset] [(.int i4)]) (fun t k => XS.iload X9.here hx rfl (hb hby at_330) rfl k) ?_
  refine hG _ _ _ (mkF m 335 #[.val (.int i0), .val (.int i1), .val (.long q2), .second, .val (.int i4), .val (.int cc), .val (.int pa), .val (.ref a), .val (.int k8), .val (.int (1 : Int32)), .unset, .unset, .unset, .unset] [(.int (255 : Int32)), (.int i4)]) (fun t k => XS.sipush X9.here hx rfl (hb hby at_332) k) ?_
  refine hG _ _ _ (mkF m 336 #[.val (.int i0), .val (.int i1), .val (.long q2), .second, .val (.int i4), .val (.int cc), .val (.int pa), .val (.ref a), .val (.int k8), .val (.int (1 : Int32)), .unset, .unset, .unset, .unset] [(.int (i4 &&& (255 : Int32)))]) (fun t k => XS.iand X9.here hx rfl (hb hby at_335) rfl k) ?_
  refine hG _ _ _ (mkF m 338 #[.val (.int i0), .val (.int i1), .val (.long q2), .second, .val (.int i4), .val (.int cc), .val (.int pa), .val (.ref a), .val (.int k8), .val (.int (1 : Int32)), .val (.int (i4 &&& (255 : Int32))), .unset, .unset, .unset] []) (fun t k => XS.istore X9.here hx rfl (hb hby at_336) rfl (l' := #[.val (.int i0), .val (.int i1), .val (.long q2), .second, .val (.int i4), .val (.int cc), .val (.int pa), .val (.ref a), .val (.int k8), .val (.int (1 : Int32)), .val (.int (i4 &&& (255 : Int32))), .unset, .unset, .unset]) rfl k) ?_
  refine hG _ _ _ (mkF m 339 #[.val (.int i0), .val (.int i1), .val (.long q2), .second, .val (.int i4), .val (.int cc), .val (.int pa), .val (.ref a), .val (.int k8), .val (.int (1 : Int32)), .val (.int (i4 &&& (255 : Int32))), .unset, .unset, .unset] [(.int (2 : Int32))]) (fun t k => XS.iconst X9.here hx rfl (hb hby at_338) k) ?_
  obtain ⟨T10, a10, X10, V10, g10, st10⟩ := own_mk X9 hx hZ (hw _ (List.mem_of_getElem? (i := 2) rfl)) e9 (hb hby at_339) (z := (2 : Int32)) (n := 2) (by decide) (by decide) (by decide) (by decide) #[.val (.int i0), .val (.int i1), .val (.long q2), .second, .val (.int i4), .val (.int cc), .val (.int pa), .val (.ref a), .val (.int k8), .val (.int (1 : Int32)), .val (.int (i4 &&& (255 : Int32))), .unset, .unset, .unset] []
  refine hG _ _ _ (mkF m 341 #[.val (.int i0), .val (.int i1), .val (.long q2), .second, .val (.int i4), .val (.int cc), .val (.int pa), .val (.ref a), .val (.int k8), .val (.int (1 : Int32)), .val (.int (i4 &&& (255 : Int32))), .unset, .unset, .unset] [(.ref a10)]) (fun t k => st10 t k) ?_
  have gb : n0 ≤ a10 := Nat.le_trans Z0 g10
  refine hG _ _ _ (mkF m 343 #[.val (.int i0), .val (.int i1), .val (.long q2), .second, .val (.int i4), .val (.int cc), .val (.int pa), .val (.ref a), .val (.int k8), .val (.int (1 : Int32)), .val (.int (i4 &&& (255 : Int32))), .val (.ref a10), .unset, .unset] []) (fun t k => XS.astore X10.here hx rfl (hb hby at_341) rfl rfl (l' := #[.val (.int i0), .val (.int i1), .val (.long q2), .second, .val (.int i4), .val (.int cc), .val (.int pa), .val (.ref a), .val (.int k8), .val (.int (1 : Int32)), .val (.int (i4 &&& (255 : Int32))), .val (.ref a10), .unset, .unset]) rfl k) ?_
  refine hG _ _ _ (mkF m 345 #[.val (.int i0), .val (.int i1), .val (.long q2), .second, .val (.int i4), .val (.int cc), .val (.int pa), .val (.ref a), .val (.int k8), .val (.int (1 : Int32)), .val (.int (i4 &&& (255 : Int32))), .val (.ref a10), .unset, .unset] [(.ref a10)]) (fun t k => XS.aload X10.here hx rfl (hb hby at_343) rfl rfl k) ?_
  refine hG _ _ _ (mkF m 346 #[.val (.int i0), .val (.int i1), .val (.long q2), .second, .val (.int i4), .val (.int cc), .val (.int pa), .val (.ref a), .val (.int k8), .val (.int (1 : Int32)), .val (.int (i4 &&& (255 : Int32))), .val (.ref a10), .unset, .unset] [(.int (0 : Int32)), (.ref a10)]) (fun t k => XS.iconst X10.here hx rfl (hb hby at_345) k) ?_
  refine hG _ _ _ (mkF m 347 #[.val (.int i0), .val (.int i1), .val (.long q2), .second, .val (.int i4), .val (.int cc), .val (.int pa), .val (.ref a), .val (.int k8), .val (.int (1 : Int32)), .val (.int (i4 &&& (255 : Int32))), .val (.ref a10), .unset, .unset] [(.long q2), (.int (0 : Int32)), (.ref a10)]) (fun t k => XS.lloadN X10.here hx rfl (hb hby at_346) rfl k) ?_
  refine hG _ _ _ (mkF m 349 #[.val (.int i0), .val (.int i1), .val (.long q2), .second, .val (.int i4), .val (.int cc), .val (.int pa), .val (.ref a), .val (.int k8), .val (.int (1 : Int32)), .val (.int (i4 &&& (255 : Int32))), .val (.ref a10), .unset, .unset] [(.int (8 : Int32)), (.long q2), (.int (0 : Int32)), (.ref a10)]) (fun t k => XS.bipush X10.here hx rfl (hb hby at_347) k) ?_
  refine hG _ _ _ (mkF m 350 #[.val (.int i0), .val (.int i1), .val (.long q2), .second, .val (.int i4), .val (.int cc), .val (.int pa), .val (.ref a), .val (.int k8), .val (.int (1 : Int32)), .val (.int (i4 &&& (255 : Int32))), .val (.ref a10), .unset, .unset] [(.long ((q2.toUInt64 >>> ((8 : Int32) &&& 0x3f).toInt64.toUInt64).toInt64)), (.int (0 : Int32)), (.ref a10)]) (fun t k => XS.lushr X10.here hx rfl (hb hby at_349) rfl k) ?_
  refine hG _ _ _ (mkF m 351 #[.val (.int i0), .val (.int i1), .val (.long q2), .second, .val (.int i4), .val (.int cc), .val (.int pa), .val (.ref a), .val (.int k8), .val (.int (1 : Int32)), .val (.int (i4 &&& (255 : Int32))), .val (.ref a10), .unset, .unset] [(.int (((q2.toUInt64 >>> ((8 : Int32) &&& 0x3f).toInt64.toUInt64).toInt64).toInt32)), (.int (0 : Int32)), (.ref a10)]) (fun t k => XS.l2i X10.here hx rfl (hb hby at_350) rfl k) ?_
  refine hG _ _ _ (mkF m 352 #[.val (.int i0), .val (.int i1), .val (.long q2), .second, .val (.int i4), .val (.int cc), .val (.int pa), .val (.ref a), .val (.int k8), .val (.int (1 : Int32)), .val (.int (i4 &&& (255 : Int32))), .val (.ref a10), .unset, .unset] [(.int ((((q2.toUInt64 >>> ((8 : Int32) &&& 0x3f).toInt64.toUInt64).toInt64).toInt32).toInt8.toInt32)), (.int (0 : Int32)), (.ref a10)]) (fun t k => XS.i2b X10.here hx rfl (hb hby at_351) rfl k) ?_
  obtain ⟨T11, L11, f11, X11, N11, V11, u11, r11, st11⟩ := own_sto X10 hx hZ rfl V10 (j := (0 : Int32)) (x := ((((q2.toUInt64 >>> ((8 : Int32) &&& 0x3f).toInt64.toUInt64).toInt64).toInt32).toInt8.toInt32)) (i := 0) (by decide) (by decide) (hb hby at_352) N9 gb
  refine hG _ _ _ (mkF m 353 #[.val (.int i0), .val (.int i1), .val (.long q2), .second, .val (.int i4), .val (.int cc), .val (.int pa), .val (.ref a), .val (.int k8), .val (.int (1 : Int32)), .val (.int (i4 &&& (255 : Int32))), .val (.ref a10), .unset, .unset] []) (fun t k => st11 _ _ t k) ?_
  refine hG _ _ _ (mkF m 355 #[.val (.int i0), .val (.int i1), .val (.long q2), .second, .val (.int i4), .val (.int cc), .val (.int pa), .val (.ref a), .val (.int k8), .val (.int (1 : Int32)), .val (.int (i4 &&& (255 : Int32))), .val (.ref a10), .unset, .unset] [(.ref a10)]) (fun t k => XS.aload X11.here hx rfl (hb hby at_353) rfl rfl k) ?_
  refine hG _ _ _ (mkF m 356 #[.val (.int i0), .val (.int i1), .val (.long q2), .second, .val (.int i4), .val (.int cc), .val (.int pa), .val (.ref a), .val (.int k8), .val (.int (1 : Int32)), .val (.int (i4 &&& (255 : Int32))), .val (.ref a10), .unset, .unset] [(.int (1 : Int32)), (.ref a10)]) (fun t k => XS.iconst X11.here hx rfl (hb hby at_355) k) ?_
  refine hG _ _ _ (mkF m 358 #[.val (.int i0), .val (.int i1), .val (.long q2), .second, .val (.int i4), .val (.int cc), .val (.int pa), .val (.ref a), .val (.int k8), .val (.int (1 : Int32)), .val (.int (i4 &&& (255 : Int32))), .val (.ref a10), .unset, .unset] [(.int (i4 &&& (255 : Int32))), (.int (1 : Int32)), (.ref a10)]) (fun t k => XS.iload X11.here hx rfl (hb hby at_356) rfl k) ?_
  refine hG _ _ _ (mkF m 359 #[.val (.int i0), .val (.int i1), .val (.long q2), .second, .val (.int i4), .val (.int cc), .val (.int pa), .val (.ref a), .val (.int k8), .val (.int (1 : Int32)), .val (.int (i4 &&& (255 : Int32))), .val (.ref a10), .unset, .unset] [(.int ((i4 &&& (255 : Int32)).toInt8.toInt32)), (.int (1 : Int32)), (.ref a10)]) (fun t k => XS.i2b X11.here hx rfl (hb hby at_358) rfl k) ?_
  obtain ⟨T12, L12, f12, X12, N12, V12, u12, r12, st12⟩ := own_sto X11 hx hZ rfl V11 (j := (1 : Int32)) (x := ((i4 &&& (255 : Int32)).toInt8.toInt32)) (i := 1) (by decide) (by decide) (hb hby at_359) N11 gb
  refine hG _ _ _ (mkF m 360 #[.val (.int i0), .val (.int i1), .val (.long q2), .second, .val (.int i4), .val (.int cc), .val (.int pa), .val (.ref a), .val (.int k8), .val (.int (1 : Int32)), .val (.int (i4 &&& (255 : Int32))), .val (.ref a10), .unset, .unset] []) (fun t k => st12 _ _ t k) ?_
  have Z12 : n0 ≤ T12.heap.size := Nat.le_trans gb (Nat.le_of_lt (own_arr_lt V12))
  have lone := own_lone u12
  refine hG _ _ _ (mkF m 362 #[.val (.int i0), .val (.int i1), .val (.long q2), .second, .val (.int i4), .val (.int cc), .val (.int pa), .val (.ref a), .val (.int k8), .val (.int (1 : Int32)), .val (.int (i4 &&& (255 : Int32))), .val (.ref a10), .unset, .unset] [(.int (i4 &&& (255 : Int32)))]) (fun t k => XS.iload X12.here hx rfl (hb hby at_360) rfl k) ?_
  refine hG _ _ _ (mkF m 365 #[.val (.int i0), .val (.int i1), .val (.long q2), .second, .val (.int i4), .val (.int cc), .val (.int pa), .val (.ref a), .val (.int k8), .val (.int (1 : Int32)), .val (.int (i4 &&& (255 : Int32))), .val (.ref a10), .unset, .unset] [(.int (128 : Int32)), (.int (i4 &&& (255 : Int32)))]) (fun t k => XS.sipush X12.here hx rfl (hb hby at_362) k) ?_
  by_cases c5 : (i4 &&& (255 : Int32)).toInt < (128 : Int32).toInt
  · refine hG _ _ _ (mkF m 368 #[.val (.int i0), .val (.int i1), .val (.long q2), .second, .val (.int i4), .val (.int cc), .val (.int pa), .val (.ref a), .val (.int k8), .val (.int (1 : Int32)), .val (.int (i4 &&& (255 : Int32))), .val (.ref a10), .unset, .unset] []) (fun t k => XS.icmpNo X12.here hx rfl (hb hby at_365) rfl (own_tlt c5).2.1 k) ?_
    refine hG _ _ _ (mkF m 370 #[.val (.int i0), .val (.int i1), .val (.long q2), .second, .val (.int i4), .val (.int cc), .val (.int pa), .val (.ref a), .val (.int k8), .val (.int (1 : Int32)), .val (.int (i4 &&& (255 : Int32))), .val (.ref a10), .unset, .unset] [(.int (i4 &&& (255 : Int32)))]) (fun t k => XS.iload X12.here hx rfl (hb hby at_368) rfl k) ?_
    refine hG _ _ _ (mkF m 375 #[.val (.int i0), .val (.int i1), .val (.long q2), .second, .val (.int i4), .val (.int cc), .val (.int pa), .val (.ref a), .val (.int k8), .val (.int (1 : Int32)), .val (.int (i4 &&& (255 : Int32))), .val (.ref a10), .unset, .unset] [(.int (i4 &&& (255 : Int32)))]) (fun t k => XS.goto X12.here hx rfl (pc0 := 370) (pc' := 375) rfl (hb hby at_370) (by decide) (by decide) k) ?_
    refine hG _ _ _ (mkF m 377 #[.val (.int i0), .val (.int i1), .val (.long q2), .second, .val (.int i4), .val (.int cc), .val (.int pa), .val (.ref a), .val (.int k8), .val (.int (1 : Int32)), .val (.int (i4 &&& (255 : Int32))), .val (.ref a10), .val (.int (i4 &&& (255 : Int32))), .unset] []) (fun t k => XS.istore X12.here hx rfl (hb hby at_375) rfl (l' := #[.val (.int i0), .val (.int i1), .val (.long q2), .second, .val (.int i4), .val (.int cc), .val (.int pa), .val (.ref a), .val (.int k8), .val (.int (1 : Int32)), .val (.int (i4 &&& (255 : Int32))), .val (.ref a10), .val (.int (i4 &&& (255 : Int32))), .unset]) rfl k) ?_
    refine hG _ _ _ (mkF m 379 #[.val (.int i0), .val (.int i1), .val (.long q2), .second, .val (.int i4), .val (.int cc), .val (.int pa), .val (.ref a), .val (.int k8), .val (.int (1 : Int32)), .val (.int (i4 &&& (255 : Int32))), .val (.ref a10), .val (.int (i4 &&& (255 : Int32))), .unset] [(.ref a10)]) (fun t k => XS.aload X12.here hx rfl (hb hby at_377) rfl rfl k) ?_
    refine hG _ _ _ (mkF m 380 #[.val (.int i0), .val (.int i1), .val (.long q2), .second, .val (.int i4), .val (.int cc), .val (.int pa), .val (.ref a), .val (.int k8), .val (.int (1 : Int32)), .val (.int (i4 &&& (255 : Int32))), .val (.ref a10), .val (.int (i4 &&& (255 : Int32))), .unset] [(.int (1 : Int32)), (.ref a10)]) (fun t k => XS.iconst X12.here hx rfl (hb hby at_379) k) ?_
    refine hG _ _ _ (mkF m 381 #[.val (.int i0), .val (.int i1), .val (.long q2), .second, .val (.int i4), .val (.int cc), .val (.int pa), .val (.ref a), .val (.int k8), .val (.int (1 : Int32)), .val (.int (i4 &&& (255 : Int32))), .val (.ref a10), .val (.int (i4 &&& (255 : Int32))), .unset] [(.int (1 : Int32)), (.int (1 : Int32)), (.ref a10)]) (fun t k => XS.iconst X12.here hx rfl (hb hby at_380) k) ?_
    obtain ⟨v13, T13, L13, X13, q13, st13⟩ := own_call X12 hx hZ rfl (argsL := [(.ref a10), (.int (1 : Int32)), (.int (1 : Int32))]) (rest := []) (W := 0) hown (hw _ (List.mem_of_getElem? (i := 3) rfl)) (hw _ (List.mem_of_getElem? (i := 4) rfl)) (hw _ (List.mem_of_getElem? (i := 5) rfl)) (hw _ (List.mem_of_getElem? (i := 6) rfl)) (by decide) (rm1 l Z a0 hw [] a10 (1 : Int32) (1 : Int32) 1 2 f12 T12.heap n0 Z12 V12 (by decide) (by decide) (by decide) (fun h => absurd rfl h) (fun h => absurd rfl h) (fun h => absurd rfl h)) (by decide) (by decide) (Ls := #[.val (.int i0), .val (.int i1), .val (.long q2), .second, .val (.int i4), .val (.int cc), .val (.int pa), .val (.ref a), .val (.int k8), .val (.int (1 : Int32)), .val (.int (i4 &&& (255 : Int32))), .val (.ref a10), .val (.int (i4 &&& (255 : Int32))), .unset]) (by rw [hml]; rfl) (lenOf pd_1 rfl) (by decide) (hb hby at_381) (by decide) (by decide)
    obtain ⟨w13, rfl, ⟨rfl, e13⟩, M13⟩ := q13
    have N13 := Fr.app N12 M13
    refine hG _ _ _ (mkF m 384 #[.val (.int i0), .val (.int i1), .val (.long q2), .second, .val (.int i4), .val (.int cc), .val (.int pa), .val (.ref a), .val (.int k8), .val (.int (1 : Int32)), .val (.int (i4 &&& (255 : Int32))), .val (.ref a10), .val (.int (i4 &&& (255 : Int32))), .unset] [(.int (own_cp f12 1 (1 : Int32)))]) (fun t k => st13 t k) ?_
    refine hG _ _ _ (mkF m 386 #[.val (.int i0), .val (.int i1), .val (.long q2), .second, .val (.int i4), .val (.int cc), .val (.int pa), .val (.ref a), .val (.int k8), .val (.int (1 : Int32)), .val (.int (i4 &&& (255 : Int32))), .val (.ref a10), .val (.int (i4 &&& (255 : Int32))), .unset] [(.int (i4 &&& (255 : Int32))), (.int (own_cp f12 1 (1 : Int32)))]) (fun t k => XS.iload X13.here hx rfl (hb hby at_384) rfl k) ?_
    refine hG _ _ _ (mkF m 389 #[.val (.int i0), .val (.int i1), .val (.long q2), .second, .val (.int i4), .val (.int cc), .val (.int pa), .val (.ref a), .val (.int k8), .val (.int (1 : Int32)), .val (.int (i4 &&& (255 : Int32))), .val (.ref a10), .val (.int (i4 &&& (255 : Int32))), .unset] []) (fun t k => XS.icmpNo X13.here hx rfl (hb hby at_386) rfl (own_teq (lone.1 c5)).2 k) ?_
    refine hG _ _ _ (mkF m 390 #[.val (.int i0), .val (.int i1), .val (.long q2), .second, .val (.int i4), .val (.int cc), .val (.int pa), .val (.ref a), .val (.int k8), .val (.int (1 : Int32)), .val (.int (i4 &&& (255 : Int32))), .val (.ref a10), .val (.int (i4 &&& (255 : Int32))), .unset] [(.int (1 : Int32))]) (fun t k => XS.iconst X13.here hx rfl (hb hby at_389) k) ?_
    refine hG _ _ _ (mkF m 394 #[.val (.int i0), .val (.int i1), .val (.long q2), .second, .val (.int i4), .val (.int cc), .val (.int pa), .val (.ref a), .val (.int k8), .val (.int (1 : Int32)), .val (.int (i4 &&& (255 : Int32))), .val (.ref a10), .val (.int (i4 &&& (255 : Int32))), .unset] [(.int (1 : Int32))]) (fun t k => XS.goto X13.here hx rfl (pc0 := 390) (pc' := 394) rfl (hb hby at_390) (by decide) (by decide) k) ?_
    refine hG _ _ _ (mkF m 396 #[.val (.int i0), .val (.int i1), .val (.long q2), .second, .val (.int i4), .val (.int cc), .val (.int pa), .val (.ref a), .val (.int k8), .val (.int (1 : Int32)), .val (.int (i4 &&& (255 : Int32))), .val (.ref a10), .val (.int (i4 &&& (255 : Int32))), .val (.int (1 : Int32))] []) (fun t k => XS.istore X13.here hx rfl (hb hby at_394) rfl (l' := #[.val (.int i0), .val (.int i1), .val (.long q2), .second, .val (.int i4), .val (.int cc), .val (.int pa), .val (.ref a), .val (.int k8), .val (.int (1 : Int32)), .val (.int (i4 &&& (255 : Int32))), .val (.ref a10), .val (.int (i4 &&& (255 : Int32))), .val (.int (1 : Int32))]) rfl k) ?_
    refine hG _ _ _ (mkF m 398 #[.val (.int i0), .val (.int i1), .val (.long q2), .second, .val (.int i4), .val (.int cc), .val (.int pa), .val (.ref a), .val (.int k8), .val (.int (1 : Int32)), .val (.int (i4 &&& (255 : Int32))), .val (.ref a10), .val (.int (i4 &&& (255 : Int32))), .val (.int (1 : Int32))] [(.int (1 : Int32))]) (fun t k => XS.iload X13.here hx rfl (hb hby at_396) rfl k) ?_
    refine hG _ _ _ (mkF m 401 #[.val (.int i0), .val (.int i1), .val (.long q2), .second, .val (.int i4), .val (.int cc), .val (.int pa), .val (.ref a), .val (.int k8), .val (.int (1 : Int32)), .val (.int (i4 &&& (255 : Int32))), .val (.ref a10), .val (.int (i4 &&& (255 : Int32))), .val (.int (1 : Int32))] []) (fun t k => XS.ifNo X13.here hx rfl (hb hby at_398) rfl ((if0 _ _).trans (own_feq (by decide)).1) k) ?_
    refine hG _ _ _ (mkF m 403 #[.val (.int i0), .val (.int i1), .val (.long q2), .second, .val (.int i4), .val (.int cc), .val (.int pa), .val (.ref a), .val (.int k8), .val (.int (1 : Int32)), .val (.int (i4 &&& (255 : Int32))), .val (.ref a10), .val (.int (i4 &&& (255 : Int32))), .val (.int (1 : Int32))] [(.int (1 : Int32))]) (fun t k => XS.iload X13.here hx rfl (hb hby at_401) rfl k) ?_
    refine hG _ _ _ (mkF m 406 #[.val (.int i0), .val (.int i1), .val (.long q2), .second, .val (.int i4), .val (.int cc), .val (.int pa), .val (.ref a), .val (.int k8), .val (.int (1 : Int32)), .val (.int (i4 &&& (255 : Int32))), .val (.ref a10), .val (.int (i4 &&& (255 : Int32))), .val (.int (1 : Int32))] []) (fun t k => XS.ifNo X13.here hx rfl (hb hby at_403) rfl ((if0 _ _).trans (own_feq (by decide)).1) k) ?_
    refine hG _ _ _ (mkF m 407 #[.val (.int i0), .val (.int i1), .val (.long q2), .second, .val (.int i4), .val (.int cc), .val (.int pa), .val (.ref a), .val (.int k8), .val (.int (1 : Int32)), .val (.int (i4 &&& (255 : Int32))), .val (.ref a10), .val (.int (i4 &&& (255 : Int32))), .val (.int (1 : Int32))] [(.int (1 : Int32))]) (fun t k => XS.iconst X13.here hx rfl (hb hby at_406) k) ?_
    refine hG _ _ _ (mkF m 411 #[.val (.int i0), .val (.int i1), .val (.long q2), .second, .val (.int i4), .val (.int cc), .val (.int pa), .val (.ref a), .val (.int k8), .val (.int (1 : Int32)), .val (.int (i4 &&& (255 : Int32))), .val (.ref a10), .val (.int (i4 &&& (255 : Int32))), .val (.int (1 : Int32))] [(.int (1 : Int32))]) (fun t k => XS.goto X13.here hx rfl (pc0 := 407) (pc' := 411) rfl (hb hby at_407) (by decide) (by decide) k) ?_
    exact hR _ _ _ _ _ _ X13 N13 hk hn rfl (fun fs hr => retN X13 hx (t := .boolean) hret (by simp) (hb hby at_411) hr)
  · refine hG _ _ _ (mkF m 373 #[.val (.int i0), .val (.int i1), .val (.long q2), .second, .val (.int i4), .val (.int cc), .val (.int pa), .val (.ref a), .val (.int k8), .val (.int (1 : Int32)), .val (.int (i4 &&& (255 : Int32))), .val (.ref a10), .unset, .unset] []) (fun t k => XS.icmpYes X12.here hx rfl (pc0 := 365) (pc' := 373) rfl (hb hby at_365) rfl (own_flt c5).2.1 (by decide) (by decide) k) ?_
    refine hG _ _ _ (mkF m 375 #[.val (.int i0), .val (.int i1), .val (.long q2), .second, .val (.int i4), .val (.int cc), .val (.int pa), .val (.ref a), .val (.int k8), .val (.int (1 : Int32)), .val (.int (i4 &&& (255 : Int32))), .val (.ref a10), .unset, .unset] [(.int (65533 : Int32))]) (fun t k => X12.ldcInt hx (own := "com/example/querytrail/querytrail/Utf8CodePointPinLaw") (v := (65533 : Int32)) hown (mvT hZ (hw _ (List.mem_of_getElem? (i := 9) rfl))) (g := (mkF m 373 #[.val (.int i0), .val (.int i1), .val (.long q2), .second, .val (.int i4), .val (.int cc), .val (.int pa), .val (.ref a), .val (.int k8), .val (.int (1 : Int32)), .val (.int (i4 &&& (255 : Int32))), .val (.ref a10), .unset, .unset] [])) rfl (hb hby at_373) t k) ?_
    refine hG _ _ _ (mkF m 377 #[.val (.int i0), .val (.int i1), .val (.long q2), .second, .val (.int i4), .val (.int cc), .val (.int pa), .val (.ref a), .val (.int k8), .val (.int (1 : Int32)), .val (.int (i4 &&& (255 : Int32))), .val (.ref a10), .val (.int (65533 : Int32)), .unset] []) (fun t k => XS.istore X12.here hx rfl (hb hby at_375) rfl (l' := #[.val (.int i0), .val (.int i1), .val (.long q2), .second, .val (.int i4), .val (.int cc), .val (.int pa), .val (.ref a), .val (.int k8), .val (.int (1 : Int32)), .val (.int (i4 &&& (255 : Int32))), .val (.ref a10), .val (.int (65533 : Int32)), .unset]) rfl k) ?_
    refine hG _ _ _ (mkF m 379 #[.val (.int i0), .val (.int i1), .val (.long q2), .second, .val (.int i4), .val (.int cc), .val (.int pa), .val (.ref a), .val (.int k8), .val (.int (1 : Int32)), .val (.int (i4 &&& (255 : Int32))), .val (.ref a10), .val (.int (65533 : Int32)), .unset] [(.ref a10)]) (fun t k => XS.aload X12.here hx rfl (hb hby at_377) rfl rfl k) ?_
    refine hG _ _ _ (mkF m 380 #[.val (.int i0), .val (.int i1), .val (.long q2), .second, .val (.int i4), .val (.int cc), .val (.int pa), .val (.ref a), .val (.int k8), .val (.int (1 : Int32)), .val (.int (i4 &&& (255 : Int32))), .val (.ref a10), .val (.int (65533 : Int32)), .unset] [(.int (1 : Int32)), (.ref a10)]) (fun t k => XS.iconst X12.here hx rfl (hb hby at_379) k) ?_
    refine hG _ _ _ (mkF m 381 #[.val (.int i0), .val (.int i1), .val (.long q2), .second, .val (.int i4), .val (.int cc), .val (.int pa), .val (.ref a), .val (.int k8), .val (.int (1 : Int32)), .val (.int (i4 &&& (255 : Int32))), .val (.ref a10), .val (.int (65533 : Int32)), .unset] [(.int (1 : Int32)), (.int (1 : Int32)), (.ref a10)]) (fun t k => XS.iconst X12.here hx rfl (hb hby at_380) k) ?_
    obtain ⟨v13, T13, L13, X13, q13, st13⟩ := own_call X12 hx hZ rfl (argsL := [(.ref a10), (.int (1 : Int32)), (.int (1 : Int32))]) (rest := []) (W := 0) hown (hw _ (List.mem_of_getElem? (i := 3) rfl)) (hw _ (List.mem_of_getElem? (i := 4) rfl)) (hw _ (List.mem_of_getElem? (i := 5) rfl)) (hw _ (List.mem_of_getElem? (i := 6) rfl)) (by decide) (rm1 l Z a0 hw [] a10 (1 : Int32) (1 : Int32) 1 2 f12 T12.heap n0 Z12 V12 (by decide) (by decide) (by decide) (fun h => absurd rfl h) (fun h => absurd rfl h) (fun h => absurd rfl h)) (by decide) (by decide) (Ls := #[.val (.int i0), .val (.int i1), .val (.long q2), .second, .val (.int i4), .val (.int cc), .val (.int pa), .val (.ref a), .val (.int k8), .val (.int (1 : Int32)), .val (.int (i4 &&& (255 : Int32))), .val (.ref a10), .val (.int (65533 : Int32)), .unset]) (by rw [hml]; rfl) (lenOf pd_1 rfl) (by decide) (hb hby at_381) (by decide) (by decide)
    obtain ⟨w13, rfl, ⟨rfl, e13⟩, M13⟩ := q13
    have N13 := Fr.app N12 M13
    refine hG _ _ _ (mkF m 384 #[.val (.int i0), .val (.int i1), .val (.long q2), .second, .val (.int i4), .val (.int cc), .val (.int pa), .val (.ref a), .val (.int k8), .val (.int (1 : Int32)), .val (.int (i4 &&& (255 : Int32))), .val (.ref a10), .val (.int (65533 : Int32)), .unset] [(.int (own_cp f12 1 (1 : Int32)))]) (fun t k => st13 t k) ?_
    refine hG _ _ _ (mkF m 386 #[.val (.int i0), .val (.int i1), .val (.long q2), .second, .val (.int i4), .val (.int cc), .val (.int pa), .val (.ref a), .val (.int k8), .val (.int (1 : Int32)), .val (.int (i4 &&& (255 : Int32))), .val (.ref a10), .val (.int (65533 : Int32)), .unset] [(.int (65533 : Int32)), (.int (own_cp f12 1 (1 : Int32)))]) (fun t k => XS.iload X13.here hx rfl (hb hby at_384) rfl k) ?_
    refine hG _ _ _ (mkF m 389 #[.val (.int i0), .val (.int i1), .val (.long q2), .second, .val (.int i4), .val (.int cc), .val (.int pa), .val (.ref a), .val (.int k8), .val (.int (1 : Int32)), .val (.int (i4 &&& (255 : Int32))), .val (.ref a10), .val (.int (65533 : Int32)), .unset] []) (fun t k => XS.icmpNo X13.here hx rfl (hb hby at_386) rfl (own_teq (lone.2 c5)).2 k) ?_
    refine hG _ _ _ (mkF m 390 #[.val (.int i0), .val (.int i1), .val (.long q2), .second, .val (.int i4), .val (.int cc), .val (.int pa), .val (.ref a), .val (.int k8), .val (.int (1 : Int32)), .val (.int (i4 &&& (255 : Int32))), .val (.ref a10), .val (.int (65533 : Int32)), .unset] [(.int (1 : Int32))]) (fun t k => XS.iconst X13.here hx rfl (hb hby at_389) k) ?_
    refine hG _ _ _ (mkF m 394 #[.val (.int i0), .val (.int i1), .val (.long q2), .second, .val (.int i4), .val (.int cc), .val (.int pa), .val (.ref a), .val (.int k8), .val (.int (1 : Int32)), .val (.int (i4 &&& (255 : Int32))), .val (.ref a10), .val (.int (65533 : Int32)), .unset] [(.int (1 : Int32))]) (fun t k => XS.goto X13.here hx rfl (pc0 := 390) (pc' := 394) rfl (hb hby at_390) (by decide) (by decide) k) ?_
    refine hG _ _ _ (mkF m 396 #[.val (.int i0), .val (.int i1), .val (.long q2), .second, .val (.int i4), .val (.int cc), .val (.int pa), .val (.ref a), .val (.int k8), .val (.int (1 : Int32)), .val (.int (i4 &&& (255 : Int32))), .val (.ref a10), .val (.int (65533 : Int32)), .val (.int (1 : Int32))] []) (fun t k => XS.istore X13.here hx rfl (hb hby at_394) rfl (l' := #[.val (.int i0), .val (.int i1), .val (.long q2), .second, .val (.int i4), .val (.int cc), .val (.int pa), .val (.ref a), .val (.int k8), .val (.int (1 : Int32)), .val (.int (i4 &&& (255 : Int32))), .val (.ref a10), .val (.int (65533 : Int32)), .val (.int (1 : Int32))]) rfl k) ?_
    refine hG _ _ _ (mkF m 398 #[.val (.int i0), .val (.int i1), .val (.long q2), .second, .val (.int i4), .val (.int cc), .val (.int pa), .val (.ref a), .val (.int k8), .val (.int (1 : Int32)), .val (.int (i4 &&& (255 : Int32))), .val (.ref a10), .val (.int (65533 : Int32)), .val (.int (1 : Int32))] [(.int (1 : Int32))]) (fun t k => XS.iload X13.here hx rfl (hb hby at_396) rfl k) ?_
    refine hG _ _ _ (mkF m 401 #[.val (.int i0), .val (.int i1), .val (.long q2), .second, .val (.int i4), .val (.int cc), .val (.int pa), .val (.ref a), .val (.int k8), .val (.int (1 : Int32)), .val (.int (i4 &&& (255 : Int32))), .val (.ref a10), .val (.int (65533 : Int32)), .val (.int (1 : Int32))] []) (fun t k => XS.ifNo X13.here hx rfl (hb hby at_398) rfl ((if0 _ _).trans (own_feq (by decide)).1) k) ?_
    refine hG _ _ _ (mkF m 403 #[.val (.int i0), .val (.int i1), .val (.long q2), .second, .val (.int i4), .val (.int cc), .val (.int pa), .val (.ref a), .val (.int k8), .val (.int (1 : Int32)), .val (.int (i4 &&& (255 : Int32))), .val (.ref a10), .val (.int (65533 : Int32)), .val (.int (1 : Int32))] [(.int (1 : Int32))]) (fun t k => XS.iload X13.here hx rfl (hb hby at_401) rfl k) ?_
    refine hG _ _ _ (mkF m 406 #[.val (.int i0), .val (.int i1), .val (.long q2), .second, .val (.int i4), .val (.int cc), .val (.int pa), .val (.ref a), .val (.int k8), .val (.int (1 : Int32)), .val (.int (i4 &&& (255 : Int32))), .val (.ref a10), .val (.int (65533 : Int32)), .val (.int (1 : Int32))] []) (fun t k => XS.ifNo X13.here hx rfl (hb hby at_403) rfl ((if0 _ _).trans (own_feq (by decide)).1) k) ?_
    refine hG _ _ _ (mkF m 407 #[.val (.int i0), .val (.int i1), .val (.long q2), .second, .val (.int i4), .val (.int cc), .val (.int pa), .val (.ref a), .val (.int k8), .val (.int (1 : Int32)), .val (.int (i4 &&& (255 : Int32))), .val (.ref a10), .val (.int (65533 : Int32)), .val (.int (1 : Int32))] [(.int (1 : Int32))]) (fun t k => XS.iconst X13.here hx rfl (hb hby at_406) k) ?_
    refine hG _ _ _ (mkF m 411 #[.val (.int i0), .val (.int i1), .val (.long q2), .second, .val (.int i4), .val (.int cc), .val (.int pa), .val (.ref a), .val (.int k8), .val (.int (1 : Int32)), .val (.int (i4 &&& (255 : Int32))), .val (.ref a10), .val (.int (65533 : Int32)), .val (.int (1 : Int32))] [(.int (1 : Int32))]) (fun t k => XS.goto X13.here hx rfl (pc0 := 407) (pc' := 411) rfl (hb hby at_407) (by decide) (by decide) k) ?_
    exact hR _ _ _ _ _ _ X13 N13 hk hn rfl (fun fs hr => retN X13 hx (t := .boolean) hret (by simp) (hb hby at_411) hr)
theorem pn_rm0 : plainName "com/example/querytrail/querytrail/Utf8CodePointPinLaw" = true := by first | (simp [plainName, overriddenIn]; done) | decide +kernel
theorem ef_rm0 (m : MethodId) (x0 : Int32) (x1 : Int32) (x2 : Int64) (x3 : Int32) : entryFrame m #[(.int x0), (.int x1), (.long x2), (.int x3)] maxLocals = mkF m 0 #[.val (.int x0), .val (.int x1), .val (.long x2), .second, .val (.int x3), .unset, .unset, .unset, .unset, .unset, .unset, .unset, .unset, .unset] [] := by first | (simp [entryFrame, mkF, argsToLocals, Value.category, maxLocals]; done) | rfl
set_option maxRecDepth 65536 in
set_option maxHeartbeats 40000000 in
theorem rm0 (l : Launch) (Z : State) (a0 : Array Value) (hw : ∀ d ∈ tables_1, d.before a0 Z = true) (ws : List Jvm.Cond) (i0 i1 : Int32) (q2 : Int64) (i4 : Int32) (h0 : Heap) (n0 : Nat) (Z0 : n0 ≤ h0.size)  :
    MetFree l x (head1 (Jvm.Cond.code x code maxLocals ret :: ws) room_1) (fun a U => a = #[(.int i0), (.int i1), (.long q2), (.int i4)] ∧ Z.Warmed39 U.vm ∧ U.heap = h0) (fun _ _ _ _ _ => True) (fun _ U o U' => ∃ v L, o = .returned v ∧ own_q (fun w _ => w = .int 1) n0 v U'.heap L ∧ FrameEnd U o U' L 16 128) := by
  refine MetFree.of_bodySF (plainFor_of_name pn_rm0) hisR ?_
  intro p e s m args below meth c s₁ Bd hml0 hP hK
  obtain ⟨rfl, hZ, hh⟩ := hP
  have hx := Bd.exec
  have hby := Bd.bytes
  have hml : c.maxLocals = 14 := hml0
  have hown : s.vm.findClass "com/example/querytrail/querytrail/Utf8CodePointPinLaw" = some m.cls := findClass_of_methodNamed Bd.named
  have hret : meth.sig.returnType = some .boolean := Bd.returns
  have X0 : Stand p l e room_1 s m #[(.int i0), (.int i1), (.long q2), (.int i4)] below meth c s₁ [] 0 0 := Stand.of_body Bd
  have e0 : s₁.heap = h0 := by rw [← hh, Bd.state]; rfl
  have N0 := Fr.nil n0
  rw [ef_rm0 m i0 i1 q2 i4]
  refine own_end (p := p) (l := l) (e := e) (R := room_1) (s := s) (m := m) (args := #[(.int i0), (.int i1), (.long q2), (.int i4)]) (below := below) (meth := meth) (c := c) (n0 := n0) (K := 16) (S := 128) (Q := (fun w _ => w = .int 1)) hret Bd.notSynchronized (fun G hG hR => ?_)
  refine hG _ _ _ (mkF m 1 #[.val (.int i0), .val (.int i1), .val (.long q2), .second, .val (.int i4), .unset, .unset, .unset, .unset, .unset, .unset, .unset, .unset, .unset] [(.int i0)]) (fun t k => XS.iloadN X0.here hx rfl (hb hby at_0) rfl k) ?_
  refine hG _ _ _ (mkF m 3 #[.val (.int i0), .val (.int i1), .val (.long q2), .second, .val (.int i4), .unset, .unset, .unset, .unset, .unset, .unset, .unset, .unset, .unset] [(.int (2147483647 : Int32)), (.int i0)]) (fun t k => X0.ldcInt hx (own := "com/example/querytrail/querytrail/Utf8CodePointPinLaw") (v := (2147483647 : Int32)) hown (mvT hZ (hw _ (List.mem_of_getElem? (i := 0) rfl))) (g := (mkF m 1 #[.val (.int i0), .val (.int i1), .val (.long q2), .second, .val (.int i4), .unset, .unset, .unset, .unset, .unset, .unset, .unset, .unset, .unset] [(.int i0)])) rfl (hb hby at_1) t k) ?_
  refine hG _ _ _ (mkF m 4 #[.val (.int i0), .val (.int i1), .val (.long q2), .second, .val (.int i4), .unset, .unset, .unset, .unset, .unset, .unset, .unset, .unset, .unset] [(.int (i0 &&& (2147483647 : Int32)))]) (fun t k => XS.iand X0.here hx rfl (hb hby at_3) rfl k) ?_
  refine hG _ _ _ (mkF m 6 #[.val (.int i0), .val (.int i1), .val (.long q2), .second, .val (.int i4), .unset, .unset, .unset, .unset, .unset, .unset, .unset, .unset, .unset] [(.int (1114112 : Int32)), (.int (i0 &&& (2147483647 : Int32)))]) (fun t k => X0.ldcInt hx (own := "com/example/querytrail/querytrail/Utf8CodePointPinLaw") (v := (1114112 : Int32)) hown (mvT hZ (hw _ (List.mem_of_getElem? (i := 1) rfl))) (g := (mkF m 4 #[.val (.int i0), .val (.int i1), .val (.long q2), .second, .val (.int i4), .unset, .unset, .unset, .unset, .unset, .unset, .unset, .unset, .unset] [(.int (i0 &&& (2147483647 : Int32)))])) rfl (hb hby at_4) t k) ?_
  refine hG _ _ _ (mkF m 7 #[.val (.int i0), .val (.int i1), .val (.long q2), .second, .val (.int i4), .unset, .unset, .unset, .unset, .unset, .unset, .unset, .unset, .unset] [(.int ((i0 &&& (2147483647 : Int32)) - ((i0 &&& (2147483647 : Int32)) / (1114112 : Int32)) * (1114112 : Int32)))]) (fun t k => XS.irem X0.here hx rfl (hb hby at_6) rfl (by decide) k) ?_
  obtain ⟨cc, ecc, hc0, hc1⟩ := own_cc i0
  rw [ecc]
  refine hG _ _ _ (mkF m 9 #[.val (.int i0), .val (.int i1), .val (.long q2), .second, .val (.int i4), .val (.int cc), .unset, .unset, .unset, .unset, .unset, .unset, .unset, .unset] []) (fun t k => XS.istore X0.here hx rfl (hb hby at_7) rfl (l' := #[.val (.int i0), .val (.int i1), .val (.long q2), .second, .val (.int i4), .val (.int cc), .unset, .unset, .unset, .unset, .unset, .unset, .unset, .unset]) rfl k) ?_
  refine hG _ _ _ (mkF m 10 #[.val (.int i0), .val (.int i1), .val (.long q2), .second, .val (.int i4), .val (.int cc), .unset, .unset, .unset, .unset, .unset, .unset, .unset, .unset] [(.int i1)]) (fun t k => XS.iloadN X0.here hx rfl (hb hby at_9) rfl k) ?_
  refine hG _ _ _ (mkF m 11 #[.val (.int i0), .val (.int i1), .val (.long q2), .second, .val (.int i4), .val (.int cc), .unset, .unset, .unset, .unset, .unset, .unset, .unset, .unset] [(.int (3 : Int32)), (.int i1)]) (fun t k => XS.iconst X0.here hx rfl (hb hby at_10) k) ?_
  refine hG _ _ _ (mkF m 12 #[.val (.int i0), .val (.int i1), .val (.long q2), .second, .val (.int i4), .val (.int cc), .unset, .unset, .unset, .unset, .unset, .unset, .unset, .unset] [(.int (i1 &&& (3 : Int32)))]) (fun t k => XS.iand X0.here hx rfl (hb hby at_11) rfl k) ?_
  obtain ⟨pa, A, ep, hp, hA⟩ := own_at i1
  rw [ep]
  refine hG _ _ _ (mkF m 14 #[.val (.int i0), .val (.int i1), .val (.long q2), .second, .val (.int i4), .val (.int cc), .val (.int pa), .unset, .unset, .unset, .unset, .unset, .unset, .unset] []) (fun t k => XS.istore X0.here hx rfl (hb hby at_12) rfl (l' := #[.val (.int i0), .val (.int i1), .val (.long q2), .second, .val (.int i4), .val (.int cc), .val (.int pa), .unset, .unset, .unset, .unset, .unset, .unset, .unset]) rfl k) ?_
  refine hG _ _ _ (mkF m 16 #[.val (.int i0), .val (.int i1), .val (.long q2), .second, .val (.int i4), .val (.int cc), .val (.int pa), .unset, .unset, .unset, .unset, .unset, .unset, .unset] [(.int (8 : Int32))]) (fun t k => XS.bipush X0.here hx rfl (hb hby at_14) k) ?_
  obtain ⟨T1, a1, X1, V1, g1, st1⟩ := own_mk X0 hx hZ (hw _ (List.mem_of_getElem? (i := 2) rfl)) e0 (hb hby at_16) (z := (8 : Int32)) (n := 8) (by decide) (by decide) (by decide) (by decide) #[.val (.int i0), .val (.int i1), .val (.long q2), .second, .val (.int i4), .val (.int cc), .val (.int pa), .unset, .unset, .unset, .unset, .unset, .unset, .unset] []
  refine hG _ _ _ (mkF m 18 #[.val (.int i0), .val (.int i1), .val (.long q2), .second, .val (.int i4), .val (.int cc), .val (.int pa), .unset, .unset, .unset, .unset, .unset, .unset, .unset] [(.ref a1)]) (fun t k => st1 t k) ?_
  have ga : n0 ≤ a1 := Nat.le_trans Z0 g1
  refine hG _ _ _ (mkF m 20 #[.val (.int i0), .val (.int i1), .val (.long q2), .second, .val (.int i4), .val (.int cc), .val (.int pa), .val (.ref a1), .unset, .unset, .unset, .unset, .unset, .unset] []) (fun t k => XS.astore X1.here hx rfl (hb hby at_18) rfl rfl (l' := #[.val (.int i0), .val (.int i1), .val (.long q2), .second, .val (.int i4), .val (.int cc), .val (.int pa), .val (.ref a1), .unset, .unset, .unset, .unset, .unset, .unset]) rfl k) ?_
  refine hG _ _ _ (mkF m 22 #[.val (.int i0), .val (.int i1), .val (.long q2), .second, .val (.int i4), .val (.int cc), .val (.int pa), .val (.ref a1), .unset, .unset, .unset, .unset, .unset, .unset] [(.ref a1)]) (fun t k => XS.aload X1.here hx rfl (hb hby at_20) rfl rfl k) ?_
  refine hG _ _ _ (mkF m 23 #[.val (.int i0), .val (.int i1), .val (.long q2), .second, .val (.int i4), .val (.int cc), .val (.int pa), .val (.ref a1), .unset, .unset, .unset, .unset, .unset, .unset] [(.int (0 : Int32)), (.ref a1)]) (fun t k => XS.iconst X1.here hx rfl (hb hby at_22) k) ?_
  refine hG _ _ _ (mkF m 24 #[.val (.int i0), .val (.int i1), .val (.long q2), .second, .val (.int i4), .val (.int cc), .val (.int pa), .val (.ref a1), .unset, .unset, .unset, .unset, .unset, .unset] [(.long q2), (.int (0 : Int32)), (.ref a1)]) (fun t k => XS.lloadN X1.here hx rfl (hb hby at_23) rfl k) ?_
  refine hG _ _ _ (mkF m 25 #[.val (.int i0), .val (.int i1), .val (.long q2), .second, .val (.int i4), .val (.int cc), .val (.int pa), .val (.ref a1), .unset, .unset, .unset, .unset, .unset, .unset] [(.int (q2.toInt32)), (.int (0 : Int32)), (.ref a1)]) (fun t k => XS.l2i X1.here hx rfl (hb hby at_24) rfl k) ?_
  refine hG _ _ _ (mkF m 26 #[.val (.int i0), .val (.int i1), .val (.long q2), .second, .val (.int i4), .val (.int cc), .val (.int pa), .val (.ref a1), .unset, .unset, .unset, .unset, .unset, .unset] [(.int ((q2.toInt32).toInt8.toInt32)), (.int (0 : Int32)), (.ref a1)]) (fun t k => XS.i2b X1.here hx rfl (hb hby at_25) rfl k) ?_
  obtain ⟨T2, L2, f2, X2, N2, V2, u2, r2, st2⟩ := own_sto X1 hx hZ rfl V1 (j := (0 : Int32)) (x := ((q2.toInt32).toInt8.toInt32)) (i := 0) (by decide) (by decide) (hb hby at_26) N0 ga
  refine hG _ _ _ (mkF m 27 #[.val (.int i0), .val (.int i1), .val (.long q2), .second, .val (.int i4), .val (.int cc), .val (.int pa), .val (.ref a1), .unset, .unset, .unset, .unset, .unset, .unset] []) (fun t k => st2 _ _ t k) ?_
  refine hG _ _ _ (mkF m 29 #[.val (.int i0), .val (.int i1), .val (.long q2), .second, .val (.int i4), .val (.int cc), .val (.int pa), .val (.ref a1), .unset, .unset, .unset, .unset, .unset, .unset] [(.ref a1)]) (fun t k => XS.aload X2.here hx rfl (hb hby at_27) rfl rfl k) ?_
  refine hG _ _ _ (mkF m 30 #[.val (.int i0), .val (.int i1), .val (.long q2), .second, .val (.int i4), .val (.int cc), .val (.int pa), .val (.ref a1), .unset, .unset, .unset, .unset, .unset, .unset] [(.int (1 : Int32)), (.ref a1)]) (fun t k => XS.iconst X2.here hx rfl (hb hby at_29) k) ?_
  refine hG _ _ _ (mkF m 31 #[.val (.int i0), .val (.int i1), .val (.long q2), .second, .val (.int i4), .val (.int cc), .val (.int pa), .val (.ref a1), .unset, .unset, .unset, .unset, .unset, .unset] [(.long q2), (.int (1 : Int32)), (.ref a1)]) (fun t k => XS.lloadN X2.here hx rfl (hb hby at_30) rfl k) ?_
  refine hG _ _ _ (mkF m 33 #[.val (.int i0), .val (.int i1), .val (.long q2), .second, .val (.int i4), .val (.int cc), .val (.int pa), .val (.ref a1), .unset, .unset, .unset, .unset, .unset, .unset] [(.int (8 : Int32)), (.long q2), (.int (1 : Int32)), (.ref a1)]) (fun t k => XS.bipush X2.here hx rfl (hb hby at_31) k) ?_
  refine hG _ _ _ (mkF m 34 #[.val (.int i0), .val (.int i1), .val (.long q2), .second, .val (.int i4), .val (.int cc), .val (.int pa), .val (.ref a1), .unset, .unset, .unset, .unset, .unset, .unset] [(.long ((q2.toUInt64 >>> ((8 : Int32) &&& 0x3f).toInt64.toUInt64).toInt64)), (.int (1 : Int32)), (.ref a1)]) (fun t k => XS.lushr X2.here hx rfl (hb hby at_33) rfl k) ?_
  refine hG _ _ _ (mkF m 35 #[.val (.int i0), .val (.int i1), .val (.long q2), .second, .val (.int i4), .val (.int cc), .val (.int pa), .val (.ref a1), .unset, .unset, .unset, .unset, .unset, .unset] [(.int (((q2.toUInt64 >>> ((8 : Int32) &&& 0x3f).toInt64.toUInt64).toInt64).toInt32)), (.int (1 : Int32)), (.ref a1)]) (fun t k => XS.l2i X2.here hx rfl (hb hby at_34) rfl k) ?_
  refine hG _ _ _ (mkF m 36 #[.val (.int i0), .val (.int i1), .val (.long q2), .second, .val (.int i4), .val (.int cc), .val (.int pa), .val (.ref a1), .unset, .unset, .unset, .unset, .unset, .unset] [(.int ((((q2.toUInt64 >>> ((8 : Int32) &&& 0x3f).toInt64.toUInt64).toInt64).toInt32).toInt8.toInt32)), (.int (1 : Int32)), (.ref a1)]) (fun t k => XS.i2b X2.here hx rfl (hb hby at_35) rfl k) ?_
  obtain ⟨T3, L3, f3, X3, N3, V3, u3, r3, st3⟩ := own_sto X2 hx hZ rfl V2 (j := (1 : Int32)) (x := ((((q2.toUInt64 >>> ((8 : Int32) &&& 0x3f).toInt64.toUInt64).toInt64).toInt32).toInt8.toInt32)) (i := 1) (by decide) (by decide) (hb hby at_36) N2 ga
  refine hG _ _ _ (mkF m 37 #[.val (.int i0), .val (.int i1), .val (.long q2), .second, .val (.int i4), .val (.int cc), .val (.int pa), .val (.ref a1), .unset, .unset, .unset, .unset, .unset, .unset] []) (fun t k => st3 _ _ t k) ?_
  refine hG _ _ _ (mkF m 39 #[.val (.int i0), .val (.int i1), .val (.long q2), .second, .val (.int i4), .val (.int cc), .val (.int pa), .val (.ref a1), .unset, .unset, .unset, .unset, .unset, .unset] [(.ref a1)]) (fun t k => XS.aload X3.here hx rfl (hb hby at_37) rfl rfl k) ?_
  refine hG _ _ _ (mkF m 40 #[.val (.int i0), .val (.int i1), .val (.long q2), .second, .val (.int i4), .val (.int cc), .val (.int pa), .val (.ref a1), .unset, .unset, .unset, .unset, .unset, .unset] [(.int (2 : Int32)), (.ref a1)]) (fun t k => XS.iconst X3.here hx rfl (hb hby at_39) k) ?_
  refine hG _ _ _ (mkF m 41 #[.val (.int i0), .val (.int i1), .val (.long q2), .second, .val (.int i4), .val (.int cc), .val (.int pa), .val (.ref a1), .unset, .unset, .unset, .unset, .unset, .unset] [(.long q2), (.int (2 : Int32)), (.ref a1)]) (fun t k => XS.lloadN X3.here hx rfl (hb hby at_40) rfl k) ?_
  refine hG _ _ _ (mkF m 43 #[.val (.int i0), .val (.int i1), .val (.long q2), .second, .val (.int i4), .val (.int cc), .val (.int pa), .val (.ref a1), .unset, .unset, .unset, .unset, .unset, .unset] [(.int (16 : Int32)), (.long q2), (.int (2 : Int32)), (.ref a1)]) (fun t k => XS.bipush X3.here hx rfl (hb hby at_41) k) ?_
  refine hG _ _ _ (mkF m 44 #[.val (.int i0), .val (.int i1), .val (.long q2), .second, .val (.int i4), .val (.int cc), .val (.int pa), .val (.ref a1), .unset, .unset, .unset, .unset, .unset, .unset] [(.long ((q2.toUInt64 >>> ((16 : Int32) &&& 0x3f).toInt64.toUInt64).toInt64)), (.int (2 : Int32)), (.ref a1)]) (fun t k => XS.lushr X3.here hx rfl (hb hby at_43) rfl k) ?_
  refine hG _ _ _ (mkF m 45 #[.val (.int i0), .val (.int i1), .val (.long q2), .second, .val (.int i4), .val (.int cc), .val (.int pa), .val (.ref a1), .unset, .unset, .unset, .unset, .unset, .unset] [(.int (((q2.toUInt64 >>> ((16 : Int32) &&& 0x3f).toInt64.toUInt64).toInt64).toInt32)), (.int (2 : Int32)), (.ref a1)]) (fun t k => XS.l2i X3.here hx rfl (hb hby at_44) rfl k) ?_
  refine hG _ _ _ (mkF m 46 #[.val (.int i0), .val (.int i1), .val (.long q2), .second, .val (.int i4), .val (.int cc), .val (.int pa), .val (.ref a1), .unset, .unset, .unset, .unset, .unset, .unset] [(.int ((((q2.toUInt64 >>> ((16 : Int32) &&& 0x3f).toInt64.toUInt64).toInt64).toInt32).toInt8.toInt32)), (.int (2 : Int32)), (.ref a1)]) (fun t k => XS.i2b X3.here hx rfl (hb hby at_45) rfl k) ?_
  obtain ⟨T4, L4, f4, X4, N4, V4, u4, r4, st4⟩ := own_sto X3 hx hZ rfl V3 (j := (2 : Int32)) (x := ((((q2.toUInt64 >>> ((16 : Int32) &&& 0x3f).toInt64.toUInt64).toInt64).toInt32).toInt8.toInt32)) (i := 2) (by decide) (by decide) (hb hby at_46) N3 ga
  refine hG _ _ _ (mkF m 47 #[.val (.int i0), .val (.int i1), .val (.long q2), .second, .val (.int i4), .val (.int cc), .val (.int pa), .val (.ref a1), .unset, .unset, .unset, .unset, .unset, .unset] []) (fun t k => st4 _ _ t k) ?_
  refine hG _ _ _ (mkF m 49 #[.val (.int i0), .val (.int i1), .val (.long q2), .second, .val (.int i4), .val (.int cc), .val (.int pa), .val (.ref a1), .unset, .unset, .unset, .unset, .unset, .unset] [(.ref a1)]) (fun t k => XS.aload X4.here hx rfl (hb hby at_47) rfl rfl k) ?_
  refine hG _ _ _ (mkF m 50 #[.val (.int i0), .val (.int i1), .val (.long q2), .second, .val (.int i4), .val (.int cc), .val (.int pa), .val (.ref a1), .unset, .unset, .unset, .unset, .unset, .unset] [(.int (3 : Int32)), (.ref a1)]) (fun t k => XS.iconst X4.here hx rfl (hb hby at_49) k) ?_
  refine hG _ _ _ (mkF m 51 #[.val (.int i0), .val (.int i1), .val (.long q2), .second, .val (.int i4), .val (.int cc), .val (.int pa), .val (.ref a1), .unset, .unset, .unset, .unset, .unset, .unset] [(.long q2), (.int (3 : Int32)), (.ref a1)]) (fun t k => XS.lloadN X4.here hx rfl (hb hby at_50) rfl k) ?_
  refine hG _ _ _ (mkF m 53 #[.val (.int i0), .val (.int i1), .val (.long q2), .second, .val (.int i4), .val (.int cc), .val (.int pa), .val (.ref a1), .unset, .unset, .unset, .unset, .unset, .unset] [(.int (24 : Int32)), (.long q2), (.int (3 : Int32)), (.ref a1)]) (fun t k => XS.bipush X4.here hx rfl (hb hby at_51) k) ?_
  refine hG _ _ _ (mkF m 54 #[.val (.int i0), .val (.int i1), .val (.long q2), .second, .val (.int i4), .val (.int cc), .val (.int pa), .val (.ref a1), .unset, .unset, .unset, .unset, .unset, .unset] [(.long ((q2.toUInt64 >>> ((24 : Int32) &&& 0x3f).toInt64.toUInt64).toInt64)), (.int (3 : Int32)), (.ref a1)]) (fun t k => XS.lushr X4.here hx rfl (hb hby at_53) rfl k) ?_
  refine hG _ _ _ (mkF m 55 #[.val (.int i0), .val (.int i1), .val (.long q2), .second, .val (.int i4), .val (.int cc), .val (.int pa), .val (.ref a1), .unset, .unset, .unset, .unset, .unset, .unset] [(.int (((q2.toUInt64 >>> ((24 : Int32) &&& 0x3f).toInt64.toUInt64).toInt64).toInt32)), (.int (3 : Int32)), (.ref a1)]) (fun t k => XS.l2i X4.here hx rfl (hb hby at_54) rfl k) ?_
  refine hG _ _ _ (mkF m 56 #[.val (.int i0), .val (.int i1), .val (.long q2), .second, .val (.int i4), .val (.int cc), .val (.int pa), .val (.ref a1), .unset, .unset, .unset, .unset, .unset, .unset] [(.int ((((q2.toUInt64 >>> ((24 : Int32) &&& 0x3f).toInt64.toUInt64).toInt64).toInt32).toInt8.toInt32)), (.int (3 : Int32)), (.ref a1)]) (fun t k => XS.i2b X4.here hx rfl (hb hby at_55) rfl k) ?_
  obtain ⟨T5, L5, f5, X5, N5, V5, u5, r5, st5⟩ := own_sto X4 hx hZ rfl V4 (j := (3 : Int32)) (x := ((((q2.toUInt64 >>> ((24 : Int32) &&& 0x3f).toInt64.toUInt64).toInt64).toInt32).toInt8.toInt32)) (i := 3) (by decide) (by decide) (hb hby at_56) N4 ga
  refine hG _ _ _ (mkF m 57 #[.val (.int i0), .val (.int i1), .val (.long q2), .second, .val (.int i4), .val (.int cc), .val (.int pa), .val (.ref a1), .unset, .unset, .unset, .unset, .unset, .unset] []) (fun t k => st5 _ _ t k) ?_
  refine hG _ _ _ (mkF m 59 #[.val (.int i0), .val (.int i1), .val (.long q2), .second, .val (.int i4), .val (.int cc), .val (.int pa), .val (.ref a1), .unset, .unset, .unset, .unset, .unset, .unset] [(.ref a1)]) (fun t k => XS.aload X5.here hx rfl (hb hby at_57) rfl rfl k) ?_
  refine hG _ _ _ (mkF m 60 #[.val (.int i0), .val (.int i1), .val (.long q2), .second, .val (.int i4), .val (.int cc), .val (.int pa), .val (.ref a1), .unset, .unset, .unset, .unset, .unset, .unset] [(.int (4 : Int32)), (.ref a1)]) (fun t k => XS.iconst X5.here hx rfl (hb hby at_59) k) ?_
  refine hG _ _ _ (mkF m 61 #[.val (.int i0), .val (.int i1), .val (.long q2), .second, .val (.int i4), .val (.int cc), .val (.int pa), .val (.ref a1), .unset, .unset, .unset, .unset, .unset, .unset] [(.long q2), (.int (4 : Int32)), (.ref a1)]) (fun t k => XS.lloadN X5.here hx rfl (hb hby at_60) rfl k) ?_
  refine hG _ _ _ (mkF m 63 #[.val (.int i0), .val (.int i1), .val (.long q2), .second, .val (.int i4), .val (.int cc), .val (.int pa), .val (.ref a1), .unset, .unset, .unset, .unset, .unset, .unset] [(.int (32 : Int32)), (.long q2), (.int (4 : Int32)), (.ref a1)]) (fun t k => XS.bipush X5.here hx rfl (hb hby at_61) k) ?_
  refine hG _ _ _ (mkF m 64 #[.val (.int i0), .val (.int i1), .val (.long q2), .second, .val (.int i4), .val (.int cc), .val (.int pa), .val (.ref a1), .unset, .unset, .unset, .unset, .unset, .unset] [(.long ((q2.toUInt64 >>> ((32 : Int32) &&& 0x3f).toInt64.toUInt64).toInt64)), (.int (4 : Int32)), (.ref a1)]) (fun t k => XS.lushr X5.here hx rfl (hb hby at_63) rfl k) ?_
  refine hG _ _ _ (mkF m 65 #[.val (.int i0), .val (.int i1), .val (.long q2), .second, .val (.int i4), .val (.int cc), .val (.int pa), .val (.ref a1), .unset, .unset, .unset, .unset, .unset, .unset] [(.int (((q2.toUInt64 >>> ((32 : Int32) &&& 0x3f).toInt64.toUInt64).toInt64).toInt32)), (.int (4 : Int32)), (.ref a1)]) (fun t k => XS.l2i X5.here hx rfl (hb hby at_64) rfl k) ?_
  refine hG _ _ _ (mkF m 66 #[.val (.int i0), .val (.int i1), .val (.long q2), .second, .val (.int i4), .val (.int cc), .val (.int pa), .val (.ref a1), .unset, .unset, .unset, .unset, .unset, .unset] [(.int ((((q2.toUInt64 >>> ((32 : Int32) &&& 0x3f).toInt64.toUInt64).toInt64).toInt32).toInt8.toInt32)), (.int (4 : Int32)), (.ref a1)]) (fun t k => XS.i2b X5.here hx rfl (hb hby at_65) rfl k) ?_
  obtain ⟨T6, L6, f6, X6, N6, V6, u6, r6, st6⟩ := own_sto X5 hx hZ rfl V5 (j := (4 : Int32)) (x := ((((q2.toUInt64 >>> ((32 : Int32) &&& 0x3f).toInt64.toUInt64).toInt64).toInt32).toInt8.toInt32)) (i := 4) (by decide) (by decide) (hb hby at_66) N5 ga
  refine hG _ _ _ (mkF m 67 #[.val (.int i0), .val (.int i1), .val (.long q2), .second, .val (.int i4), .val (.int cc), .val (.int pa), .val (.ref a1), .unset, .unset, .unset, .unset, .unset, .unset] []) (fun t k => st6 _ _ t k) ?_
  refine hG _ _ _ (mkF m 69 #[.val (.int i0), .val (.int i1), .val (.long q2), .second, .val (.int i4), .val (.int cc), .val (.int pa), .val (.ref a1), .unset, .unset, .unset, .unset, .unset, .unset] [(.ref a1)]) (fun t k => XS.aload X6.here hx rfl (hb hby at_67) rfl rfl k) ?_
  refine hG _ _ _ (mkF m 70 #[.val (.int i0), .val (.int i1), .val (.long q2), .second, .val (.int i4), .val (.int cc), .val (.int pa), .val (.ref a1), .unset, .unset, .unset, .unset, .unset, .unset] [(.int (5 : Int32)), (.ref a1)]) (fun t k => XS.iconst X6.here hx rfl (hb hby at_69) k) ?_
  refine hG _ _ _ (mkF m 71 #[.val (.int i0), .val (.int i1), .val (.long q2), .second, .val (.int i4), .val (.int cc), .val (.int pa), .val (.ref a1), .unset, .unset, .unset, .unset, .unset, .unset] [(.long q2), (.int (5 : Int32)), (.ref a1)]) (fun t k => XS.lloadN X6.here hx rfl (hb hby at_70) rfl k) ?_
  refine hG _ _ _ (mkF m 73 #[.val (.int i0), .val (.int i1), .val (.long q2), .second, .val (.int i4), .val (.int cc), .val (.int pa), .val (.ref a1), .unset, .unset, .unset, .unset, .unset, .unset] [(.int (40 : Int32)), (.long q2), (.int (5 : Int32)), (.ref a1)]) (fun t k => XS.bipush X6.here hx rfl (hb hby at_71) k) ?_
  refine hG _ _ _ (mkF m 74 #[.val (.int i0), .val (.int i1), .val (.long q2), .second, .val (.int i4), .val (.int cc), .val (.int pa), .val (.ref a1), .unset, .unset, .unset, .unset, .unset, .unset] [(.long ((q2.toUInt64 >>> ((40 : Int32) &&& 0x3f).toInt64.toUInt64).toInt64)), (.int (5 : Int32)), (.ref a1)]) (fun t k => XS.lushr X6.here hx rfl (hb hby at_73) rfl k) ?_
  refine hG _ _ _ (mkF m 75 #[.val (.int i0), .val (.int i1), .val (.long q2), .second, .val (.int i4), .val (.int cc), .val (.int pa), .val (.ref a1), .unset, .unset, .unset, .unset, .unset, .unset] [(.int (((q2.toUInt64 >>> ((40 : Int32) &&& 0x3f).toInt64.toUInt64).toInt64).toInt32)), (.int (5 : Int32)), (.ref a1)]) (fun t k => XS.l2i X6.here hx rfl (hb hby at_74) rfl k) ?_
  refine hG _ _ _ (mkF m 76 #[.val (.int i0), .val (.int i1), .val (.long q2), .second, .val (.int i4), .val (.int cc), .val (.int pa), .val (.ref a1), .unset, .unset, .unset, .unset, .unset, .unset] [(.int ((((q2.toUInt64 >>> ((40 : Int32) &&& 0x3f).toInt64.toUInt64).toInt64).toInt32).toInt8.toInt32)), (.int (5 : Int32)), (.ref a1)]) (fun t k => XS.i2b X6.here hx rfl (hb hby at_75) rfl k) ?_
  obtain ⟨T7, L7, f7, X7, N7, V7, u7, r7, st7⟩ := own_sto X6 hx hZ rfl V6 (j := (5 : Int32)) (x := ((((q2.toUInt64 >>> ((40 : Int32) &&& 0x3f).toInt64.toUInt64).toInt64).toInt32).toInt8.toInt32)) (i := 5) (by decide) (by decide) (hb hby at_76) N6 ga
  refine hG _ _ _ (mkF m 77 #[.val (.int i0), .val (.int i1), .val (.long q2), .second, .val (.int i4), .val (.int cc), .val (.int pa), .val (.ref a1), .unset, .unset, .unset, .unset, .unset, .unset] []) (fun t k => st7 _ _ t k) ?_
  refine hG _ _ _ (mkF m 79 #[.val (.int i0), .val (.int i1), .val (.long q2), .second, .val (.int i4), .val (.int cc), .val (.int pa), .val (.ref a1), .unset, .unset, .unset, .unset, .unset, .unset] [(.ref a1)]) (fun t k => XS.aload X7.here hx rfl (hb hby at_77) rfl rfl k) ?_
  refine hG _ _ _ (mkF m 81 #[.val (.int i0), .val (.int i1), .val (.long q2), .second, .val (.int i4), .val (.int cc), .val (.int pa), .val (.ref a1), .unset, .unset, .unset, .unset, .unset, .unset] [(.int (6 : Int32)), (.ref a1)]) (fun t k => XS.bipush X7.here hx rfl (hb hby at_79) k) ?_
  refine hG _ _ _ (mkF m 82 #[.val (.int i0), .val (.int i1), .val (.long q2), .second, .val (.int i4), .val (.int cc), .val (.int pa), .val (.ref a1), .unset, .unset, .unset, .unset, .unset, .unset] [(.long q2), (.int (6 : Int32)), (.ref a1)]) (fun t k => XS.lloadN X7.here hx rfl (hb hby at_81) rfl k) ?_
  refine hG _ _ _ (mkF m 84 #[.val (.int i0), .val (.int i1), .val (.long q2), .second, .val (.int i4), .val (.int cc), .val (.int pa), .val (.ref a1), .unset, .unset, .unset, .unset, .unset, .unset] [(.int (48 : Int32)), (.long q2), (.int (6 : Int32)), (.ref a1)]) (fun t k => XS.bipush X7.here hx rfl (hb hby at_82) k) ?_
  refine hG _ _ _ (mkF m 85 #[.val (.int i0), .val (.int i1), .val (.long q2), .second, .val (.int i4), .val (.int cc), .val (.int pa), .val (.ref a1), .unset, .unset, .unset, .unset, .unset, .unset] [(.long ((q2.toUInt64 >>> ((48 : Int32) &&& 0x3f).toInt64.toUInt64).toInt64)), (.int (6 : Int32)), (.ref a1)]) (fun t k => XS.lushr X7.here hx rfl (hb hby at_84) rfl k) ?_
  refine hG _ _ _ (mkF m 86 #[.val (.int i0), .val (.int i1), .val (.long q2), .second, .val (.int i4), .val (.int cc), .val (.int pa), .val (.ref a1), .unset, .unset, .unset, .unset, .unset, .unset] [(.int (((q2.toUInt64 >>> ((48 : Int32) &&& 0x3f).toInt64.toUInt64).toInt64).toInt32)), (.int (6 : Int32)), (.ref a1)]) (fun t k => XS.l2i X7.here hx rfl (hb hby at_85) rfl k) ?_
  refine hG _ _ _ (mkF m 87 #[.val (.int i0), .val (.int i1), .val (.long q2), .second, .val (.int i4), .val (.int cc), .val (.int pa), .val (.ref a1), .unset, .unset, .unset, .unset, .unset, .unset] [(.int ((((q2.toUInt64 >>> ((48 : Int32) &&& 0x3f).toInt64.toUInt64).toInt64).toInt32).toInt8.toInt32)), (.int (6 : Int32)), (.ref a1)]) (fun t k => XS.i2b X7.here hx rfl (hb hby at_86) rfl k) ?_
  obtain ⟨T8, L8, f8, X8, N8, V8, u8, r8, st8⟩ := own_sto X7 hx hZ rfl V7 (j := (6 : Int32)) (x := ((((q2.toUInt64 >>> ((48 : Int32) &&& 0x3f).toInt64.toUInt64).toInt64).toInt32).toInt8.toInt32)) (i := 6) (by decide) (by decide) (hb hby at_87) N7 ga
  refine hG _ _ _ (mkF m 88 #[.val (.int i0), .val (.int i1), .val (.long q2), .second, .val (.int i4), .val (.int cc), .val (.int pa), .val (.ref a1), .unset, .unset, .unset, .unset, .unset, .unset] []) (fun t k => st8 _ _ t k) ?_
  refine hG _ _ _ (mkF m 90 #[.val (.int i0), .val (.int i1), .val (.long q2), .second, .val (.int i4), .val (.int cc), .val (.int pa), .val (.ref a1), .unset, .unset, .unset, .unset, .unset, .unset] [(.ref a1)]) (fun t k => XS.aload X8.here hx rfl (hb hby at_88) rfl rfl k) ?_
  refine hG _ _ _ (mkF m 92 #[.val (.int i0), .val (.int i1), .val (.long q2), .second, .val (.int i4), .val (.int cc), .val (.int pa), .val (.ref a1), .unset, .unset, .unset, .unset, .unset, .unset] [(.int (7 : Int32)), (.ref a1)]) (fun t k => XS.bipush X8.here hx rfl (hb hby at_90) k) ?_
  refine hG _ _ _ (mkF m 93 #[.val (.int i0), .val (.int i1), .val (.long q2), .second, .val (.int i4), .val (.int cc), .val (.int pa), .val (.ref a1), .unset, .unset, .unset, .unset, .unset, .unset] [(.long q2), (.int (7 : Int32)), (.ref a1)]) (fun t k => XS.lloadN X8.here hx rfl (hb hby at_92) rfl k) ?_
  refine hG _ _ _ (mkF m 95 #[.val (.int i0), .val (.int i1), .val (.long q2), .second, .val (.int i4), .val (.int cc), .val (.int pa), .val (.ref a1), .unset, .unset, .unset, .unset, .unset, .unset] [(.int (56 : Int32)), (.long q2), (.int (7 : Int32)), (.ref a1)]) (fun t k => XS.bipush X8.here hx rfl (hb hby at_93) k) ?_
  refine hG _ _ _ (mkF m 96 #[.val (.int i0), .val (.int i1), .val (.long q2), .second, .val (.int i4), .val (.int cc), .val (.int pa), .val (.ref a1), .unset, .unset, .unset, .unset, .unset, .unset] [(.long ((q2.toUInt64 >>> ((56 : Int32) &&& 0x3f).toInt64.toUInt64).toInt64)), (.int (7 : Int32)), (.ref a1)]) (fun t k => XS.lushr X8.here hx rfl (hb hby at_95) rfl k) ?_
  refine hG _ _ _ (mkF m 97 #[.val (.int i0), .val (.int i1), .val (.long q2), .second, .val (.int i4), .val (.int cc), .val (.int pa), .val (.ref a1), .unset, .unset, .unset, .unset, .unset, .unset] [(.int (((q2.toUInt64 >>> ((56 : Int32) &&& 0x3f).toInt64.toUInt64).toInt64).toInt32)), (.int (7 : Int32)), (.ref a1)]) (fun t k => XS.l2i X8.here hx rfl (hb hby at_96) rfl k) ?_
  refine hG _ _ _ (mkF m 98 #[.val (.int i0), .val (.int i1), .val (.long q2), .second, .val (.int i4), .val (.int cc), .val (.int pa), .val (.ref a1), .unset, .unset, .unset, .unset, .unset, .unset] [(.int ((((q2.toUInt64 >>> ((56 : Int32) &&& 0x3f).toInt64.toUInt64).toInt64).toInt32).toInt8.toInt32)), (.int (7 : Int32)), (.ref a1)]) (fun t k => XS.i2b X8.here hx rfl (hb hby at_97) rfl k) ?_
  obtain ⟨T9, L9, f9, X9, N9, V9, u9, r9, st9⟩ := own_sto X8 hx hZ rfl V8 (j := (7 : Int32)) (x := ((((q2.toUInt64 >>> ((56 : Int32) &&& 0x3f).toInt64.toUInt64).toInt64).toInt32).toInt8.toInt32)) (i := 7) (by decide) (by decide) (hb hby at_98) N8 ga
  refine hG _ _ _ (mkF m 99 #[.val (.int i0), .val (.int i1), .val (.long q2), .second, .val (.int i4), .val (.int cc), .val (.int pa), .val (.ref a1), .unset, .unset, .unset, .unset, .unset, .unset] []) (fun t k => st9 _ _ t k) ?_
  refine hG _ _ _ (mkF m 101 #[.val (.int i0), .val (.int i1), .val (.long q2), .second, .val (.int i4), .val (.int cc), .val (.int pa), .val (.ref a1), .unset, .unset, .unset, .unset, .unset, .unset] [(.int cc)]) (fun t k => XS.iload X9.here hx rfl (hb hby at_99) rfl k) ?_
  refine hG _ _ _ (mkF m 104 #[.val (.int i0), .val (.int i1), .val (.long q2), .second, .val (.int i4), .val (.int cc), .val (.int pa), .val (.ref a1), .unset, .unset, .unset, .unset, .unset, .unset] [(.int (128 : Int32)), (.int cc)]) (fun t k => XS.sipush X9.here hx rfl (hb hby at_101) k) ?_
  by_cases c1 : cc.toInt < (128 : Int32).toInt
  · refine hG _ _ _ (mkF m 107 #[.val (.int i0), .val (.int i1), .val (.long q2), .second, .val (.int i4), .val (.int cc), .val (.int pa), .val (.ref a1), .unset, .unset, .unset, .unset, .unset, .unset] []) (fun t k => XS.icmpNo X9.here hx rfl (hb hby at_104) rfl (own_tlt c1).2.1 k) ?_
    refine hG _ _ _ (mkF m 108 #[.val (.int i0), .val (.int i1), .val (.long q2), .second, .val (.int i4), .val (.int cc), .val (.int pa), .val (.ref a1), .unset, .unset, .unset, .unset, .unset, .unset] [(.int (1 : Int32))]) (fun t k => XS.iconst X9.here hx rfl (hb hby at_107) k) ?_
    refine hG _ _ _ (mkF m 110 #[.val (.int i0), .val (.int i1), .val (.long q2), .second, .val (.int i4), .val (.int cc), .val (.int pa), .val (.ref a1), .val (.int (1 : Int32)), .unset, .unset, .unset, .unset, .unset] []) (fun t k => XS.istore X9.here hx rfl (hb hby at_108) rfl (l' := #[.val (.int i0), .val (.int i1), .val (.long q2), .second, .val (.int i4), .val (.int cc), .val (.int pa), .val (.ref a1), .val (.int (1 : Int32)), .unset, .unset, .unset, .unset, .unset]) rfl k) ?_
    refine hG _ _ _ (mkF m 112 #[.val (.int i0), .val (.int i1), .val (.long q2), .second, .val (.int i4), .val (.int cc), .val (.int pa), .val (.ref a1), .val (.int (1 : Int32)), .unset, .unset, .unset, .unset, .unset] [(.ref a1)]) (fun t k => XS.aload X9.here hx rfl (hb hby at_110) rfl rfl k) ?_
    refine hG _ _ _ (mkF m 114 #[.val (.int i0), .val (.int i1), .val (.long q2), .second, .val (.int i4), .val (.int cc), .val (.int pa), .val (.ref a1), .val (.int (1 : Int32)), .unset, .unset, .unset, .unset, .unset] [(.int pa), (.ref a1)]) (fun t k => XS.iload X9.here hx rfl (hb hby at_112) rfl k) ?_
    refine hG _ _ _ (mkF m 116 #[.val (.int i0), .val (.int i1), .val (.long q2), .second, .val (.int i4), .val (.int cc), .val (.int pa), .val (.ref a1), .val (.int (1 : Int32)), .unset, .unset, .unset, .unset, .unset] [(.int cc), (.int pa), (.ref a1)]) (fun t k => XS.iload X9.here hx rfl (hb hby at_114) rfl k) ?_
    refine hG _ _ _ (mkF m 117 #[.val (.int i0), .val (.int i1), .val (.long q2), .second, .val (.int i4), .val (.int cc), .val (.int pa), .val (.ref a1), .val (.int (1 : Int32)), .unset, .unset, .unset, .unset, .unset] [(.int (cc.toInt8.toInt32)), (.int pa), (.ref a1)]) (fun t k => XS.i2b X9.here hx rfl (hb hby at_116) rfl k) ?_
    obtain ⟨Tb0, Lb0, fb0, Xb0, Nb0, Vb0, ub0, rb0, stb0⟩ := own_sto X9 hx hZ rfl V9 (j := pa) (x := (cc.toInt8.toInt32)) (i := A) hp (by omega) (hb hby at_117) N9 ga
    refine hG _ _ _ (mkF m 118 #[.val (.int i0), .val (.int i1), .val (.long q2), .second, .val (.int i4), .val (.int cc), .val (.int pa), .val (.ref a1), .val (.int (1 : Int32)), .unset, .unset, .unset, .unset, .unset] []) (fun t k => stb0 _ _ t k) ?_
    refine hG _ _ _ (mkF m 309 #[.val (.int i0), .val (.int i1), .val (.long q2), .second, .val (.int i4), .val (.int cc), .val (.int pa), .val (.ref a1), .val (.int (1 : Int32)), .unset, .unset, .unset, .unset, .unset] []) (fun t k => XS.goto Xb0.here hx rfl (pc0 := 118) (pc' := 309) rfl (hb hby at_118) (by decide) (by decide) k) ?_
    exact tail309 i0 i1 i4 cc pa (1 : Int32) q2 a1 A fb0 Xb0 hx hZ hw hby hml hown hret rfl Nb0 (by decide) (by decide) hG hR Vb0 hA hp (Nat.le_trans ga (Nat.le_of_lt (own_arr_lt Vb0))) (own_dec1 hc0 c1 (by rw [ub0]))
  · refine hG _ _ _ (mkF m 121 #[.val (.int i0), .val (.int i1), .val (.long q2), .second, .val (.int i4), .val (.int cc), .val (.int pa), .val (.ref a1), .unset, .unset, .unset, .unset, .unset, .unset] []) (fun t k => XS.icmpYes X9.here hx rfl (pc0 := 104) (pc' := 121) rfl (hb hby at_104) rfl (own_flt c1).2.1 (by decide) (by decide) k) ?_
    refine hG _ _ _ (mkF m 123 #[.val (.int i0), .val (.int i1), .val (.long q2), .second, .val (.int i4), .val (.int cc), .val (.int pa), .val (.ref a1), .unset, .unset, .unset, .unset, .unset, .unset] [(.int cc)]) (fun t k => XS.iload X9.here hx rfl (hb hby at_121) rfl k) ?_
    refine hG _ _ _ (mkF m 126 #[.val (.int i0), .val (.int i1), .val (.long q2), .second, .val (.int i4), .val (.int cc), .val (.int pa), .val (.ref a1), .unset, .unset, .unset, .unset, .unset, .unset] [(.int (2048 : Int32)), (.int cc)]) (fun t k => XS.sipush X9.here hx rfl (hb hby at_123) k) ?_
    by_cases c2 : cc.toInt < (2048 : Int32).toInt
    · refine hG _ _ _ (mkF m 129 #[.val (.int i0), .val (.int i1), .val (.long q2), .second, .val (.int i4), .val (.int cc), .val (.int pa), .val (.ref a1), .unset, .unset, .unset, .unset, .unset, .unset] []) (fun t k => XS.icmpNo X9.here hx rfl (hb hby at_126) rfl (own_tlt c2).2.1 k) ?_
      refine hG _ _ _ (mkF m 130 #[.val (.int i0), .val (.int i1), .val (.long q2), .second, .val (.int i4), .val (.int cc), .val (.int pa), .val (.ref a1), .unset, .unset, .unset, .unset, .unset, .unset] [(.int (2 : Int32))]) (fun t k => XS.iconst X9.here hx rfl (hb hby at_129) k) ?_
      refine hG _ _ _ (mkF m 132 #[.val (.int i0), .val (.int i1), .val (.long q2), .second, .val (.int i4), .val (.int cc), .val (.int pa), .val (.ref a1), .val (.int (2 : Int32)), .unset, .unset, .unset, .unset, .unset] []) (fun t k => XS.istore X9.here hx rfl (hb hby at_130) rfl (l' := #[.val (.int i0), .val (.int i1), .val (.long q2), .second, .val (.int i4), .val (.int cc), .val (.int pa), .val (.ref a1), .val (.int (2 : Int32)), .unset, .unset, .unset, .unset, .unset]) rfl k) ?_
      refine hG _ _ _ (mkF m 134 #[.val (.int i0), .val (.int i1), .val (.long q2), .second, .val (.int i4), .val (.int cc), .val (.int pa), .val (.ref a1), .val (.int (2 : Int32)), .unset, .unset, .unset, .unset, .unset] [(.ref a1)]) (fun t k => XS.aload X9.here hx rfl (hb hby at_132) rfl rfl k) ?_
      refine hG _ _ _ (mkF m 136 #[.val (.int i0), .val (.int i1), .val (.long q2), .second, .val (.int i4), .val (.int cc), .val (.int pa), .val (.ref a1), .val (.int (2 : Int32)), .unset, .unset, .unset, .unset, .unset] [(.int pa), (.ref a1)]) (fun t k => XS.iload X9.here hx rfl (hb hby at_134) rfl k) ?_
      refine hG _ _ _ (mkF m 139 #[.val (.int i0), .val (.int i1), .val (.long q2), .second, .val (.int i4), .val (.int cc), .val (.int pa), .val (.ref a1), .val (.int (2 : Int32)), .unset, .unset, .unset, .unset, .unset] [(.int (192 : Int32)), (.int pa), (.ref a1)]) (fun t k => XS.sipush X9.here hx rfl (hb hby at_136) k) ?_
      refine hG _ _ _ (mkF m 141 #[.val (.int i0), .val (.int i1), .val (.long q2), .second, .val (.int i4), .val (.int cc), .val (.int pa), .val (.ref a1), .val (.int (2 : Int32)), .unset, .unset, .unset, .unset, .unset] [(.int cc), (.int (192 : Int32)), (.int pa), (.ref a1)]) (fun t k => XS.iload X9.here hx rfl (hb hby at_139) rfl k) ?_
      refine hG _ _ _ (mkF m 143 #[.val (.int i0), .val (.int i1), .val (.long q2), .second, .val (.int i4), .val (.int cc), .val (.int pa), .val (.ref a1), .val (.int (2 : Int32)), .unset, .unset, .unset, .unset, .unset] [(.int (64 : Int32)), (.int cc), (.int (192 : Int32)), (.int pa), (.ref a1)]) (fun t k => XS.bipush X9.here hx rfl (hb hby at_141) k) ?_
      refine hG _ _ _ (mkF m 144 #[.val (.int i0), .val (.int i1), .val (.long q2), .second, .val (.int i4), .val (.int cc), .val (.int pa), .val (.ref a1), .val (.int (2 : Int32)), .unset, .unset, .unset, .unset, .unset] [(.int (cc / (64 : Int32))), (.int (192 : Int32)), (.int pa), (.ref a1)]) (fun t k => XS.idiv X9.here hx rfl (hb hby at_143) rfl (by decide) k) ?_
      refine hG _ _ _ (mkF m 145 #[.val (.int i0), .val (.int i1), .val (.long q2), .second, .val (.int i4), .val (.int cc), .val (.int pa), .val (.ref a1), .val (.int (2 : Int32)), .unset, .unset, .unset, .unset, .unset] [(.int ((192 : Int32) + (cc / (64 : Int32)))), (.int pa), (.ref a1)]) (fun t k => XS.iadd X9.here hx rfl (hb hby at_144) rfl k) ?_
      refine hG _ _ _ (mkF m 146 #[.val (.int i0), .val (.int i1), .val (.long q2), .second, .val (.int i4), .val (.int cc), .val (.int pa), .val (.ref a1), .val (.int (2 : Int32)), .unset, .unset, .unset, .unset, .unset] [(.int (((192 : Int32) + (cc / (64 : Int32))).toInt8.toInt32)), (.int pa), (.ref a1)]) (fun t k => XS.i2b X9.here hx rfl (hb hby at_145) rfl k) ?_
      obtain ⟨Tb0, Lb0, fb0, Xb0, Nb0, Vb0, ub0, rb0, stb0⟩ := own_sto X9 hx hZ rfl V9 (j := pa) (x := (((192 : Int32) + (cc / (64 : Int32))).toInt8.toInt32)) (i := A) hp (by omega) (hb hby at_146) N9 ga
      refine hG _ _ _ (mkF m 147 #[.val (.int i0), .val (.int i1), .val (.long q2), .second, .val (.int i4), .val (.int cc), .val (.int pa), .val (.ref a1), .val (.int (2 : Int32)), .unset, .unset, .unset, .unset, .unset] []) (fun t k => stb0 _ _ t k) ?_
      refine hG _ _ _ (mkF m 149 #[.val (.int i0), .val (.int i1), .val (.long q2), .second, .val (.int i4), .val (.int cc), .val (.int pa), .val (.ref a1), .val (.int (2 : Int32)), .unset, .unset, .unset, .unset, .unset] [(.ref a1)]) (fun t k => XS.aload Xb0.here hx rfl (hb hby at_147) rfl rfl k) ?_
      refine hG _ _ _ (mkF m 151 #[.val (.int i0), .val (.int i1), .val (.long q2), .second, .val (.int i4), .val (.int cc), .val (.int pa), .val (.ref a1), .val (.int (2 : Int32)), .unset, .unset, .unset, .unset, .unset] [(.int pa), (.ref a1)]) (fun t k => XS.iload Xb0.here hx rfl (hb hby at_149) rfl k) ?_
      refine hG _ _ _ (mkF m 152 #[.val (.int i0), .val (.int i1), .val (.long q2), .second, .val (.int i4), .val (.int cc), .val (.int pa), .val (.ref a1), .val (.int (2 : Int32)), .unset, .unset, .unset, .unset, .unset] [(.int (1 : Int32)), (.int pa), (.ref a1)]) (fun t k => XS.iconst Xb0.here hx rfl (hb hby at_151) k) ?_
      refine hG _ _ _ (mkF m 153 #[.val (.int i0), .val (.int i1), .val (.long q2), .second, .val (.int i4), .val (.int cc), .val (.int pa), .val (.ref a1), .val (.int (2 : Int32)), .unset, .unset, .unset, .unset, .unset] [(.int (pa + (1 : Int32))), (.ref a1)]) (fun t k => XS.iadd Xb0.here hx rfl (hb hby at_152) rfl k) ?_
      refine hG _ _ _ (mkF m 156 #[.val (.int i0), .val (.int i1), .val (.long q2), .second, .val (.int i4), .val (.int cc), .val (.int pa), .val (.ref a1), .val (.int (2 : Int32)), .unset, .unset, .unset, .unset, .unset] [(.int (128 : Int32)), (.int (pa + (1 : Int32))), (.ref a1)]) (fun t k => XS.sipush Xb0.here hx rfl (hb hby at_153) k) ?_
      refine hG _ _ _ (mkF m 158 #[.val (.int i0), .val (.int i1), .val (.long q2), .second, .val (.int i4), .val (.int cc), .val (.int pa), .val (.ref a1), .val (.int (2 : Int32)), .unset, .unset, .unset, .unset, .unset] [(.int cc), (.int (128 : Int32)), (.int (pa + (1 : Int32))), (.ref a1)]) (fun t k => XS.iload Xb0.here hx rfl (hb hby at_156) rfl k) ?_
      refine hG _ _ _ (mkF m 160 #[.val (.int i0), .val (.int i1), .val (.long q2), .second, .val (.int i4), .val (.int cc), .val (.int pa), .val (.ref a1), .val (.int (2 : Int32)), .unset, .unset, .unset, .unset, .unset] [(.int (64 : Int32)), (.int cc), (.int (128 : Int32)), (.int (pa + (1 : Int32))), (.ref a1)]) (fun t k => XS.bipush Xb0.here hx rfl (hb hby at_158) k) ?_
      refine hG _ _ _ (mkF m 161 #[.val (.int i0), .val (.int i1), .val (.long q2), .second, .val (.int i4), .val (.int cc), .val (.int pa), .val (.ref a1), .val (.int (2 : Int32)), .unset, .unset, .unset, .unset, .unset] [(.int (cc - (cc / (64 : Int32)) * (64 : Int32))), (.int (128 : Int32)), (.int (pa + (1 : Int32))), (.ref a1)]) (fun t k => XS.irem Xb0.here hx rfl (hb hby at_160) rfl (by decide) k) ?_
      refine hG _ _ _ (mkF m 162 #[.val (.int i0), .val (.int i1), .val (.long q2), .second, .val (.int i4), .val (.int cc), .val (.int pa), .val (.ref a1), .val (.int (2 : Int32)), .unset, .unset, .unset, .unset, .unset] [(.int ((128 : Int32) + (cc - (cc / (64 : Int32)) * (64 : Int32)))), (.int (pa + (1 : Int32))), (.ref a1)]) (fun t k => XS.iadd Xb0.here hx rfl (hb hby at_161) rfl k) ?_
      refine hG _ _ _ (mkF m 163 #[.val (.int i0), .val (.int i1), .val (.long q2), .second, .val (.int i4), .val (.int cc), .val (.int pa), .val (.ref a1), .val (.int (2 : Int32)), .unset, .unset, .unset, .unset, .unset] [(.int (((128 : Int32) + (cc - (cc / (64 : Int32)) * (64 : Int32))).toInt8.toInt32)), (.int (pa + (1 : Int32))), (.ref a1)]) (fun t k => XS.i2b Xb0.here hx rfl (hb hby at_162) rfl k) ?_
      obtain ⟨Tb1, Lb1, fb1, Xb1, Nb1, Vb1, ub1, rb1, stb1⟩ := own_sto Xb0 hx hZ rfl Vb0 (j := (pa + (1 : Int32))) (x := (((128 : Int32) + (cc - (cc / (64 : Int32)) * (64 : Int32))).toInt8.toInt32)) (i := (A + 1)) (own_ix hp hA).1 (by omega) (hb hby at_163) Nb0 ga
      refine hG _ _ _ (mkF m 164 #[.val (.int i0), .val (.int i1), .val (.long q2), .second, .val (.int i4), .val (.int cc), .val (.int pa), .val (.ref a1), .val (.int (2 : Int32)), .unset, .unset, .unset, .unset, .unset] []) (fun t k => stb1 _ _ t k) ?_
      refine hG _ _ _ (mkF m 309 #[.val (.int i0), .val (.int i1), .val (.long q2), .second, .val (.int i4), .val (.int cc), .val (.int pa), .val (.ref a1), .val (.int (2 : Int32)), .unset, .unset, .unset, .unset, .unset] []) (fun t k => XS.goto Xb1.here hx rfl (pc0 := 164) (pc' := 309) rfl (hb hby at_164) (by decide) (by decide) k) ?_
      exact tail309 i0 i1 i4 cc pa (2 : Int32) q2 a1 A fb1 Xb1 hx hZ hw hby hml hown hret rfl Nb1 (by decide) (by decide) hG hR Vb1 hA hp (Nat.le_trans ga (Nat.le_of_lt (own_arr_lt Vb1))) (own_dec2 c1 c2 (by rw [rb1 A (by omega), ub0]) (by rw [ub1]))
    · refine hG _ _ _ (mkF m 167 #[.val (.int i0), .val (.int i1), .val (.long q2), .second, .val (.int i4), .val (.int cc), .val (.int pa), .val (.ref a1), .unset, .unset, .unset, .unset, .unset, .unset] []) (fun t k => XS.icmpYes X9.here hx rfl (pc0 := 126) (pc' := 167) rfl (hb hby at_126) rfl (own_flt c2).2.1 (by decide) (by decide) k) ?_
      refine hG _ _ _ (mkF m 169 #[.val (.int i0), .val (.int i1), .val (.long q2), .second, .val (.int i4), .val (.int cc), .val (.int pa), .val (.ref a1), .unset, .unset, .unset, .unset, .unset, .unset] [(.int cc)]) (fun t k => XS.iload X9.here hx rfl (hb hby at_167) rfl k) ?_
      refine hG _ _ _ (mkF m 171 #[.val (.int i0), .val (.int i1), .val (.long q2), .second, .val (.int i4), .val (.int cc), .val (.int pa), .val (.ref a1), .unset, .unset, .unset, .unset, .unset, .unset] [(.int (65536 : Int32)), (.int cc)]) (fun t k => X9.ldcInt hx (own := "com/example/querytrail/querytrail/Utf8CodePointPinLaw") (v := (65536 : Int32)) hown (mvT hZ (hw _ (List.mem_of_getElem? (i := 7) rfl))) (g := (mkF m 169 #[.val (.int i0), .val (.int i1), .val (.long q2), .second, .val (.int i4), .val (.int cc), .val (.int pa), .val (.ref a1), .unset, .unset, .unset, .unset, .unset, .unset] [(.int cc)])) rfl (hb hby at_169) t k) ?_
      by_cases c3 : cc.toInt < (65536 : Int32).toInt
      · refine hG _ _ _ (mkF m 174 #[.val (.int i0), .val (.int i1), .val (.long q2), .second, .val (.int i4), .val (.int cc), .val (.int pa), .val (.ref a1), .unset, .unset, .unset, .unset, .unset, .unset] []) (fun t k => XS.icmpNo X9.here hx rfl (hb hby at_171) rfl (own_tlt c3).2.1 k) ?_
        refine hG _ _ _ (mkF m 175 #[.val (.int i0), .val (.int i1), .val (.long q2), .second, .val (.int i4), .val (.int cc), .val (.int pa), .val (.ref a1), .unset, .unset, .unset, .unset, .unset, .unset] [(.int (3 : Int32))]) (fun t k => XS.iconst X9.here hx rfl (hb hby at_174) k) ?_
        refine hG _ _ _ (mkF m 177 #[.val (.int i0), .val (.int i1), .val (.long q2), .second, .val (.int i4), .val (.int cc), .val (.int pa), .val (.ref a1), .val (.int (3 : Int32)), .unset, .unset, .unset, .unset, .unset] []) (fun t k => XS.istore X9.here hx rfl (hb hby at_175) rfl (l' := #[.val (.int i0), .val (.int i1), .val (.long q2), .second, .val (.int i4), .val (.int cc), .val (.int pa), .val (.ref a1), .val (.int (3 : Int32)), .unset, .unset, .unset, .unset, .unset]) rfl k) ?_
        refine hG _ _ _ (mkF m 179 #[.val (.int i0), .val (.int i1), .val (.long q2), .second, .val (.int i4), .val (.int cc), .val (.int pa), .val (.ref a1), .val (.int (3 : Int32)), .unset, .unset, .unset, .unset, .unset] [(.ref a1)]) (fun t k => XS.aload X9.here hx rfl (hb hby at_177) rfl rfl k) ?_
        refine hG _ _ _ (mkF m 181 #[.val (.int i0), .val (.int i1), .val (.long q2), .second, .val (.int i4), .val (.int cc), .val (.int pa), .val (.ref a1), .val (.int (3 : Int32)), .unset, .unset, .unset, .unset, .unset] [(.int pa), (.ref a1)]) (fun t k => XS.iload X9.here hx rfl (hb hby at_179) rfl k) ?_
        refine hG _ _ _ (mkF m 184 #[.val (.int i0), .val (.int i1), .val (.long q2), .second, .val (.int i4), .val (.int cc), .val (.int pa), .val (.ref a1), .val (.int (3 : Int32)), .unset, .unset, .unset, .unset, .unset] [(.int (224 : Int32)), (.int pa), (.ref a1)]) (fun t k => XS.sipush X9.here hx rfl (hb hby at_181) k) ?_
        refine hG _ _ _ (mkF m 186 #[.val (.int i0), .val (.int i1), .val (.long q2), .second, .val (.int i4), .val (.int cc), .val (.int pa), .val (.ref a1), .val (.int (3 : Int32)), .unset, .unset, .unset, .unset, .unset] [(.int cc), (.int (224 : Int32)), (.int pa), (.ref a1)]) (fun t k => XS.iload X9.here hx rfl (hb hby at_184) rfl k) ?_
        refine hG _ _ _ (mkF m 189 #[.val (.int i0), .val (.int i1), .val (.long q2), .second, .val (.int i4), .val (.int cc), .val (.int pa), .val (.ref a1), .val (.int (3 : Int32)), .unset, .unset, .unset, .unset, .unset] [(.int (4096 : Int32)), (.int cc), (.int (224 : Int32)), (.int pa), (.ref a1)]) (fun t k => XS.sipush X9.here hx rfl (hb hby at_186) k) ?_
        refine hG _ _ _ (mkF m 190 #[.val (.int i0), .val (.int i1), .val (.long q2), .second, .val (.int i4), .val (.int cc), .val (.int pa), .val (.ref a1), .val (.int (3 : Int32)), .unset, .unset, .unset, .unset, .unset] [(.int (cc / (4096 : Int32))), (.int (224 : Int32)), (.int pa), (.ref a1)]) (fun t k => XS.idiv X9.here hx rfl (hb hby at_189) rfl (by decide) k) ?_
        refine hG _ _ _ (mkF m 191 #[.val (.int i0), .val (.int i1), .val (.long q2), .second, .val (.int i4), .val (.int cc), .val (.int pa), .val (.ref a1), .val (.int (3 : Int32)), .unset, .unset, .unset, .unset, .unset] [(.int ((224 : Int32) + (cc / (4096 : Int32)))), (.int pa), (.ref a1)]) (fun t k => XS.iadd X9.here hx rfl (hb hby at_190) rfl k) ?_
        refine hG _ _ _ (mkF m 192 #[.val (.int i0), .val (.int i1), .val (.long q2), .second, .val (.int i4), .val (.int cc), .val (.int pa), .val (.ref a1), .val (.int (3 : Int32)), .unset, .unset, .unset, .unset, .unset] [(.int (((224 : Int32) + (cc / (4096 : Int32))).toInt8.toInt32)), (.int pa), (.ref a1)]) (fun t k => XS.i2b X9.here hx rfl (hb hby at_191) rfl k) ?_
        obtain ⟨Tb0, Lb0, fb0, Xb0, Nb0, Vb0, ub0, rb0, stb0⟩ := own_sto X9 hx hZ rfl V9 (j := pa) (x := (((224 : Int32) + (cc / (4096 : Int32))).toInt8.toInt32)) (i := A) hp (by omega) (hb hby at_192) N9 ga
        refine hG _ _ _ (mkF m 193 #[.val (.int i0), .val (.int i1), .val (.long q2), .second, .val (.int i4), .val (.int cc), .val (.int pa), .val (.ref a1), .val (.int (3 : Int32)), .unset, .unset, .unset, .unset, .unset] []) (fun t k => stb0 _ _ t k) ?_
        refine hG _ _ _ (mkF m 195 #[.val (.int i0), .val (.int i1), .val (.long q2), .second, .val (.int i4), .val (.int cc), .val (.int pa), .val (.ref a1), .val (.int (3 : Int32)), .unset, .unset, .unset, .unset, .unset] [(.ref a1)]) (fun t k => XS.aload Xb0.here hx rfl (hb hby at_193) rfl rfl k) ?_
        refine hG _ _ _ (mkF m 197 #[.val (.int i0), .val (.int i1), .val (.long q2), .second, .val (.int i4), .val (.int cc), .val (.int pa), .val (.ref a1), .val (.int (3 : Int32)), .unset, .unset, .unset, .unset, .unset] [(.int pa), (.ref a1)]) (fun t k => XS.iload Xb0.here hx rfl (hb hby at_195) rfl k) ?_
        refine hG _ _ _ (mkF m 198 #[.val (.int i0), .val (.int i1), .val (.long q2), .second, .val (.int i4), .val (.int cc), .val (.int pa), .val (.ref a1), .val (.int (3 : Int32)), .unset, .unset, .unset, .unset, .unset] [(.int (1 : Int32)), (.int pa), (.ref a1)]) (fun t k => XS.iconst Xb0.here hx rfl (hb hby at_197) k) ?_
        refine hG _ _ _ (mkF m 199 #[.val (.int i0), .val (.int i1), .val (.long q2), .second, .val (.int i4), .val (.int cc), .val (.int pa), .val (.ref a1), .val (.int (3 : Int32)), .unset, .unset, .unset, .unset, .unset] [(.int (pa + (1 : Int32))), (.ref a1)]) (fun t k => XS.iadd Xb0.here hx rfl (hb hby at_198) rfl k) ?_
        refine hG _ _ _ (mkF m 202 #[.val (.int i0), .val (.int i1), .val (.long q2), .second, .val (.int i4), .val (.int cc), .val (.int pa), .val (.ref a1), .val (.int (3 : Int32)), .unset, .unset, .unset, .unset, .unset] [(.int (128 : Int32)), (.int (pa + (1 : Int32))), (.ref a1)]) (fun t k => XS.sipush Xb0.here hx rfl (hb hby at_199) k) ?_
        refine hG _ _ _ (mkF m 204 #[.val (.int i0), .val (.int i1), .val (.long q2), .second, .val (.int i4), .val (.int cc), .val (.int pa), .val (.ref a1), .val (.int (3 : Int32)), .unset, .unset, .unset, .unset, .unset] [(.int cc), (.int (128 : Int32)), (.int (pa + (1 : Int32))), (.ref a1)]) (fun t k => XS.iload Xb0.here hx rfl (hb hby at_202) rfl k) ?_
        refine hG _ _ _ (mkF m 206 #[.val (.int i0), .val (.int i1), .val (.long q2), .second, .val (.int i4), .val (.int cc), .val (.int pa), .val (.ref a1), .val (.int (3 : Int32)), .unset, .unset, .unset, .unset, .unset] [(.int (64 : Int32)), (.int cc), (.int (128 : Int32)), (.int (pa + (1 : Int32))), (.ref a1)]) (fun t k => XS.bipush Xb0.here hx rfl (hb hby at_204) k) ?_
        refine hG _ _ _ (mkF m 207 #[.val (.int i0), .val (.int i1), .val (.long q2), .second, .val (.int i4), .val (.int cc), .val (.int pa), .val (.ref a1), .val (.int (3 : Int32)), .unset, .unset, .unset, .unset, .unset] [(.int (cc / (64 : Int32))), (.int (128 : Int32)), (.int (pa + (1 : Int32))), (.ref a1)]) (fun t k => XS.idiv Xb0.here hx rfl (hb hby at_206) rfl (by decide) k) ?_
        refine hG _ _ _ (mkF m 209 #[.val (.int i0), .val (.int i1), .val (.long q2), .second, .val (.int i4), .val (.int cc), .val (.int pa), .val (.ref a1), .val (.int (3 : Int32)), .unset, .unset, .unset, .unset, .unset] [(.int (64 : Int32)), (.int (cc / (64 : Int32))), (.int (128 : Int32)), (.int (pa + (1 : Int32))), (.ref a1)]) (fun t k => XS.bipush Xb0.here hx rfl (hb hby at_207) k) ?_
        refine hG _ _ _ (mkF m 210 #[.val (.int i0), .val (.int i1), .val (.long q2), .second, .val (.int i4), .val (.int cc), .val (.int pa), .val (.ref a1), .val (.int (3 : Int32)), .unset, .unset, .unset, .unset, .unset] [(.int ((cc / (64 : Int32)) - ((cc / (64 : Int32)) / (64 : Int32)) * (64 : Int32))), (.int (128 : Int32)), (.int (pa + (1 : Int32))), (.ref a1)]) (fun t k => XS.irem Xb0.here hx rfl (hb hby at_209) rfl (by decide) k) ?_
        refine hG _ _ _ (mkF m 211 #[.val (.int i0), .val (.int i1), .val (.long q2), .second, .val (.int i4), .val (.int cc), .val (.int pa), .val (.ref a1), .val (.int (3 : Int32)), .unset, .unset, .unset, .unset, .unset] [(.int ((128 : Int32) + ((cc / (64 : Int32)) - ((cc / (64 : Int32)) / (64 : Int32)) * (64 : Int32)))), (.int (pa + (1 : Int32))), (.ref a1)]) (fun t k => XS.iadd Xb0.here hx rfl (hb hby at_210) rfl k) ?_
        refine hG _ _ _ (mkF m 212 #[.val (.int i0), .val (.int i1), .val (.long q2), .second, .val (.int i4), .val (.int cc), .val (.int pa), .val (.ref a1), .val (.int (3 : Int32)), .unset, .unset, .unset, .unset, .unset] [(.int (((128 : Int32) + ((cc / (64 : Int32)) - ((cc / (64 : Int32)) / (64 : Int32)) * (64 : Int32))).toInt8.toInt32)), (.int (pa + (1 : Int32))), (.ref a1)]) (fun t k => XS.i2b Xb0.here hx rfl (hb hby at_211) rfl k) ?_
        obtain ⟨Tb1, Lb1, fb1, Xb1, Nb1, Vb1, ub1, rb1, stb1⟩ := own_sto Xb0 hx hZ rfl Vb0 (j := (pa + (1 : Int32))) (x := (((128 : Int32) + ((cc / (64 : Int32)) - ((cc / (64 : Int32)) / (64 : Int32)) * (64 : Int32))).toInt8.toInt32)) (i := (A + 1)) (own_ix hp hA).1 (by omega) (hb hby at_212) Nb0 ga
        refine hG _ _ _ (mkF m 213 #[.val (.int i0), .val (.int i1), .val (.long q2), .second, .val (.int i4), .val (.int cc), .val (.int pa), .val (.ref a1), .val (.int (3 : Int32)), .unset, .unset, .unset, .unset, .unset] []) (fun t k => stb1 _ _ t k) ?_
        refine hG _ _ _ (mkF m 215 #[.val (.int i0), .val (.int i1), .val (.long q2), .second, .val (.int i4), .val (.int cc), .val (.int pa), .val (.ref a1), .val (.int (3 : Int32)), .unset, .unset, .unset, .unset, .unset] [(.ref a1)]) (fun t k => XS.aload Xb1.here hx rfl (hb hby at_213) rfl rfl k) ?_
        refine hG _ _ _ (mkF m 217 #[.val (.int i0), .val (.int i1), .val (.long q2), .second, .val (.int i4), .val (.int cc), .val (.int pa), .val (.ref a1), .val (.int (3 : Int32)), .unset, .unset, .unset, .unset, .unset] [(.int pa), (.ref a1)]) (fun t k => XS.iload Xb1.here hx rfl (hb hby at_215) rfl k) ?_
        refine hG _ _ _ (mkF m 218 #[.val (.int i0), .val (.int i1), .val (.long q2), .second, .val (.int i4), .val (.int cc), .val (.int pa), .val (.ref a1), .val (.int (3 : Int32)), .unset, .unset, .unset, .unset, .unset] [(.int (2 : Int32)), (.int pa), (.ref a1)]) (fun t k => XS.iconst Xb1.here hx rfl (hb hby at_217) k) ?_
        refine hG _ _ _ (mkF m 219 #[.val (.int i0), .val (.int i1), .val (.long q2), .second, .val (.int i4), .val (.int cc), .val (.int pa), .val (.ref a1), .val (.int (3 : Int32)), .unset, .unset, .unset, .unset, .unset] [(.int (pa + (2 : Int32))), (.ref a1)]) (fun t k => XS.iadd Xb1.here hx rfl (hb hby at_218) rfl k) ?_
        refine hG _ _ _ (mkF m 222 #[.val (.int i0), .val (.int i1), .val (.long q2), .second, .val (.int i4), .val (.int cc), .val (.int pa), .val (.ref a1), .val (.int (3 : Int32)), .unset, .unset, .unset, .unset, .unset] [(.int (128 : Int32)), (.int (pa + (2 : Int32))), (.ref a1)]) (fun t k => XS.sipush Xb1.here hx rfl (hb hby at_219) k) ?_
        refine hG _ _ _ (mkF m 224 #[.val (.int i0), .val (.int i1), .val (.long q2), .second, .val (.int i4), .val (.int cc), .val (.int pa), .val (.ref a1), .val (.int (3 : Int32)), .unset, .unset, .unset, .unset, .unset] [(.int cc), (.int (128 : Int32)), (.int (pa + (2 : Int32))), (.ref a1)]) (fun t k => XS.iload Xb1.here hx rfl (hb hby at_222) rfl k) ?_
        refine hG _ _ _ (mkF m 226 #[.val (.int i0), .val (.int i1), .val (.long q2), .second, .val (.int i4), .val (.int cc), .val (.int pa), .val (.ref a1), .val (.int (3 : Int32)), .unset, .unset, .unset, .unset, .unset] [(.int (64 : Int32)), (.int cc), (.int (128 : Int32)), (.int (pa + (2 : Int32))), (.ref a1)]) (fun t k => XS.bipush Xb1.here hx rfl (hb hby at_224) k) ?_
        refine hG _ _ _ (mkF m 227 #[.val (.int i0), .val (.int i1), .val (.long q2), .second, .val (.int i4), .val (.int cc), .val (.int pa), .val (.ref a1), .val (.int (3 : Int32)), .unset, .unset, .unset, .unset, .unset] [(.int (cc - (cc / (64 : Int32)) * (64 : Int32))), (.int (128 : Int32)), (.int (pa + (2 : Int32))), (.ref a1)]) (fun t k => XS.irem Xb1.here hx rfl (hb hby at_226) rfl (by decide) k) ?_
        refine hG _ _ _ (mkF m 228 #[.val (.int i0), .val (.int i1), .val (.long q2), .second, .val (.int i4), .val (.int cc), .val (.int pa), .val (.ref a1), .val (.int (3 : Int32)), .unset, .unset, .unset, .unset, .unset] [(.int ((128 : Int32) + (cc - (cc / (64 : Int32)) * (64 : Int32)))), (.int (pa + (2 : Int32))), (.ref a1)]) (fun t k => XS.iadd Xb1.here hx rfl (hb hby at_227) rfl k) ?_
        refine hG _ _ _ (mkF m 229 #[.val (.int i0), .val (.int i1), .val (.long q2), .second, .val (.int i4), .val (.int cc), .val (.int pa), .val (.ref a1), .val (.int (3 : Int32)), .unset, .unset, .unset, .unset, .unset] [(.int (((128 : Int32) + (cc - (cc / (64 : Int32)) * (64 : Int32))).toInt8.toInt32)), (.int (pa + (2 : Int32))), (.ref a1)]) (fun t k => XS.i2b Xb1.here hx rfl (hb hby at_228) rfl k) ?_
        obtain ⟨Tb2, Lb2, fb2, Xb2, Nb2, Vb2, ub2, rb2, stb2⟩ := own_sto Xb1 hx hZ rfl Vb1 (j := (pa + (2 : Int32))) (x := (((128 : Int32) + (cc - (cc / (64 : Int32)) * (64 : Int32))).toInt8.toInt32)) (i := (A + 2)) (own_ix hp hA).2.1 (by omega) (hb hby at_229) Nb1 ga
        refine hG _ _ _ (mkF m 230 #[.val (.int i0), .val (.int i1), .val (.long q2), .second, .val (.int i4), .val (.int cc), .val (.int pa), .val (.ref a1), .val (.int (3 : Int32)), .unset, .unset, .unset, .unset, .unset] []) (fun t k => stb2 _ _ t k) ?_
        refine hG _ _ _ (mkF m 309 #[.val (.int i0), .val (.int i1), .val (.long q2), .second, .val (.int i4), .val (.int cc), .val (.int pa), .val (.ref a1), .val (.int (3 : Int32)), .unset, .unset, .unset, .unset, .unset] []) (fun t k => XS.goto Xb2.here hx rfl (pc0 := 230) (pc' := 309) rfl (hb hby at_230) (by decide) (by decide) k) ?_
        exact tail309 i0 i1 i4 cc pa (3 : Int32) q2 a1 A fb2 Xb2 hx hZ hw hby hml hown hret rfl Nb2 (by decide) (by decide) hG hR Vb2 hA hp (Nat.le_trans ga (Nat.le_of_lt (own_arr_lt Vb2))) (own_dec3 c2 c3 (by rw [rb2 A (by omega), rb1 A (by omega), ub0]) (by rw [rb2 (A + 1) (by omega), ub1]) (by rw [ub2]))
      · refine hG _ _ _ (mkF m 233 #[.val (.int i0), .val (.int i1), .val (.long q2), .second, .val (.int i4), .val (.int cc), .val (.int pa), .val (.ref a1), .unset, .unset, .unset, .unset, .unset, .unset] []) (fun t k => XS.icmpYes X9.here hx rfl (pc0 := 171) (pc' := 233) rfl (hb hby at_171) rfl (own_flt c3).2.1 (by decide) (by decide) k) ?_
        refine hG _ _ _ (mkF m 234 #[.val (.int i0), .val (.int i1), .val (.long q2), .second, .val (.int i4), .val (.int cc), .val (.int pa), .val (.ref a1), .unset, .unset, .unset, .unset, .unset, .unset] [(.int (4 : Int32))]) (fun t k => XS.iconst X9.here hx rfl (hb hby at_233) k) ?_
        refine hG _ _ _ (mkF m 236 #[.val (.int i0), .val (.int i1), .val (.long q2), .second, .val (.int i4), .val (.int cc), .val (.int pa), .val (.ref a1), .val (.int (4 : Int32)), .unset, .unset, .unset, .unset, .unset] []) (fun t k => XS.istore X9.here hx rfl (hb hby at_234) rfl (l' := #[.val (.int i0), .val (.int i1), .val (.long q2), .second, .val (.int i4), .val (.int cc), .val (.int pa), .val (.ref a1), .val (.int (4 : Int32)), .unset, .unset, .unset, .unset, .unset]) rfl k) ?_
        refine hG _ _ _ (mkF m 238 #[.val (.int i0), .val (.int i1), .val (.long q2), .second, .val (.int i4), .val (.int cc), .val (.int pa), .val (.ref a1), .val (.int (4 : Int32)), .unset, .unset, .unset, .unset, .unset] [(.ref a1)]) (fun t k => XS.aload X9.here hx rfl (hb hby at_236) rfl rfl k) ?_
        refine hG _ _ _ (mkF m 240 #[.val (.int i0), .val (.int i1), .val (.long q2), .second, .val (.int i4), .val (.int cc), .val (.int pa), .val (.ref a1), .val (.int (4 : Int32)), .unset, .unset, .unset, .unset, .unset] [(.int pa), (.ref a1)]) (fun t k => XS.iload X9.here hx rfl (hb hby at_238) rfl k) ?_
        refine hG _ _ _ (mkF m 243 #[.val (.int i0), .val (.int i1), .val (.long q2), .second, .val (.int i4), .val (.int cc), .val (.int pa), .val (.ref a1), .val (.int (4 : Int32)), .unset, .unset, .unset, .unset, .unset] [(.int (240 : Int32)), (.int pa), (.ref a1)]) (fun t k => XS.sipush X9.here hx rfl (hb hby at_240) k) ?_
        refine hG _ _ _ (mkF m 245 #[.val (.int i0), .val (.int i1), .val (.long q2), .second, .val (.int i4), .val (.int cc), .val (.int pa), .val (.ref a1), .val (.int (4 : Int32)), .unset, .unset, .unset, .unset, .unset] [(.int cc), (.int (240 : Int32)), (.int pa), (.ref a1)]) (fun t k => XS.iload X9.here hx rfl (hb hby at_243) rfl k) ?_
        refine hG _ _ _ (mkF m 247 #[.val (.int i0), .val (.int i1), .val (.long q2), .second, .val (.int i4), .val (.int cc), .val (.int pa), .val (.ref a1), .val (.int (4 : Int32)), .unset, .unset, .unset, .unset, .unset] [(.int (262144 : Int32)), (.int cc), (.int (240 : Int32)), (.int pa), (.ref a1)]) (fun t k => X9.ldcInt hx (own := "com/example/querytrail/querytrail/Utf8CodePointPinLaw") (v := (262144 : Int32)) hown (mvT hZ (hw _ (List.mem_of_getElem? (i := 8) rfl))) (g := (mkF m 245 #[.val (.int i0), .val (.int i1), .val (.long q2), .second, .val (.int i4), .val (.int cc), .val (.int pa), .val (.ref a1), .val (.int (4 : Int32)), .unset, .unset, .unset, .unset, .unset] [(.int cc), (.int (240 : Int32)), (.int pa), (.ref a1)])) rfl (hb hby at_245) t k) ?_
        refine hG _ _ _ (mkF m 248 #[.val (.int i0), .val (.int i1), .val (.long q2), .second, .val (.int i4), .val (.int cc), .val (.int pa), .val (.ref a1), .val (.int (4 : Int32)), .unset, .unset, .unset, .unset, .unset] [(.int (cc / (262144 : Int32))), (.int (240 : Int32)), (.int pa), (.ref a1)]) (fun t k => XS.idiv X9.here hx rfl (hb hby at_247) rfl (by decide) k) ?_
        refine hG _ _ _ (mkF m 249 #[.val (.int i0), .val (.int i1), .val (.long q2), .second, .val (.int i4), .val (.int cc), .val (.int pa), .val (.ref a1), .val (.int (4 : Int32)), .unset, .unset, .unset, .unset, .unset] [(.int ((240 : Int32) + (cc / (262144 : Int32)))), (.int pa), (.ref a1)]) (fun t k => XS.iadd X9.here hx rfl (hb hby at_248) rfl k) ?_
        refine hG _ _ _ (mkF m 250 #[.val (.int i0), .val (.int i1), .val (.long q2), .second, .val (.int i4), .val (.int cc), .val (.int pa), .val (.ref a1), .val (.int (4 : Int32)), .unset, .unset, .unset, .unset, .unset] [(.int (((240 : Int32) + (cc / (262144 : Int32))).toInt8.toInt32)), (.int pa), (.ref a1)]) (fun t k => XS.i2b X9.here hx rfl (hb hby at_249) rfl k) ?_
        obtain ⟨Tb0, Lb0, fb0, Xb0, Nb0, Vb0, ub0, rb0, stb0⟩ := own_sto X9 hx hZ rfl V9 (j := pa) (x := (((240 : Int32) + (cc / (262144 : Int32))).toInt8.toInt32)) (i := A) hp (by omega) (hb hby at_250) N9 ga
        refine hG _ _ _ (mkF m 251 #[.val (.int i0), .val (.int i1), .val (.long q2), .second, .val (.int i4), .val (.int cc), .val (.int pa), .val (.ref a1), .val (.int (4 : Int32)), .unset, .unset, .unset, .unset, .unset] []) (fun t k => stb0 _ _ t k) ?_
        refine hG _ _ _ (mkF m 253 #[.val (.int i0), .val (.int i1), .val (.long q2), .second, .val (.int i4), .val (.int cc), .val (.int pa), .val (.ref a1), .val (.int (4 : Int32)), .unset, .unset, .unset, .unset, .unset] [(.ref a1)]) (fun t k => XS.aload Xb0.here hx rfl (hb hby at_251) rfl rfl k) ?_
        refine hG _ _ _ (mkF m 255 #[.val (.int i0), .val (.int i1), .val (.long q2), .second, .val (.int i4), .val (.int cc), .val (.int pa), .val (.ref a1), .val (.int (4 : Int32)), .unset, .unset, .unset, .unset, .unset] [(.int pa), (.ref a1)]) (fun t k => XS.iload Xb0.here hx rfl (hb hby at_253) rfl k) ?_
        refine hG _ _ _ (mkF m 256 #[.val (.int i0), .val (.int i1), .val (.long q2), .second, .val (.int i4), .val (.int cc), .val (.int pa), .val (.ref a1), .val (.int (4 : Int32)), .unset, .unset, .unset, .unset, .unset] [(.int (1 : Int32)), (.int pa), (.ref a1)]) (fun t k => XS.iconst Xb0.here hx rfl (hb hby at_255) k) ?_
        refine hG _ _ _ (mkF m 257 #[.val (.int i0), .val (.int i1), .val (.long q2), .second, .val (.int i4), .val (.int cc), .val (.int pa), .val (.ref a1), .val (.int (4 : Int32)), .unset, .unset, .unset, .unset, .unset] [(.int (pa + (1 : Int32))), (.ref a1)]) (fun t k => XS.iadd Xb0.here hx rfl (hb hby at_256) rfl k) ?_
        refine hG _ _ _ (mkF m 260 #[.val (.int i0), .val (.int i1), .val (.long q2), .second, .val (.int i4), .val (.int cc), .val (.int pa), .val (.ref a1), .val (.int (4 : Int32)), .unset, .unset, .unset, .unset, .unset] [(.int (128 : Int32)), (.int (pa + (1 : Int32))), (.ref a1)]) (fun t k => XS.sipush Xb0.here hx rfl (hb hby at_257) k) ?_
        refine hG _ _ _ (mkF m 262 #[.val (.int i0), .val (.int i1), .val (.long q2), .second, .val (.int i4), .val (.int cc), .val (.int pa), .val (.ref a1), .val (.int (4 : Int32)), .unset, .unset, .unset, .unset, .unset] [(.int cc), (.int (128 : Int32)), (.int (pa + (1 : Int32))), (.ref a1)]) (fun t k => XS.iload Xb0.here hx rfl (hb hby at_260) rfl k) ?_
        refine hG _ _ _ (mkF m 265 #[.val (.int i0), .val (.int i1), .val (.long q2), .second, .val (.int i4), .val (.int cc), .val (.int pa), .val (.ref a1), .val (.int (4 : Int32)), .unset, .unset, .unset, .unset, .unset] [(.int (4096 : Int32)), (.int cc), (.int (128 : Int32)), (.int (pa + (1 : Int32))), (.ref a1)]) (fun t k => XS.sipush Xb0.here hx rfl (hb hby at_262) k) ?_
        refine hG _ _ _ (mkF m 266 #[.val (.int i0), .val (.int i1), .val (.long q2), .second, .val (.int i4), .val (.int cc), .val (.int pa), .val (.ref a1), .val (.int (4 : Int32)), .unset, .unset, .unset, .unset, .unset] [(.int (cc / (4096 : Int32))), (.int (128 : Int32)), (.int (pa + (1 : Int32))), (.ref a1)]) (fun t k => XS.idiv Xb0.here hx rfl (hb hby at_265) rfl (by decide) k) ?_
        refine hG _ _ _ (mkF m 268 #[.val (.int i0), .val (.int i1), .val (.long q2), .second, .val (.int i4), .val (.int cc), .val (.int pa), .val (.ref a1), .val (.int (4 : Int32)), .unset, .unset, .unset, .unset, .unset] [(.int (64 : Int32)), (.int (cc / (4096 : Int32))), (.int (128 : Int32)), (.int (pa + (1 : Int32))), (.ref a1)]) (fun t k => XS.bipush Xb0.here hx rfl (hb hby at_266) k) ?_
        refine hG _ _ _ (mkF m 269 #[.val (.int i0), .val (.int i1), .val (.long q2), .second, .val (.int i4), .val (.int cc), .val (.int pa), .val (.ref a1), .val (.int (4 : Int32)), .unset, .unset, .unset, .unset, .unset] [(.int ((cc / (4096 : Int32)) - ((cc / (4096 : Int32)) / (64 : Int32)) * (64 : Int32))), (.int (128 : Int32)), (.int (pa + (1 : Int32))), (.ref a1)]) (fun t k => XS.irem Xb0.here hx rfl (hb hby at_268) rfl (by decide) k) ?_
        refine hG _ _ _ (mkF m 270 #[.val (.int i0), .val (.int i1), .val (.long q2), .second, .val (.int i4), .val (.int cc), .val (.int pa), .val (.ref a1), .val (.int (4 : Int32)), .unset, .unset, .unset, .unset, .unset] [(.int ((128 : Int32) + ((cc / (4096 : Int32)) - ((cc / (4096 : Int32)) / (64 : Int32)) * (64 : Int32)))), (.int (pa + (1 : Int32))), (.ref a1)]) (fun t k => XS.iadd Xb0.here hx rfl (hb hby at_269) rfl k) ?_
        refine hG _ _ _ (mkF m 271 #[.val (.int i0), .val (.int i1), .val (.long q2), .second, .val (.int i4), .val (.int cc), .val (.int pa), .val (.ref a1), .val (.int (4 : Int32)), .unset, .unset, .unset, .unset, .unset] [(.int (((128 : Int32) + ((cc / (4096 : Int32)) - ((cc / (4096 : Int32)) / (64 : Int32)) * (64 : Int32))).toInt8.toInt32)), (.int (pa + (1 : Int32))), (.ref a1)]) (fun t k => XS.i2b Xb0.here hx rfl (hb hby at_270) rfl k) ?_
        obtain ⟨Tb1, Lb1, fb1, Xb1, Nb1, Vb1, ub1, rb1, stb1⟩ := own_sto Xb0 hx hZ rfl Vb0 (j := (pa + (1 : Int32))) (x := (((128 : Int32) + ((cc / (4096 : Int32)) - ((cc / (4096 : Int32)) / (64 : Int32)) * (64 : Int32))).toInt8.toInt32)) (i := (A + 1)) (own_ix hp hA).1 (by omega) (hb hby at_271) Nb0 ga
        refine hG _ _ _ (mkF m 272 #[.val (.int i0), .val (.int i1), .val (.long q2), .second, .val (.int i4), .val (.int cc), .val (.int pa), .val (.ref a1), .val (.int (4 : Int32)), .unset, .unset, .unset, .unset, .unset] []) (fun t k => stb1 _ _ t k) ?_
        refine hG _ _ _ (mkF m 274 #[.val (.int i0), .val (.int i1), .val (.long q2), .second, .val (.int i4), .val (.int cc), .val (.int pa), .val (.ref a1), .val (.int (4 : Int32)), .unset, .unset, .unset, .unset, .unset] [(.ref a1)]) (fun t k => XS.aload Xb1.here hx rfl (hb hby at_272) rfl rfl k) ?_
        refine hG _ _ _ (mkF m 276 #[.val (.int i0), .val (.int i1), .val (.long q2), .second, .val (.int i4), .val (.int cc), .val (.int pa), .val (.ref a1), .val (.int (4 : Int32)), .unset, .unset, .unset, .unset, .unset] [(.int pa), (.ref a1)]) (fun t k => XS.iload Xb1.here hx rfl (hb hby at_274) rfl k) ?_
        refine hG _ _ _ (mkF m 277 #[.val (.int i0), .val (.int i1), .val (.long q2), .second, .val (.int i4), .val (.int cc), .val (.int pa), .val (.ref a1), .val (.int (4 : Int32)), .unset, .unset, .unset, .unset, .unset] [(.int (2 : Int32)), (.int pa), (.ref a1)]) (fun t k => XS.iconst Xb1.here hx rfl (hb hby at_276) k) ?_
        refine hG _ _ _ (mkF m 278 #[.val (.int i0), .val (.int i1), .val (.long q2), .second, .val (.int i4), .val (.int cc), .val (.int pa), .val (.ref a1), .val (.int (4 : Int32)), .unset, .unset, .unset, .unset, .unset] [(.int (pa + (2 : Int32))), (.ref a1)]) (fun t k => XS.iadd Xb1.here hx rfl (hb hby at_277) rfl k) ?_
        refine hG _ _ _ (mkF m 281 #[.val (.int i0), .val (.int i1), .val (.long q2), .second, .val (.int i4), .val (.int cc), .val (.int pa), .val (.ref a1), .val (.int (4 : Int32)), .unset, .unset, .unset, .unset, .unset] [(.int (128 : Int32)), (.int (pa + (2 : Int32))), (.ref a1)]) (fun t k => XS.sipush Xb1.here hx rfl (hb hby at_278) k) ?_
        refine hG _ _ _ (mkF m 283 #[.val (.int i0), .val (.int i1), .val (.long q2), .second, .val (.int i4), .val (.int cc), .val (.int pa), .val (.ref a1), .val (.int (4 : Int32)), .unset, .unset, .unset, .unset, .unset] [(.int cc), (.int (128 : Int32)), (.int (pa + (2 : Int32))), (.ref a1)]) (fun t k => XS.iload Xb1.here hx rfl (hb hby at_281) rfl k) ?_
        refine hG _ _ _ (mkF m 285 #[.val (.int i0), .val (.int i1), .val (.long q2), .second, .val (.int i4), .val (.int cc), .val (.int pa), .val (.ref a1), .val (.int (4 : Int32)), .unset, .unset, .unset, .unset, .unset] [(.int (64 : Int32)), (.int cc), (.int (128 : Int32)), (.int (pa + (2 : Int32))), (.ref a1)]) (fun t k => XS.bipush Xb1.here hx rfl (hb hby at_283) k) ?_
        refine hG _ _ _ (mkF m 286 #[.val (.int i0), .val (.int i1), .val (.long q2), .second, .val (.int i4), .val (.int cc), .val (.int pa), .val (.ref a1), .val (.int (4 : Int32)), .unset, .unset, .unset, .unset, .unset] [(.int (cc / (64 : Int32))), (.int (128 : Int32)), (.int (pa + (2 : Int32))), (.ref a1)]) (fun t k => XS.idiv Xb1.here hx rfl (hb hby at_285) rfl (by decide) k) ?_
        refine hG _ _ _ (mkF m 288 #[.val (.int i0), .val (.int i1), .val (.long q2), .second, .val (.int i4), .val (.int cc), .val (.int pa), .val (.ref a1), .val (.int (4 : Int32)), .unset, .unset, .unset, .unset, .unset] [(.int (64 : Int32)), (.int (cc / (64 : Int32))), (.int (128 : Int32)), (.int (pa + (2 : Int32))), (.ref a1)]) (fun t k => XS.bipush Xb1.here hx rfl (hb hby at_286) k) ?_
        refine hG _ _ _ (mkF m 289 #[.val (.int i0), .val (.int i1), .val (.long q2), .second, .val (.int i4), .val (.int cc), .val (.int pa), .val (.ref a1), .val (.int (4 : Int32)), .unset, .unset, .unset, .unset, .unset] [(.int ((cc / (64 : Int32)) - ((cc / (64 : Int32)) / (64 : Int32)) * (64 : Int32))), (.int (128 : Int32)), (.int (pa + (2 : Int32))), (.ref a1)]) (fun t k => XS.irem Xb1.here hx rfl (hb hby at_288) rfl (by decide) k) ?_
        refine hG _ _ _ (mkF m 290 #[.val (.int i0), .val (.int i1), .val (.long q2), .second, .val (.int i4), .val (.int cc), .val (.int pa), .val (.ref a1), .val (.int (4 : Int32)), .unset, .unset, .unset, .unset, .unset] [(.int ((128 : Int32) + ((cc / (64 : Int32)) - ((cc / (64 : Int32)) / (64 : Int32)) * (64 : Int32)))), (.int (pa + (2 : Int32))), (.ref a1)]) (fun t k => XS.iadd Xb1.here hx rfl (hb hby at_289) rfl k) ?_
        refine hG _ _ _ (mkF m 291 #[.val (.int i0), .val (.int i1), .val (.long q2), .second, .val (.int i4), .val (.int cc), .val (.int pa), .val (.ref a1), .val (.int (4 : Int32)), .unset, .unset, .unset, .unset, .unset] [(.int (((128 : Int32) + ((cc / (64 : Int32)) - ((cc / (64 : Int32)) / (64 : Int32)) * (64 : Int32))).toInt8.toInt32)), (.int (pa + (2 : Int32))), (.ref a1)]) (fun t k => XS.i2b Xb1.here hx rfl (hb hby at_290) rfl k) ?_
        obtain ⟨Tb2, Lb2, fb2, Xb2, Nb2, Vb2, ub2, rb2, stb2⟩ := own_sto Xb1 hx hZ rfl Vb1 (j := (pa + (2 : Int32))) (x := (((128 : Int32) + ((cc / (64 : Int32)) - ((cc / (64 : Int32)) / (64 : Int32)) * (64 : Int32))).toInt8.toInt32)) (i := (A + 2)) (own_ix hp hA).2.1 (by omega) (hb hby at_291) Nb1 ga
        refine hG _ _ _ (mkF m 292 #[.val (.int i0), .val (.int i1), .val (.long q2), .second, .val (.int i4), .val (.int cc), .val (.int pa), .val (.ref a1), .val (.int (4 : Int32)), .unset, .unset, .unset, .unset, .unset] []) (fun t k => stb2 _ _ t k) ?_
        refine hG _ _ _ (mkF m 294 #[.val (.int i0), .val (.int i1), .val (.long q2), .second, .val (.int i4), .val (.int cc), .val (.int pa), .val (.ref a1), .val (.int (4 : Int32)), .unset, .unset, .unset, .unset, .unset] [(.ref a1)]) (fun t k => XS.aload Xb2.here hx rfl (hb hby at_292) rfl rfl k) ?_
        refine hG _ _ _ (mkF m 296 #[.val (.int i0), .val (.int i1), .val (.long q2), .second, .val (.int i4), .val (.int cc), .val (.int pa), .val (.ref a1), .val (.int (4 : Int32)), .unset, .unset, .unset, .unset, .unset] [(.int pa), (.ref a1)]) (fun t k => XS.iload Xb2.here hx rfl (hb hby at_294) rfl k) ?_
        refine hG _ _ _ (mkF m 297 #[.val (.int i0), .val (.int i1), .val (.long q2), .second, .val (.int i4), .val (.int cc), .val (.int pa), .val (.ref a1), .val (.int (4 : Int32)), .unset, .unset, .unset, .unset, .unset] [(.int (3 : Int32)), (.int pa), (.ref a1)]) (fun t k => XS.iconst Xb2.here hx rfl (hb hby at_296) k) ?_
        refine hG _ _ _ (mkF m 298 #[.val (.int i0), .val (.int i1), .val (.long q2), .second, .val (.int i4), .val (.int cc), .val (.int pa), .val (.ref a1), .val (.int (4 : Int32)), .unset, .unset, .unset, .unset, .unset] [(.int (pa + (3 : Int32))), (.ref a1)]) (fun t k => XS.iadd Xb2.here hx rfl (hb hby at_297) rfl k) ?_
        refine hG _ _ _ (mkF m 301 #[.val (.int i0), .val (.int i1), .val (.long q2), .second, .val (.int i4), .val (.int cc), .val (.int pa), .val (.ref a1), .val (.int (4 : Int32)), .unset, .unset, .unset, .unset, .unset] [(.int (128 : Int32)), (.int (pa + (3 : Int32))), (.ref a1)]) (fun t k => XS.sipush Xb2.here hx rfl (hb hby at_298) k) ?_
        refine hG _ _ _ (mkF m 303 #[.val (.int i0), .val (.int i1), .val (.long q2), .second, .val (.int i4), .val (.int cc), .val (.int pa), .val (.ref a1), .val (.int (4 : Int32)), .unset, .unset, .unset, .unset, .unset] [(.int cc), (.int (128 : Int32)), (.int (pa + (3 : Int32))), (.ref a1)]) (fun t k => XS.iload Xb2.here hx rfl (hb hby at_301) rfl k) ?_
        refine hG _ _ _ (mkF m 305 #[.val (.int i0), .val (.int i1), .val (.long q2), .second, .val (.int i4), .val (.int cc), .val (.int pa), .val (.ref a1), .val (.int (4 : Int32)), .unset, .unset, .unset, .unset, .unset] [(.int (64 : Int32)), (.int cc), (.int (128 : Int32)), (.int (pa + (3 : Int32))), (.ref a1)]) (fun t k => XS.bipush Xb2.here hx rfl (hb hby at_303) k) ?_
        refine hG _ _ _ (mkF m 306 #[.val (.int i0), .val (.int i1), .val (.long q2), .second, .val (.int i4), .val (.int cc), .val (.int pa), .val (.ref a1), .val (.int (4 : Int32)), .unset, .unset, .unset, .unset, .unset] [(.int (cc - (cc / (64 : Int32)) * (64 : Int32))), (.int (128 : Int32)), (.int (pa + (3 : Int32))), (.ref a1)]) (fun t k => XS.irem Xb2.here hx rfl (hb hby at_305) rfl (by decide) k) ?_
        refine hG _ _ _ (mkF m 307 #[.val (.int i0), .val (.int i1), .val (.long q2), .second, .val (.int i4), .val (.int cc), .val (.int pa), .val (.ref a1), .val (.int (4 : Int32)), .unset, .unset, .unset, .unset, .unset] [(.int ((128 : Int32) + (cc - (cc / (64 : Int32)) * (64 : Int32)))), (.int (pa + (3 : Int32))), (.ref a1)]) (fun t k => XS.iadd Xb2.here hx rfl (hb hby at_306) rfl k) ?_
        refine hG _ _ _ (mkF m 308 #[.val (.int i0), .val (.int i1), .val (.long q2), .second, .val (.int i4), .val (.int cc), .val (.int pa), .val (.ref a1), .val (.int (4 : Int32)), .unset, .unset, .unset, .unset, .unset] [(.int (((128 : Int32) + (cc - (cc / (64 : Int32)) * (64 : Int32))).toInt8.toInt32)), (.int (pa + (3 : Int32))), (.ref a1)]) (fun t k => XS.i2b Xb2.here hx rfl (hb hby at_307) rfl k) ?_
        obtain ⟨Tb3, Lb3, fb3, Xb3, Nb3, Vb3, ub3, rb3, stb3⟩ := own_sto Xb2 hx hZ rfl Vb2 (j := (pa + (3 : Int32))) (x := (((128 : Int32) + (cc - (cc / (64 : Int32)) * (64 : Int32))).toInt8.toInt32)) (i := (A + 3)) (own_ix hp hA).2.2 (by omega) (hb hby at_308) Nb2 ga
        refine hG _ _ _ (mkF m 309 #[.val (.int i0), .val (.int i1), .val (.long q2), .second, .val (.int i4), .val (.int cc), .val (.int pa), .val (.ref a1), .val (.int (4 : Int32)), .unset, .unset, .unset, .unset, .unset] []) (fun t k => stb3 _ _ t k) ?_
        exact tail309 i0 i1 i4 cc pa (4 : Int32) q2 a1 A fb3 Xb3 hx hZ hw hby hml hown hret rfl Nb3 (by decide) (by decide) hG hR Vb3 hA hp (Nat.le_trans ga (Nat.le_of_lt (own_arr_lt Vb3))) (own_dec4 c3 hc1 (by rw [rb3 A (by omega), rb2 A (by omega), rb1 A (by omega), ub0]) (by rw [rb3 (A + 1) (by omega), rb2 (A + 1) (by omega), ub1]) (by rw [rb3 (A + 2) (by omega), ub2]) (by rw [ub3]))
set_option maxRecDepth 65536 in
set_option maxHeartbeats 40000000 in
theorem comes_1 {Post : Tables → Env → Array Value → State → Outcome → State → Prop} (hpost : ∀ tb e args s v u, (limb_1_1.after args s (.returned v) u = true ∧ limb_1_2.after args s (.returned v) u = true ∧ True) → FrameEnd s (.returned v) u (Jvm.fieldLocs frame_1_writes args s ++ Jvm.arrayLocs frame_1_arrays args s ++ Jvm.staticLocs frame_1_statics s) 16 128 → Post tb e args s (.returned v) u) :
    ArmFor flags0 classFile x code maxLocals ret World_1 tables_1 room_1 Calls_1 rest_1 Pre_1 Post := by
  intro l hfl _ _ p e ha hc hk s m args below hf hA hF happ hP
  obtain ⟨hcalls, hrest, hpre⟩ := hP
  obtain ⟨-, -, -, hnamed, -, -, -, hat⟩ := (Spec.applies_iff hf).mp happ
  obtain ⟨hg, hn⟩ := and_e (Cond.before_iff.mp (show (Jvm.Cond.and given_1 narrow_1).before args s = true from hpre))
  obtain ⟨h1, h2⟩ := and_e hg
  obtain ⟨w0, w1, w2, w3, rfl⟩ : ∃ w0 w1 w2 w3 : Value, args = #[w0, w1, w2, w3] := by
    have hs : args.size = 4 := by simpa [Cond.value, given_1] using h1
    obtain ⟨L⟩ := args
    match L, hs with
    | [w0, w1, w2, w3], _ => exact ⟨w0, w1, w2, w3, rfl⟩
  have hw := fun d (hd : d ∈ tables_1) => atoms_spec (ws := Jvm.Cond.code x code maxLocals ret :: tables_1) hat d (List.mem_cons_of_mem _ hd)
  obtain ⟨q0, r0⟩ := and_e h2
  obtain ⟨i0, e0⟩ := is_v q0
  obtain rfl : w0 = (.int i0) := Option.some.inj e0
  obtain ⟨q1, r1⟩ := and_e r0
  obtain ⟨i1, e1⟩ := is_v q1
  obtain rfl : w1 = (.int i1) := Option.some.inj e1
  obtain ⟨q2, r2⟩ := and_e r1
  obtain ⟨i2, e2⟩ := isL_v q2
  obtain rfl : w2 = (.long i2) := Option.some.inj e2
  obtain ⟨i3, e3⟩ := is_v r2
  obtain rfl : w3 = (.int i3) := Option.some.inj e3
  obtain ⟨n, o, h1, h2, h3, _, L, rfl, ⟨w, rfl, rfl, N⟩, hq⟩ := rm0 l s _ hw tables_1 i0 i1 i2 i3 s.heap s.heap.size (Nat.le_refl _) p e ha hc hk s m _ below hf ((Spec.applies_iff_loose hf).mp happ).1 ⟨rfl, State.Warmed39.refl s, rfl⟩ trivial
  refine ⟨n, _, h1, h2, h3, hpost _ _ _ _ _ _ ⟨Cond.after_iff.mpr rfl, Cond.after_iff.mpr (eq_i res_at (Term.int_eval (1)) rfl), trivial⟩ ⟨hq.1, hq.2.1, (hq.2.2.sift fun y hy => Or.inr (N y hy)).mono (by decide) (by decide)⟩⟩
theorem main_1_1 : Claimed_1_1 := comes_1 fun _ _ _ _ _ _ h hF => ⟨h.1, hF⟩
theorem main_1_2 : Claimed_1_2 := comes_1 fun _ _ _ _ _ _ h hF => ⟨h.2.1, hF⟩
end Jvm.Pilot.@@N@@
namespace Jvm.Pilot.@@N@@
open Jvm Jvm.ClassFile Sem Op Lib Jvm.Free Jvm.Stand Jvm.Pilot.@@N@@.Jvm.D
/-! MADE BY PROGRAM (witnessworld.py) out of the Statement's table words and the real class files: 9 classes; the members and pool entries that the words name. The judged class is class 1, her method 1. -/
namespace start1
open Jvm.ClassFile
def u (s : String) : CpInfo := .utf8 (stringToUtf16 s)
/-- a pool by its gaps: so many unusable entries, then the entry; so many at the end -/
def gap : Nat → List CpInfo → List CpInfo
  | 0, r => r
  | n + 1, r => .unusable :: gap n r
def poolList (es : List (Nat × CpInfo)) (last : Nat) : List CpInfo := es.foldr (fun e r => gap e.1 (e.2 :: r)) (gap last [])
def pool (es : List (Nat × CpInfo)) (last : Nat) : Array CpInfo := ⟨poolList es last⟩
def fileOf (pool : Array CpInfo) (this : Nat) (attrs : Array Attribute := #[]) (ms : Array MethodInfo := #[]) (fl : Nat := 33) (sup : Nat := 0) (ifs : Array Nat := #[]) (fds : Array FieldInfo := #[]) : ClassFile where
  minorVersion := 0
  majorVersion := 65
  constantPool := pool
  accessFlags := fl
  thisClass := this
  superClass := sup
  interfaces := ifs
  fields := fds
  methods := ms
  attributes := attrs
def plain (name : String) (sup : Option ClassId) : Class where
  name := name
  kind := .ordinary
  loader := none
  accessFlags := 33
  super := sup
  interfaces := #[]
  cf := none
  fields := #[]
  methods := #[]
  instanceTypes := #[]
  staticTypes := #[]
  resolved := #[]
  callSites := []
  init := .initialized
  statics := none
  mirror := none

def pool0 : Array CpInfo := pool [(5, u "<init>"), (0, u "()V"), (1, .class_ 10), (1, u "java/lang/Object")] 113

def k0m0 : Method := { name := "<init>", desc := "()V", sig := { parameters := [], returnType := none }, accessFlags := 1, code := none }
/-- java/lang/Object -/
def k0 : Class := { plain "java/lang/Object" none with
  accessFlags := 33
  interfaces := #[]
  cf := some (fileOf pool0 8 #[] #[{ accessFlags := 1, nameIndex := 5, descriptorIndex := 6, attributes := #[] }] 33 0 #[] #[])
  fields := #[]
  methods := #[k0m0]
  instanceTypes := #[]
  staticTypes := #[]
  resolved := Array.replicate 124 none
  statics := none }

def pool1 : Array CpInfo := pool [(2, .class_ 4), (1, u "java/lang/Object"), (0, u "<init>"), (0, u "()V"), (0, .integer 2147483647), (0, .integer 1114112), (0, .integer 65536), (0, .integer 262144), (0, .methodref 12 13), (0, .class_ 14), (0, .nameAndType 15 16), (0, u "com/example/querytrail/querytrail/Utf8"), (0, u "codePoint"), (0, u "([BII)I"), (0, .integer 65533), (0, .class_ 19), (0, u "com/example/querytrail/querytrail/Utf8CodePointPinLaw"), (2, u "law"), (0, u "(IIJI)Z")] 5

def k1m0 : Method := { name := "<init>", desc := "()V", sig := { parameters := [], returnType := none }, accessFlags := 2, code := none }
def k1c1 : Code := { maxStack := 5, maxLocals := 14, code := code, exceptionTable := #[], attributes := #[] }
def k1m1 : Method := { name := "law", desc := "(IIJI)Z", sig := { parameters := [.int, .int, .long, .int], returnType := some .boolean }, accessFlags := 9, code := some k1c1 }
/-- com/example/querytrail/querytrail/Utf8CodePointPinLaw -/
def k1 : Class := { plain "com/example/querytrail/querytrail/Utf8CodePointPinLaw" (some 0) with
  accessFlags := 49
  interfaces := #[]
  cf := some (fileOf pool1 18 #[] #[{ accessFlags := 2, nameIndex := 5, descriptorIndex := 6, attributes := #[] }, { accessFlags := 9, nameIndex := 22, descriptorIndex := 23, attributes := #[] }] 49 2 #[] #[])
  fields := #[]
  methods := #[k1m0, k1m1]
  instanceTypes := #[]
  staticTypes := #[]
  resolved := Array.replicate 29 none
  statics := none }

def pool2 : Array CpInfo := pool [(4, .class_ 6), (1, u "java/lang/Object"), (0, u "<init>"), (0, u "()V"), (1, .class_ 12), (1, u "com/example/querytrail/querytrail/Utf8"), (0, u "WORDS"), (0, u "Ljava/lang/invoke/VarHandle;"), (32, u "BYTE_ORDER_MARK_LENGTH"), (0, u "I"), (2, u "BYTE_ORDER_MARK"), (0, u "[B"), (111, u "([BII)I"), (20, .integer 65533), (15, u "ONES"), (0, u "J"), (3, u "HIGH_BITS"), (0, u "CHARACTERS_A_TURN"), (1, u "BLOCK"), (1, u "UNPAIRED_LENGTH"), (18, u "codePoint")] 3

def k2m0 : Method := { name := "<init>", desc := "()V", sig := { parameters := [], returnType := none }, accessFlags := 2, code := none }
def k2c1 : Code := { maxStack := 4, maxLocals := 5, code := prog_142_method_20_code, exceptionTable := #[], attributes := #[] }
def k2m1 : Method := { name := "codePoint", desc := "([BII)I", sig := { parameters := [(.array .byte), .int, .int], returnType := some .int }, accessFlags := 8, code := some k2c1 }
/-- com/example/querytrail/querytrail/Utf8 -/
def k2 : Class := { plain "com/example/querytrail/querytrail/Utf8" (some 0) with
  accessFlags := 48
  interfaces := #[]
  cf := some (fileOf pool2 10 #[] #[{ accessFlags := 2, nameIndex := 7, descriptorIndex := 8, attributes := #[] }, { accessFlags := 8, nameIndex := 230, descriptorIndex := 164, attributes := #[] }] 48 4 #[] #[{ accessFlags := 24, nameIndex := 201, descriptorIndex := 202, attributes := #[] }, { accessFlags := 24, nameIndex := 206, descriptorIndex := 202, attributes := #[] }, { accessFlags := 26, nameIndex := 51, descriptorIndex := 52, attributes := #[] }, { accessFlags := 24, nameIndex := 47, descriptorIndex := 48, attributes := #[] }, { accessFlags := 26, nameIndex := 207, descriptorIndex := 48, attributes := #[] }, { accessFlags := 26, nameIndex := 209, descriptorIndex := 48, attributes := #[] }, { accessFlags := 24, nameIndex := 211, descriptorIndex := 48, attributes := #[] }, { accessFlags := 26, nameIndex := 13, descriptorIndex := 14, attributes := #[] }])
  fields := #[{ name := "ONES", type := .long, accessFlags := 24, slot := 0, constantValue := 0 }, { name := "HIGH_BITS", type := .long, accessFlags := 24, slot := 1, constantValue := 0 }, { name := "BYTE_ORDER_MARK", type := (.array .byte), accessFlags := 26, slot := 2, constantValue := 0 }, { name := "BYTE_ORDER_MARK_LENGTH", type := .int, accessFlags := 24, slot := 3, constantValue := 0 }, { name := "CHARACTERS_A_TURN", type := .int, accessFlags := 26, slot := 4, constantValue := 0 }, { name := "BLOCK", type := .int, accessFlags := 26, slot := 5, constantValue := 0 }, { name := "UNPAIRED_LENGTH", type := .int, accessFlags := 24, slot := 6, constantValue := 0 }, { name := "WORDS", type := (.object "java/lang/invoke/VarHandle"), accessFlags := 26, slot := 7, constantValue := 0 }]
  methods := #[k2m0, k2m1]
  instanceTypes := #[]
  staticTypes := #[.long, .long, (.array .byte), .int, .int, .int, .int, (.object "java/lang/invoke/VarHandle")]
  resolved := Array.replicate 234 none
  statics := none }

def pool3 : Array CpInfo := pool [(1, u "java/lang/Cloneable"), (0, .class_ 1), (0, u "java/lang/Object"), (0, .class_ 3)] 3

/-- java/lang/Cloneable -/
def k3 : Class := { plain "java/lang/Cloneable" (some 0) with
  accessFlags := 1537
  interfaces := #[]
  cf := some (fileOf pool3 2 #[] #[] 1537 4 #[] #[])
  fields := #[]
  methods := #[]
  instanceTypes := #[]
  staticTypes := #[]
  resolved := Array.replicate 8 none
  statics := none }

def pool4 : Array CpInfo := pool [(1, u "java/io/Serializable"), (0, .class_ 1), (0, u "java/lang/Object"), (0, .class_ 3)] 3

/-- java/io/Serializable -/
def k4 : Class := { plain "java/io/Serializable" (some 0) with
  accessFlags := 1537
  interfaces := #[]
  cf := some (fileOf pool4 2 #[] #[] 1537 4 #[] #[])
  fields := #[]
  methods := #[]
  instanceTypes := #[]
  staticTypes := #[]
  resolved := Array.replicate 8 none
  statics := none }

/-- the primitive byte -/
def k5 : Class := { plain "byte" none with kind := .primitive 'B', accessFlags := 0x411 }
/-- [B -/
def k6 : Class := { plain "[B" (some 0) with kind := .array 5 .byte, interfaces := #[3, 4], accessFlags := 1041 }

/-- the primitive int -/
def k7 : Class := { plain "int" none with kind := .primitive 'I', accessFlags := 0x411 }
/-- [I -/
def k8 : Class := { plain "[I" (some 0) with kind := .array 7 .int, interfaces := #[3, 4], accessFlags := 1041 }

def heap : Heap := #[]
def classes : Array Class := #[k0, k1, k2, k3, k4, k5, k6, k7, k8]
def interned : List (Array UInt16 × Addr) := []
def slotsUsed : Nat := 0
def theMethod : MethodId := ⟨1, 1⟩
def args0 : Array Value := #[.int 5, .int 1, .long 2, .int 3]
def aboutOver (below : List Frame) : State where
  vm := { classes := classes, interned := interned.toArray }
  heap := heap
  slotsUsed := slotsUsed
  threads := #[{ frames := .invoking theMethod args0 :: below }]
def below0 : List Frame := [.native { method := ⟨0, 0⟩, args := #[] }]
def about1 : State := aboutOver below0
def p0 : Program := .bare "" "" ""
def e0 : Env := launch0.env 0 0 0
theorem w_frames : about1.frames = Frame.invoking theMethod args0 :: below0 := rfl
set_option maxRecDepth 65536 in
theorem w_args : argsFit about1.vm theMethod args0 = true := by decide +kernel
set_option maxRecDepth 65536 in
theorem w_heap : heapFits about1 = true := by decide +kernel
set_option maxRecDepth 65536 in
theorem w_runnable : about1.curStatus? = some .runnable := by decide +kernel
set_option maxRecDepth 65536 in
theorem w_alone : about1.alone = true := by decide +kernel
set_option maxRecDepth 65536 in
theorem w_named : about1.methodNamed? x = some theMethod := by decide +kernel
set_option maxRecDepth 65536 in
theorem w_hears : about1.hears theMethod below0 = true := by decide +kernel
set_option maxRecDepth 65536 in
theorem w_ripe : about1.ripe theMethod args0 below0 = true := by decide +kernel
theorem w_running : about1.status = .running := rfl
set_option maxRecDepth 65536 in
theorem w_room : about1.hasRoom e0.platform room_1 = true :=
  launch0.hasRoom_least _ room_1 (by decide +kernel) (by decide +kernel) (by decide +kernel) (by decide +kernel) (by decide +kernel) (by decide +kernel)
theorem allAtoms_all (ts : List Jvm.Cond) (a : Array Jvm.Value) (st : Jvm.State) : (allAtoms ts).before a st = ts.all (fun c => c.before a st) := by
  induction ts with
  | nil => rfl
  | cons c t ih =>
    show (Jvm.Cond.and c (allAtoms t)).before a st = _
    rw [Jvm.Cond.before_and, ih, List.all_cons]
def words1 : List Jvm.Cond := Jvm.Cond.code x code maxLocals ret :: tables_1
/-- a 'code' word, met by the world's own term for the bytes: nothing is compared byte by byte -/
theorem code_word {y : MethodName} {bytes : ByteArray} {mx : Nat} {rt : Option FieldType} {a : Array Value} {s : State} {m : MethodId} {meth : Method} {c : Code} (h1 : s.methodNamed? y = some m) (h2 : s.vm.method? m = some meth) (h3 : meth.code = some c) (h4 : c.code = bytes)
    (h5 : (c.maxLocals == mx && c.exceptionTable.isEmpty && decide (c.maxStack ≤ mostOperands) && decide (meth.sig.returnType = rt) && !meth.locks && decide (parseMethodDescriptor y.desc = some meth.sig)) = true) : (Jvm.Cond.code y bytes mx rt).before a s = true := by
  simp only [Bool.and_eq_true, beq_iff_eq, Bool.not_eq_true', decide_eq_true_eq] at h5
  obtain ⟨⟨⟨⟨⟨g1, g2⟩, g3⟩, g4⟩, g5⟩, g6⟩ := h5
  simp [Cond.before, Cond.holds, Cond.value, h1, h2, h3, h4, g1, g2, g3, g4, g5, g6]
def isCode : Jvm.Cond → Bool
  | .code _ _ _ _ => true
  | _ => false
theorem all_split {L : List Jvm.Cond} {P : Jvm.Cond → Bool} (h1 : L.all (fun c => isCode c || P c) = true) (h2 : ∀ c ∈ L.filter isCode, P c = true) : L.all P = true := by
  refine List.all_eq_true.mpr fun c hc => ?_
  have h := List.all_eq_true.mp h1 c hc
  rcases Bool.eq_false_or_eq_true (isCode c) with hi | hi
  · exact h2 c (List.mem_filter.mpr ⟨hc, hi⟩)
  · simpa [hi] using h
set_option maxRecDepth 65536 in
theorem w_c0 : (Jvm.Cond.code x code maxLocals ret).before args0 about1 = true := code_word (m := ⟨1, 1⟩) (meth := k1m1) (c := k1c1) (by decide +kernel) rfl rfl rfl (by decide +kernel)
set_option maxRecDepth 65536 in
theorem w_c1 : (Jvm.Cond.code ({ cls := "com/example/querytrail/querytrail/Utf8", name := "codePoint", desc := "([BII)I" } : Jvm.MethodName) prog_142_method_20_code (5 : Nat) (Option.some Jvm.ClassFile.FieldType.int)).before args0 about1 = true := code_word (m := ⟨2, 1⟩) (meth := k2m1) (c := k2c1) (by decide +kernel) rfl rfl rfl (by decide +kernel)
def codes1 : List Jvm.Cond := [Jvm.Cond.code x code maxLocals ret, Jvm.Cond.code ({ cls := "com/example/querytrail/querytrail/Utf8", name := "codePoint", desc := "([BII)I" } : Jvm.MethodName) prog_142_method_20_code (5 : Nat) (Option.some Jvm.ClassFile.FieldType.int)]
set_option maxRecDepth 65536 in
theorem codes_eq : words1.filter isCode = codes1 := rfl
theorem w_codes : ∀ c ∈ words1.filter isCode, c.before args0 about1 = true := by
  rw [codes_eq]
  intro c hc
  simp only [codes1, List.mem_cons, List.not_mem_nil, or_false] at hc
  rcases hc with rfl | rfl
  · exact w_c0
  · exact w_c1
set_option maxRecDepth 65536 in
theorem w_t1 : words1.all (fun c => isCode c || c.before args0 about1) = true := by decide +kernel
theorem w_tables : (allAtoms (Jvm.Cond.code x code maxLocals ret :: tables_1)).before args0 about1 = true := by
  rw [allAtoms_all]
  show words1.all (fun c => c.before args0 about1) = true
  refine all_split ?_ w_codes
  rw [w_t1]
set_option maxRecDepth 65536 in
theorem w_case : (Jvm.Cond.and given_1 narrow_1).before args0 about1 = true := by decide +kernel
theorem w_applies : (headSpec (Jvm.Cond.code x code maxLocals ret :: tables_1) room_1).applies x e0.platform about1 = true :=
  (Spec.applies_iff w_frames).mpr ⟨w_running, w_runnable, w_alone, w_named, w_hears, w_ripe, w_room, w_tables⟩
theorem atStart : AtStart classFile x code maxLocals ret World_1 tables_1 room_1 Calls_1 rest_1 Pre_1 launch0 p0 e0 about1 theMethod args0 below0 :=
  ⟨lists_1, trivial, launch0.admits_env _ _ _, launch0.least_env, fairChoices_fair.cas, fairChoices_fair.clock, w_frames, w_args, w_heap, w_applies, trivial, trivial, w_case⟩
end start1
theorem witness_1 : WitnessClaimed_1 := ⟨start1.p0, start1.e0, start1.about1, start1.theMethod, start1.args0, start1.below0, start1.atStart⟩
end Jvm.Pilot.@@N@@
