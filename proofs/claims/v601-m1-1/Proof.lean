import JvmDerived
import JvmDerived.Pilot.@@N@@Statement
import JvmDerived.Pilot.@@N@@Code
set_option linter.unusedVariables false
set_option linter.unusedSimpArgs false
namespace Jvm.RoadKit
open Sem ClassFile Op Lib Jvm.Stand Jvm.Free Jvm.LawKit
section New
variable {p : Program} {l : Launch} {e : Env} {R : Room} {s : State} {m : MethodId} {args : Array Value} {below : List Frame} {meth : Method} {c : Code} {T : State} {locs : List Loc} {cells slots : Nat}
theorem retI (X : Stand p l e R s m args below meth c T locs cells slots) (hx : p.tables.exec = Jvm.exec) {pc : Nat} {Ls : Array Slot} {z : Int32} {rest : List Value} (hret : meth.sig.returnType = some .int) (hd : decode c.code pc = .ok (.ireturn, 1)) {fs : List Frame}
    (hl : ∀ (f : JFrame) (acts : List Action), f.method = m → f.locked = none → f.entered = [] → (doReturn e (T.setTop f) acts (some (.int z))).1 = T.setFrames fs) : Steps p.tables e below (T.setTop (mkF m pc Ls (.int z :: rest))) (T.setFrames fs) := by
  have hm' : T.vm.method? m = some meth := X.method'
  have hn : narrow .int (.int z) = .int z := rfl
  show Steps p.tables e below (T.setTop { method := m, pc := pc, locals := Ls, stack := _ :: rest, locked := none }) _
  jvm_step X.here [X.here.top, hx, hd, hm', hret, hn]
  first | (intro acts; rw [hl _ acts rfl rfl rfl]) | rw [hl _ _ rfl rfl rfl]
  exact Steps.refl _
end New
end Jvm.RoadKit
namespace Jvm.Pilot.@@N@@
open Jvm Jvm.ClassFile Sem Op Lib Jvm.Free Jvm.Stand Jvm.LawKit Jvm.RoadKit Bundle Jvm.Pilot.@@N@@.Jvm.D
/-! 0. own, general: a walk that goes forward and may fork; byte arrays by a function -/
theorem own_tlt {x y : Int32} (h : x.toInt < y.toInt) : if_icmp.holds .lt x y = true ∧ if_icmp.holds .ge x y = false ∧ if_icmp.holds .gt y x = true ∧ if_icmp.holds .le y x = false := tlt (Int32.lt_iff_toInt_lt.mpr h)
theorem own_flt {x y : Int32} (h : ¬ x.toInt < y.toInt) : if_icmp.holds .lt x y = false ∧ if_icmp.holds .ge x y = true ∧ if_icmp.holds .gt y x = false ∧ if_icmp.holds .le y x = true := flt (fun q => h (Int32.lt_iff_toInt_lt.mp q))
theorem own_teq {x y : Int32} (h : x.toInt = y.toInt) : if_icmp.holds .eq x y = true ∧ if_icmp.holds .ne x y = false := teq (Int32.toInt_inj.mp h)
theorem own_feq {x y : Int32} (h : ¬ x.toInt = y.toInt) : if_icmp.holds .eq x y = false ∧ if_icmp.holds .ne x y = true := feq (fun q => h (congrArg Int32.toInt q))
theorem own_idx {j : Int32} {i : Nat} (h : j.toInt = i) : ¬ j < 0 ∧ j.toNatClampNeg = i := by
  constructor
  · rw [Int32.lt_iff_toInt_lt, h, show (0 : Int32).toInt = 0 from rfl]; omega
  · rw [Int32.toNatClampNeg, h]; rfl
/-- a byte array: n components, the i-th is f i -/
def own_arr (Z : State) (h : Heap) (a : Addr) (n : Nat) (f : Nat → Int32) : Prop :=
  ∃ cl : Cell, Arr Z h a cl .byte ∧ cl.slots.size = n ∧ (∀ i, i < n → cl.slots[i]? = some (.int (f i))) ∧ ∀ i, i < n → -128 ≤ (f i).toInt ∧ (f i).toInt < 128
theorem own_arr_rng {Z : State} {h : Heap} {a : Addr} {n : Nat} {f : Nat → Int32} (V : own_arr Z h a n f) : ∀ i, i < n → -128 ≤ (f i).toInt ∧ (f i).toInt < 128 := by
  obtain ⟨cl, -, -, -, G⟩ := V; exact G
theorem own_arr_lt {Z : State} {h : Heap} {a : Addr} {n : Nat} {f : Nat → Int32} (V : own_arr Z h a n f) : a < h.size := by
  obtain ⟨cl, A, -⟩ := V; exact A.lt
theorem own_nar (x : Int32) : -128 ≤ (nar .byte x).toInt ∧ (nar .byte x).toInt < 128 := (c_i2b x).2
section OwnN
variable {p : Program} {l : Launch} {e : Env} {R : Room} {s : State} {m : MethodId} {args : Array Value} {below : List Frame} {meth : Method} {c : Code} {T : State} {locs : List Loc} {cells slots : Nat} {Z : State} {a0 : Array Value} {h : Heap}
theorem own_ld (X : Stand p l e R s m args below meth c T locs cells slots) (hx : p.tables.exec = Jvm.exec) (hZ : Z.Warmed39 s.vm) (eT : T.heap = h) {a : Addr} {n : Nat} {f : Nat → Int32} (V : own_arr Z h a n f) {j : Int32} {i : Nat} (hj : j.toInt = i) (hi : i < n) {pc : Nat} {Ls : Array Slot} {rest : List Value} (hd : decode c.code pc = .ok (.baload, 1)) {target : State}
    (k : Steps p.tables e below (T.setTop (mkF m (pc + 1) Ls (.int (f i) :: rest))) target) : Steps p.tables e below (T.setTop (mkF m pc Ls (.int j :: .ref a :: rest))) target := by
  obtain ⟨cl, A, S, H, -⟩ := V
  obtain ⟨q1, q2⟩ := own_idx hj
  exact X.baloadBytes hx (j := j) (v := .int (f i)) (by rw [eT]; exact A.1) (State.isArrayOf_alike hZ.alike A.2.1) A.2.2 (fun q => by
    rcases q with q | q
    · exact q1 q
    · rw [q2, S] at q; omega) (by rw [q2]; exact H i hi) (g := mkF m pc Ls (.int j :: .ref a :: rest)) rfl rfl hd _ k
theorem own_sto (X : Stand p l e R s m args below meth c T locs cells slots) (hx : p.tables.exec = Jvm.exec) (hZ : Z.Warmed39 s.vm) (eT : T.heap = h) {a : Addr} {n : Nat} {f : Nat → Int32} (V : own_arr Z h a n f) {j x : Int32} {i : Nat} (hj : j.toInt = i) (hi : i < n) {pc : Nat} (hd : decode c.code pc = .ok (.bastore, 1)) {n0 : Nat} (N : Fr n0 locs) (ha : n0 ≤ a) :
    ∃ (T' : State) (locs' : List Loc) (f' : Nat → Int32), Stand p l e R s m args below meth c T' locs' cells slots ∧ Fr n0 locs' ∧ own_arr Z T'.heap a n f' ∧ f' i = nar .byte x ∧ (∀ k, k ≠ i → f' k = f k) ∧
      ∀ (Ls : Array Slot) (rest : List Value) (target : State), Steps p.tables e below (T'.setTop (mkF m (pc + 1) Ls rest)) target → Steps p.tables e below (T.setTop (mkF m pc Ls (.int x :: .int j :: .ref a :: rest))) target := by
  obtain ⟨cl, A, S, H, G⟩ := V
  obtain ⟨q1, q2⟩ := own_idx hj
  have hin : ¬ (j < 0 ∨ cl.slots.size ≤ j.toNatClampNeg) := fun q => by
    rcases q with q | q
    · exact q1 q
    · rw [q2, S] at q; omega
  obtain ⟨X', st⟩ : Stand p l e R s m args below meth c (T.setCell a (cl.setSlot j.toNatClampNeg (.int (nar .byte x)))) (locs ++ [⟨a, j.toNatClampNeg⟩]) cells slots ∧ ∀ (Ls : Array Slot) (rest : List Value) (target : State), Steps p.tables e below ((T.setCell a (cl.setSlot j.toNatClampNeg (.int (nar .byte x)))).setTop (mkF m (pc + 1) Ls rest)) target → Steps p.tables e below (T.setTop (mkF m pc Ls (.int x :: .int j :: .ref a :: rest))) target := by
    have q := fun (Ls : Array Slot) (rest : List Value) => bastoreB X hx (x := x) (by rw [eT]; exact A.1) (State.isArrayOf_alike hZ.alike A.2.1) A.2.2 hin (g := mkF m pc Ls (.int x :: .int j :: .ref a :: rest)) rfl rfl hd
    exact ⟨(q #[] []).1, fun Ls rest => (q Ls rest).2⟩
  refine ⟨_, _, fun k => if k = i then nar .byte x else f k, X', Fr.snoc X' N ha, ⟨cl.setSlot j.toNatClampNeg (.int (nar .byte x)), A.same (h' := (T.setCell a (cl.setSlot j.toNatClampNeg (.int (nar .byte x)))).heap) ⟨cl, A.1, A.plain, Nat.lt_of_not_le fun q => hin (Or.inr q), by rw [← eT]; rfl⟩, by rw [sz_set]; exact S, fun k hk => ?_, fun k hk => ?_⟩, if_pos rfl, fun k hk => if_neg hk, st⟩
  · rw [q2]
    by_cases u : k = i
    · subst u; simp [Cell.setSlot, S, hk]
    · show _ = some (Value.int (if k = i then nar .byte x else f k))
      rw [if_neg u]
      simp only [Cell.setSlot]
      rw [Array.getElem?_setIfInBounds_ne (fun q => u q.symm)]; exact H k hk
  · show -128 ≤ (if k = i then nar .byte x else f k).toInt ∧ (if k = i then nar .byte x else f k).toInt < 128
    by_cases u : k = i
    · rw [if_pos u]; exact own_nar x
    · rw [if_neg u]; exact G k hk
theorem own_mk (X : Stand p l e R s m args below meth c T locs cells slots) (hx : p.tables.exec = Jvm.exec) (hZ : Z.Warmed39 s.vm) (w : (Cond.arrayClass .byte).before a0 Z = true) (eT : T.heap = h) {pc : Nat} (hd : decode c.code pc = .ok (.newarray .byte, 2)) {z : Int32} {n : Nat} (hz : z.toInt = n) (hb : n * 8 ≤ 536870912) (hc : cells + 1 ≤ R.cells) (hl : slots + n ≤ R.slots) (Ls : Array Slot) (rest : List Value) :
    ∃ (T' : State) (a : Addr), Stand p l e R s m args below meth c T' locs (cells + 1) (slots + n) ∧ own_arr Z T'.heap a n (fun _ => 0) ∧ h.size ≤ a ∧
      ∀ target, Steps p.tables e below (T'.setTop (mkF m (pc + 2) Ls (.ref a :: rest))) target → Steps p.tables e below (T.setTop (mkF m pc Ls (.int z :: rest))) target := by
  obtain ⟨q1, q2⟩ := own_idx hz
  obtain ⟨T', h', cA, X', e', E', A', st⟩ := newP X hx hZ (aty := .byte) w eT (g := mkF m pc Ls (.int z :: rest)) rfl hd rfl q1 (cap := n) (by rw [q2]; exact Nat.le_refl _) hb hc hl
  refine ⟨T', h.size, X', ?_, Nat.le_refl _, st⟩
  rw [e']
  refine ⟨_, A', by rw [sz_new]; exact q2, fun i hi => ?_, fun i _ => (by decide : -128 ≤ (0 : Int32).toInt ∧ (0 : Int32).toInt < 128)⟩
  simp [newA, q2, hi, newarray.typeOf, defaultValue]
theorem own_call (X : Stand p l e R s m args below meth c T locs cells slots) (hx : p.tables.exec = Jvm.exec) (hZ : Z.Warmed39 s.vm) (eT : T.heap = h) {own : String} {index : Nat} {y : MethodName} {bytes : ByteArray} {maxL : Nat} {ret : Option FieldType} {rm : Room} {Q : Option Value → Heap → List Loc → Prop} {argsL rest : List Value} {W : Nat}
    (hown : s.vm.findClass own = some m.cls) (w1 : (Cond.methodLink own index y).before a0 Z = true) (w2 : (Cond.static y).before a0 Z = true) (w3 : (Cond.initialized y.cls).before a0 Z = true) (w4 : (Cond.code y bytes maxL ret).before a0 Z = true) (hy : y.cls ≠ "java/lang/invoke/MethodHandle" ∧ y.cls ≠ "java/lang/invoke/VarHandle")
    (hM : MetFree l y (head1 [Cond.code y bytes maxL ret] rm) (fun a U => a = argsL.toArray ∧ Z.Warmed39 U.vm ∧ U.heap = h) (fun _ _ _ _ _ => True) (fun _ U o U' => ∃ v L, o = .returned v ∧ Q v U'.heap L ∧ FrameEnd U o U' L rm.cells rm.slots))
    (hf : rm.frames + 1 ≤ R.frames) (hl : W + (maxL + 11) + rm.locals ≤ R.locals) {pc : Nat} {Ls : Array Slot} (hs : Ls.size = c.maxLocals) (hlen : ∀ sig, parseMethodDescriptor y.desc = some sig → argsL.length = sig.parameters.length) (hW : (rest.map fun v => v.category).sum ≤ W) (hd : decode c.code pc = .ok (.invokestatic index, 3))
    (hc : cells + rm.cells ≤ R.cells) (hsl : slots + rm.slots ≤ R.slots) :
    ∃ (v : Option Value) (T' : State) (L : List Loc), Stand p l e R s m args below meth c T' (locs ++ L) (cells + rm.cells) (slots + rm.slots) ∧ Q v T'.heap L ∧
      ∀ target, Steps p.tables e below (T'.setTop (mkF m (pc + 3) Ls (v.toList ++ rest))) target → Steps p.tables e below (T.setTop (mkF m pc Ls (argsL.reverse ++ rest))) target := by
  obtain ⟨v, _, ⟨T5, L5, k5, n5⟩, -, X5, ⟨Lc5, hQ5, l5, y5, z5⟩, st5⟩ := Jvm.LawKit.callS X hx (y := y) hown (mvT hZ w1) (mvT hZ w2) (mvT hZ w3) (mvT hZ w4) hy (backOf (W := W) hM hZ w4 w3 hf hl) (g := mkF m pc Ls (argsL.reverse ++ rest)) rfl hs (argsL := argsL) (rest := rest) hlen rfl (by show 2 * 0 + _ ≤ _; omega) hd (fun _ _ => ⟨rfl, eT, hc, hsl⟩)
  dsimp only [Pt.U, Pt.locs, Pt.cells, Pt.slots] at X5 l5 y5 z5 st5 hQ5
  subst l5 y5 z5
  exact ⟨v, T5, Lc5, X5, hQ5, st5⟩
/-- what holds where a step leads holds here -/
def own_moves (p : Program) (e : Env) (below : List Frame) (G : State → JFrame → Prop) : Prop := ∀ (T T1 : State) (g g1 : JFrame), (∀ target, Steps p.tables e below (T1.setTop g1) target → Steps p.tables e below (T.setTop g) target) → G T1 g1 → G T g
/-- what holds where the body returns v with Q -/
def own_rets (p : Program) (l : Launch) (e : Env) (R : Room) (s : State) (m : MethodId) (args : Array Value) (below : List Frame) (meth : Method) (c : Code) (n0 K S : Nat) (Q : Value → Heap → Prop) (G : State → JFrame → Prop) : Prop :=
  ∀ (T : State) (L : List Loc) (k n : Nat) (v : Value) (g : JFrame), Stand p l e R s m args below meth c T L k n → Fr n0 L → k ≤ K → n ≤ S → Q v T.heap →
    (∀ fs, (∀ (f : JFrame) (acts : List Action), f.method = m → f.locked = none → f.entered = [] → (doReturn e (T.setTop f) acts (some v)).1 = T.setFrames fs) → Steps p.tables e below (T.setTop g) (T.setFrames fs)) → G T g
/-- what a contract says: it returns w with Qx, all that it wrote is new -/
def own_q (Qx : Value → Heap → Prop) (n0 : Nat) (v : Option Value) (h : Heap) (L : List Loc) : Prop := ∃ w, v = some w ∧ Qx w h ∧ Fr n0 L
theorem own_end {n0 K S : Nat} {Q : Value → Heap → Prop} {T0 : State} {g0 : JFrame} {t : FieldType} (hret : meth.sig.returnType = some t) (hlocks : meth.locks = false)
    (H : ∀ G : State → JFrame → Prop, own_moves p e below G → own_rets p l e R s m args below meth c n0 K S Q G → G T0 g0) :
    ∃ s₂ o, Steps p.tables e below (T0.setTop g0) s₂ ∧ s₂.status = .running ∧ Ended s₂ below o ∧ ∃ v L, o = .returned v ∧ own_q Q n0 v s₂.heap L ∧ FrameEnd s o s₂ L K S := by
  refine H (fun T g => ∃ s₂ o, Steps p.tables e below (T.setTop g) s₂ ∧ s₂.status = .running ∧ Ended s₂ below o ∧ ∃ v L, o = .returned v ∧ own_q Q n0 v s₂.heap L ∧ FrameEnd s o s₂ L K S) ?_ ?_
  · rintro T T1 g g1 st ⟨s₂, o, h1, h2⟩
    exact ⟨s₂, o, st _ h1, h2⟩
  · intro T L k n v g X N hk hn hQ st
    obtain ⟨fs, hr, hrun, hended, hW, hsame⟩ := X.leave (v := some v) (fun q => by rw [hret] at q; cases q) hlocks
    exact ⟨_, _, st fs hr, hrun, hended, some v, L, rfl, ⟨v, rfl, hQ, N⟩, ⟨_, rfl⟩, hW, hsame.mono hk hn⟩
end OwnN
theorem own_by (x : Int32) : ((nar .byte x.toInt8.toInt32) &&& (255 : Int32)).toInt = x.toInt % 256 ∧ ((nar .byte x.toInt8.toInt32) &&& (63 : Int32)).toInt = x.toInt % 64 := by
  have a := c_i2b x
  have b := c_i2b x.toInt8.toInt32
  have m0 : ((nar .byte x.toInt8.toInt32) &&& (255 : Int32)).toInt = (nar .byte x.toInt8.toInt32).toInt % 256 := c_mask _ 255 8 (by decide) (by decide)
  have m1 : ((nar .byte x.toInt8.toInt32) &&& (63 : Int32)).toInt = (nar .byte x.toInt8.toInt32).toInt % 64 := c_mask _ 63 6 (by decide) (by decide)
  have e : (nar .byte x.toInt8.toInt32) = x.toInt8.toInt32.toInt8.toInt32 := rfl
  rw [e] at m0 m1 ⊢
  omega
theorem own_shl (x s : Int32) (k : Nat) (P : Int) (hk : s.toBitVec.toNat % 32 = k) (hP : ((2 ^ k : Nat) : Int) = P) (h0 : 0 ≤ x.toInt) (h1 : x.toInt * P < 2147483648) : (x <<< (s &&& 31)).toInt = x.toInt * P := by
  have a := c_ishl x s k hk
  rw [hP] at a
  have g := rng32 (x <<< (s &&& 31))
  have p0 : 0 ≤ x.toInt * P := Int.mul_nonneg h0 (by rw [← hP]; exact Int.natCast_nonneg _)
  omega
theorem own_or (a b : Int32) (k : Nat) (P : Int) (hk : k ≤ 31) (hP : P = ((2 ^ k : Nat) : Int)) (h0 : a.toInt % P = 0) (h1 : 0 ≤ b.toInt) (h2 : b.toInt < P) (h3 : 0 ≤ a.toInt) (h4 : a.toInt + b.toInt < 2147483648) : (a ||| b).toInt = a.toInt + b.toInt := by
  have q := c_or a b k hk P hP h0 h1 h2
  have g := rng32 (a ||| b)
  omega
theorem own_cc (i : Int32) : ∃ cc : Int32, ((i &&& (2147483647 : Int32)) - ((i &&& (2147483647 : Int32)) / (1114112 : Int32)) * (1114112 : Int32)) = cc ∧ 0 ≤ cc.toInt ∧ cc.toInt < 1114112 := by
  refine ⟨_, rfl, ?_⟩
  rw [irem_eq_mod]
  have m0 : (i &&& (2147483647 : Int32)).toInt = i.toInt % 2147483648 := c_mask i 2147483647 31 (by decide) (by decide)
  have t1 := (c_irem (i &&& (2147483647 : Int32)) 1114112 1114112 (by decide)).1 (by omega)
  omega
theorem own_at (a : Int32) : ∃ (p : Int32) (A : Nat), (a &&& (3 : Int32)) = p ∧ p.toInt = A ∧ A ≤ 3 := by
  have m0 : (a &&& (3 : Int32)).toInt = a.toInt % 4 := c_mask a 3 2 (by decide) (by decide)
  exact ⟨_, (a &&& (3 : Int32)).toInt.toNat, rfl, by omega⟩
theorem own_ix {p : Int32} {A : Nat} (h : p.toInt = A) (hA : A ≤ 3) : (p + (1 : Int32)).toInt = ((A + 1 : Nat) : Int) ∧ (p + (2 : Int32)).toInt = ((A + 2 : Nat) : Int) ∧ (p + (3 : Int32)).toInt = ((A + 3 : Nat) : Int) := by
  have a1 := c_iadd p 1
  have g1 := rng32 (p + 1)
  have a2 := c_iadd p 2
  have g2 := rng32 (p + 2)
  have a3 := c_iadd p 3
  have g3 := rng32 (p + 3)
  rw [show (1 : Int32).toInt = 1 from rfl] at a1
  rw [show (2 : Int32).toInt = 2 from rfl] at a2
  rw [show (3 : Int32).toInt = 3 from rfl] at a3
  omega
theorem own_m (x : Int32) : (x &&& (31 : Int32)).toInt = x.toInt % 32 ∧ (x &&& (15 : Int32)).toInt = x.toInt % 16 ∧ (x &&& (7 : Int32)).toInt = x.toInt % 8 :=
  ⟨c_mask x 31 5 (by decide) (by decide), c_mask x 15 4 (by decide) (by decide), c_mask x 7 3 (by decide) (by decide)⟩
theorem own_c : (255 : Int32).toInt = 255 ∧ (128 : Int32).toInt = 128 ∧ (64 : Int32).toInt = 64 ∧ (63 : Int32).toInt = 63 ∧ (31 : Int32).toInt = 31 ∧ (15 : Int32).toInt = 15 ∧ (7 : Int32).toInt = 7 ∧ (192 : Int32).toInt = 192 ∧ (224 : Int32).toInt = 224 ∧ (240 : Int32).toInt = 240 ∧ (2048 : Int32).toInt = 2048 ∧ (65536 : Int32).toInt = 65536 ∧ (248 : Int32).toInt = 248 ∧ (1 : Int32).toInt = 1 ∧ (2 : Int32).toInt = 2 ∧ (3 : Int32).toInt = 3 ∧ (4 : Int32).toInt = 4 := by decide
theorem own_ix1 {p : Int32} {B : Nat} (h : p.toInt = B) (hB : B ≤ 6) : (p + (1 : Int32)).toInt = ((B + 1 : Nat) : Int) := by
  have a1 := c_iadd p 1
  have g1 := rng32 (p + 1)
  rw [show (1 : Int32).toInt = 1 from rfl] at a1
  omega
theorem own_hi (x : Int32) (h : 0 ≤ x.toInt ∧ x.toInt < 256) : (x &&& (224 : Int32)).toInt = x.toInt - x.toInt % 32 ∧ (x &&& (240 : Int32)).toInt = x.toInt - x.toInt % 16 ∧ (x &&& (248 : Int32)).toInt = x.toInt - x.toInt % 8 ∧ (x &&& (192 : Int32)).toInt = x.toInt - x.toInt % 64 := by
  have key : ∀ n : Fin 256, ((Int32.ofNat n.1) &&& (224 : Int32)).toInt = (n.1 : Int) - (n.1 : Int) % 32 ∧ ((Int32.ofNat n.1) &&& (240 : Int32)).toInt = (n.1 : Int) - (n.1 : Int) % 16 ∧ ((Int32.ofNat n.1) &&& (248 : Int32)).toInt = (n.1 : Int) - (n.1 : Int) % 8 ∧ ((Int32.ofNat n.1) &&& (192 : Int32)).toInt = (n.1 : Int) - (n.1 : Int) % 64 := by decide +kernel
  have e : x = Int32.ofNat x.toInt.toNat := by
    apply Int32.toInt_inj.mp
    rw [Int32.toInt_ofNat_of_lt (by omega)]; omega
  have q := key ⟨x.toInt.toNat, by omega⟩
  rw [← e] at q
  have z : ((x.toInt.toNat : Nat) : Int) = x.toInt := by omega
  rw [z] at q
  exact q
/-- what encode leaves: k bytes from A on -/
def own_enc (cc : Int32) (A : Nat) (g : Nat → Int32) (k : Nat) : Prop :=
  (k = 1 ∧ cc.toInt < (128 : Int32).toInt ∧ g A = nar .byte cc.toInt8.toInt32) ∨
  (k = 2 ∧ ¬ cc.toInt < (128 : Int32).toInt ∧ cc.toInt < (2048 : Int32).toInt ∧ g A = nar .byte ((192 : Int32) ||| (cc >>> ((6 : Int32) &&& 31))).toInt8.toInt32 ∧ g (A + 1) = nar .byte ((128 : Int32) ||| (cc &&& (63 : Int32))).toInt8.toInt32) ∨
  (k = 3 ∧ ¬ cc.toInt < (128 : Int32).toInt ∧ ¬ cc.toInt < (2048 : Int32).toInt ∧ cc.toInt < (65536 : Int32).toInt ∧ g A = nar .byte ((224 : Int32) ||| (cc >>> ((12 : Int32) &&& 31))).toInt8.toInt32 ∧ g (A + 1) = nar .byte ((128 : Int32) ||| ((cc >>> ((6 : Int32) &&& 31)) &&& (63 : Int32))).toInt8.toInt32 ∧ g (A + 2) = nar .byte ((128 : Int32) ||| (cc &&& (63 : Int32))).toInt8.toInt32) ∨
  (k = 4 ∧ ¬ cc.toInt < (128 : Int32).toInt ∧ ¬ cc.toInt < (2048 : Int32).toInt ∧ ¬ cc.toInt < (65536 : Int32).toInt ∧ g A = nar .byte ((240 : Int32) ||| (cc >>> ((18 : Int32) &&& 31))).toInt8.toInt32 ∧ g (A + 1) = nar .byte ((128 : Int32) ||| ((cc >>> ((12 : Int32) &&& 31)) &&& (63 : Int32))).toInt8.toInt32 ∧ g (A + 2) = nar .byte ((128 : Int32) ||| ((cc >>> ((6 : Int32) &&& 31)) &&& (63 : Int32))).toInt8.toInt32 ∧ g (A + 3) = nar .byte ((128 : Int32) ||| (cc &&& (63 : Int32))).toInt8.toInt32)
theorem own_sh (cc : Int32) : (cc >>> ((6 : Int32) &&& 31)).toInt = cc.toInt / 64 ∧ (cc >>> ((12 : Int32) &&& 31)).toInt = cc.toInt / 4096 ∧ (cc >>> ((18 : Int32) &&& 31)).toInt = cc.toInt / 262144 :=
  ⟨c_ishr cc 6 6 (by decide), c_ishr cc 12 12 (by decide), c_ishr cc 18 18 (by decide)⟩
theorem own_63 (x : Int32) : (x &&& (63 : Int32)).toInt = x.toInt % 64 := c_mask x 63 6 (by decide) (by decide)
theorem own_255 (x : Int32) : (x &&& (255 : Int32)).toInt = x.toInt % 256 := c_mask x 255 8 (by decide) (by decide)
/-- a byte 10xxxxxx, made of the low six bits of y -/
theorem own_tail (y : Int32) {z : Int32} (h : z = nar .byte ((128 : Int32) ||| (y &&& (63 : Int32))).toInt8.toInt32) : ((z &&& (255 : Int32)) &&& (192 : Int32)).toInt = (128 : Int32).toInt ∧ ((z &&& (255 : Int32)) &&& (63 : Int32)).toInt = y.toInt % 64 := by
  obtain ⟨k1, k2, k3, k4, -⟩ := own_c
  have m := own_63 y
  have o := own_or (128 : Int32) (y &&& (63 : Int32)) 6 64 (by decide) (by decide) (by omega) (by omega) (by omega) (by omega) (by omega)
  have b := (own_by ((128 : Int32) ||| (y &&& (63 : Int32)))).1
  rw [← h] at b
  have q := (own_hi (z &&& (255 : Int32)) (by omega)).2.2.2
  have q2 := own_63 (z &&& (255 : Int32))
  omega
theorem own_l1 {cc z : Int32} (h0 : 0 ≤ cc.toInt) (h : cc.toInt < (128 : Int32).toInt) (e : z = nar .byte cc.toInt8.toInt32) : (z &&& (255 : Int32)).toInt = cc.toInt := by
  obtain ⟨k1, k2, -⟩ := own_c
  have b := (own_by cc).1
  rw [← e] at b
  omega
theorem own_l2 {cc z : Int32} (h0 : ¬ cc.toInt < (128 : Int32).toInt) (h : cc.toInt < (2048 : Int32).toInt) (e : z = nar .byte ((192 : Int32) ||| (cc >>> ((6 : Int32) &&& 31))).toInt8.toInt32) : ((z &&& (255 : Int32)) &&& (224 : Int32)).toInt = (192 : Int32).toInt ∧ ((z &&& (255 : Int32)) &&& (31 : Int32)).toInt = cc.toInt / 64 := by
  obtain ⟨k1, k2, k3, k4, k5, k6, k7, k8, k9, k10, k11, -⟩ := own_c
  have s := (own_sh cc).1
  have o := own_or (192 : Int32) (cc >>> ((6 : Int32) &&& 31)) 6 64 (by decide) (by decide) (by omega) (by omega) (by omega) (by omega) (by omega)
  have b := (own_by ((192 : Int32) ||| (cc >>> ((6 : Int32) &&& 31)))).1
  rw [← e] at b
  have q := (own_hi (z &&& (255 : Int32)) (by omega)).1
  have q2 := (own_m (z &&& (255 : Int32))).1
  omega
theorem own_l3 {cc z : Int32} (h0 : ¬ cc.toInt < (2048 : Int32).toInt) (h : cc.toInt < (65536 : Int32).toInt) (e : z = nar .byte ((224 : Int32) ||| (cc >>> ((12 : Int32) &&& 31))).toInt8.toInt32) : ((z &&& (255 : Int32)) &&& (240 : Int32)).toInt = (224 : Int32).toInt ∧ ((z &&& (255 : Int32)) &&& (15 : Int32)).toInt = cc.toInt / 4096 := by
  obtain ⟨k1, k2, k3, k4, k5, k6, k7, k8, k9, k10, k11, k12, -⟩ := own_c
  have s := (own_sh cc).2.1
  have o := own_or (224 : Int32) (cc >>> ((12 : Int32) &&& 31)) 5 32 (by decide) (by decide) (by omega) (by omega) (by omega) (by omega) (by omega)
  have b := (own_by ((224 : Int32) ||| (cc >>> ((12 : Int32) &&& 31)))).1
  rw [← e] at b
  have q := (own_hi (z &&& (255 : Int32)) (by omega)).2.1
  have q2 := (own_m (z &&& (255 : Int32))).2.1
  omega
theorem own_l4 {cc z : Int32} (h0 : ¬ cc.toInt < (65536 : Int32).toInt) (h : cc.toInt < 1114112) (e : z = nar .byte ((240 : Int32) ||| (cc >>> ((18 : Int32) &&& 31))).toInt8.toInt32) : ((z &&& (255 : Int32)) &&& (248 : Int32)).toInt = (240 : Int32).toInt ∧ ((z &&& (255 : Int32)) &&& (7 : Int32)).toInt = cc.toInt / 262144 := by
  obtain ⟨k1, k2, k3, k4, k5, k6, k7, k8, k9, k10, k11, k12, -⟩ := own_c
  have s := (own_sh cc).2.2
  have o := own_or (240 : Int32) (cc >>> ((18 : Int32) &&& 31)) 4 16 (by decide) (by decide) (by omega) (by omega) (by omega) (by omega) (by omega)
  have b := (own_by ((240 : Int32) ||| (cc >>> ((18 : Int32) &&& 31)))).1
  rw [← e] at b
  have q := (own_hi (z &&& (255 : Int32)) (by omega)).2.2.1
  have q2 := (own_m (z &&& (255 : Int32))).2.2
  omega
theorem own_j2 {cc u v : Int32} (h0 : ¬ cc.toInt < (128 : Int32).toInt) (h : cc.toInt < (2048 : Int32).toInt) (e0 : (u &&& (31 : Int32)).toInt = cc.toInt / 64) (e1 : (v &&& (63 : Int32)).toInt = cc.toInt % 64) : (((u &&& (31 : Int32)) <<< ((6 : Int32) &&& 31)) ||| (v &&& (63 : Int32))).toInt = cc.toInt := by
  obtain ⟨k1, k2, k3, k4, k5, k6, k7, k8, k9, k10, k11, -⟩ := own_c
  have l0 := own_shl (u &&& (31 : Int32)) 6 6 64 (by decide) (by decide) (by omega) (by omega)
  have o0 := own_or ((u &&& (31 : Int32)) <<< ((6 : Int32) &&& 31)) (v &&& (63 : Int32)) 6 64 (by decide) (by decide) (by omega) (by omega) (by omega) (by omega) (by omega)
  omega
theorem own_j3 {cc u v w : Int32} (h0 : ¬ cc.toInt < (2048 : Int32).toInt) (h : cc.toInt < (65536 : Int32).toInt) (e0 : (u &&& (15 : Int32)).toInt = cc.toInt / 4096) (e1 : (v &&& (63 : Int32)).toInt = (cc.toInt / 64) % 64) (e2 : (w &&& (63 : Int32)).toInt = cc.toInt % 64) : ((((u &&& (15 : Int32)) <<< ((12 : Int32) &&& 31)) ||| ((v &&& (63 : Int32)) <<< ((6 : Int32) &&& 31))) ||| (w &&& (63 : Int32))).toInt = cc.toInt := by
  obtain ⟨k1, k2, k3, k4, k5, k6, k7, k8, k9, k10, k11, k12, -⟩ := own_c
  have l0 := own_shl (u &&& (15 : Int32)) 12 12 4096 (by decide) (by decide) (by omega) (by omega)
  have l1 := own_shl (v &&& (63 : Int32)) 6 6 64 (by decide) (by decide) (by omega) (by omega)
  have o0 := own_or ((u &&& (15 : Int32)) <<< ((12 : Int32) &&& 31)) ((v &&& (63 : Int32)) <<< ((6 : Int32) &&& 31)) 12 4096 (by decide) (by decide) (by omega) (by omega) (by omega) (by omega) (by omega)
  have o1 := own_or (((u &&& (15 : Int32)) <<< ((12 : Int32) &&& 31)) ||| ((v &&& (63 : Int32)) <<< ((6 : Int32) &&& 31))) (w &&& (63 : Int32)) 6 64 (by decide) (by decide) (by omega) (by omega) (by omega) (by omega) (by omega)
  omega
theorem own_j4 {cc u v w y : Int32} (h0 : ¬ cc.toInt < (65536 : Int32).toInt) (h : cc.toInt < 1114112) (e0 : (u &&& (7 : Int32)).toInt = cc.toInt / 262144) (e1 : (v &&& (63 : Int32)).toInt = (cc.toInt / 4096) % 64) (e2 : (w &&& (63 : Int32)).toInt = (cc.toInt / 64) % 64) (e3 : (y &&& (63 : Int32)).toInt = cc.toInt % 64) : (((((u &&& (7 : Int32)) <<< ((18 : Int32) &&& 31)) ||| ((v &&& (63 : Int32)) <<< ((12 : Int32) &&& 31))) ||| ((w &&& (63 : Int32)) <<< ((6 : Int32) &&& 31))) ||| (y &&& (63 : Int32))).toInt = cc.toInt := by
  obtain ⟨k1, k2, k3, k4, k5, k6, k7, k8, k9, k10, k11, k12, -⟩ := own_c
  have l0 := own_shl (u &&& (7 : Int32)) 18 18 262144 (by decide) (by decide) (by omega) (by omega)
  have l1 := own_shl (v &&& (63 : Int32)) 12 12 4096 (by decide) (by decide) (by omega) (by omega)
  have l2 := own_shl (w &&& (63 : Int32)) 6 6 64 (by decide) (by decide) (by omega) (by omega)
  have o0 := own_or ((u &&& (7 : Int32)) <<< ((18 : Int32) &&& 31)) ((v &&& (63 : Int32)) <<< ((12 : Int32) &&& 31)) 18 262144 (by decide) (by decide) (by omega) (by omega) (by omega) (by omega) (by omega)
  have o1 := own_or (((u &&& (7 : Int32)) <<< ((18 : Int32) &&& 31)) ||| ((v &&& (63 : Int32)) <<< ((12 : Int32) &&& 31))) ((w &&& (63 : Int32)) <<< ((6 : Int32) &&& 31)) 12 4096 (by decide) (by decide) (by omega) (by omega) (by omega) (by omega) (by omega)
  have o2 := own_or ((((u &&& (7 : Int32)) <<< ((18 : Int32) &&& 31)) ||| ((v &&& (63 : Int32)) <<< ((12 : Int32) &&& 31))) ||| ((w &&& (63 : Int32)) <<< ((6 : Int32) &&& 31))) (y &&& (63 : Int32)) 6 64 (by decide) (by decide) (by omega) (by omega) (by omega) (by omega) (by omega)
  omega
theorem own_next {pa r : Int32} {A k : Nat} (z : Int32) (hp : pa.toInt = A) (hA : A ≤ 3) (hr : r.toInt = ((A + k : Nat) : Int)) (hz : z.toInt = k) (hk : k ≤ 4) : r.toInt = (pa + z).toInt := by
  have a1 := c_iadd pa z
  have g1 := rng32 (pa + z)
  omega
theorem own_fill (i : Int32) : ∃ fl : Int32, i.toInt8.toInt32 = fl ∧ nar .byte fl = fl := by
  refine ⟨_, rfl, ?_⟩
  have a := c_i2b i
  have b := c_i2b i.toInt8.toInt32
  apply Int32.toInt_inj.mp
  show i.toInt8.toInt32.toInt8.toInt32.toInt = _
  omega
theorem d1_0 : decode prog_142_method_21_code 0 = .ok (.iload_n 2, 1) := by decide +kernel
theorem d1_1 : decode prog_142_method_21_code 1 = .ok (.istore_n 3, 1) := by decide +kernel
theorem d1_2 : decode prog_142_method_21_code 2 = .ok (.iload_n 0, 1) := by decide +kernel
theorem d1_3 : decode prog_142_method_21_code 3 = .ok (.sipush 128, 3) := by decide +kernel
theorem d1_6 : decode prog_142_method_21_code 6 = .ok (.if_icmp .ge 14, 3) := by decide +kernel
theorem d1_9 : decode prog_142_method_21_code 9 = .ok (.aload_n 1, 1) := by decide +kernel
theorem d1_10 : decode prog_142_method_21_code 10 = .ok (.iload_n 3, 1) := by decide +kernel
theorem d1_11 : decode prog_142_method_21_code 11 = .ok (.iinc 3 1, 3) := by decide +kernel
theorem d1_14 : decode prog_142_method_21_code 14 = .ok (.iload_n 0, 1) := by decide +kernel
theorem d1_15 : decode prog_142_method_21_code 15 = .ok (.i2b, 1) := by decide +kernel
theorem d1_16 : decode prog_142_method_21_code 16 = .ok (.bastore, 1) := by decide +kernel
theorem d1_17 : decode prog_142_method_21_code 17 = .ok (.goto 166, 3) := by decide +kernel
theorem d1_20 : decode prog_142_method_21_code 20 = .ok (.iload_n 0, 1) := by decide +kernel
theorem d1_21 : decode prog_142_method_21_code 21 = .ok (.sipush 2048, 3) := by decide +kernel
theorem d1_24 : decode prog_142_method_21_code 24 = .ok (.if_icmp .ge 36, 3) := by decide +kernel
theorem d1_27 : decode prog_142_method_21_code 27 = .ok (.aload_n 1, 1) := by decide +kernel
theorem d1_28 : decode prog_142_method_21_code 28 = .ok (.iload_n 3, 1) := by decide +kernel
theorem d1_29 : decode prog_142_method_21_code 29 = .ok (.iinc 3 1, 3) := by decide +kernel
theorem d1_32 : decode prog_142_method_21_code 32 = .ok (.sipush 192, 3) := by decide +kernel
theorem d1_35 : decode prog_142_method_21_code 35 = .ok (.iload_n 0, 1) := by decide +kernel
theorem d1_36 : decode prog_142_method_21_code 36 = .ok (.bipush 6, 2) := by decide +kernel
theorem d1_38 : decode prog_142_method_21_code 38 = .ok (.ishr, 1) := by decide +kernel
theorem d1_39 : decode prog_142_method_21_code 39 = .ok (.ior, 1) := by decide +kernel
theorem d1_40 : decode prog_142_method_21_code 40 = .ok (.i2b, 1) := by decide +kernel
theorem d1_41 : decode prog_142_method_21_code 41 = .ok (.bastore, 1) := by decide +kernel
theorem d1_42 : decode prog_142_method_21_code 42 = .ok (.aload_n 1, 1) := by decide +kernel
theorem d1_43 : decode prog_142_method_21_code 43 = .ok (.iload_n 3, 1) := by decide +kernel
theorem d1_44 : decode prog_142_method_21_code 44 = .ok (.iinc 3 1, 3) := by decide +kernel
theorem d1_47 : decode prog_142_method_21_code 47 = .ok (.sipush 128, 3) := by decide +kernel
theorem d1_50 : decode prog_142_method_21_code 50 = .ok (.iload_n 0, 1) := by decide +kernel
theorem d1_51 : decode prog_142_method_21_code 51 = .ok (.bipush 63, 2) := by decide +kernel
theorem d1_53 : decode prog_142_method_21_code 53 = .ok (.iand, 1) := by decide +kernel
theorem d1_54 : decode prog_142_method_21_code 54 = .ok (.ior, 1) := by decide +kernel
theorem d1_55 : decode prog_142_method_21_code 55 = .ok (.i2b, 1) := by decide +kernel
theorem d1_56 : decode prog_142_method_21_code 56 = .ok (.bastore, 1) := by decide +kernel
theorem d1_57 : decode prog_142_method_21_code 57 = .ok (.goto 126, 3) := by decide +kernel
theorem d1_60 : decode prog_142_method_21_code 60 = .ok (.iload_n 0, 1) := by decide +kernel
theorem d1_61 : decode prog_142_method_21_code 61 = .ok (.ldc 186, 2) := by decide +kernel
theorem d1_63 : decode prog_142_method_21_code 63 = .ok (.if_icmp .ge 54, 3) := by decide +kernel
theorem d1_66 : decode prog_142_method_21_code 66 = .ok (.aload_n 1, 1) := by decide +kernel
theorem d1_67 : decode prog_142_method_21_code 67 = .ok (.iload_n 3, 1) := by decide +kernel
theorem d1_68 : decode prog_142_method_21_code 68 = .ok (.iinc 3 1, 3) := by decide +kernel
theorem d1_71 : decode prog_142_method_21_code 71 = .ok (.sipush 224, 3) := by decide +kernel
theorem d1_74 : decode prog_142_method_21_code 74 = .ok (.iload_n 0, 1) := by decide +kernel
theorem d1_75 : decode prog_142_method_21_code 75 = .ok (.bipush 12, 2) := by decide +kernel
theorem d1_77 : decode prog_142_method_21_code 77 = .ok (.ishr, 1) := by decide +kernel
theorem d1_78 : decode prog_142_method_21_code 78 = .ok (.ior, 1) := by decide +kernel
theorem d1_79 : decode prog_142_method_21_code 79 = .ok (.i2b, 1) := by decide +kernel
theorem d1_80 : decode prog_142_method_21_code 80 = .ok (.bastore, 1) := by decide +kernel
theorem d1_81 : decode prog_142_method_21_code 81 = .ok (.aload_n 1, 1) := by decide +kernel
theorem d1_82 : decode prog_142_method_21_code 82 = .ok (.iload_n 3, 1) := by decide +kernel
theorem d1_83 : decode prog_142_method_21_code 83 = .ok (.iinc 3 1, 3) := by decide +kernel
theorem d1_86 : decode prog_142_method_21_code 86 = .ok (.sipush 128, 3) := by decide +kernel
theorem d1_89 : decode prog_142_method_21_code 89 = .ok (.iload_n 0, 1) := by decide +kernel
theorem d1_90 : decode prog_142_method_21_code 90 = .ok (.bipush 6, 2) := by decide +kernel
theorem d1_92 : decode prog_142_method_21_code 92 = .ok (.ishr, 1) := by decide +kernel
theorem d1_93 : decode prog_142_method_21_code 93 = .ok (.bipush 63, 2) := by decide +kernel
theorem d1_95 : decode prog_142_method_21_code 95 = .ok (.iand, 1) := by decide +kernel
theorem d1_96 : decode prog_142_method_21_code 96 = .ok (.ior, 1) := by decide +kernel
theorem d1_97 : decode prog_142_method_21_code 97 = .ok (.i2b, 1) := by decide +kernel
theorem d1_98 : decode prog_142_method_21_code 98 = .ok (.bastore, 1) := by decide +kernel
theorem d1_99 : decode prog_142_method_21_code 99 = .ok (.aload_n 1, 1) := by decide +kernel
theorem d1_100 : decode prog_142_method_21_code 100 = .ok (.iload_n 3, 1) := by decide +kernel
theorem d1_101 : decode prog_142_method_21_code 101 = .ok (.iinc 3 1, 3) := by decide +kernel
theorem d1_104 : decode prog_142_method_21_code 104 = .ok (.sipush 128, 3) := by decide +kernel
theorem d1_107 : decode prog_142_method_21_code 107 = .ok (.iload_n 0, 1) := by decide +kernel
theorem d1_108 : decode prog_142_method_21_code 108 = .ok (.bipush 63, 2) := by decide +kernel
theorem d1_110 : decode prog_142_method_21_code 110 = .ok (.iand, 1) := by decide +kernel
theorem d1_111 : decode prog_142_method_21_code 111 = .ok (.ior, 1) := by decide +kernel
theorem d1_112 : decode prog_142_method_21_code 112 = .ok (.i2b, 1) := by decide +kernel
theorem d1_113 : decode prog_142_method_21_code 113 = .ok (.bastore, 1) := by decide +kernel
theorem d1_114 : decode prog_142_method_21_code 114 = .ok (.goto 69, 3) := by decide +kernel
theorem d1_117 : decode prog_142_method_21_code 117 = .ok (.aload_n 1, 1) := by decide +kernel
theorem d1_118 : decode prog_142_method_21_code 118 = .ok (.iload_n 3, 1) := by decide +kernel
theorem d1_119 : decode prog_142_method_21_code 119 = .ok (.iinc 3 1, 3) := by decide +kernel
theorem d1_122 : decode prog_142_method_21_code 122 = .ok (.sipush 240, 3) := by decide +kernel
theorem d1_125 : decode prog_142_method_21_code 125 = .ok (.iload_n 0, 1) := by decide +kernel
theorem d1_126 : decode prog_142_method_21_code 126 = .ok (.bipush 18, 2) := by decide +kernel
theorem d1_128 : decode prog_142_method_21_code 128 = .ok (.ishr, 1) := by decide +kernel
theorem d1_129 : decode prog_142_method_21_code 129 = .ok (.ior, 1) := by decide +kernel
theorem d1_130 : decode prog_142_method_21_code 130 = .ok (.i2b, 1) := by decide +kernel
theorem d1_131 : decode prog_142_method_21_code 131 = .ok (.bastore, 1) := by decide +kernel
theorem d1_132 : decode prog_142_method_21_code 132 = .ok (.aload_n 1, 1) := by decide +kernel
theorem d1_133 : decode prog_142_method_21_code 133 = .ok (.iload_n 3, 1) := by decide +kernel
theorem d1_134 : decode prog_142_method_21_code 134 = .ok (.iinc 3 1, 3) := by decide +kernel
theorem d1_137 : decode prog_142_method_21_code 137 = .ok (.sipush 128, 3) := by decide +kernel
theorem d1_140 : decode prog_142_method_21_code 140 = .ok (.iload_n 0, 1) := by decide +kernel
theorem d1_141 : decode prog_142_method_21_code 141 = .ok (.bipush 12, 2) := by decide +kernel
theorem d1_143 : decode prog_142_method_21_code 143 = .ok (.ishr, 1) := by decide +kernel
theorem d1_144 : decode prog_142_method_21_code 144 = .ok (.bipush 63, 2) := by decide +kernel
theorem d1_146 : decode prog_142_method_21_code 146 = .ok (.iand, 1) := by decide +kernel
theorem d1_147 : decode prog_142_method_21_code 147 = .ok (.ior, 1) := by decide +kernel
theorem d1_148 : decode prog_142_method_21_code 148 = .ok (.i2b, 1) := by decide +kernel
theorem d1_149 : decode prog_142_method_21_code 149 = .ok (.bastore, 1) := by decide +kernel
theorem d1_150 : decode prog_142_method_21_code 150 = .ok (.aload_n 1, 1) := by decide +kernel
theorem d1_151 : decode prog_142_method_21_code 151 = .ok (.iload_n 3, 1) := by decide +kernel
theorem d1_152 : decode prog_142_method_21_code 152 = .ok (.iinc 3 1, 3) := by decide +kernel
theorem d1_155 : decode prog_142_method_21_code 155 = .ok (.sipush 128, 3) := by decide +kernel
theorem d1_158 : decode prog_142_method_21_code 158 = .ok (.iload_n 0, 1) := by decide +kernel
theorem d1_159 : decode prog_142_method_21_code 159 = .ok (.bipush 6, 2) := by decide +kernel
theorem d1_161 : decode prog_142_method_21_code 161 = .ok (.ishr, 1) := by decide +kernel
theorem d1_162 : decode prog_142_method_21_code 162 = .ok (.bipush 63, 2) := by decide +kernel
theorem d1_164 : decode prog_142_method_21_code 164 = .ok (.iand, 1) := by decide +kernel
theorem d1_165 : decode prog_142_method_21_code 165 = .ok (.ior, 1) := by decide +kernel
theorem d1_166 : decode prog_142_method_21_code 166 = .ok (.i2b, 1) := by decide +kernel
theorem d1_167 : decode prog_142_method_21_code 167 = .ok (.bastore, 1) := by decide +kernel
theorem d1_168 : decode prog_142_method_21_code 168 = .ok (.aload_n 1, 1) := by decide +kernel
theorem d1_169 : decode prog_142_method_21_code 169 = .ok (.iload_n 3, 1) := by decide +kernel
theorem d1_170 : decode prog_142_method_21_code 170 = .ok (.iinc 3 1, 3) := by decide +kernel
theorem d1_173 : decode prog_142_method_21_code 173 = .ok (.sipush 128, 3) := by decide +kernel
theorem d1_176 : decode prog_142_method_21_code 176 = .ok (.iload_n 0, 1) := by decide +kernel
theorem d1_177 : decode prog_142_method_21_code 177 = .ok (.bipush 63, 2) := by decide +kernel
theorem d1_179 : decode prog_142_method_21_code 179 = .ok (.iand, 1) := by decide +kernel
theorem d1_180 : decode prog_142_method_21_code 180 = .ok (.ior, 1) := by decide +kernel
theorem d1_181 : decode prog_142_method_21_code 181 = .ok (.i2b, 1) := by decide +kernel
theorem d1_182 : decode prog_142_method_21_code 182 = .ok (.bastore, 1) := by decide +kernel
theorem d1_183 : decode prog_142_method_21_code 183 = .ok (.iload_n 3, 1) := by decide +kernel
theorem d1_184 : decode prog_142_method_21_code 184 = .ok (.ireturn, 1) := by decide +kernel
theorem pn_rm1 : plainName "com/example/querytrail/querytrail/Utf8" = true := by first | (simp [plainName, overriddenIn]; done) | decide +kernel
theorem ef_rm1 (m : MethodId) (x0 : Int32) (x1 : Addr) (x2 : Int32) : entryFrame m #[(.int x0), (.ref x1), (.int x2)] 4 = mkF m 0 #[.val (.int x0), .val (.ref x1), .val (.int x2), .unset] [] := by first | (simp [entryFrame, mkF, argsToLocals, Value.category]; done) | rfl
theorem pd_1 : parseMethodDescriptor "(I[BI)I" = some ⟨[.int, (.array .byte), .int], some .int⟩ := by decide +kernel
theorem pd_2 : parseMethodDescriptor "([BIIIB)Z" = some ⟨[(.array .byte), .int, .int, .int, .byte], some .boolean⟩ := by decide +kernel
theorem pd_3 : parseMethodDescriptor "(I)Z" = some ⟨[.int], some .boolean⟩ := by decide +kernel
set_option maxRecDepth 65536 in
set_option maxHeartbeats 40000000 in
theorem rm1 (l : Launch) (Z : State) (a0 : Array Value) (hw : ∀ d ∈ tables_1, d.before a0 Z = true) (ws : List Jvm.Cond) (cc : Int32) (a1 : Addr) (p2 : Int32) (A : Nat) (f : Nat → Int32) (h0 : Heap) (n0 : Nat) (Z0 : n0 ≤ h0.size) (V : own_arr Z h0 a1 8 f) (hA : A ≤ 3) (hp : p2.toInt = A) (ga : n0 ≤ a1) :
    MetFree l (⟨"com/example/querytrail/querytrail/Utf8", "encode", "(I[BI)I"⟩ : MethodName) (head1 (Jvm.Cond.code (⟨"com/example/querytrail/querytrail/Utf8", "encode", "(I[BI)I"⟩ : MethodName) prog_142_method_21_code 4 (some .int) :: ws) ({ frames := 0, cells := 0, slots := 0, locals := 0 } : Room)) (fun a U => a = #[(.int cc), (.ref a1), (.int p2)] ∧ Z.Warmed39 U.vm ∧ U.heap = h0) (fun _ _ _ _ _ => True) (fun _ U o U' => ∃ v L, o = .returned v ∧ own_q (fun w h => ∃ (r : Int32) (k : Nat) (g : Nat → Int32), w = .int r ∧ r.toInt = ((A + k : Nat) : Int) ∧ own_arr Z h a1 8 g ∧ (∀ i, (i < A ∨ A + k ≤ i) → g i = f i) ∧ own_enc cc A g k) n0 v U'.heap L ∧ FrameEnd U o U' L ({ frames := 0, cells := 0, slots := 0, locals := 0 } : Room).cells ({ frames := 0, cells := 0, slots := 0, locals := 0 } : Room).slots) := by
  refine MetFree.of_bodySF (plainFor_of_name pn_rm1) hisR ?_
  intro p e s m args below meth c s₁ Bd hml0 hP hK
  obtain ⟨rfl, hZ, hh⟩ := hP
  have hx := Bd.exec
  have hby := Bd.bytes
  have hml : c.maxLocals = 4 := hml0
  have hown : s.vm.findClass "com/example/querytrail/querytrail/Utf8" = some m.cls := findClass_of_methodNamed Bd.named
  have hret : meth.sig.returnType = some .int := Bd.returns
  have X0 : Stand p l e ({ frames := 0, cells := 0, slots := 0, locals := 0 } : Room) s m #[(.int cc), (.ref a1), (.int p2)] below meth c s₁ [] 0 0 := Stand.of_body Bd
  have e0 : s₁.heap = h0 := by rw [← hh, Bd.state]; rfl
  have N0 := Fr.nil n0
  rw [ef_rm1 m cc a1 p2]
  refine own_end (p := p) (l := l) (e := e) (R := ({ frames := 0, cells := 0, slots := 0, locals := 0 } : Room)) (s := s) (m := m) (args := #[(.int cc), (.ref a1), (.int p2)]) (below := below) (meth := meth) (c := c) (n0 := n0) (K := ({ frames := 0, cells := 0, slots := 0, locals := 0 } : Room).cells) (S := ({ frames := 0, cells := 0, slots := 0, locals := 0 } : Room).slots) (Q := (fun w h => ∃ (r : Int32) (k : Nat) (g : Nat → Int32), w = .int r ∧ r.toInt = ((A + k : Nat) : Int) ∧ own_arr Z h a1 8 g ∧ (∀ i, (i < A ∨ A + k ≤ i) → g i = f i) ∧ own_enc cc A g k)) hret Bd.notSynchronized (fun G hG hR => ?_)
  have hp1 := own_ix1 hp (by omega)
  have hp2 := own_ix1 hp1 (by omega)
  have hp3 := own_ix1 hp2 (by omega)
  have hp4 := own_ix1 hp3 (by omega)
  refine hG _ _ _ (mkF m 1 #[.val (.int cc), .val (.ref a1), .val (.int p2), .unset] [(.int p2)]) (fun t k => XS.iloadN X0.here hx rfl (hb hby d1_0) rfl k) ?_
  refine hG _ _ _ (mkF m 2 #[.val (.int cc), .val (.ref a1), .val (.int p2), .val (.int p2)] []) (fun t k => XS.istoreN X0.here hx rfl (hb hby d1_1) rfl (l' := #[.val (.int cc), .val (.ref a1), .val (.int p2), .val (.int p2)]) rfl k) ?_
  refine hG _ _ _ (mkF m 3 #[.val (.int cc), .val (.ref a1), .val (.int p2), .val (.int p2)] [(.int cc)]) (fun t k => XS.iloadN X0.here hx rfl (hb hby d1_2) rfl k) ?_
  refine hG _ _ _ (mkF m 6 #[.val (.int cc), .val (.ref a1), .val (.int p2), .val (.int p2)] [(.int (128 : Int32)), (.int cc)]) (fun t k => XS.sipush X0.here hx rfl (hb hby d1_3) k) ?_
  by_cases c1 : cc.toInt < (128 : Int32).toInt
  · refine hG _ _ _ (mkF m 9 #[.val (.int cc), .val (.ref a1), .val (.int p2), .val (.int p2)] []) (fun t k => XS.icmpNo X0.here hx rfl (hb hby d1_6) rfl (own_tlt c1).2.1 k) ?_
    refine hG _ _ _ (mkF m 10 #[.val (.int cc), .val (.ref a1), .val (.int p2), .val (.int p2)] [(.ref a1)]) (fun t k => XS.aloadN X0.here hx rfl (hb hby d1_9) rfl rfl k) ?_
    refine hG _ _ _ (mkF m 11 #[.val (.int cc), .val (.ref a1), .val (.int p2), .val (.int p2)] [(.int p2), (.ref a1)]) (fun t k => XS.iloadN X0.here hx rfl (hb hby d1_10) rfl k) ?_
    refine hG _ _ _ (mkF m 14 #[.val (.int cc), .val (.ref a1), .val (.int p2), .val (.int (p2 + (1 : Int32)))] [(.int p2), (.ref a1)]) (fun t k => XS.iinc X0.here hx rfl (hb hby d1_11) rfl (l' := #[.val (.int cc), .val (.ref a1), .val (.int p2), .val (.int (p2 + (1 : Int32)))]) rfl k) ?_
    refine hG _ _ _ (mkF m 15 #[.val (.int cc), .val (.ref a1), .val (.int p2), .val (.int (p2 + (1 : Int32)))] [(.int cc), (.int p2), (.ref a1)]) (fun t k => XS.iloadN X0.here hx rfl (hb hby d1_14) rfl k) ?_
    refine hG _ _ _ (mkF m 16 #[.val (.int cc), .val (.ref a1), .val (.int p2), .val (.int (p2 + (1 : Int32)))] [(.int (cc.toInt8.toInt32)), (.int p2), (.ref a1)]) (fun t k => XS.i2b X0.here hx rfl (hb hby d1_15) rfl k) ?_
    obtain ⟨Tb0, Lb0, fb0, Xb0, Nb0, Vb0, ub0, rb0, stb0⟩ := own_sto X0 hx hZ e0 V (j := p2) (x := (cc.toInt8.toInt32)) (i := A) hp (by omega) (hb hby d1_16) N0 ga
    refine hG _ _ _ (mkF m 17 #[.val (.int cc), .val (.ref a1), .val (.int p2), .val (.int (p2 + (1 : Int32)))] []) (fun t k => stb0 _ _ t k) ?_
    refine hG _ _ _ (mkF m 183 #[.val (.int cc), .val (.ref a1), .val (.int p2), .val (.int (p2 + (1 : Int32)))] []) (fun t k => XS.goto Xb0.here hx rfl (pc0 := 17) (pc' := 183) rfl (hb hby d1_17) (by decide) (by decide) k) ?_
    refine hG _ _ _ (mkF m 184 #[.val (.int cc), .val (.ref a1), .val (.int p2), .val (.int (p2 + (1 : Int32)))] [(.int (p2 + (1 : Int32)))]) (fun t k => XS.iloadN Xb0.here hx rfl (hb hby d1_183) rfl k) ?_
    exact hR _ _ _ _ _ _ Xb0 Nb0 (by decide) (by decide) ⟨_, 1, fb0, rfl, hp1, Vb0, fun i hi => by rw [rb0 i (by omega)], Or.inl ⟨rfl, c1, ub0⟩⟩ (fun fs hr => retI Xb0 hx hret (hb hby d1_184) hr)
  · refine hG _ _ _ (mkF m 20 #[.val (.int cc), .val (.ref a1), .val (.int p2), .val (.int p2)] []) (fun t k => XS.icmpYes X0.here hx rfl (pc0 := 6) (pc' := 20) rfl (hb hby d1_6) rfl (own_flt c1).2.1 (by decide) (by decide) k) ?_
    refine hG _ _ _ (mkF m 21 #[.val (.int cc), .val (.ref a1), .val (.int p2), .val (.int p2)] [(.int cc)]) (fun t k => XS.iloadN X0.here hx rfl (hb hby d1_20) rfl k) ?_
    refine hG _ _ _ (mkF m 24 #[.val (.int cc), .val (.ref a1), .val (.int p2), .val (.int p2)] [(.int (2048 : Int32)), (.int cc)]) (fun t k => XS.sipush X0.here hx rfl (hb hby d1_21) k) ?_
    by_cases c2 : cc.toInt < (2048 : Int32).toInt
    · refine hG _ _ _ (mkF m 27 #[.val (.int cc), .val (.ref a1), .val (.int p2), .val (.int p2)] []) (fun t k => XS.icmpNo X0.here hx rfl (hb hby d1_24) rfl (own_tlt c2).2.1 k) ?_
      refine hG _ _ _ (mkF m 28 #[.val (.int cc), .val (.ref a1), .val (.int p2), .val (.int p2)] [(.ref a1)]) (fun t k => XS.aloadN X0.here hx rfl (hb hby d1_27) rfl rfl k) ?_
      refine hG _ _ _ (mkF m 29 #[.val (.int cc), .val (.ref a1), .val (.int p2), .val (.int p2)] [(.int p2), (.ref a1)]) (fun t k => XS.iloadN X0.here hx rfl (hb hby d1_28) rfl k) ?_
      refine hG _ _ _ (mkF m 32 #[.val (.int cc), .val (.ref a1), .val (.int p2), .val (.int (p2 + (1 : Int32)))] [(.int p2), (.ref a1)]) (fun t k => XS.iinc X0.here hx rfl (hb hby d1_29) rfl (l' := #[.val (.int cc), .val (.ref a1), .val (.int p2), .val (.int (p2 + (1 : Int32)))]) rfl k) ?_
      refine hG _ _ _ (mkF m 35 #[.val (.int cc), .val (.ref a1), .val (.int p2), .val (.int (p2 + (1 : Int32)))] [(.int (192 : Int32)), (.int p2), (.ref a1)]) (fun t k => XS.sipush X0.here hx rfl (hb hby d1_32) k) ?_
      refine hG _ _ _ (mkF m 36 #[.val (.int cc), .val (.ref a1), .val (.int p2), .val (.int (p2 + (1 : Int32)))] [(.int cc), (.int (192 : Int32)), (.int p2), (.ref a1)]) (fun t k => XS.iloadN X0.here hx rfl (hb hby d1_35) rfl k) ?_
      refine hG _ _ _ (mkF m 38 #[.val (.int cc), .val (.ref a1), .val (.int p2), .val (.int (p2 + (1 : Int32)))] [(.int (6 : Int32)), (.int cc), (.int (192 : Int32)), (.int p2), (.ref a1)]) (fun t k => XS.bipush X0.here hx rfl (hb hby d1_36) k) ?_
      refine hG _ _ _ (mkF m 39 #[.val (.int cc), .val (.ref a1), .val (.int p2), .val (.int (p2 + (1 : Int32)))] [(.int (cc >>> ((6 : Int32) &&& 31))), (.int (192 : Int32)), (.int p2), (.ref a1)]) (fun t k => XS.ishr X0.here hx rfl (hb hby d1_38) rfl k) ?_
      refine hG _ _ _ (mkF m 40 #[.val (.int cc), .val (.ref a1), .val (.int p2), .val (.int (p2 + (1 : Int32)))] [(.int ((192 : Int32) ||| (cc >>> ((6 : Int32) &&& 31)))), (.int p2), (.ref a1)]) (fun t k => XS.ior X0.here hx rfl (hb hby d1_39) rfl k) ?_
      refine hG _ _ _ (mkF m 41 #[.val (.int cc), .val (.ref a1), .val (.int p2), .val (.int (p2 + (1 : Int32)))] [(.int (((192 : Int32) ||| (cc >>> ((6 : Int32) &&& 31))).toInt8.toInt32)), (.int p2), (.ref a1)]) (fun t k => XS.i2b X0.here hx rfl (hb hby d1_40) rfl k) ?_
      obtain ⟨Tb0, Lb0, fb0, Xb0, Nb0, Vb0, ub0, rb0, stb0⟩ := own_sto X0 hx hZ e0 V (j := p2) (x := (((192 : Int32) ||| (cc >>> ((6 : Int32) &&& 31))).toInt8.toInt32)) (i := A) hp (by omega) (hb hby d1_41) N0 ga
      refine hG _ _ _ (mkF m 42 #[.val (.int cc), .val (.ref a1), .val (.int p2), .val (.int (p2 + (1 : Int32)))] []) (fun t k => stb0 _ _ t k) ?_
      refine hG _ _ _ (mkF m 43 #[.val (.int cc), .val (.ref a1), .val (.int p2), .val (.int (p2 + (1 : Int32)))] [(.ref a1)]) (fun t k => XS.aloadN Xb0.here hx rfl (hb hby d1_42) rfl rfl k) ?_
      refine hG _ _ _ (mkF m 44 #[.val (.int cc), .val (.ref a1), .val (.int p2), .val (.int (p2 + (1 : Int32)))] [(.int (p2 + (1 : Int32))), (.ref a1)]) (fun t k => XS.iloadN Xb0.here hx rfl (hb hby d1_43) rfl k) ?_
      refine hG _ _ _ (mkF m 47 #[.val (.int cc), .val (.ref a1), .val (.int p2), .val (.int ((p2 + (1 : Int32)) + (1 : Int32)))] [(.int (p2 + (1 : Int32))), (.ref a1)]) (fun t k => XS.iinc Xb0.here hx rfl (hb hby d1_44) rfl (l' := #[.val (.int cc), .val (.ref a1), .val (.int p2), .val (.int ((p2 + (1 : Int32)) + (1 : Int32)))]) rfl k) ?_
      refine hG _ _ _ (mkF m 50 #[.val (.int cc), .val (.ref a1), .val (.int p2), .val (.int ((p2 + (1 : Int32)) + (1 : Int32)))] [(.int (128 : Int32)), (.int (p2 + (1 : Int32))), (.ref a1)]) (fun t k => XS.sipush Xb0.here hx rfl (hb hby d1_47) k) ?_
      refine hG _ _ _ (mkF m 51 #[.val (.int cc), .val (.ref a1), .val (.int p2), .val (.int ((p2 + (1 : Int32)) + (1 : Int32)))] [(.int cc), (.int (128 : Int32)), (.int (p2 + (1 : Int32))), (.ref a1)]) (fun t k => XS.iloadN Xb0.here hx rfl (hb hby d1_50) rfl k) ?_
      refine hG _ _ _ (mkF m 53 #[.val (.int cc), .val (.ref a1), .val (.int p2), .val (.int ((p2 + (1 : Int32)) + (1 : Int32)))] [(.int (63 : Int32)), (.int cc), (.int (128 : Int32)), (.int (p2 + (1 : Int32))), (.ref a1)]) (fun t k => XS.bipush Xb0.here hx rfl (hb hby d1_51) k) ?_
      refine hG _ _ _ (mkF m 54 #[.val (.int cc), .val (.ref a1), .val (.int p2), .val (.int ((p2 + (1 : Int32)) + (1 : Int32)))] [(.int (cc &&& (63 : Int32))), (.int (128 : Int32)), (.int (p2 + (1 : Int32))), (.ref a1)]) (fun t k => XS.iand Xb0.here hx rfl (hb hby d1_53) rfl k) ?_
      refine hG _ _ _ (mkF m 55 #[.val (.int cc), .val (.ref a1), .val (.int p2), .val (.int ((p2 + (1 : Int32)) + (1 : Int32)))] [(.int ((128 : Int32) ||| (cc &&& (63 : Int32)))), (.int (p2 + (1 : Int32))), (.ref a1)]) (fun t k => XS.ior Xb0.here hx rfl (hb hby d1_54) rfl k) ?_
      refine hG _ _ _ (mkF m 56 #[.val (.int cc), .val (.ref a1), .val (.int p2), .val (.int ((p2 + (1 : Int32)) + (1 : Int32)))] [(.int (((128 : Int32) ||| (cc &&& (63 : Int32))).toInt8.toInt32)), (.int (p2 + (1 : Int32))), (.ref a1)]) (fun t k => XS.i2b Xb0.here hx rfl (hb hby d1_55) rfl k) ?_
      obtain ⟨Tb1, Lb1, fb1, Xb1, Nb1, Vb1, ub1, rb1, stb1⟩ := own_sto Xb0 hx hZ rfl Vb0 (j := (p2 + (1 : Int32))) (x := (((128 : Int32) ||| (cc &&& (63 : Int32))).toInt8.toInt32)) (i := (A + 1)) hp1 (by omega) (hb hby d1_56) Nb0 ga
      refine hG _ _ _ (mkF m 57 #[.val (.int cc), .val (.ref a1), .val (.int p2), .val (.int ((p2 + (1 : Int32)) + (1 : Int32)))] []) (fun t k => stb1 _ _ t k) ?_
      refine hG _ _ _ (mkF m 183 #[.val (.int cc), .val (.ref a1), .val (.int p2), .val (.int ((p2 + (1 : Int32)) + (1 : Int32)))] []) (fun t k => XS.goto Xb1.here hx rfl (pc0 := 57) (pc' := 183) rfl (hb hby d1_57) (by decide) (by decide) k) ?_
      refine hG _ _ _ (mkF m 184 #[.val (.int cc), .val (.ref a1), .val (.int p2), .val (.int ((p2 + (1 : Int32)) + (1 : Int32)))] [(.int ((p2 + (1 : Int32)) + (1 : Int32)))]) (fun t k => XS.iloadN Xb1.here hx rfl (hb hby d1_183) rfl k) ?_
      exact hR _ _ _ _ _ _ Xb1 Nb1 (by decide) (by decide) ⟨_, 2, fb1, rfl, hp2, Vb1, fun i hi => by rw [rb1 i (by omega), rb0 i (by omega)], Or.inr (Or.inl ⟨rfl, c1, c2, by rw [rb1 A (by omega), ub0], ub1⟩)⟩ (fun fs hr => retI Xb1 hx hret (hb hby d1_184) hr)
    · refine hG _ _ _ (mkF m 60 #[.val (.int cc), .val (.ref a1), .val (.int p2), .val (.int p2)] []) (fun t k => XS.icmpYes X0.here hx rfl (pc0 := 24) (pc' := 60) rfl (hb hby d1_24) rfl (own_flt c2).2.1 (by decide) (by decide) k) ?_
      refine hG _ _ _ (mkF m 61 #[.val (.int cc), .val (.ref a1), .val (.int p2), .val (.int p2)] [(.int cc)]) (fun t k => XS.iloadN X0.here hx rfl (hb hby d1_60) rfl k) ?_
      refine hG _ _ _ (mkF m 63 #[.val (.int cc), .val (.ref a1), .val (.int p2), .val (.int p2)] [(.int (65536 : Int32)), (.int cc)]) (fun t k => X0.ldcInt hx (own := "com/example/querytrail/querytrail/Utf8") (v := (65536 : Int32)) hown (mvT hZ (hw _ (List.mem_of_getElem? (i := 14) rfl))) (g := (mkF m 61 #[.val (.int cc), .val (.ref a1), .val (.int p2), .val (.int p2)] [(.int cc)])) rfl (hb hby d1_61) t k) ?_
      by_cases c3 : cc.toInt < (65536 : Int32).toInt
      · refine hG _ _ _ (mkF m 66 #[.val (.int cc), .val (.ref a1), .val (.int p2), .val (.int p2)] []) (fun t k => XS.icmpNo X0.here hx rfl (hb hby d1_63) rfl (own_tlt c3).2.1 k) ?_
        refine hG _ _ _ (mkF m 67 #[.val (.int cc), .val (.ref a1), .val (.int p2), .val (.int p2)] [(.ref a1)]) (fun t k => XS.aloadN X0.here hx rfl (hb hby d1_66) rfl rfl k) ?_
        refine hG _ _ _ (mkF m 68 #[.val (.int cc), .val (.ref a1), .val (.int p2), .val (.int p2)] [(.int p2), (.ref a1)]) (fun t k => XS.iloadN X0.here hx rfl (hb hby d1_67) rfl k) ?_
        refine hG _ _ _ (mkF m 71 #[.val (.int cc), .val (.ref a1), .val (.int p2), .val (.int (p2 + (1 : Int32)))] [(.int p2), (.ref a1)]) (fun t k => XS.iinc X0.here hx rfl (hb hby d1_68) rfl (l' := #[.val (.int cc), .val (.ref a1), .val (.int p2), .val (.int (p2 + (1 : Int32)))]) rfl k) ?_
        refine hG _ _ _ (mkF m 74 #[.val (.int cc), .val (.ref a1), .val (.int p2), .val (.int (p2 + (1 : Int32)))] [(.int (224 : Int32)), (.int p2), (.ref a1)]) (fun t k => XS.sipush X0.here hx rfl (hb hby d1_71) k) ?_
        refine hG _ _ _ (mkF m 75 #[.val (.int cc), .val (.ref a1), .val (.int p2), .val (.int (p2 + (1 : Int32)))] [(.int cc), (.int (224 : Int32)), (.int p2), (.ref a1)]) (fun t k => XS.iloadN X0.here hx rfl (hb hby d1_74) rfl k) ?_
        refine hG _ _ _ (mkF m 77 #[.val (.int cc), .val (.ref a1), .val (.int p2), .val (.int (p2 + (1 : Int32)))] [(.int (12 : Int32)), (.int cc), (.int (224 : Int32)), (.int p2), (.ref a1)]) (fun t k => XS.bipush X0.here hx rfl (hb hby d1_75) k) ?_
        refine hG _ _ _ (mkF m 78 #[.val (.int cc), .val (.ref a1), .val (.int p2), .val (.int (p2 + (1 : Int32)))] [(.int (cc >>> ((12 : Int32) &&& 31))), (.int (224 : Int32)), (.int p2), (.ref a1)]) (fun t k => XS.ishr X0.here hx rfl (hb hby d1_77) rfl k) ?_
        refine hG _ _ _ (mkF m 79 #[.val (.int cc), .val (.ref a1), .val (.int p2), .val (.int (p2 + (1 : Int32)))] [(.int ((224 : Int32) ||| (cc >>> ((12 : Int32) &&& 31)))), (.int p2), (.ref a1)]) (fun t k => XS.ior X0.here hx rfl (hb hby d1_78) rfl k) ?_
        refine hG _ _ _ (mkF m 80 #[.val (.int cc), .val (.ref a1), .val (.int p2), .val (.int (p2 + (1 : Int32)))] [(.int (((224 : Int32) ||| (cc >>> ((12 : Int32) &&& 31))).toInt8.toInt32)), (.int p2), (.ref a1)]) (fun t k => XS.i2b X0.here hx rfl (hb hby d1_79) rfl k) ?_
        obtain ⟨Tb0, Lb0, fb0, Xb0, Nb0, Vb0, ub0, rb0, stb0⟩ := own_sto X0 hx hZ e0 V (j := p2) (x := (((224 : Int32) ||| (cc >>> ((12 : Int32) &&& 31))).toInt8.toInt32)) (i := A) hp (by omega) (hb hby d1_80) N0 ga
        refine hG _ _ _ (mkF m 81 #[.val (.int cc), .val (.ref a1), .val (.int p2), .val (.int (p2 + (1 : Int32)))] []) (fun t k => stb0 _ _ t k) ?_
        refine hG _ _ _ (mkF m 82 #[.val (.int cc), .val (.ref a1), .val (.int p2), .val (.int (p2 + (1 : Int32)))] [(.ref a1)]) (fun t k => XS.aloadN Xb0.here hx rfl (hb hby d1_81) rfl rfl k) ?_
        refine hG _ _ _ (mkF m 83 #[.val (.int cc), .val (.ref a1), .val (.int p2), .val (.int (p2 + (1 : Int32)))] [(.int (p2 + (1 : Int32))), (.ref a1)]) (fun t k => XS.iloadN Xb0.here hx rfl (hb hby d1_82) rfl k) ?_
        refine hG _ _ _ (mkF m 86 #[.val (.int cc), .val (.ref a1), .val (.int p2), .val (.int ((p2 + (1 : Int32)) + (1 : Int32)))] [(.int (p2 + (1 : Int32))), (.ref a1)]) (fun t k => XS.iinc Xb0.here hx rfl (hb hby d1_83) rfl (l' := #[.val (.int cc), .val (.ref a1), .val (.int p2), .val (.int ((p2 + (1 : Int32)) + (1 : Int32)))]) rfl k) ?_
        refine hG _ _ _ (mkF m 89 #[.val (.int cc), .val (.ref a1), .val (.int p2), .val (.int ((p2 + (1 : Int32)) + (1 : Int32)))] [(.int (128 : Int32)), (.int (p2 + (1 : Int32))), (.ref a1)]) (fun t k => XS.sipush Xb0.here hx rfl (hb hby d1_86) k) ?_
        refine hG _ _ _ (mkF m 90 #[.val (.int cc), .val (.ref a1), .val (.int p2), .val (.int ((p2 + (1 : Int32)) + (1 : Int32)))] [(.int cc), (.int (128 : Int32)), (.int (p2 + (1 : Int32))), (.ref a1)]) (fun t k => XS.iloadN Xb0.here hx rfl (hb hby d1_89) rfl k) ?_
        refine hG _ _ _ (mkF m 92 #[.val (.int cc), .val (.ref a1), .val (.int p2), .val (.int ((p2 + (1 : Int32)) + (1 : Int32)))] [(.int (6 : Int32)), (.int cc), (.int (128 : Int32)), (.int (p2 + (1 : Int32))), (.ref a1)]) (fun t k => XS.bipush Xb0.here hx rfl (hb hby d1_90) k) ?_
        refine hG _ _ _ (mkF m 93 #[.val (.int cc), .val (.ref a1), .val (.int p2), .val (.int ((p2 + (1 : Int32)) + (1 : Int32)))] [(.int (cc >>> ((6 : Int32) &&& 31))), (.int (128 : Int32)), (.int (p2 + (1 : Int32))), (.ref a1)]) (fun t k => XS.ishr Xb0.here hx rfl (hb hby d1_92) rfl k) ?_
        refine hG _ _ _ (mkF m 95 #[.val (.int cc), .val (.ref a1), .val (.int p2), .val (.int ((p2 + (1 : Int32)) + (1 : Int32)))] [(.int (63 : Int32)), (.int (cc >>> ((6 : Int32) &&& 31))), (.int (128 : Int32)), (.int (p2 + (1 : Int32))), (.ref a1)]) (fun t k => XS.bipush Xb0.here hx rfl (hb hby d1_93) k) ?_
        refine hG _ _ _ (mkF m 96 #[.val (.int cc), .val (.ref a1), .val (.int p2), .val (.int ((p2 + (1 : Int32)) + (1 : Int32)))] [(.int ((cc >>> ((6 : Int32) &&& 31)) &&& (63 : Int32))), (.int (128 : Int32)), (.int (p2 + (1 : Int32))), (.ref a1)]) (fun t k => XS.iand Xb0.here hx rfl (hb hby d1_95) rfl k) ?_
        refine hG _ _ _ (mkF m 97 #[.val (.int cc), .val (.ref a1), .val (.int p2), .val (.int ((p2 + (1 : Int32)) + (1 : Int32)))] [(.int ((128 : Int32) ||| ((cc >>> ((6 : Int32) &&& 31)) &&& (63 : Int32)))), (.int (p2 + (1 : Int32))), (.ref a1)]) (fun t k => XS.ior Xb0.here hx rfl (hb hby d1_96) rfl k) ?_
        refine hG _ _ _ (mkF m 98 #[.val (.int cc), .val (.ref a1), .val (.int p2), .val (.int ((p2 + (1 : Int32)) + (1 : Int32)))] [(.int (((128 : Int32) ||| ((cc >>> ((6 : Int32) &&& 31)) &&& (63 : Int32))).toInt8.toInt32)), (.int (p2 + (1 : Int32))), (.ref a1)]) (fun t k => XS.i2b Xb0.here hx rfl (hb hby d1_97) rfl k) ?_
        obtain ⟨Tb1, Lb1, fb1, Xb1, Nb1, Vb1, ub1, rb1, stb1⟩ := own_sto Xb0 hx hZ rfl Vb0 (j := (p2 + (1 : Int32))) (x := (((128 : Int32) ||| ((cc >>> ((6 : Int32) &&& 31)) &&& (63 : Int32))).toInt8.toInt32)) (i := (A + 1)) hp1 (by omega) (hb hby d1_98) Nb0 ga
        refine hG _ _ _ (mkF m 99 #[.val (.int cc), .val (.ref a1), .val (.int p2), .val (.int ((p2 + (1 : Int32)) + (1 : Int32)))] []) (fun t k => stb1 _ _ t k) ?_
        refine hG _ _ _ (mkF m 100 #[.val (.int cc), .val (.ref a1), .val (.int p2), .val (.int ((p2 + (1 : Int32)) + (1 : Int32)))] [(.ref a1)]) (fun t k => XS.aloadN Xb1.here hx rfl (hb hby d1_99) rfl rfl k) ?_
        refine hG _ _ _ (mkF m 101 #[.val (.int cc), .val (.ref a1), .val (.int p2), .val (.int ((p2 + (1 : Int32)) + (1 : Int32)))] [(.int ((p2 + (1 : Int32)) + (1 : Int32))), (.ref a1)]) (fun t k => XS.iloadN Xb1.here hx rfl (hb hby d1_100) rfl k) ?_
        refine hG _ _ _ (mkF m 104 #[.val (.int cc), .val (.ref a1), .val (.int p2), .val (.int (((p2 + (1 : Int32)) + (1 : Int32)) + (1 : Int32)))] [(.int ((p2 + (1 : Int32)) + (1 : Int32))), (.ref a1)]) (fun t k => XS.iinc Xb1.here hx rfl (hb hby d1_101) rfl (l' := #[.val (.int cc), .val (.ref a1), .val (.int p2), .val (.int (((p2 + (1 : Int32)) + (1 : Int32)) + (1 : Int32)))]) rfl k) ?_
        refine hG _ _ _ (mkF m 107 #[.val (.int cc), .val (.ref a1), .val (.int p2), .val (.int (((p2 + (1 : Int32)) + (1 : Int32)) + (1 : Int32)))] [(.int (128 : Int32)), (.int ((p2 + (1 : Int32)) + (1 : Int32))), (.ref a1)]) (fun t k => XS.sipush Xb1.here hx rfl (hb hby d1_104) k) ?_
        refine hG _ _ _ (mkF m 108 #[.val (.int cc), .val (.ref a1), .val (.int p2), .val (.int (((p2 + (1 : Int32)) + (1 : Int32)) + (1 : Int32)))] [(.int cc), (.int (128 : Int32)), (.int ((p2 + (1 : Int32)) + (1 : Int32))), (.ref a1)]) (fun t k => XS.iloadN Xb1.here hx rfl (hb hby d1_107) rfl k) ?_
        refine hG _ _ _ (mkF m 110 #[.val (.int cc), .val (.ref a1), .val (.int p2), .val (.int (((p2 + (1 : Int32)) + (1 : Int32)) + (1 : Int32)))] [(.int (63 : Int32)), (.int cc), (.int (128 : Int32)), (.int ((p2 + (1 : Int32)) + (1 : Int32))), (.ref a1)]) (fun t k => XS.bipush Xb1.here hx rfl (hb hby d1_108) k) ?_
        refine hG _ _ _ (mkF m 111 #[.val (.int cc), .val (.ref a1), .val (.int p2), .val (.int (((p2 + (1 : Int32)) + (1 : Int32)) + (1 : Int32)))] [(.int (cc &&& (63 : Int32))), (.int (128 : Int32)), (.int ((p2 + (1 : Int32)) + (1 : Int32))), (.ref a1)]) (fun t k => XS.iand Xb1.here hx rfl (hb hby d1_110) rfl k) ?_
        refine hG _ _ _ (mkF m 112 #[.val (.int cc), .val (.ref a1), .val (.int p2), .val (.int (((p2 + (1 : Int32)) + (1 : Int32)) + (1 : Int32)))] [(.int ((128 : Int32) ||| (cc &&& (63 : Int32)))), (.int ((p2 + (1 : Int32)) + (1 : Int32))), (.ref a1)]) (fun t k => XS.ior Xb1.here hx rfl (hb hby d1_111) rfl k) ?_
        refine hG _ _ _ (mkF m 113 #[.val (.int cc), .val (.ref a1), .val (.int p2), .val (.int (((p2 + (1 : Int32)) + (1 : Int32)) + (1 : Int32)))] [(.int (((128 : Int32) ||| (cc &&& (63 : Int32))).toInt8.toInt32)), (.int ((p2 + (1 : Int32)) + (1 : Int32))), (.ref a1)]) (fun t k => XS.i2b Xb1.here hx rfl (hb hby d1_112) rfl k) ?_
        obtain ⟨Tb2, Lb2, fb2, Xb2, Nb2, Vb2, ub2, rb2, stb2⟩ := own_sto Xb1 hx hZ rfl Vb1 (j := ((p2 + (1 : Int32)) + (1 : Int32))) (x := (((128 : Int32) ||| (cc &&& (63 : Int32))).toInt8.toInt32)) (i := (A + 1 + 1)) hp2 (by omega) (hb hby d1_113) Nb1 ga
        refine hG _ _ _ (mkF m 114 #[.val (.int cc), .val (.ref a1), .val (.int p2), .val (.int (((p2 + (1 : Int32)) + (1 : Int32)) + (1 : Int32)))] []) (fun t k => stb2 _ _ t k) ?_
        refine hG _ _ _ (mkF m 183 #[.val (.int cc), .val (.ref a1), .val (.int p2), .val (.int (((p2 + (1 : Int32)) + (1 : Int32)) + (1 : Int32)))] []) (fun t k => XS.goto Xb2.here hx rfl (pc0 := 114) (pc' := 183) rfl (hb hby d1_114) (by decide) (by decide) k) ?_
        refine hG _ _ _ (mkF m 184 #[.val (.int cc), .val (.ref a1), .val (.int p2), .val (.int (((p2 + (1 : Int32)) + (1 : Int32)) + (1 : Int32)))] [(.int (((p2 + (1 : Int32)) + (1 : Int32)) + (1 : Int32)))]) (fun t k => XS.iloadN Xb2.here hx rfl (hb hby d1_183) rfl k) ?_
        exact hR _ _ _ _ _ _ Xb2 Nb2 (by decide) (by decide) ⟨_, 3, fb2, rfl, hp3, Vb2, fun i hi => by rw [rb2 i (by omega), rb1 i (by omega), rb0 i (by omega)], Or.inr (Or.inr (Or.inl ⟨rfl, c1, c2, c3, by rw [rb2 A (by omega), rb1 A (by omega), ub0], by rw [rb2 (A + 1) (by omega), ub1], ub2⟩))⟩ (fun fs hr => retI Xb2 hx hret (hb hby d1_184) hr)
      · refine hG _ _ _ (mkF m 117 #[.val (.int cc), .val (.ref a1), .val (.int p2), .val (.int p2)] []) (fun t k => XS.icmpYes X0.here hx rfl (pc0 := 63) (pc' := 117) rfl (hb hby d1_63) rfl (own_flt c3).2.1 (by decide) (by decide) k) ?_
        refine hG _ _ _ (mkF m 118 #[.val (.int cc), .val (.ref a1), .val (.int p2), .val (.int p2)] [(.ref a1)]) (fun t k => XS.aloadN X0.here hx rfl (hb hby d1_117) rfl rfl k) ?_
        refine hG _ _ _ (mkF m 119 #[.val (.int cc), .val (.ref a1), .val (.int p2), .val (.int p2)] [(.int p2), (.ref a1)]) (fun t k => XS.iloadN X0.here hx rfl (hb hby d1_118) rfl k) ?_
        refine hG _ _ _ (mkF m 122 #[.val (.int cc), .val (.ref a1), .val (.int p2), .val (.int (p2 + (1 : Int32)))] [(.int p2), (.ref a1)]) (fun t k => XS.iinc X0.here hx rfl (hb hby d1_119) rfl (l' := #[.val (.int cc), .val (.ref a1), .val (.int p2), .val (.int (p2 + (1 : Int32)))]) rfl k) ?_
        refine hG _ _ _ (mkF m 125 #[.val (.int cc), .val (.ref a1), .val (.int p2), .val (.int (p2 + (1 : Int32)))] [(.int (240 : Int32)), (.int p2), (.ref a1)]) (fun t k => XS.sipush X0.here hx rfl (hb hby d1_122) k) ?_
        refine hG _ _ _ (mkF m 126 #[.val (.int cc), .val (.ref a1), .val (.int p2), .val (.int (p2 + (1 : Int32)))] [(.int cc), (.int (240 : Int32)), (.int p2), (.ref a1)]) (fun t k => XS.iloadN X0.here hx rfl (hb hby d1_125) rfl k) ?_
        refine hG _ _ _ (mkF m 128 #[.val (.int cc), .val (.ref a1), .val (.int p2), .val (.int (p2 + (1 : Int32)))] [(.int (18 : Int32)), (.int cc), (.int (240 : Int32)), (.int p2), (.ref a1)]) (fun t k => XS.bipush X0.here hx rfl (hb hby d1_126) k) ?_
        refine hG _ _ _ (mkF m 129 #[.val (.int cc), .val (.ref a1), .val (.int p2), .val (.int (p2 + (1 : Int32)))] [(.int (cc >>> ((18 : Int32) &&& 31))), (.int (240 : Int32)), (.int p2), (.ref a1)]) (fun t k => XS.ishr X0.here hx rfl (hb hby d1_128) rfl k) ?_
        refine hG _ _ _ (mkF m 130 #[.val (.int cc), .val (.ref a1), .val (.int p2), .val (.int (p2 + (1 : Int32)))] [(.int ((240 : Int32) ||| (cc >>> ((18 : Int32) &&& 31)))), (.int p2), (.ref a1)]) (fun t k => XS.ior X0.here hx rfl (hb hby d1_129) rfl k) ?_
        refine hG _ _ _ (mkF m 131 #[.val (.int cc), .val (.ref a1), .val (.int p2), .val (.int (p2 + (1 : Int32)))] [(.int (((240 : Int32) ||| (cc >>> ((18 : Int32) &&& 31))).toInt8.toInt32)), (.int p2), (.ref a1)]) (fun t k => XS.i2b X0.here hx rfl (hb hby d1_130) rfl k) ?_
        obtain ⟨Tb0, Lb0, fb0, Xb0, Nb0, Vb0, ub0, rb0, stb0⟩ := own_sto X0 hx hZ e0 V (j := p2) (x := (((240 : Int32) ||| (cc >>> ((18 : Int32) &&& 31))).toInt8.toInt32)) (i := A) hp (by omega) (hb hby d1_131) N0 ga
        refine hG _ _ _ (mkF m 132 #[.val (.int cc), .val (.ref a1), .val (.int p2), .val (.int (p2 + (1 : Int32)))] []) (fun t k => stb0 _ _ t k) ?_
        refine hG _ _ _ (mkF m 133 #[.val (.int cc), .val (.ref a1), .val (.int p2), .val (.int (p2 + (1 : Int32)))] [(.ref a1)]) (fun t k => XS.aloadN Xb0.here hx rfl (hb hby d1_132) rfl rfl k) ?_
        refine hG _ _ _ (mkF m 134 #[.val (.int cc), .val (.ref a1), .val (.int p2), .val (.int (p2 + (1 : Int32)))] [(.int (p2 + (1 : Int32))), (.ref a1)]) (fun t k => XS.iloadN Xb0.here hx rfl (hb hby d1_133) rfl k) ?_
        refine hG _ _ _ (mkF m 137 #[.val (.int cc), .val (.ref a1), .val (.int p2), .val (.int ((p2 + (1 : Int32)) + (1 : Int32)))] [(.int (p2 + (1 : Int32))), (.ref a1)]) (fun t k => XS.iinc Xb0.here hx rfl (hb hby d1_134) rfl (l' := #[.val (.int cc), .val (.ref a1), .val (.int p2), .val (.int ((p2 + (1 : Int32)) + (1 : Int32)))]) rfl k) ?_
        refine hG _ _ _ (mkF m 140 #[.val (.int cc), .val (.ref a1), .val (.int p2), .val (.int ((p2 + (1 : Int32)) + (1 : Int32)))] [(.int (128 : Int32)), (.int (p2 + (1 : Int32))), (.ref a1)]) (fun t k => XS.sipush Xb0.here hx rfl (hb hby d1_137) k) ?_
        refine hG _ _ _ (mkF m 141 #[.val (.int cc), .val (.ref a1), .val (.int p2), .val (.int ((p2 + (1 : Int32)) + (1 : Int32)))] [(.int cc), (.int (128 : Int32)), (.int (p2 + (1 : Int32))), (.ref a1)]) (fun t k => XS.iloadN Xb0.here hx rfl (hb hby d1_140) rfl k) ?_
        refine hG _ _ _ (mkF m 143 #[.val (.int cc), .val (.ref a1), .val (.int p2), .val (.int ((p2 + (1 : Int32)) + (1 : Int32)))] [(.int (12 : Int32)), (.int cc), (.int (128 : Int32)), (.int (p2 + (1 : Int32))), (.ref a1)]) (fun t k => XS.bipush Xb0.here hx rfl (hb hby d1_141) k) ?_
        refine hG _ _ _ (mkF m 144 #[.val (.int cc), .val (.ref a1), .val (.int p2), .val (.int ((p2 + (1 : Int32)) + (1 : Int32)))] [(.int (cc >>> ((12 : Int32) &&& 31))), (.int (128 : Int32)), (.int (p2 + (1 : Int32))), (.ref a1)]) (fun t k => XS.ishr Xb0.here hx rfl (hb hby d1_143) rfl k) ?_
        refine hG _ _ _ (mkF m 146 #[.val (.int cc), .val (.ref a1), .val (.int p2), .val (.int ((p2 + (1 : Int32)) + (1 : Int32)))] [(.int (63 : Int32)), (.int (cc >>> ((12 : Int32) &&& 31))), (.int (128 : Int32)), (.int (p2 + (1 : Int32))), (.ref a1)]) (fun t k => XS.bipush Xb0.here hx rfl (hb hby d1_144) k) ?_
        refine hG _ _ _ (mkF m 147 #[.val (.int cc), .val (.ref a1), .val (.int p2), .val (.int ((p2 + (1 : Int32)) + (1 : Int32)))] [(.int ((cc >>> ((12 : Int32) &&& 31)) &&& (63 : Int32))), (.int (128 : Int32)), (.int (p2 + (1 : Int32))), (.ref a1)]) (fun t k => XS.iand Xb0.here hx rfl (hb hby d1_146) rfl k) ?_
        refine hG _ _ _ (mkF m 148 #[.val (.int cc), .val (.ref a1), .val (.int p2), .val (.int ((p2 + (1 : Int32)) + (1 : Int32)))] [(.int ((128 : Int32) ||| ((cc >>> ((12 : Int32) &&& 31)) &&& (63 : Int32)))), (.int (p2 + (1 : Int32))), (.ref a1)]) (fun t k => XS.ior Xb0.here hx rfl (hb hby d1_147) rfl k) ?_
        refine hG _ _ _ (mkF m 149 #[.val (.int cc), .val (.ref a1), .val (.int p2), .val (.int ((p2 + (1 : Int32)) + (1 : Int32)))] [(.int (((128 : Int32) ||| ((cc >>> ((12 : Int32) &&& 31)) &&& (63 : Int32))).toInt8.toInt32)), (.int (p2 + (1 : Int32))), (.ref a1)]) (fun t k => XS.i2b Xb0.here hx rfl (hb hby d1_148) rfl k) ?_
        obtain ⟨Tb1, Lb1, fb1, Xb1, Nb1, Vb1, ub1, rb1, stb1⟩ := own_sto Xb0 hx hZ rfl Vb0 (j := (p2 + (1 : Int32))) (x := (((128 : Int32) ||| ((cc >>> ((12 : Int32) &&& 31)) &&& (63 : Int32))).toInt8.toInt32)) (i := (A + 1)) hp1 (by omega) (hb hby d1_149) Nb0 ga
        refine hG _ _ _ (mkF m 150 #[.val (.int cc), .val (.ref a1), .val (.int p2), .val (.int ((p2 + (1 : Int32)) + (1 : Int32)))] []) (fun t k => stb1 _ _ t k) ?_
        refine hG _ _ _ (mkF m 151 #[.val (.int cc), .val (.ref a1), .val (.int p2), .val (.int ((p2 + (1 : Int32)) + (1 : Int32)))] [(.ref a1)]) (fun t k => XS.aloadN Xb1.here hx rfl (hb hby d1_150) rfl rfl k) ?_
        refine hG _ _ _ (mkF m 152 #[.val (.int cc), .val (.ref a1), .val (.int p2), .val (.int ((p2 + (1 : Int32)) + (1 : Int32)))] [(.int ((p2 + (1 : Int32)) + (1 : Int32))), (.ref a1)]) (fun t k => XS.iloadN Xb1.here hx rfl (hb hby d1_151) rfl k) ?_
        refine hG _ _ _ (mkF m 155 #[.val (.int cc), .val (.ref a1), .val (.int p2), .val (.int (((p2 + (1 : Int32)) + (1 : Int32)) + (1 : Int32)))] [(.int ((p2 + (1 : Int32)) + (1 : Int32))), (.ref a1)]) (fun t k => XS.iinc Xb1.here hx rfl (hb hby d1_152) rfl (l' := #[.val (.int cc), .val (.ref a1), .val (.int p2), .val (.int (((p2 + (1 : Int32)) + (1 : Int32)) + (1 : Int32)))]) rfl k) ?_
        refine hG _ _ _ (mkF m 158 #[.val (.int cc), .val (.ref a1), .val (.int p2), .val (.int (((p2 + (1 : Int32)) + (1 : Int32)) + (1 : Int32)))] [(.int (128 : Int32)), (.int ((p2 + (1 : Int32)) + (1 : Int32))), (.ref a1)]) (fun t k => XS.sipush Xb1.here hx rfl (hb hby d1_155) k) ?_
        refine hG _ _ _ (mkF m 159 #[.val (.int cc), .val (.ref a1), .val (.int p2), .val (.int (((p2 + (1 : Int32)) + (1 : Int32)) + (1 : Int32)))] [(.int cc), (.int (128 : Int32)), (.int ((p2 + (1 : Int32)) + (1 : Int32))), (.ref a1)]) (fun t k => XS.iloadN Xb1.here hx rfl (hb hby d1_158) rfl k) ?_
        refine hG _ _ _ (mkF m 161 #[.val (.int cc), .val (.ref a1), .val (.int p2), .val (.int (((p2 + (1 : Int32)) + (1 : Int32)) + (1 : Int32)))] [(.int (6 : Int32)), (.int cc), (.int (128 : Int32)), (.int ((p2 + (1 : Int32)) + (1 : Int32))), (.ref a1)]) (fun t k => XS.bipush Xb1.here hx rfl (hb hby d1_159) k) ?_
        refine hG _ _ _ (mkF m 162 #[.val (.int cc), .val (.ref a1), .val (.int p2), .val (.int (((p2 + (1 : Int32)) + (1 : Int32)) + (1 : Int32)))] [(.int (cc >>> ((6 : Int32) &&& 31))), (.int (128 : Int32)), (.int ((p2 + (1 : Int32)) + (1 : Int32))), (.ref a1)]) (fun t k => XS.ishr Xb1.here hx rfl (hb hby d1_161) rfl k) ?_
        refine hG _ _ _ (mkF m 164 #[.val (.int cc), .val (.ref a1), .val (.int p2), .val (.int (((p2 + (1 : Int32)) + (1 : Int32)) + (1 : Int32)))] [(.int (63 : Int32)), (.int (cc >>> ((6 : Int32) &&& 31))), (.int (128 : Int32)), (.int ((p2 + (1 : Int32)) + (1 : Int32))), (.ref a1)]) (fun t k => XS.bipush Xb1.here hx rfl (hb hby d1_162) k) ?_
        refine hG _ _ _ (mkF m 165 #[.val (.int cc), .val (.ref a1), .val (.int p2), .val (.int (((p2 + (1 : Int32)) + (1 : Int32)) + (1 : Int32)))] [(.int ((cc >>> ((6 : Int32) &&& 31)) &&& (63 : Int32))), (.int (128 : Int32)), (.int ((p2 + (1 : Int32)) + (1 : Int32))), (.ref a1)]) (fun t k => XS.iand Xb1.here hx rfl (hb hby d1_164) rfl k) ?_
        refine hG _ _ _ (mkF m 166 #[.val (.int cc), .val (.ref a1), .val (.int p2), .val (.int (((p2 + (1 : Int32)) + (1 : Int32)) + (1 : Int32)))] [(.int ((128 : Int32) ||| ((cc >>> ((6 : Int32) &&& 31)) &&& (63 : Int32)))), (.int ((p2 + (1 : Int32)) + (1 : Int32))), (.ref a1)]) (fun t k => XS.ior Xb1.here hx rfl (hb hby d1_165) rfl k) ?_
        refine hG _ _ _ (mkF m 167 #[.val (.int cc), .val (.ref a1), .val (.int p2), .val (.int (((p2 + (1 : Int32)) + (1 : Int32)) + (1 : Int32)))] [(.int (((128 : Int32) ||| ((cc >>> ((6 : Int32) &&& 31)) &&& (63 : Int32))).toInt8.toInt32)), (.int ((p2 + (1 : Int32)) + (1 : Int32))), (.ref a1)]) (fun t k => XS.i2b Xb1.here hx rfl (hb hby d1_166) rfl k) ?_
        obtain ⟨Tb2, Lb2, fb2, Xb2, Nb2, Vb2, ub2, rb2, stb2⟩ := own_sto Xb1 hx hZ rfl Vb1 (j := ((p2 + (1 : Int32)) + (1 : Int32))) (x := (((128 : Int32) ||| ((cc >>> ((6 : Int32) &&& 31)) &&& (63 : Int32))).toInt8.toInt32)) (i := (A + 1 + 1)) hp2 (by omega) (hb hby d1_167) Nb1 ga
        refine hG _ _ _ (mkF m 168 #[.val (.int cc), .val (.ref a1), .val (.int p2), .val (.int (((p2 + (1 : Int32)) + (1 : Int32)) + (1 : Int32)))] []) (fun t k => stb2 _ _ t k) ?_
        refine hG _ _ _ (mkF m 169 #[.val (.int cc), .val (.ref a1), .val (.int p2), .val (.int (((p2 + (1 : Int32)) + (1 : Int32)) + (1 : Int32)))] [(.ref a1)]) (fun t k => XS.aloadN Xb2.here hx rfl (hb hby d1_168) rfl rfl k) ?_
        refine hG _ _ _ (mkF m 170 #[.val (.int cc), .val (.ref a1), .val (.int p2), .val (.int (((p2 + (1 : Int32)) + (1 : Int32)) + (1 : Int32)))] [(.int (((p2 + (1 : Int32)) + (1 : Int32)) + (1 : Int32))), (.ref a1)]) (fun t k => XS.iloadN Xb2.here hx rfl (hb hby d1_169) rfl k) ?_
        refine hG _ _ _ (mkF m 173 #[.val (.int cc), .val (.ref a1), .val (.int p2), .val (.int ((((p2 + (1 : Int32)) + (1 : Int32)) + (1 : Int32)) + (1 : Int32)))] [(.int (((p2 + (1 : Int32)) + (1 : Int32)) + (1 : Int32))), (.ref a1)]) (fun t k => XS.iinc Xb2.here hx rfl (hb hby d1_170) rfl (l' := #[.val (.int cc), .val (.ref a1), .val (.int p2), .val (.int ((((p2 + (1 : Int32)) + (1 : Int32)) + (1 : Int32)) + (1 : Int32)))]) rfl k) ?_
        refine hG _ _ _ (mkF m 176 #[.val (.int cc), .val (.ref a1), .val (.int p2), .val (.int ((((p2 + (1 : Int32)) + (1 : Int32)) + (1 : Int32)) + (1 : Int32)))] [(.int (128 : Int32)), (.int (((p2 + (1 : Int32)) + (1 : Int32)) + (1 : Int32))), (.ref a1)]) (fun t k => XS.sipush Xb2.here hx rfl (hb hby d1_173) k) ?_
        refine hG _ _ _ (mkF m 177 #[.val (.int cc), .val (.ref a1), .val (.int p2), .val (.int ((((p2 + (1 : Int32)) + (1 : Int32)) + (1 : Int32)) + (1 : Int32)))] [(.int cc), (.int (128 : Int32)), (.int (((p2 + (1 : Int32)) + (1 : Int32)) + (1 : Int32))), (.ref a1)]) (fun t k => XS.iloadN Xb2.here hx rfl (hb hby d1_176) rfl k) ?_
        refine hG _ _ _ (mkF m 179 #[.val (.int cc), .val (.ref a1), .val (.int p2), .val (.int ((((p2 + (1 : Int32)) + (1 : Int32)) + (1 : Int32)) + (1 : Int32)))] [(.int (63 : Int32)), (.int cc), (.int (128 : Int32)), (.int (((p2 + (1 : Int32)) + (1 : Int32)) + (1 : Int32))), (.ref a1)]) (fun t k => XS.bipush Xb2.here hx rfl (hb hby d1_177) k) ?_
        refine hG _ _ _ (mkF m 180 #[.val (.int cc), .val (.ref a1), .val (.int p2), .val (.int ((((p2 + (1 : Int32)) + (1 : Int32)) + (1 : Int32)) + (1 : Int32)))] [(.int (cc &&& (63 : Int32))), (.int (128 : Int32)), (.int (((p2 + (1 : Int32)) + (1 : Int32)) + (1 : Int32))), (.ref a1)]) (fun t k => XS.iand Xb2.here hx rfl (hb hby d1_179) rfl k) ?_
        refine hG _ _ _ (mkF m 181 #[.val (.int cc), .val (.ref a1), .val (.int p2), .val (.int ((((p2 + (1 : Int32)) + (1 : Int32)) + (1 : Int32)) + (1 : Int32)))] [(.int ((128 : Int32) ||| (cc &&& (63 : Int32)))), (.int (((p2 + (1 : Int32)) + (1 : Int32)) + (1 : Int32))), (.ref a1)]) (fun t k => XS.ior Xb2.here hx rfl (hb hby d1_180) rfl k) ?_
        refine hG _ _ _ (mkF m 182 #[.val (.int cc), .val (.ref a1), .val (.int p2), .val (.int ((((p2 + (1 : Int32)) + (1 : Int32)) + (1 : Int32)) + (1 : Int32)))] [(.int (((128 : Int32) ||| (cc &&& (63 : Int32))).toInt8.toInt32)), (.int (((p2 + (1 : Int32)) + (1 : Int32)) + (1 : Int32))), (.ref a1)]) (fun t k => XS.i2b Xb2.here hx rfl (hb hby d1_181) rfl k) ?_
        obtain ⟨Tb3, Lb3, fb3, Xb3, Nb3, Vb3, ub3, rb3, stb3⟩ := own_sto Xb2 hx hZ rfl Vb2 (j := (((p2 + (1 : Int32)) + (1 : Int32)) + (1 : Int32))) (x := (((128 : Int32) ||| (cc &&& (63 : Int32))).toInt8.toInt32)) (i := (A + 1 + 1 + 1)) hp3 (by omega) (hb hby d1_182) Nb2 ga
        refine hG _ _ _ (mkF m 183 #[.val (.int cc), .val (.ref a1), .val (.int p2), .val (.int ((((p2 + (1 : Int32)) + (1 : Int32)) + (1 : Int32)) + (1 : Int32)))] []) (fun t k => stb3 _ _ t k) ?_
        refine hG _ _ _ (mkF m 184 #[.val (.int cc), .val (.ref a1), .val (.int p2), .val (.int ((((p2 + (1 : Int32)) + (1 : Int32)) + (1 : Int32)) + (1 : Int32)))] [(.int ((((p2 + (1 : Int32)) + (1 : Int32)) + (1 : Int32)) + (1 : Int32)))]) (fun t k => XS.iloadN Xb3.here hx rfl (hb hby d1_183) rfl k) ?_
        exact hR _ _ _ _ _ _ Xb3 Nb3 (by decide) (by decide) ⟨_, 4, fb3, rfl, hp4, Vb3, fun i hi => by rw [rb3 i (by omega), rb2 i (by omega), rb1 i (by omega), rb0 i (by omega)], Or.inr (Or.inr (Or.inr ⟨rfl, c1, c2, c3, by rw [rb3 A (by omega), rb2 A (by omega), rb1 A (by omega), ub0], by rw [rb3 (A + 1) (by omega), rb2 (A + 1) (by omega), ub1], by rw [rb3 (A + 2) (by omega), ub2], ub3⟩))⟩ (fun fs hr => retI Xb3 hx hret (hb hby d1_184) hr)
theorem d2_0 : decode method_3_code 0 = .ok (.iload_n 1, 1) := by decide +kernel
theorem d2_1 : decode method_3_code 1 = .ok (.iload_n 2, 1) := by decide +kernel
theorem d2_2 : decode method_3_code 2 = .ok (.if_icmp .lt 8, 3) := by decide +kernel
theorem d2_5 : decode method_3_code 5 = .ok (.iload_n 1, 1) := by decide +kernel
theorem d2_6 : decode method_3_code 6 = .ok (.iload_n 3, 1) := by decide +kernel
theorem d2_7 : decode method_3_code 7 = .ok (.if_icmp .lt 11, 3) := by decide +kernel
theorem d2_10 : decode method_3_code 10 = .ok (.aload_n 0, 1) := by decide +kernel
theorem d2_11 : decode method_3_code 11 = .ok (.iload_n 1, 1) := by decide +kernel
theorem d2_12 : decode method_3_code 12 = .ok (.baload, 1) := by decide +kernel
theorem d2_13 : decode method_3_code 13 = .ok (.iload 4, 2) := by decide +kernel
theorem d2_15 : decode method_3_code 15 = .ok (.if_icmp .ne 7, 3) := by decide +kernel
theorem d2_18 : decode method_3_code 18 = .ok (.iconst 1, 1) := by decide +kernel
theorem d2_19 : decode method_3_code 19 = .ok (.goto 4, 3) := by decide +kernel
theorem d2_22 : decode method_3_code 22 = .ok (.iconst 0, 1) := by decide +kernel
theorem d2_23 : decode method_3_code 23 = .ok (.ireturn, 1) := by decide +kernel
theorem pn_rm2 : plainName "com/example/querytrail/querytrail/Utf8EncodePinLaw" = true := by first | (simp [plainName, overriddenIn]; done) | decide +kernel
theorem ef_rm2 (m : MethodId) (x0 : Addr) (x1 : Int32) (x2 : Int32) (x3 : Int32) (x4 : Int32) : entryFrame m #[(.ref x0), (.int x1), (.int x2), (.int x3), (.int x4)] 5 = mkF m 0 #[.val (.ref x0), .val (.int x1), .val (.int x2), .val (.int x3), .val (.int x4)] [] := by first | (simp [entryFrame, mkF, argsToLocals, Value.category]; done) | rfl
set_option maxRecDepth 65536 in
set_option maxHeartbeats 40000000 in
theorem rm2 (l : Launch) (Z : State) (a0 : Array Value) (hw : ∀ d ∈ tables_1, d.before a0 Z = true) (ws : List Jvm.Cond) (a1 : Addr) (j pa r fl : Int32) (I : Nat) (f : Nat → Int32) (h0 : Heap) (n0 : Nat) (Z0 : n0 ≤ h0.size) (V : own_arr Z h0 a1 8 f) (hj : j.toInt = I) (hI : I < 8) (hf : (pa.toInt ≤ j.toInt ∧ j.toInt < r.toInt) ∨ f I = fl) :
    MetFree l (⟨"com/example/querytrail/querytrail/Utf8EncodePinLaw", "kept", "([BIIIB)Z"⟩ : MethodName) (head1 (Jvm.Cond.code (⟨"com/example/querytrail/querytrail/Utf8EncodePinLaw", "kept", "([BIIIB)Z"⟩ : MethodName) method_3_code 5 (some .boolean) :: ws) ({ frames := 0, cells := 0, slots := 0, locals := 0 } : Room)) (fun a U => a = #[(.ref a1), (.int j), (.int pa), (.int r), (.int fl)] ∧ Z.Warmed39 U.vm ∧ U.heap = h0) (fun _ _ _ _ _ => True) (fun _ U o U' => ∃ v L, o = .returned v ∧ own_q (fun w h => w = .int 1 ∧ h = h0) n0 v U'.heap L ∧ FrameEnd U o U' L ({ frames := 0, cells := 0, slots := 0, locals := 0 } : Room).cells ({ frames := 0, cells := 0, slots := 0, locals := 0 } : Room).slots) := by
  refine MetFree.of_bodySF (plainFor_of_name pn_rm2) hisR ?_
  intro p e s m args below meth c s₁ Bd hml0 hP hK
  obtain ⟨rfl, hZ, hh⟩ := hP
  have hx := Bd.exec
  have hby := Bd.bytes
  have hml : c.maxLocals = 5 := hml0
  have hown : s.vm.findClass "com/example/querytrail/querytrail/Utf8EncodePinLaw" = some m.cls := findClass_of_methodNamed Bd.named
  have hret : meth.sig.returnType = some .boolean := Bd.returns
  have X0 : Stand p l e ({ frames := 0, cells := 0, slots := 0, locals := 0 } : Room) s m #[(.ref a1), (.int j), (.int pa), (.int r), (.int fl)] below meth c s₁ [] 0 0 := Stand.of_body Bd
  have e0 : s₁.heap = h0 := by rw [← hh, Bd.state]; rfl
  have N0 := Fr.nil n0
  rw [ef_rm2 m a1 j pa r fl]
  refine own_end (p := p) (l := l) (e := e) (R := ({ frames := 0, cells := 0, slots := 0, locals := 0 } : Room)) (s := s) (m := m) (args := #[(.ref a1), (.int j), (.int pa), (.int r), (.int fl)]) (below := below) (meth := meth) (c := c) (n0 := n0) (K := ({ frames := 0, cells := 0, slots := 0, locals := 0 } : Room).cells) (S := ({ frames := 0, cells := 0, slots := 0, locals := 0 } : Room).slots) (Q := (fun w h => w = .int 1 ∧ h = h0)) hret Bd.notSynchronized (fun G hG hR => ?_)
  refine hG _ _ _ (mkF m 1 #[.val (.ref a1), .val (.int j), .val (.int pa), .val (.int r), .val (.int fl)] [(.int j)]) (fun t k => XS.iloadN X0.here hx rfl (hb hby d2_0) rfl k) ?_
  refine hG _ _ _ (mkF m 2 #[.val (.ref a1), .val (.int j), .val (.int pa), .val (.int r), .val (.int fl)] [(.int pa), (.int j)]) (fun t k => XS.iloadN X0.here hx rfl (hb hby d2_1) rfl k) ?_
  by_cases c1 : j.toInt < pa.toInt
  · refine hG _ _ _ (mkF m 10 #[.val (.ref a1), .val (.int j), .val (.int pa), .val (.int r), .val (.int fl)] []) (fun t k => XS.icmpYes X0.here hx rfl (pc0 := 2) (pc' := 10) rfl (hb hby d2_2) rfl (own_tlt c1).1 (by decide) (by decide) k) ?_
    have hv : f I = fl := hf.resolve_left (fun k => absurd c1 (by omega))
    refine hG _ _ _ (mkF m 11 #[.val (.ref a1), .val (.int j), .val (.int pa), .val (.int r), .val (.int fl)] [(.ref a1)]) (fun t k => XS.aloadN X0.here hx rfl (hb hby d2_10) rfl rfl k) ?_
    refine hG _ _ _ (mkF m 12 #[.val (.ref a1), .val (.int j), .val (.int pa), .val (.int r), .val (.int fl)] [(.int j), (.ref a1)]) (fun t k => XS.iloadN X0.here hx rfl (hb hby d2_11) rfl k) ?_
    refine hG _ _ _ (mkF m 13 #[.val (.ref a1), .val (.int j), .val (.int pa), .val (.int r), .val (.int fl)] [(.int (f I))]) (fun t k => own_ld X0 hx hZ e0 V (j := j) (i := I) hj hI (hb hby d2_12) k) ?_
    refine hG _ _ _ (mkF m 15 #[.val (.ref a1), .val (.int j), .val (.int pa), .val (.int r), .val (.int fl)] [(.int fl), (.int (f I))]) (fun t k => XS.iload X0.here hx rfl (hb hby d2_13) rfl k) ?_
    refine hG _ _ _ (mkF m 18 #[.val (.ref a1), .val (.int j), .val (.int pa), .val (.int r), .val (.int fl)] []) (fun t k => XS.icmpNo X0.here hx rfl (hb hby d2_15) rfl (own_teq (congrArg Int32.toInt hv)).2 k) ?_
    refine hG _ _ _ (mkF m 19 #[.val (.ref a1), .val (.int j), .val (.int pa), .val (.int r), .val (.int fl)] [(.int (1 : Int32))]) (fun t k => XS.iconst X0.here hx rfl (hb hby d2_18) k) ?_
    refine hG _ _ _ (mkF m 23 #[.val (.ref a1), .val (.int j), .val (.int pa), .val (.int r), .val (.int fl)] [(.int (1 : Int32))]) (fun t k => XS.goto X0.here hx rfl (pc0 := 19) (pc' := 23) rfl (hb hby d2_19) (by decide) (by decide) k) ?_
    exact hR _ _ _ _ _ _ X0 N0 (by decide) (by decide) ⟨rfl, e0⟩ (fun fs hr => retN X0 hx (t := .boolean) hret (by simp) (hb hby d2_23) hr)
  · refine hG _ _ _ (mkF m 5 #[.val (.ref a1), .val (.int j), .val (.int pa), .val (.int r), .val (.int fl)] []) (fun t k => XS.icmpNo X0.here hx rfl (hb hby d2_2) rfl (own_flt c1).1 k) ?_
    refine hG _ _ _ (mkF m 6 #[.val (.ref a1), .val (.int j), .val (.int pa), .val (.int r), .val (.int fl)] [(.int j)]) (fun t k => XS.iloadN X0.here hx rfl (hb hby d2_5) rfl k) ?_
    refine hG _ _ _ (mkF m 7 #[.val (.ref a1), .val (.int j), .val (.int pa), .val (.int r), .val (.int fl)] [(.int r), (.int j)]) (fun t k => XS.iloadN X0.here hx rfl (hb hby d2_6) rfl k) ?_
    by_cases c2 : j.toInt < r.toInt
    · refine hG _ _ _ (mkF m 18 #[.val (.ref a1), .val (.int j), .val (.int pa), .val (.int r), .val (.int fl)] []) (fun t k => XS.icmpYes X0.here hx rfl (pc0 := 7) (pc' := 18) rfl (hb hby d2_7) rfl (own_tlt c2).1 (by decide) (by decide) k) ?_
      refine hG _ _ _ (mkF m 19 #[.val (.ref a1), .val (.int j), .val (.int pa), .val (.int r), .val (.int fl)] [(.int (1 : Int32))]) (fun t k => XS.iconst X0.here hx rfl (hb hby d2_18) k) ?_
      refine hG _ _ _ (mkF m 23 #[.val (.ref a1), .val (.int j), .val (.int pa), .val (.int r), .val (.int fl)] [(.int (1 : Int32))]) (fun t k => XS.goto X0.here hx rfl (pc0 := 19) (pc' := 23) rfl (hb hby d2_19) (by decide) (by decide) k) ?_
      exact hR _ _ _ _ _ _ X0 N0 (by decide) (by decide) ⟨rfl, e0⟩ (fun fs hr => retN X0 hx (t := .boolean) hret (by simp) (hb hby d2_23) hr)
    · refine hG _ _ _ (mkF m 10 #[.val (.ref a1), .val (.int j), .val (.int pa), .val (.int r), .val (.int fl)] []) (fun t k => XS.icmpNo X0.here hx rfl (hb hby d2_7) rfl (own_flt c2).1 k) ?_
      have hv : f I = fl := hf.resolve_left (fun k => c2 k.2)
      refine hG _ _ _ (mkF m 11 #[.val (.ref a1), .val (.int j), .val (.int pa), .val (.int r), .val (.int fl)] [(.ref a1)]) (fun t k => XS.aloadN X0.here hx rfl (hb hby d2_10) rfl rfl k) ?_
      refine hG _ _ _ (mkF m 12 #[.val (.ref a1), .val (.int j), .val (.int pa), .val (.int r), .val (.int fl)] [(.int j), (.ref a1)]) (fun t k => XS.iloadN X0.here hx rfl (hb hby d2_11) rfl k) ?_
      refine hG _ _ _ (mkF m 13 #[.val (.ref a1), .val (.int j), .val (.int pa), .val (.int r), .val (.int fl)] [(.int (f I))]) (fun t k => own_ld X0 hx hZ e0 V (j := j) (i := I) hj hI (hb hby d2_12) k) ?_
      refine hG _ _ _ (mkF m 15 #[.val (.ref a1), .val (.int j), .val (.int pa), .val (.int r), .val (.int fl)] [(.int fl), (.int (f I))]) (fun t k => XS.iload X0.here hx rfl (hb hby d2_13) rfl k) ?_
      refine hG _ _ _ (mkF m 18 #[.val (.ref a1), .val (.int j), .val (.int pa), .val (.int r), .val (.int fl)] []) (fun t k => XS.icmpNo X0.here hx rfl (hb hby d2_15) rfl (own_teq (congrArg Int32.toInt hv)).2 k) ?_
      refine hG _ _ _ (mkF m 19 #[.val (.ref a1), .val (.int j), .val (.int pa), .val (.int r), .val (.int fl)] [(.int (1 : Int32))]) (fun t k => XS.iconst X0.here hx rfl (hb hby d2_18) k) ?_
      refine hG _ _ _ (mkF m 23 #[.val (.ref a1), .val (.int j), .val (.int pa), .val (.int r), .val (.int fl)] [(.int (1 : Int32))]) (fun t k => XS.goto X0.here hx rfl (pc0 := 19) (pc' := 23) rfl (hb hby d2_19) (by decide) (by decide) k) ?_
      exact hR _ _ _ _ _ _ X0 N0 (by decide) (by decide) ⟨rfl, e0⟩ (fun fs hr => retN X0 hx (t := .boolean) hret (by simp) (hb hby d2_23) hr)
theorem d3_0 : decode method_2_code 0 = .ok (.iload_n 0, 1) := by decide +kernel
theorem d3_1 : decode method_2_code 1 = .ok (.sipush 192, 3) := by decide +kernel
theorem d3_4 : decode method_2_code 4 = .ok (.iand, 1) := by decide +kernel
theorem d3_5 : decode method_2_code 5 = .ok (.sipush 128, 3) := by decide +kernel
theorem d3_8 : decode method_2_code 8 = .ok (.if_icmp .ne 7, 3) := by decide +kernel
theorem d3_11 : decode method_2_code 11 = .ok (.iconst 1, 1) := by decide +kernel
theorem d3_12 : decode method_2_code 12 = .ok (.goto 4, 3) := by decide +kernel
theorem d3_15 : decode method_2_code 15 = .ok (.iconst 0, 1) := by decide +kernel
theorem d3_16 : decode method_2_code 16 = .ok (.ireturn, 1) := by decide +kernel
theorem pn_rm3 : plainName "com/example/querytrail/querytrail/Utf8EncodePinLaw" = true := by first | (simp [plainName, overriddenIn]; done) | decide +kernel
theorem ef_rm3 (m : MethodId) (x0 : Int32) : entryFrame m #[(.int x0)] 1 = mkF m 0 #[.val (.int x0)] [] := by first | (simp [entryFrame, mkF, argsToLocals, Value.category]; done) | rfl
set_option maxRecDepth 65536 in
set_option maxHeartbeats 40000000 in
theorem rm3 (l : Launch) (Z : State) (a0 : Array Value) (hw : ∀ d ∈ tables_1, d.before a0 Z = true) (ws : List Jvm.Cond) (y : Int32) (h0 : Heap) (n0 : Nat) (Z0 : n0 ≤ h0.size) (hy : (y &&& (192 : Int32)).toInt = (128 : Int32).toInt) :
    MetFree l (⟨"com/example/querytrail/querytrail/Utf8EncodePinLaw", "cont", "(I)Z"⟩ : MethodName) (head1 (Jvm.Cond.code (⟨"com/example/querytrail/querytrail/Utf8EncodePinLaw", "cont", "(I)Z"⟩ : MethodName) method_2_code 1 (some .boolean) :: ws) ({ frames := 0, cells := 0, slots := 0, locals := 0 } : Room)) (fun a U => a = #[(.int y)] ∧ Z.Warmed39 U.vm ∧ U.heap = h0) (fun _ _ _ _ _ => True) (fun _ U o U' => ∃ v L, o = .returned v ∧ own_q (fun w h => w = .int 1 ∧ h = h0) n0 v U'.heap L ∧ FrameEnd U o U' L ({ frames := 0, cells := 0, slots := 0, locals := 0 } : Room).cells ({ frames := 0, cells := 0, slots := 0, locals := 0 } : Room).slots) := by
  refine MetFree.of_bodySF (plainFor_of_name pn_rm3) hisR ?_
  intro p e s m args below meth c s₁ Bd hml0 hP hK
  obtain ⟨rfl, hZ, hh⟩ := hP
  have hx := Bd.exec
  have hby := Bd.bytes
  have hml : c.maxLocals = 1 := hml0
  have hown : s.vm.findClass "com/example/querytrail/querytrail/Utf8EncodePinLaw" = some m.cls := findClass_of_methodNamed Bd.named
  have hret : meth.sig.returnType = some .boolean := Bd.returns
  have X0 : Stand p l e ({ frames := 0, cells := 0, slots := 0, locals := 0 } : Room) s m #[(.int y)] below meth c s₁ [] 0 0 := Stand.of_body Bd
  have e0 : s₁.heap = h0 := by rw [← hh, Bd.state]; rfl
  have N0 := Fr.nil n0
  rw [ef_rm3 m y]
  refine own_end (p := p) (l := l) (e := e) (R := ({ frames := 0, cells := 0, slots := 0, locals := 0 } : Room)) (s := s) (m := m) (args := #[(.int y)]) (below := below) (meth := meth) (c := c) (n0 := n0) (K := ({ frames := 0, cells := 0, slots := 0, locals := 0 } : Room).cells) (S := ({ frames := 0, cells := 0, slots := 0, locals := 0 } : Room).slots) (Q := (fun w h => w = .int 1 ∧ h = h0)) hret Bd.notSynchronized (fun G hG hR => ?_)
  refine hG _ _ _ (mkF m 1 #[.val (.int y)] [(.int y)]) (fun t k => XS.iloadN X0.here hx rfl (hb hby d3_0) rfl k) ?_
  refine hG _ _ _ (mkF m 4 #[.val (.int y)] [(.int (192 : Int32)), (.int y)]) (fun t k => XS.sipush X0.here hx rfl (hb hby d3_1) k) ?_
  refine hG _ _ _ (mkF m 5 #[.val (.int y)] [(.int (y &&& (192 : Int32)))]) (fun t k => XS.iand X0.here hx rfl (hb hby d3_4) rfl k) ?_
  refine hG _ _ _ (mkF m 8 #[.val (.int y)] [(.int (128 : Int32)), (.int (y &&& (192 : Int32)))]) (fun t k => XS.sipush X0.here hx rfl (hb hby d3_5) k) ?_
  refine hG _ _ _ (mkF m 11 #[.val (.int y)] []) (fun t k => XS.icmpNo X0.here hx rfl (hb hby d3_8) rfl (own_teq hy).2 k) ?_
  refine hG _ _ _ (mkF m 12 #[.val (.int y)] [(.int (1 : Int32))]) (fun t k => XS.iconst X0.here hx rfl (hb hby d3_11) k) ?_
  refine hG _ _ _ (mkF m 16 #[.val (.int y)] [(.int (1 : Int32))]) (fun t k => XS.goto X0.here hx rfl (pc0 := 12) (pc' := 16) rfl (hb hby d3_12) (by decide) (by decide) k) ?_
  exact hR _ _ _ _ _ _ X0 N0 (by decide) (by decide) ⟨rfl, e0⟩ (fun fs hr => retN X0 hx (t := .boolean) hret (by simp) (hb hby d3_16) hr)
set_option maxRecDepth 65536 in
set_option maxHeartbeats 40000000 in
theorem mid136 {p : Program} {l : Launch} {e : Env} {s : State} {m : MethodId} {args : Array Value} {below : List Frame} {meth : Method} {c : Code} {T0 : State} {locs : List Loc} {Z : State} {a0 : Array Value} {h0 : Heap} {n0 K S : Nat} (i0 i1 i2 cc pa fl r k8 : Int32) (a : Addr) (A k : Nat) (g : Nat → Int32) (X0 : Stand p l e room_1 s m args below meth c T0 locs 1 8) (hx : p.tables.exec = Jvm.exec) (hZ : Z.Warmed39 s.vm) (hw : ∀ d ∈ tables_1, d.before a0 Z = true) (hby : c.code = code) (hml : c.maxLocals = 13) (hown : s.vm.findClass "com/example/querytrail/querytrail/Utf8EncodePinLaw" = some m.cls) (hret : meth.sig.returnType = some .boolean) (e0 : T0.heap = h0) (N0 : Fr n0 locs) (hk : 1 ≤ K) (hn : 8 ≤ S) {G : State → JFrame → Prop} (hG : own_moves p e below G) (hR : own_rets p l e room_1 s m args below meth c n0 K S (fun w _ => w = .int 1) G) (V : own_arr Z h0 a 8 g) (hA : A ≤ 3) (hp : pa.toInt = A) (hr : r.toInt = ((A + k : Nat) : Int)) (hg : ∀ i, i < 8 → (i < A ∨ A + k ≤ i) → g i = fl) (Z0 : n0 ≤ h0.size)
    (go : ∀ (T' : State) (L' : List Loc), Stand p l e room_1 s m args below meth c T' L' 1 8 → T'.heap = h0 → Fr n0 L' → G T' (mkF m 310 #[.val (.int i0), .val (.int i1), .val (.int i2), .val (.int cc), .val (.int pa), .val (.int fl), .val (.ref a), .val (.int r), .val (.int k8), .val (.int ((g A) &&& (255 : Int32))), .val (.int ((g (A + 1)) &&& (255 : Int32))), .val (.int ((g (A + 2)) &&& (255 : Int32))), .val (.int ((g (A + 3)) &&& (255 : Int32)))] [])) :
    G T0 (mkF m 136 #[.val (.int i0), .val (.int i1), .val (.int i2), .val (.int cc), .val (.int pa), .val (.int fl), .val (.ref a), .val (.int r), .val (.int k8), .unset, .unset, .unset, .unset] []) := by
  have hk : ∀ (j : Int32) (i : Nat), j.toInt = i → i < 8 → (pa.toInt ≤ j.toInt ∧ j.toInt < r.toInt) ∨ g i = fl := fun j i e hi => by
    by_cases q : i < A ∨ A + k ≤ i
    · exact Or.inr (hg i hi q)
    · exact Or.inl (by omega)
  refine hG _ _ _ (mkF m 138 #[.val (.int i0), .val (.int i1), .val (.int i2), .val (.int cc), .val (.int pa), .val (.int fl), .val (.ref a), .val (.int r), .val (.int k8), .unset, .unset, .unset, .unset] [(.ref a)]) (fun t k => XS.aload X0.here hx rfl (hb hby at_136) rfl rfl k) ?_
  refine hG _ _ _ (mkF m 139 #[.val (.int i0), .val (.int i1), .val (.int i2), .val (.int cc), .val (.int pa), .val (.int fl), .val (.ref a), .val (.int r), .val (.int k8), .unset, .unset, .unset, .unset] [(.int (0 : Int32)), (.ref a)]) (fun t k => XS.iconst X0.here hx rfl (hb hby at_138) k) ?_
  refine hG _ _ _ (mkF m 141 #[.val (.int i0), .val (.int i1), .val (.int i2), .val (.int cc), .val (.int pa), .val (.int fl), .val (.ref a), .val (.int r), .val (.int k8), .unset, .unset, .unset, .unset] [(.int pa), (.int (0 : Int32)), (.ref a)]) (fun t k => XS.iload X0.here hx rfl (hb hby at_139) rfl k) ?_
  refine hG _ _ _ (mkF m 143 #[.val (.int i0), .val (.int i1), .val (.int i2), .val (.int cc), .val (.int pa), .val (.int fl), .val (.ref a), .val (.int r), .val (.int k8), .unset, .unset, .unset, .unset] [(.int r), (.int pa), (.int (0 : Int32)), (.ref a)]) (fun t k => XS.iload X0.here hx rfl (hb hby at_141) rfl k) ?_
  refine hG _ _ _ (mkF m 145 #[.val (.int i0), .val (.int i1), .val (.int i2), .val (.int cc), .val (.int pa), .val (.int fl), .val (.ref a), .val (.int r), .val (.int k8), .unset, .unset, .unset, .unset] [(.int fl), (.int r), (.int pa), (.int (0 : Int32)), (.ref a)]) (fun t k => XS.iload X0.here hx rfl (hb hby at_143) rfl k) ?_
  obtain ⟨v20, T20, L20, X20, q20, st20⟩ := own_call X0 hx hZ e0 (argsL := [(.ref a), (.int (0 : Int32)), (.int pa), (.int r), (.int fl)]) (rest := []) (W := 0) hown (hw _ (List.mem_of_getElem? (i := 7) rfl)) (hw _ (List.mem_of_getElem? (i := 8) rfl)) (hw _ (List.mem_of_getElem? (i := 9) rfl)) (hw _ (List.mem_of_getElem? (i := 10) rfl)) (by decide) (rm2 l Z a0 hw [] a (0 : Int32) pa r fl 0 g h0 n0 Z0 V (by decide) (by decide) (hk _ _ (by decide) (by decide))) (by decide) (by decide) (Ls := #[.val (.int i0), .val (.int i1), .val (.int i2), .val (.int cc), .val (.int pa), .val (.int fl), .val (.ref a), .val (.int r), .val (.int k8), .unset, .unset, .unset, .unset]) (by rw [hml]; rfl) (lenOf pd_2 rfl) (by decide) (hb hby at_145) (by decide) (by decide)
  obtain ⟨w20, rfl, ⟨rfl, e20⟩, M20⟩ := q20
  have N20 := Fr.app N0 M20
  refine hG _ _ _ (mkF m 148 #[.val (.int i0), .val (.int i1), .val (.int i2), .val (.int cc), .val (.int pa), .val (.int fl), .val (.ref a), .val (.int r), .val (.int k8), .unset, .unset, .unset, .unset] [(.int (1 : Int32))]) (fun t k => st20 t k) ?_
  refine hG _ _ _ (mkF m 151 #[.val (.int i0), .val (.int i1), .val (.int i2), .val (.int cc), .val (.int pa), .val (.int fl), .val (.ref a), .val (.int r), .val (.int k8), .unset, .unset, .unset, .unset] []) (fun t k => XS.ifNo X20.here hx rfl (hb hby at_148) rfl ((if0 _ _).trans (own_feq (by decide)).1) k) ?_
  refine hG _ _ _ (mkF m 153 #[.val (.int i0), .val (.int i1), .val (.int i2), .val (.int cc), .val (.int pa), .val (.int fl), .val (.ref a), .val (.int r), .val (.int k8), .unset, .unset, .unset, .unset] [(.ref a)]) (fun t k => XS.aload X20.here hx rfl (hb hby at_151) rfl rfl k) ?_
  refine hG _ _ _ (mkF m 154 #[.val (.int i0), .val (.int i1), .val (.int i2), .val (.int cc), .val (.int pa), .val (.int fl), .val (.ref a), .val (.int r), .val (.int k8), .unset, .unset, .unset, .unset] [(.int (1 : Int32)), (.ref a)]) (fun t k => XS.iconst X20.here hx rfl (hb hby at_153) k) ?_
  refine hG _ _ _ (mkF m 156 #[.val (.int i0), .val (.int i1), .val (.int i2), .val (.int cc), .val (.int pa), .val (.int fl), .val (.ref a), .val (.int r), .val (.int k8), .unset, .unset, .unset, .unset] [(.int pa), (.int (1 : Int32)), (.ref a)]) (fun t k => XS.iload X20.here hx rfl (hb hby at_154) rfl k) ?_
  refine hG _ _ _ (mkF m 158 #[.val (.int i0), .val (.int i1), .val (.int i2), .val (.int cc), .val (.int pa), .val (.int fl), .val (.ref a), .val (.int r), .val (.int k8), .unset, .unset, .unset, .unset] [(.int r), (.int pa), (.int (1 : Int32)), (.ref a)]) (fun t k => XS.iload X20.here hx rfl (hb hby at_156) rfl k) ?_
  refine hG _ _ _ (mkF m 160 #[.val (.int i0), .val (.int i1), .val (.int i2), .val (.int cc), .val (.int pa), .val (.int fl), .val (.ref a), .val (.int r), .val (.int k8), .unset, .unset, .unset, .unset] [(.int fl), (.int r), (.int pa), (.int (1 : Int32)), (.ref a)]) (fun t k => XS.iload X20.here hx rfl (hb hby at_158) rfl k) ?_
  obtain ⟨v21, T21, L21, X21, q21, st21⟩ := own_call X20 hx hZ e20 (argsL := [(.ref a), (.int (1 : Int32)), (.int pa), (.int r), (.int fl)]) (rest := []) (W := 0) hown (hw _ (List.mem_of_getElem? (i := 7) rfl)) (hw _ (List.mem_of_getElem? (i := 8) rfl)) (hw _ (List.mem_of_getElem? (i := 9) rfl)) (hw _ (List.mem_of_getElem? (i := 10) rfl)) (by decide) (rm2 l Z a0 hw [] a (1 : Int32) pa r fl 1 g h0 n0 Z0 V (by decide) (by decide) (hk _ _ (by decide) (by decide))) (by decide) (by decide) (Ls := #[.val (.int i0), .val (.int i1), .val (.int i2), .val (.int cc), .val (.int pa), .val (.int fl), .val (.ref a), .val (.int r), .val (.int k8), .unset, .unset, .unset, .unset]) (by rw [hml]; rfl) (lenOf pd_2 rfl) (by decide) (hb hby at_160) (by decide) (by decide)
  obtain ⟨w21, rfl, ⟨rfl, e21⟩, M21⟩ := q21
  have N21 := Fr.app N20 M21
  refine hG _ _ _ (mkF m 163 #[.val (.int i0), .val (.int i1), .val (.int i2), .val (.int cc), .val (.int pa), .val (.int fl), .val (.ref a), .val (.int r), .val (.int k8), .unset, .unset, .unset, .unset] [(.int (1 : Int32))]) (fun t k => st21 t k) ?_
  refine hG _ _ _ (mkF m 166 #[.val (.int i0), .val (.int i1), .val (.int i2), .val (.int cc), .val (.int pa), .val (.int fl), .val (.ref a), .val (.int r), .val (.int k8), .unset, .unset, .unset, .unset] []) (fun t k => XS.ifNo X21.here hx rfl (hb hby at_163) rfl ((if0 _ _).trans (own_feq (by decide)).1) k) ?_
  refine hG _ _ _ (mkF m 168 #[.val (.int i0), .val (.int i1), .val (.int i2), .val (.int cc), .val (.int pa), .val (.int fl), .val (.ref a), .val (.int r), .val (.int k8), .unset, .unset, .unset, .unset] [(.ref a)]) (fun t k => XS.aload X21.here hx rfl (hb hby at_166) rfl rfl k) ?_
  refine hG _ _ _ (mkF m 169 #[.val (.int i0), .val (.int i1), .val (.int i2), .val (.int cc), .val (.int pa), .val (.int fl), .val (.ref a), .val (.int r), .val (.int k8), .unset, .unset, .unset, .unset] [(.int (2 : Int32)), (.ref a)]) (fun t k => XS.iconst X21.here hx rfl (hb hby at_168) k) ?_
  refine hG _ _ _ (mkF m 171 #[.val (.int i0), .val (.int i1), .val (.int i2), .val (.int cc), .val (.int pa), .val (.int fl), .val (.ref a), .val (.int r), .val (.int k8), .unset, .unset, .unset, .unset] [(.int pa), (.int (2 : Int32)), (.ref a)]) (fun t k => XS.iload X21.here hx rfl (hb hby at_169) rfl k) ?_
  refine hG _ _ _ (mkF m 173 #[.val (.int i0), .val (.int i1), .val (.int i2), .val (.int cc), .val (.int pa), .val (.int fl), .val (.ref a), .val (.int r), .val (.int k8), .unset, .unset, .unset, .unset] [(.int r), (.int pa), (.int (2 : Int32)), (.ref a)]) (fun t k => XS.iload X21.here hx rfl (hb hby at_171) rfl k) ?_
  refine hG _ _ _ (mkF m 175 #[.val (.int i0), .val (.int i1), .val (.int i2), .val (.int cc), .val (.int pa), .val (.int fl), .val (.ref a), .val (.int r), .val (.int k8), .unset, .unset, .unset, .unset] [(.int fl), (.int r), (.int pa), (.int (2 : Int32)), (.ref a)]) (fun t k => XS.iload X21.here hx rfl (hb hby at_173) rfl k) ?_
  obtain ⟨v22, T22, L22, X22, q22, st22⟩ := own_call X21 hx hZ e21 (argsL := [(.ref a), (.int (2 : Int32)), (.int pa), (.int r), (.int fl)]) (rest := []) (W := 0) hown (hw _ (List.mem_of_getElem? (i := 7) rfl)) (hw _ (List.mem_of_getElem? (i := 8) rfl)) (hw _ (List.mem_of_getElem? (i := 9) rfl)) (hw _ (List.mem_of_getElem? (i := 10) rfl)) (by decide) (rm2 l Z a0 hw [] a (2 : Int32) pa r fl 2 g h0 n0 Z0 V (by decide) (by decide) (hk _ _ (by decide) (by decide))) (by decide) (by decide) (Ls := #[.val (.int i0), .val (.int i1), .val (.int i2), .val (.int cc), .val (.int pa), .val (.int fl), .val (.ref a), .val (.int r), .val (.int k8), .unset, .unset, .unset, .unset]) (by rw [hml]; rfl) (lenOf pd_2 rfl) (by decide) (hb hby at_175) (by decide) (by decide)
  obtain ⟨w22, rfl, ⟨rfl, e22⟩, M22⟩ := q22
  have N22 := Fr.app N21 M22
  refine hG _ _ _ (mkF m 178 #[.val (.int i0), .val (.int i1), .val (.int i2), .val (.int cc), .val (.int pa), .val (.int fl), .val (.ref a), .val (.int r), .val (.int k8), .unset, .unset, .unset, .unset] [(.int (1 : Int32))]) (fun t k => st22 t k) ?_
  refine hG _ _ _ (mkF m 181 #[.val (.int i0), .val (.int i1), .val (.int i2), .val (.int cc), .val (.int pa), .val (.int fl), .val (.ref a), .val (.int r), .val (.int k8), .unset, .unset, .unset, .unset] []) (fun t k => XS.ifNo X22.here hx rfl (hb hby at_178) rfl ((if0 _ _).trans (own_feq (by decide)).1) k) ?_
  refine hG _ _ _ (mkF m 183 #[.val (.int i0), .val (.int i1), .val (.int i2), .val (.int cc), .val (.int pa), .val (.int fl), .val (.ref a), .val (.int r), .val (.int k8), .unset, .unset, .unset, .unset] [(.ref a)]) (fun t k => XS.aload X22.here hx rfl (hb hby at_181) rfl rfl k) ?_
  refine hG _ _ _ (mkF m 184 #[.val (.int i0), .val (.int i1), .val (.int i2), .val (.int cc), .val (.int pa), .val (.int fl), .val (.ref a), .val (.int r), .val (.int k8), .unset, .unset, .unset, .unset] [(.int (3 : Int32)), (.ref a)]) (fun t k => XS.iconst X22.here hx rfl (hb hby at_183) k) ?_
  refine hG _ _ _ (mkF m 186 #[.val (.int i0), .val (.int i1), .val (.int i2), .val (.int cc), .val (.int pa), .val (.int fl), .val (.ref a), .val (.int r), .val (.int k8), .unset, .unset, .unset, .unset] [(.int pa), (.int (3 : Int32)), (.ref a)]) (fun t k => XS.iload X22.here hx rfl (hb hby at_184) rfl k) ?_
  refine hG _ _ _ (mkF m 188 #[.val (.int i0), .val (.int i1), .val (.int i2), .val (.int cc), .val (.int pa), .val (.int fl), .val (.ref a), .val (.int r), .val (.int k8), .unset, .unset, .unset, .unset] [(.int r), (.int pa), (.int (3 : Int32)), (.ref a)]) (fun t k => XS.iload X22.here hx rfl (hb hby at_186) rfl k) ?_
  refine hG _ _ _ (mkF m 190 #[.val (.int i0), .val (.int i1), .val (.int i2), .val (.int cc), .val (.int pa), .val (.int fl), .val (.ref a), .val (.int r), .val (.int k8), .unset, .unset, .unset, .unset] [(.int fl), (.int r), (.int pa), (.int (3 : Int32)), (.ref a)]) (fun t k => XS.iload X22.here hx rfl (hb hby at_188) rfl k) ?_
  obtain ⟨v23, T23, L23, X23, q23, st23⟩ := own_call X22 hx hZ e22 (argsL := [(.ref a), (.int (3 : Int32)), (.int pa), (.int r), (.int fl)]) (rest := []) (W := 0) hown (hw _ (List.mem_of_getElem? (i := 7) rfl)) (hw _ (List.mem_of_getElem? (i := 8) rfl)) (hw _ (List.mem_of_getElem? (i := 9) rfl)) (hw _ (List.mem_of_getElem? (i := 10) rfl)) (by decide) (rm2 l Z a0 hw [] a (3 : Int32) pa r fl 3 g h0 n0 Z0 V (by decide) (by decide) (hk _ _ (by decide) (by decide))) (by decide) (by decide) (Ls := #[.val (.int i0), .val (.int i1), .val (.int i2), .val (.int cc), .val (.int pa), .val (.int fl), .val (.ref a), .val (.int r), .val (.int k8), .unset, .unset, .unset, .unset]) (by rw [hml]; rfl) (lenOf pd_2 rfl) (by decide) (hb hby at_190) (by decide) (by decide)
  obtain ⟨w23, rfl, ⟨rfl, e23⟩, M23⟩ := q23
  have N23 := Fr.app N22 M23
  refine hG _ _ _ (mkF m 193 #[.val (.int i0), .val (.int i1), .val (.int i2), .val (.int cc), .val (.int pa), .val (.int fl), .val (.ref a), .val (.int r), .val (.int k8), .unset, .unset, .unset, .unset] [(.int (1 : Int32))]) (fun t k => st23 t k) ?_
  refine hG _ _ _ (mkF m 196 #[.val (.int i0), .val (.int i1), .val (.int i2), .val (.int cc), .val (.int pa), .val (.int fl), .val (.ref a), .val (.int r), .val (.int k8), .unset, .unset, .unset, .unset] []) (fun t k => XS.ifNo X23.here hx rfl (hb hby at_193) rfl ((if0 _ _).trans (own_feq (by decide)).1) k) ?_
  refine hG _ _ _ (mkF m 198 #[.val (.int i0), .val (.int i1), .val (.int i2), .val (.int cc), .val (.int pa), .val (.int fl), .val (.ref a), .val (.int r), .val (.int k8), .unset, .unset, .unset, .unset] [(.ref a)]) (fun t k => XS.aload X23.here hx rfl (hb hby at_196) rfl rfl k) ?_
  refine hG _ _ _ (mkF m 199 #[.val (.int i0), .val (.int i1), .val (.int i2), .val (.int cc), .val (.int pa), .val (.int fl), .val (.ref a), .val (.int r), .val (.int k8), .unset, .unset, .unset, .unset] [(.int (4 : Int32)), (.ref a)]) (fun t k => XS.iconst X23.here hx rfl (hb hby at_198) k) ?_
  refine hG _ _ _ (mkF m 201 #[.val (.int i0), .val (.int i1), .val (.int i2), .val (.int cc), .val (.int pa), .val (.int fl), .val (.ref a), .val (.int r), .val (.int k8), .unset, .unset, .unset, .unset] [(.int pa), (.int (4 : Int32)), (.ref a)]) (fun t k => XS.iload X23.here hx rfl (hb hby at_199) rfl k) ?_
  refine hG _ _ _ (mkF m 203 #[.val (.int i0), .val (.int i1), .val (.int i2), .val (.int cc), .val (.int pa), .val (.int fl), .val (.ref a), .val (.int r), .val (.int k8), .unset, .unset, .unset, .unset] [(.int r), (.int pa), (.int (4 : Int32)), (.ref a)]) (fun t k => XS.iload X23.here hx rfl (hb hby at_201) rfl k) ?_
  refine hG _ _ _ (mkF m 205 #[.val (.int i0), .val (.int i1), .val (.int i2), .val (.int cc), .val (.int pa), .val (.int fl), .val (.ref a), .val (.int r), .val (.int k8), .unset, .unset, .unset, .unset] [(.int fl), (.int r), (.int pa), (.int (4 : Int32)), (.ref a)]) (fun t k => XS.iload X23.here hx rfl (hb hby at_203) rfl k) ?_
  obtain ⟨v24, T24, L24, X24, q24, st24⟩ := own_call X23 hx hZ e23 (argsL := [(.ref a), (.int (4 : Int32)), (.int pa), (.int r), (.int fl)]) (rest := []) (W := 0) hown (hw _ (List.mem_of_getElem? (i := 7) rfl)) (hw _ (List.mem_of_getElem? (i := 8) rfl)) (hw _ (List.mem_of_getElem? (i := 9) rfl)) (hw _ (List.mem_of_getElem? (i := 10) rfl)) (by decide) (rm2 l Z a0 hw [] a (4 : Int32) pa r fl 4 g h0 n0 Z0 V (by decide) (by decide) (hk _ _ (by decide) (by decide))) (by decide) (by decide) (Ls := #[.val (.int i0), .val (.int i1), .val (.int i2), .val (.int cc), .val (.int pa), .val (.int fl), .val (.ref a), .val (.int r), .val (.int k8), .unset, .unset, .unset, .unset]) (by rw [hml]; rfl) (lenOf pd_2 rfl) (by decide) (hb hby at_205) (by decide) (by decide)
  obtain ⟨w24, rfl, ⟨rfl, e24⟩, M24⟩ := q24
  have N24 := Fr.app N23 M24
  refine hG _ _ _ (mkF m 208 #[.val (.int i0), .val (.int i1), .val (.int i2), .val (.int cc), .val (.int pa), .val (.int fl), .val (.ref a), .val (.int r), .val (.int k8), .unset, .unset, .unset, .unset] [(.int (1 : Int32))]) (fun t k => st24 t k) ?_
  refine hG _ _ _ (mkF m 211 #[.val (.int i0), .val (.int i1), .val (.int i2), .val (.int cc), .val (.int pa), .val (.int fl), .val (.ref a), .val (.int r), .val (.int k8), .unset, .unset, .unset, .unset] []) (fun t k => XS.ifNo X24.here hx rfl (hb hby at_208) rfl ((if0 _ _).trans (own_feq (by decide)).1) k) ?_
  refine hG _ _ _ (mkF m 213 #[.val (.int i0), .val (.int i1), .val (.int i2), .val (.int cc), .val (.int pa), .val (.int fl), .val (.ref a), .val (.int r), .val (.int k8), .unset, .unset, .unset, .unset] [(.ref a)]) (fun t k => XS.aload X24.here hx rfl (hb hby at_211) rfl rfl k) ?_
  refine hG _ _ _ (mkF m 214 #[.val (.int i0), .val (.int i1), .val (.int i2), .val (.int cc), .val (.int pa), .val (.int fl), .val (.ref a), .val (.int r), .val (.int k8), .unset, .unset, .unset, .unset] [(.int (5 : Int32)), (.ref a)]) (fun t k => XS.iconst X24.here hx rfl (hb hby at_213) k) ?_
  refine hG _ _ _ (mkF m 216 #[.val (.int i0), .val (.int i1), .val (.int i2), .val (.int cc), .val (.int pa), .val (.int fl), .val (.ref a), .val (.int r), .val (.int k8), .unset, .unset, .unset, .unset] [(.int pa), (.int (5 : Int32)), (.ref a)]) (fun t k => XS.iload X24.here hx rfl (hb hby at_214) rfl k) ?_
  refine hG _ _ _ (mkF m 218 #[.val (.int i0), .val (.int i1), .val (.int i2), .val (.int cc), .val (.int pa), .val (.int fl), .val (.ref a), .val (.int r), .val (.int k8), .unset, .unset, .unset, .unset] [(.int r), (.int pa), (.int (5 : Int32)), (.ref a)]) (fun t k => XS.iload X24.here hx rfl (hb hby at_216) rfl k) ?_
  refine hG _ _ _ (mkF m 220 #[.val (.int i0), .val (.int i1), .val (.int i2), .val (.int cc), .val (.int pa), .val (.int fl), .val (.ref a), .val (.int r), .val (.int k8), .unset, .unset, .unset, .unset] [(.int fl), (.int r), (.int pa), (.int (5 : Int32)), (.ref a)]) (fun t k => XS.iload X24.here hx rfl (hb hby at_218) rfl k) ?_
  obtain ⟨v25, T25, L25, X25, q25, st25⟩ := own_call X24 hx hZ e24 (argsL := [(.ref a), (.int (5 : Int32)), (.int pa), (.int r), (.int fl)]) (rest := []) (W := 0) hown (hw _ (List.mem_of_getElem? (i := 7) rfl)) (hw _ (List.mem_of_getElem? (i := 8) rfl)) (hw _ (List.mem_of_getElem? (i := 9) rfl)) (hw _ (List.mem_of_getElem? (i := 10) rfl)) (by decide) (rm2 l Z a0 hw [] a (5 : Int32) pa r fl 5 g h0 n0 Z0 V (by decide) (by decide) (hk _ _ (by decide) (by decide))) (by decide) (by decide) (Ls := #[.val (.int i0), .val (.int i1), .val (.int i2), .val (.int cc), .val (.int pa), .val (.int fl), .val (.ref a), .val (.int r), .val (.int k8), .unset, .unset, .unset, .unset]) (by rw [hml]; rfl) (lenOf pd_2 rfl) (by decide) (hb hby at_220) (by decide) (by decide)
  obtain ⟨w25, rfl, ⟨rfl, e25⟩, M25⟩ := q25
  have N25 := Fr.app N24 M25
  refine hG _ _ _ (mkF m 223 #[.val (.int i0), .val (.int i1), .val (.int i2), .val (.int cc), .val (.int pa), .val (.int fl), .val (.ref a), .val (.int r), .val (.int k8), .unset, .unset, .unset, .unset] [(.int (1 : Int32))]) (fun t k => st25 t k) ?_
  refine hG _ _ _ (mkF m 226 #[.val (.int i0), .val (.int i1), .val (.int i2), .val (.int cc), .val (.int pa), .val (.int fl), .val (.ref a), .val (.int r), .val (.int k8), .unset, .unset, .unset, .unset] []) (fun t k => XS.ifNo X25.here hx rfl (hb hby at_223) rfl ((if0 _ _).trans (own_feq (by decide)).1) k) ?_
  refine hG _ _ _ (mkF m 228 #[.val (.int i0), .val (.int i1), .val (.int i2), .val (.int cc), .val (.int pa), .val (.int fl), .val (.ref a), .val (.int r), .val (.int k8), .unset, .unset, .unset, .unset] [(.ref a)]) (fun t k => XS.aload X25.here hx rfl (hb hby at_226) rfl rfl k) ?_
  refine hG _ _ _ (mkF m 230 #[.val (.int i0), .val (.int i1), .val (.int i2), .val (.int cc), .val (.int pa), .val (.int fl), .val (.ref a), .val (.int r), .val (.int k8), .unset, .unset, .unset, .unset] [(.int (6 : Int32)), (.ref a)]) (fun t k => XS.bipush X25.here hx rfl (hb hby at_228) k) ?_
  refine hG _ _ _ (mkF m 232 #[.val (.int i0), .val (.int i1), .val (.int i2), .val (.int cc), .val (.int pa), .val (.int fl), .val (.ref a), .val (.int r), .val (.int k8), .unset, .unset, .unset, .unset] [(.int pa), (.int (6 : Int32)), (.ref a)]) (fun t k => XS.iload X25.here hx rfl (hb hby at_230) rfl k) ?_
  refine hG _ _ _ (mkF m 234 #[.val (.int i0), .val (.int i1), .val (.int i2), .val (.int cc), .val (.int pa), .val (.int fl), .val (.ref a), .val (.int r), .val (.int k8), .unset, .unset, .unset, .unset] [(.int r), (.int pa), (.int (6 : Int32)), (.ref a)]) (fun t k => XS.iload X25.here hx rfl (hb hby at_232) rfl k) ?_
  refine hG _ _ _ (mkF m 236 #[.val (.int i0), .val (.int i1), .val (.int i2), .val (.int cc), .val (.int pa), .val (.int fl), .val (.ref a), .val (.int r), .val (.int k8), .unset, .unset, .unset, .unset] [(.int fl), (.int r), (.int pa), (.int (6 : Int32)), (.ref a)]) (fun t k => XS.iload X25.here hx rfl (hb hby at_234) rfl k) ?_
  obtain ⟨v26, T26, L26, X26, q26, st26⟩ := own_call X25 hx hZ e25 (argsL := [(.ref a), (.int (6 : Int32)), (.int pa), (.int r), (.int fl)]) (rest := []) (W := 0) hown (hw _ (List.mem_of_getElem? (i := 7) rfl)) (hw _ (List.mem_of_getElem? (i := 8) rfl)) (hw _ (List.mem_of_getElem? (i := 9) rfl)) (hw _ (List.mem_of_getElem? (i := 10) rfl)) (by decide) (rm2 l Z a0 hw [] a (6 : Int32) pa r fl 6 g h0 n0 Z0 V (by decide) (by decide) (hk _ _ (by decide) (by decide))) (by decide) (by decide) (Ls := #[.val (.int i0), .val (.int i1), .val (.int i2), .val (.int cc), .val (.int pa), .val (.int fl), .val (.ref a), .val (.int r), .val (.int k8), .unset, .unset, .unset, .unset]) (by rw [hml]; rfl) (lenOf pd_2 rfl) (by decide) (hb hby at_236) (by decide) (by decide)
  obtain ⟨w26, rfl, ⟨rfl, e26⟩, M26⟩ := q26
  have N26 := Fr.app N25 M26
  refine hG _ _ _ (mkF m 239 #[.val (.int i0), .val (.int i1), .val (.int i2), .val (.int cc), .val (.int pa), .val (.int fl), .val (.ref a), .val (.int r), .val (.int k8), .unset, .unset, .unset, .unset] [(.int (1 : Int32))]) (fun t k => st26 t k) ?_
  refine hG _ _ _ (mkF m 242 #[.val (.int i0), .val (.int i1), .val (.int i2), .val (.int cc), .val (.int pa), .val (.int fl), .val (.ref a), .val (.int r), .val (.int k8), .unset, .unset, .unset, .unset] []) (fun t k => XS.ifNo X26.here hx rfl (hb hby at_239) rfl ((if0 _ _).trans (own_feq (by decide)).1) k) ?_
  refine hG _ _ _ (mkF m 244 #[.val (.int i0), .val (.int i1), .val (.int i2), .val (.int cc), .val (.int pa), .val (.int fl), .val (.ref a), .val (.int r), .val (.int k8), .unset, .unset, .unset, .unset] [(.ref a)]) (fun t k => XS.aload X26.here hx rfl (hb hby at_242) rfl rfl k) ?_
  refine hG _ _ _ (mkF m 246 #[.val (.int i0), .val (.int i1), .val (.int i2), .val (.int cc), .val (.int pa), .val (.int fl), .val (.ref a), .val (.int r), .val (.int k8), .unset, .unset, .unset, .unset] [(.int (7 : Int32)), (.ref a)]) (fun t k => XS.bipush X26.here hx rfl (hb hby at_244) k) ?_
  refine hG _ _ _ (mkF m 248 #[.val (.int i0), .val (.int i1), .val (.int i2), .val (.int cc), .val (.int pa), .val (.int fl), .val (.ref a), .val (.int r), .val (.int k8), .unset, .unset, .unset, .unset] [(.int pa), (.int (7 : Int32)), (.ref a)]) (fun t k => XS.iload X26.here hx rfl (hb hby at_246) rfl k) ?_
  refine hG _ _ _ (mkF m 250 #[.val (.int i0), .val (.int i1), .val (.int i2), .val (.int cc), .val (.int pa), .val (.int fl), .val (.ref a), .val (.int r), .val (.int k8), .unset, .unset, .unset, .unset] [(.int r), (.int pa), (.int (7 : Int32)), (.ref a)]) (fun t k => XS.iload X26.here hx rfl (hb hby at_248) rfl k) ?_
  refine hG _ _ _ (mkF m 252 #[.val (.int i0), .val (.int i1), .val (.int i2), .val (.int cc), .val (.int pa), .val (.int fl), .val (.ref a), .val (.int r), .val (.int k8), .unset, .unset, .unset, .unset] [(.int fl), (.int r), (.int pa), (.int (7 : Int32)), (.ref a)]) (fun t k => XS.iload X26.here hx rfl (hb hby at_250) rfl k) ?_
  obtain ⟨v27, T27, L27, X27, q27, st27⟩ := own_call X26 hx hZ e26 (argsL := [(.ref a), (.int (7 : Int32)), (.int pa), (.int r), (.int fl)]) (rest := []) (W := 0) hown (hw _ (List.mem_of_getElem? (i := 7) rfl)) (hw _ (List.mem_of_getElem? (i := 8) rfl)) (hw _ (List.mem_of_getElem? (i := 9) rfl)) (hw _ (List.mem_of_getElem? (i := 10) rfl)) (by decide) (rm2 l Z a0 hw [] a (7 : Int32) pa r fl 7 g h0 n0 Z0 V (by decide) (by decide) (hk _ _ (by decide) (by decide))) (by decide) (by decide) (Ls := #[.val (.int i0), .val (.int i1), .val (.int i2), .val (.int cc), .val (.int pa), .val (.int fl), .val (.ref a), .val (.int r), .val (.int k8), .unset, .unset, .unset, .unset]) (by rw [hml]; rfl) (lenOf pd_2 rfl) (by decide) (hb hby at_252) (by decide) (by decide)
  obtain ⟨w27, rfl, ⟨rfl, e27⟩, M27⟩ := q27
  have N27 := Fr.app N26 M27
  refine hG _ _ _ (mkF m 255 #[.val (.int i0), .val (.int i1), .val (.int i2), .val (.int cc), .val (.int pa), .val (.int fl), .val (.ref a), .val (.int r), .val (.int k8), .unset, .unset, .unset, .unset] [(.int (1 : Int32))]) (fun t k => st27 t k) ?_
  refine hG _ _ _ (mkF m 260 #[.val (.int i0), .val (.int i1), .val (.int i2), .val (.int cc), .val (.int pa), .val (.int fl), .val (.ref a), .val (.int r), .val (.int k8), .unset, .unset, .unset, .unset] []) (fun t k => XS.ifYes X27.here hx rfl (pc0 := 255) (pc' := 260) rfl (hb hby at_255) rfl ((if0 _ _).trans (own_feq (by decide)).2) (by decide) (by decide) k) ?_
  refine hG _ _ _ (mkF m 262 #[.val (.int i0), .val (.int i1), .val (.int i2), .val (.int cc), .val (.int pa), .val (.int fl), .val (.ref a), .val (.int r), .val (.int k8), .unset, .unset, .unset, .unset] [(.ref a)]) (fun t k => XS.aload X27.here hx rfl (hb hby at_260) rfl rfl k) ?_
  refine hG _ _ _ (mkF m 264 #[.val (.int i0), .val (.int i1), .val (.int i2), .val (.int cc), .val (.int pa), .val (.int fl), .val (.ref a), .val (.int r), .val (.int k8), .unset, .unset, .unset, .unset] [(.int pa), (.ref a)]) (fun t k => XS.iload X27.here hx rfl (hb hby at_262) rfl k) ?_
  refine hG _ _ _ (mkF m 265 #[.val (.int i0), .val (.int i1), .val (.int i2), .val (.int cc), .val (.int pa), .val (.int fl), .val (.ref a), .val (.int r), .val (.int k8), .unset, .unset, .unset, .unset] [(.int (g A))]) (fun t k => own_ld X27 hx hZ e27 V (j := pa) (i := A) hp (by omega) (hb hby at_264) k) ?_
  refine hG _ _ _ (mkF m 268 #[.val (.int i0), .val (.int i1), .val (.int i2), .val (.int cc), .val (.int pa), .val (.int fl), .val (.ref a), .val (.int r), .val (.int k8), .unset, .unset, .unset, .unset] [(.int (255 : Int32)), (.int (g A))]) (fun t k => XS.sipush X27.here hx rfl (hb hby at_265) k) ?_
  refine hG _ _ _ (mkF m 269 #[.val (.int i0), .val (.int i1), .val (.int i2), .val (.int cc), .val (.int pa), .val (.int fl), .val (.ref a), .val (.int r), .val (.int k8), .unset, .unset, .unset, .unset] [(.int ((g A) &&& (255 : Int32)))]) (fun t k => XS.iand X27.here hx rfl (hb hby at_268) rfl k) ?_
  refine hG _ _ _ (mkF m 271 #[.val (.int i0), .val (.int i1), .val (.int i2), .val (.int cc), .val (.int pa), .val (.int fl), .val (.ref a), .val (.int r), .val (.int k8), .val (.int ((g A) &&& (255 : Int32))), .unset, .unset, .unset] []) (fun t k => XS.istore X27.here hx rfl (hb hby at_269) rfl (l' := #[.val (.int i0), .val (.int i1), .val (.int i2), .val (.int cc), .val (.int pa), .val (.int fl), .val (.ref a), .val (.int r), .val (.int k8), .val (.int ((g A) &&& (255 : Int32))), .unset, .unset, .unset]) rfl k) ?_
  refine hG _ _ _ (mkF m 273 #[.val (.int i0), .val (.int i1), .val (.int i2), .val (.int cc), .val (.int pa), .val (.int fl), .val (.ref a), .val (.int r), .val (.int k8), .val (.int ((g A) &&& (255 : Int32))), .unset, .unset, .unset] [(.ref a)]) (fun t k => XS.aload X27.here hx rfl (hb hby at_271) rfl rfl k) ?_
  refine hG _ _ _ (mkF m 275 #[.val (.int i0), .val (.int i1), .val (.int i2), .val (.int cc), .val (.int pa), .val (.int fl), .val (.ref a), .val (.int r), .val (.int k8), .val (.int ((g A) &&& (255 : Int32))), .unset, .unset, .unset] [(.int pa), (.ref a)]) (fun t k => XS.iload X27.here hx rfl (hb hby at_273) rfl k) ?_
  refine hG _ _ _ (mkF m 276 #[.val (.int i0), .val (.int i1), .val (.int i2), .val (.int cc), .val (.int pa), .val (.int fl), .val (.ref a), .val (.int r), .val (.int k8), .val (.int ((g A) &&& (255 : Int32))), .unset, .unset, .unset] [(.int (1 : Int32)), (.int pa), (.ref a)]) (fun t k => XS.iconst X27.here hx rfl (hb hby at_275) k) ?_
  refine hG _ _ _ (mkF m 277 #[.val (.int i0), .val (.int i1), .val (.int i2), .val (.int cc), .val (.int pa), .val (.int fl), .val (.ref a), .val (.int r), .val (.int k8), .val (.int ((g A) &&& (255 : Int32))), .unset, .unset, .unset] [(.int (pa + (1 : Int32))), (.ref a)]) (fun t k => XS.iadd X27.here hx rfl (hb hby at_276) rfl k) ?_
  refine hG _ _ _ (mkF m 278 #[.val (.int i0), .val (.int i1), .val (.int i2), .val (.int cc), .val (.int pa), .val (.int fl), .val (.ref a), .val (.int r), .val (.int k8), .val (.int ((g A) &&& (255 : Int32))), .unset, .unset, .unset] [(.int (g (A + 1)))]) (fun t k => own_ld X27 hx hZ e27 V (j := (pa + (1 : Int32))) (i := (A + 1)) (own_ix hp hA).1 (by omega) (hb hby at_277) k) ?_
  refine hG _ _ _ (mkF m 281 #[.val (.int i0), .val (.int i1), .val (.int i2), .val (.int cc), .val (.int pa), .val (.int fl), .val (.ref a), .val (.int r), .val (.int k8), .val (.int ((g A) &&& (255 : Int32))), .unset, .unset, .unset] [(.int (255 : Int32)), (.int (g (A + 1)))]) (fun t k => XS.sipush X27.here hx rfl (hb hby at_278) k) ?_
  refine hG _ _ _ (mkF m 282 #[.val (.int i0), .val (.int i1), .val (.int i2), .val (.int cc), .val (.int pa), .val (.int fl), .val (.ref a), .val (.int r), .val (.int k8), .val (.int ((g A) &&& (255 : Int32))), .unset, .unset, .unset] [(.int ((g (A + 1)) &&& (255 : Int32)))]) (fun t k => XS.iand X27.here hx rfl (hb hby at_281) rfl k) ?_
  refine hG _ _ _ (mkF m 284 #[.val (.int i0), .val (.int i1), .val (.int i2), .val (.int cc), .val (.int pa), .val (.int fl), .val (.ref a), .val (.int r), .val (.int k8), .val (.int ((g A) &&& (255 : Int32))), .val (.int ((g (A + 1)) &&& (255 : Int32))), .unset, .unset] []) (fun t k => XS.istore X27.here hx rfl (hb hby at_282) rfl (l' := #[.val (.int i0), .val (.int i1), .val (.int i2), .val (.int cc), .val (.int pa), .val (.int fl), .val (.ref a), .val (.int r), .val (.int k8), .val (.int ((g A) &&& (255 : Int32))), .val (.int ((g (A + 1)) &&& (255 : Int32))), .unset, .unset]) rfl k) ?_
  refine hG _ _ _ (mkF m 286 #[.val (.int i0), .val (.int i1), .val (.int i2), .val (.int cc), .val (.int pa), .val (.int fl), .val (.ref a), .val (.int r), .val (.int k8), .val (.int ((g A) &&& (255 : Int32))), .val (.int ((g (A + 1)) &&& (255 : Int32))), .unset, .unset] [(.ref a)]) (fun t k => XS.aload X27.here hx rfl (hb hby at_284) rfl rfl k) ?_
  refine hG _ _ _ (mkF m 288 #[.val (.int i0), .val (.int i1), .val (.int i2), .val (.int cc), .val (.int pa), .val (.int fl), .val (.ref a), .val (.int r), .val (.int k8), .val (.int ((g A) &&& (255 : Int32))), .val (.int ((g (A + 1)) &&& (255 : Int32))), .unset, .unset] [(.int pa), (.ref a)]) (fun t k => XS.iload X27.here hx rfl (hb hby at_286) rfl k) ?_
  refine hG _ _ _ (mkF m 289 #[.val (.int i0), .val (.int i1), .val (.int i2), .val (.int cc), .val (.int pa), .val (.int fl), .val (.ref a), .val (.int r), .val (.int k8), .val (.int ((g A) &&& (255 : Int32))), .val (.int ((g (A + 1)) &&& (255 : Int32))), .unset, .unset] [(.int (2 : Int32)), (.int pa), (.ref a)]) (fun t k => XS.iconst X27.here hx rfl (hb hby at_288) k) ?_
  refine hG _ _ _ (mkF m 290 #[.val (.int i0), .val (.int i1), .val (.int i2), .val (.int cc), .val (.int pa), .val (.int fl), .val (.ref a), .val (.int r), .val (.int k8), .val (.int ((g A) &&& (255 : Int32))), .val (.int ((g (A + 1)) &&& (255 : Int32))), .unset, .unset] [(.int (pa + (2 : Int32))), (.ref a)]) (fun t k => XS.iadd X27.here hx rfl (hb hby at_289) rfl k) ?_
  refine hG _ _ _ (mkF m 291 #[.val (.int i0), .val (.int i1), .val (.int i2), .val (.int cc), .val (.int pa), .val (.int fl), .val (.ref a), .val (.int r), .val (.int k8), .val (.int ((g A) &&& (255 : Int32))), .val (.int ((g (A + 1)) &&& (255 : Int32))), .unset, .unset] [(.int (g (A + 2)))]) (fun t k => own_ld X27 hx hZ e27 V (j := (pa + (2 : Int32))) (i := (A + 2)) (own_ix hp hA).2.1 (by omega) (hb hby at_290) k) ?_
  refine hG _ _ _ (mkF m 294 #[.val (.int i0), .val (.int i1), .val (.int i2), .val (.int cc), .val (.int pa), .val (.int fl), .val (.ref a), .val (.int r), .val (.int k8), .val (.int ((g A) &&& (255 : Int32))), .val (.int ((g (A + 1)) &&& (255 : Int32))), .unset, .unset] [(.int (255 : Int32)), (.int (g (A + 2)))]) (fun t k => XS.sipush X27.here hx rfl (hb hby at_291) k) ?_
  refine hG _ _ _ (mkF m 295 #[.val (.int i0), .val (.int i1), .val (.int i2), .val (.int cc), .val (.int pa), .val (.int fl), .val (.ref a), .val (.int r), .val (.int k8), .val (.int ((g A) &&& (255 : Int32))), .val (.int ((g (A + 1)) &&& (255 : Int32))), .unset, .unset] [(.int ((g (A + 2)) &&& (255 : Int32)))]) (fun t k => XS.iand X27.here hx rfl (hb hby at_294) rfl k) ?_
  refine hG _ _ _ (mkF m 297 #[.val (.int i0), .val (.int i1), .val (.int i2), .val (.int cc), .val (.int pa), .val (.int fl), .val (.ref a), .val (.int r), .val (.int k8), .val (.int ((g A) &&& (255 : Int32))), .val (.int ((g (A + 1)) &&& (255 : Int32))), .val (.int ((g (A + 2)) &&& (255 : Int32))), .unset] []) (fun t k => XS.istore X27.here hx rfl (hb hby at_295) rfl (l' := #[.val (.int i0), .val (.int i1), .val (.int i2), .val (.int cc), .val (.int pa), .val (.int fl), .val (.ref a), .val (.int r), .val (.int k8), .val (.int ((g A) &&& (255 : Int32))), .val (.int ((g (A + 1)) &&& (255 : Int32))), .val (.int ((g (A + 2)) &&& (255 : Int32))), .unset]) rfl k) ?_
  refine hG _ _ _ (mkF m 299 #[.val (.int i0), .val (.int i1), .val (.int i2), .val (.int cc), .val (.int pa), .val (.int fl), .val (.ref a), .val (.int r), .val (.int k8), .val (.int ((g A) &&& (255 : Int32))), .val (.int ((g (A + 1)) &&& (255 : Int32))), .val (.int ((g (A + 2)) &&& (255 : Int32))), .unset] [(.ref a)]) (fun t k => XS.aload X27.here hx rfl (hb hby at_297) rfl rfl k) ?_
  refine hG _ _ _ (mkF m 301 #[.val (.int i0), .val (.int i1), .val (.int i2), .val (.int cc), .val (.int pa), .val (.int fl), .val (.ref a), .val (.int r), .val (.int k8), .val (.int ((g A) &&& (255 : Int32))), .val (.int ((g (A + 1)) &&& (255 : Int32))), .val (.int ((g (A + 2)) &&& (255 : Int32))), .unset] [(.int pa), (.ref a)]) (fun t k => XS.iload X27.here hx rfl (hb hby at_299) rfl k) ?_
  refine hG _ _ _ (mkF m 302 #[.val (.int i0), .val (.int i1), .val (.int i2), .val (.int cc), .val (.int pa), .val (.int fl), .val (.ref a), .val (.int r), .val (.int k8), .val (.int ((g A) &&& (255 : Int32))), .val (.int ((g (A + 1)) &&& (255 : Int32))), .val (.int ((g (A + 2)) &&& (255 : Int32))), .unset] [(.int (3 : Int32)), (.int pa), (.ref a)]) (fun t k => XS.iconst X27.here hx rfl (hb hby at_301) k) ?_
  refine hG _ _ _ (mkF m 303 #[.val (.int i0), .val (.int i1), .val (.int i2), .val (.int cc), .val (.int pa), .val (.int fl), .val (.ref a), .val (.int r), .val (.int k8), .val (.int ((g A) &&& (255 : Int32))), .val (.int ((g (A + 1)) &&& (255 : Int32))), .val (.int ((g (A + 2)) &&& (255 : Int32))), .unset] [(.int (pa + (3 : Int32))), (.ref a)]) (fun t k => XS.iadd X27.here hx rfl (hb hby at_302) rfl k) ?_
  refine hG _ _ _ (mkF m 304 #[.val (.int i0), .val (.int i1), .val (.int i2), .val (.int cc), .val (.int pa), .val (.int fl), .val (.ref a), .val (.int r), .val (.int k8), .val (.int ((g A) &&& (255 : Int32))), .val (.int ((g (A + 1)) &&& (255 : Int32))), .val (.int ((g (A + 2)) &&& (255 : Int32))), .unset] [(.int (g (A + 3)))]) (fun t k => own_ld X27 hx hZ e27 V (j := (pa + (3 : Int32))) (i := (A + 3)) (own_ix hp hA).2.2 (by omega) (hb hby at_303) k) ?_
  refine hG _ _ _ (mkF m 307 #[.val (.int i0), .val (.int i1), .val (.int i2), .val (.int cc), .val (.int pa), .val (.int fl), .val (.ref a), .val (.int r), .val (.int k8), .val (.int ((g A) &&& (255 : Int32))), .val (.int ((g (A + 1)) &&& (255 : Int32))), .val (.int ((g (A + 2)) &&& (255 : Int32))), .unset] [(.int (255 : Int32)), (.int (g (A + 3)))]) (fun t k => XS.sipush X27.here hx rfl (hb hby at_304) k) ?_
  refine hG _ _ _ (mkF m 308 #[.val (.int i0), .val (.int i1), .val (.int i2), .val (.int cc), .val (.int pa), .val (.int fl), .val (.ref a), .val (.int r), .val (.int k8), .val (.int ((g A) &&& (255 : Int32))), .val (.int ((g (A + 1)) &&& (255 : Int32))), .val (.int ((g (A + 2)) &&& (255 : Int32))), .unset] [(.int ((g (A + 3)) &&& (255 : Int32)))]) (fun t k => XS.iand X27.here hx rfl (hb hby at_307) rfl k) ?_
  refine hG _ _ _ (mkF m 310 #[.val (.int i0), .val (.int i1), .val (.int i2), .val (.int cc), .val (.int pa), .val (.int fl), .val (.ref a), .val (.int r), .val (.int k8), .val (.int ((g A) &&& (255 : Int32))), .val (.int ((g (A + 1)) &&& (255 : Int32))), .val (.int ((g (A + 2)) &&& (255 : Int32))), .val (.int ((g (A + 3)) &&& (255 : Int32)))] []) (fun t k => XS.istore X27.here hx rfl (hb hby at_308) rfl (l' := #[.val (.int i0), .val (.int i1), .val (.int i2), .val (.int cc), .val (.int pa), .val (.int fl), .val (.ref a), .val (.int r), .val (.int k8), .val (.int ((g A) &&& (255 : Int32))), .val (.int ((g (A + 1)) &&& (255 : Int32))), .val (.int ((g (A + 2)) &&& (255 : Int32))), .val (.int ((g (A + 3)) &&& (255 : Int32)))]) rfl k) ?_
  exact go _ _ X27 e27 N27
theorem pn_rm0 : plainName "com/example/querytrail/querytrail/Utf8EncodePinLaw" = true := by first | (simp [plainName, overriddenIn]; done) | decide +kernel
theorem ef_rm0 (m : MethodId) (x0 : Int32) (x1 : Int32) (x2 : Int32) : entryFrame m #[(.int x0), (.int x1), (.int x2)] maxLocals = mkF m 0 #[.val (.int x0), .val (.int x1), .val (.int x2), .unset, .unset, .unset, .unset, .unset, .unset, .unset, .unset, .unset, .unset] [] := by first | (simp [entryFrame, mkF, argsToLocals, Value.category, maxLocals]; done) | rfl
set_option maxRecDepth 65536 in
set_option maxHeartbeats 40000000 in
theorem rm0 (l : Launch) (Z : State) (a0 : Array Value) (hw : ∀ d ∈ tables_1, d.before a0 Z = true) (ws : List Jvm.Cond) (i0 i1 i2 : Int32) (h0 : Heap) (n0 : Nat) (Z0 : n0 ≤ h0.size)  :
    MetFree l x (head1 (Jvm.Cond.code x code maxLocals ret :: ws) room_1) (fun a U => a = #[(.int i0), (.int i1), (.int i2)] ∧ Z.Warmed39 U.vm ∧ U.heap = h0) (fun _ _ _ _ _ => True) (fun _ U o U' => ∃ v L, o = .returned v ∧ own_q (fun w _ => w = .int 1) n0 v U'.heap L ∧ FrameEnd U o U' L 16 128) := by
  refine MetFree.of_bodySF (plainFor_of_name pn_rm0) hisR ?_
  intro p e s m args below meth c s₁ Bd hml0 hP hK
  obtain ⟨rfl, hZ, hh⟩ := hP
  have hx := Bd.exec
  have hby := Bd.bytes
  have hml : c.maxLocals = 13 := hml0
  have hown : s.vm.findClass "com/example/querytrail/querytrail/Utf8EncodePinLaw" = some m.cls := findClass_of_methodNamed Bd.named
  have hret : meth.sig.returnType = some .boolean := Bd.returns
  have X0 : Stand p l e room_1 s m #[(.int i0), (.int i1), (.int i2)] below meth c s₁ [] 0 0 := Stand.of_body Bd
  have e0 : s₁.heap = h0 := by rw [← hh, Bd.state]; rfl
  have N0 := Fr.nil n0
  rw [ef_rm0 m i0 i1 i2]
  refine own_end (p := p) (l := l) (e := e) (R := room_1) (s := s) (m := m) (args := #[(.int i0), (.int i1), (.int i2)]) (below := below) (meth := meth) (c := c) (n0 := n0) (K := 16) (S := 128) (Q := (fun w _ => w = .int 1)) hret Bd.notSynchronized (fun G hG hR => ?_)
  refine hG _ _ _ (mkF m 1 #[.val (.int i0), .val (.int i1), .val (.int i2), .unset, .unset, .unset, .unset, .unset, .unset, .unset, .unset, .unset, .unset] [(.int i0)]) (fun t k => XS.iloadN X0.here hx rfl (hb hby at_0) rfl k) ?_
  refine hG _ _ _ (mkF m 3 #[.val (.int i0), .val (.int i1), .val (.int i2), .unset, .unset, .unset, .unset, .unset, .unset, .unset, .unset, .unset, .unset] [(.int (2147483647 : Int32)), (.int i0)]) (fun t k => X0.ldcInt hx (own := "com/example/querytrail/querytrail/Utf8EncodePinLaw") (v := (2147483647 : Int32)) hown (mvT hZ (hw _ (List.mem_of_getElem? (i := 0) rfl))) (g := (mkF m 1 #[.val (.int i0), .val (.int i1), .val (.int i2), .unset, .unset, .unset, .unset, .unset, .unset, .unset, .unset, .unset, .unset] [(.int i0)])) rfl (hb hby at_1) t k) ?_
  refine hG _ _ _ (mkF m 4 #[.val (.int i0), .val (.int i1), .val (.int i2), .unset, .unset, .unset, .unset, .unset, .unset, .unset, .unset, .unset, .unset] [(.int (i0 &&& (2147483647 : Int32)))]) (fun t k => XS.iand X0.here hx rfl (hb hby at_3) rfl k) ?_
  refine hG _ _ _ (mkF m 6 #[.val (.int i0), .val (.int i1), .val (.int i2), .unset, .unset, .unset, .unset, .unset, .unset, .unset, .unset, .unset, .unset] [(.int (1114112 : Int32)), (.int (i0 &&& (2147483647 : Int32)))]) (fun t k => X0.ldcInt hx (own := "com/example/querytrail/querytrail/Utf8EncodePinLaw") (v := (1114112 : Int32)) hown (mvT hZ (hw _ (List.mem_of_getElem? (i := 1) rfl))) (g := (mkF m 4 #[.val (.int i0), .val (.int i1), .val (.int i2), .unset, .unset, .unset, .unset, .unset, .unset, .unset, .unset, .unset, .unset] [(.int (i0 &&& (2147483647 : Int32)))])) rfl (hb hby at_4) t k) ?_
  refine hG _ _ _ (mkF m 7 #[.val (.int i0), .val (.int i1), .val (.int i2), .unset, .unset, .unset, .unset, .unset, .unset, .unset, .unset, .unset, .unset] [(.int ((i0 &&& (2147483647 : Int32)) - ((i0 &&& (2147483647 : Int32)) / (1114112 : Int32)) * (1114112 : Int32)))]) (fun t k => XS.irem X0.here hx rfl (hb hby at_6) rfl (by decide) k) ?_
  obtain ⟨cc, ecc, hc0, hc1⟩ := own_cc i0
  rw [ecc]
  refine hG _ _ _ (mkF m 8 #[.val (.int i0), .val (.int i1), .val (.int i2), .val (.int cc), .unset, .unset, .unset, .unset, .unset, .unset, .unset, .unset, .unset] []) (fun t k => XS.istoreN X0.here hx rfl (hb hby at_7) rfl (l' := #[.val (.int i0), .val (.int i1), .val (.int i2), .val (.int cc), .unset, .unset, .unset, .unset, .unset, .unset, .unset, .unset, .unset]) rfl k) ?_
  refine hG _ _ _ (mkF m 9 #[.val (.int i0), .val (.int i1), .val (.int i2), .val (.int cc), .unset, .unset, .unset, .unset, .unset, .unset, .unset, .unset, .unset] [(.int i1)]) (fun t k => XS.iloadN X0.here hx rfl (hb hby at_8) rfl k) ?_
  refine hG _ _ _ (mkF m 10 #[.val (.int i0), .val (.int i1), .val (.int i2), .val (.int cc), .unset, .unset, .unset, .unset, .unset, .unset, .unset, .unset, .unset] [(.int (3 : Int32)), (.int i1)]) (fun t k => XS.iconst X0.here hx rfl (hb hby at_9) k) ?_
  refine hG _ _ _ (mkF m 11 #[.val (.int i0), .val (.int i1), .val (.int i2), .val (.int cc), .unset, .unset, .unset, .unset, .unset, .unset, .unset, .unset, .unset] [(.int (i1 &&& (3 : Int32)))]) (fun t k => XS.iand X0.here hx rfl (hb hby at_10) rfl k) ?_
  obtain ⟨pa, A, ep, hp, hA⟩ := own_at i1
  rw [ep]
  refine hG _ _ _ (mkF m 13 #[.val (.int i0), .val (.int i1), .val (.int i2), .val (.int cc), .val (.int pa), .unset, .unset, .unset, .unset, .unset, .unset, .unset, .unset] []) (fun t k => XS.istore X0.here hx rfl (hb hby at_11) rfl (l' := #[.val (.int i0), .val (.int i1), .val (.int i2), .val (.int cc), .val (.int pa), .unset, .unset, .unset, .unset, .unset, .unset, .unset, .unset]) rfl k) ?_
  refine hG _ _ _ (mkF m 14 #[.val (.int i0), .val (.int i1), .val (.int i2), .val (.int cc), .val (.int pa), .unset, .unset, .unset, .unset, .unset, .unset, .unset, .unset] [(.int i2)]) (fun t k => XS.iloadN X0.here hx rfl (hb hby at_13) rfl k) ?_
  refine hG _ _ _ (mkF m 15 #[.val (.int i0), .val (.int i1), .val (.int i2), .val (.int cc), .val (.int pa), .unset, .unset, .unset, .unset, .unset, .unset, .unset, .unset] [(.int (i2.toInt8.toInt32))]) (fun t k => XS.i2b X0.here hx rfl (hb hby at_14) rfl k) ?_
  obtain ⟨fl, efl, hfl⟩ := own_fill i2
  rw [efl]
  refine hG _ _ _ (mkF m 17 #[.val (.int i0), .val (.int i1), .val (.int i2), .val (.int cc), .val (.int pa), .val (.int fl), .unset, .unset, .unset, .unset, .unset, .unset, .unset] []) (fun t k => XS.istore X0.here hx rfl (hb hby at_15) rfl (l' := #[.val (.int i0), .val (.int i1), .val (.int i2), .val (.int cc), .val (.int pa), .val (.int fl), .unset, .unset, .unset, .unset, .unset, .unset, .unset]) rfl k) ?_
  refine hG _ _ _ (mkF m 19 #[.val (.int i0), .val (.int i1), .val (.int i2), .val (.int cc), .val (.int pa), .val (.int fl), .unset, .unset, .unset, .unset, .unset, .unset, .unset] [(.int (8 : Int32))]) (fun t k => XS.bipush X0.here hx rfl (hb hby at_17) k) ?_
  obtain ⟨T1, a1, X1, V1, g1, st1⟩ := own_mk X0 hx hZ (hw _ (List.mem_of_getElem? (i := 2) rfl)) e0 (hb hby at_19) (z := (8 : Int32)) (n := 8) (by decide) (by decide) (by decide) (by decide) #[.val (.int i0), .val (.int i1), .val (.int i2), .val (.int cc), .val (.int pa), .val (.int fl), .unset, .unset, .unset, .unset, .unset, .unset, .unset] []
  refine hG _ _ _ (mkF m 21 #[.val (.int i0), .val (.int i1), .val (.int i2), .val (.int cc), .val (.int pa), .val (.int fl), .unset, .unset, .unset, .unset, .unset, .unset, .unset] [(.ref a1)]) (fun t k => st1 t k) ?_
  have ga : n0 ≤ a1 := Nat.le_trans Z0 g1
  refine hG _ _ _ (mkF m 23 #[.val (.int i0), .val (.int i1), .val (.int i2), .val (.int cc), .val (.int pa), .val (.int fl), .val (.ref a1), .unset, .unset, .unset, .unset, .unset, .unset] []) (fun t k => XS.astore X1.here hx rfl (hb hby at_21) rfl rfl (l' := #[.val (.int i0), .val (.int i1), .val (.int i2), .val (.int cc), .val (.int pa), .val (.int fl), .val (.ref a1), .unset, .unset, .unset, .unset, .unset, .unset]) rfl k) ?_
  refine hG _ _ _ (mkF m 25 #[.val (.int i0), .val (.int i1), .val (.int i2), .val (.int cc), .val (.int pa), .val (.int fl), .val (.ref a1), .unset, .unset, .unset, .unset, .unset, .unset] [(.ref a1)]) (fun t k => XS.aload X1.here hx rfl (hb hby at_23) rfl rfl k) ?_
  refine hG _ _ _ (mkF m 26 #[.val (.int i0), .val (.int i1), .val (.int i2), .val (.int cc), .val (.int pa), .val (.int fl), .val (.ref a1), .unset, .unset, .unset, .unset, .unset, .unset] [(.int (0 : Int32)), (.ref a1)]) (fun t k => XS.iconst X1.here hx rfl (hb hby at_25) k) ?_
  refine hG _ _ _ (mkF m 28 #[.val (.int i0), .val (.int i1), .val (.int i2), .val (.int cc), .val (.int pa), .val (.int fl), .val (.ref a1), .unset, .unset, .unset, .unset, .unset, .unset] [(.int fl), (.int (0 : Int32)), (.ref a1)]) (fun t k => XS.iload X1.here hx rfl (hb hby at_26) rfl k) ?_
  obtain ⟨T2, L2, f2, X2, N2, V2, u2, r2, st2⟩ := own_sto X1 hx hZ rfl V1 (j := (0 : Int32)) (x := fl) (i := 0) (by decide) (by decide) (hb hby at_28) N0 ga
  refine hG _ _ _ (mkF m 29 #[.val (.int i0), .val (.int i1), .val (.int i2), .val (.int cc), .val (.int pa), .val (.int fl), .val (.ref a1), .unset, .unset, .unset, .unset, .unset, .unset] []) (fun t k => st2 _ _ t k) ?_
  refine hG _ _ _ (mkF m 31 #[.val (.int i0), .val (.int i1), .val (.int i2), .val (.int cc), .val (.int pa), .val (.int fl), .val (.ref a1), .unset, .unset, .unset, .unset, .unset, .unset] [(.ref a1)]) (fun t k => XS.aload X2.here hx rfl (hb hby at_29) rfl rfl k) ?_
  refine hG _ _ _ (mkF m 32 #[.val (.int i0), .val (.int i1), .val (.int i2), .val (.int cc), .val (.int pa), .val (.int fl), .val (.ref a1), .unset, .unset, .unset, .unset, .unset, .unset] [(.int (1 : Int32)), (.ref a1)]) (fun t k => XS.iconst X2.here hx rfl (hb hby at_31) k) ?_
  refine hG _ _ _ (mkF m 34 #[.val (.int i0), .val (.int i1), .val (.int i2), .val (.int cc), .val (.int pa), .val (.int fl), .val (.ref a1), .unset, .unset, .unset, .unset, .unset, .unset] [(.int fl), (.int (1 : Int32)), (.ref a1)]) (fun t k => XS.iload X2.here hx rfl (hb hby at_32) rfl k) ?_
  obtain ⟨T3, L3, f3, X3, N3, V3, u3, r3, st3⟩ := own_sto X2 hx hZ rfl V2 (j := (1 : Int32)) (x := fl) (i := 1) (by decide) (by decide) (hb hby at_34) N2 ga
  refine hG _ _ _ (mkF m 35 #[.val (.int i0), .val (.int i1), .val (.int i2), .val (.int cc), .val (.int pa), .val (.int fl), .val (.ref a1), .unset, .unset, .unset, .unset, .unset, .unset] []) (fun t k => st3 _ _ t k) ?_
  refine hG _ _ _ (mkF m 37 #[.val (.int i0), .val (.int i1), .val (.int i2), .val (.int cc), .val (.int pa), .val (.int fl), .val (.ref a1), .unset, .unset, .unset, .unset, .unset, .unset] [(.ref a1)]) (fun t k => XS.aload X3.here hx rfl (hb hby at_35) rfl rfl k) ?_
  refine hG _ _ _ (mkF m 38 #[.val (.int i0), .val (.int i1), .val (.int i2), .val (.int cc), .val (.int pa), .val (.int fl), .val (.ref a1), .unset, .unset, .unset, .unset, .unset, .unset] [(.int (2 : Int32)), (.ref a1)]) (fun t k => XS.iconst X3.here hx rfl (hb hby at_37) k) ?_
  refine hG _ _ _ (mkF m 40 #[.val (.int i0), .val (.int i1), .val (.int i2), .val (.int cc), .val (.int pa), .val (.int fl), .val (.ref a1), .unset, .unset, .unset, .unset, .unset, .unset] [(.int fl), (.int (2 : Int32)), (.ref a1)]) (fun t k => XS.iload X3.here hx rfl (hb hby at_38) rfl k) ?_
  obtain ⟨T4, L4, f4, X4, N4, V4, u4, r4, st4⟩ := own_sto X3 hx hZ rfl V3 (j := (2 : Int32)) (x := fl) (i := 2) (by decide) (by decide) (hb hby at_40) N3 ga
  refine hG _ _ _ (mkF m 41 #[.val (.int i0), .val (.int i1), .val (.int i2), .val (.int cc), .val (.int pa), .val (.int fl), .val (.ref a1), .unset, .unset, .unset, .unset, .unset, .unset] []) (fun t k => st4 _ _ t k) ?_
  refine hG _ _ _ (mkF m 43 #[.val (.int i0), .val (.int i1), .val (.int i2), .val (.int cc), .val (.int pa), .val (.int fl), .val (.ref a1), .unset, .unset, .unset, .unset, .unset, .unset] [(.ref a1)]) (fun t k => XS.aload X4.here hx rfl (hb hby at_41) rfl rfl k) ?_
  refine hG _ _ _ (mkF m 44 #[.val (.int i0), .val (.int i1), .val (.int i2), .val (.int cc), .val (.int pa), .val (.int fl), .val (.ref a1), .unset, .unset, .unset, .unset, .unset, .unset] [(.int (3 : Int32)), (.ref a1)]) (fun t k => XS.iconst X4.here hx rfl (hb hby at_43) k) ?_
  refine hG _ _ _ (mkF m 46 #[.val (.int i0), .val (.int i1), .val (.int i2), .val (.int cc), .val (.int pa), .val (.int fl), .val (.ref a1), .unset, .unset, .unset, .unset, .unset, .unset] [(.int fl), (.int (3 : Int32)), (.ref a1)]) (fun t k => XS.iload X4.here hx rfl (hb hby at_44) rfl k) ?_
  obtain ⟨T5, L5, f5, X5, N5, V5, u5, r5, st5⟩ := own_sto X4 hx hZ rfl V4 (j := (3 : Int32)) (x := fl) (i := 3) (by decide) (by decide) (hb hby at_46) N4 ga
  refine hG _ _ _ (mkF m 47 #[.val (.int i0), .val (.int i1), .val (.int i2), .val (.int cc), .val (.int pa), .val (.int fl), .val (.ref a1), .unset, .unset, .unset, .unset, .unset, .unset] []) (fun t k => st5 _ _ t k) ?_
  refine hG _ _ _ (mkF m 49 #[.val (.int i0), .val (.int i1), .val (.int i2), .val (.int cc), .val (.int pa), .val (.int fl), .val (.ref a1), .unset, .unset, .unset, .unset, .unset, .unset] [(.ref a1)]) (fun t k => XS.aload X5.here hx rfl (hb hby at_47) rfl rfl k) ?_
  refine hG _ _ _ (mkF m 50 #[.val (.int i0), .val (.int i1), .val (.int i2), .val (.int cc), .val (.int pa), .val (.int fl), .val (.ref a1), .unset, .unset, .unset, .unset, .unset, .unset] [(.int (4 : Int32)), (.ref a1)]) (fun t k => XS.iconst X5.here hx rfl (hb hby at_49) k) ?_
  refine hG _ _ _ (mkF m 52 #[.val (.int i0), .val (.int i1), .val (.int i2), .val (.int cc), .val (.int pa), .val (.int fl), .val (.ref a1), .unset, .unset, .unset, .unset, .unset, .unset] [(.int fl), (.int (4 : Int32)), (.ref a1)]) (fun t k => XS.iload X5.here hx rfl (hb hby at_50) rfl k) ?_
  obtain ⟨T6, L6, f6, X6, N6, V6, u6, r6, st6⟩ := own_sto X5 hx hZ rfl V5 (j := (4 : Int32)) (x := fl) (i := 4) (by decide) (by decide) (hb hby at_52) N5 ga
  refine hG _ _ _ (mkF m 53 #[.val (.int i0), .val (.int i1), .val (.int i2), .val (.int cc), .val (.int pa), .val (.int fl), .val (.ref a1), .unset, .unset, .unset, .unset, .unset, .unset] []) (fun t k => st6 _ _ t k) ?_
  refine hG _ _ _ (mkF m 55 #[.val (.int i0), .val (.int i1), .val (.int i2), .val (.int cc), .val (.int pa), .val (.int fl), .val (.ref a1), .unset, .unset, .unset, .unset, .unset, .unset] [(.ref a1)]) (fun t k => XS.aload X6.here hx rfl (hb hby at_53) rfl rfl k) ?_
  refine hG _ _ _ (mkF m 56 #[.val (.int i0), .val (.int i1), .val (.int i2), .val (.int cc), .val (.int pa), .val (.int fl), .val (.ref a1), .unset, .unset, .unset, .unset, .unset, .unset] [(.int (5 : Int32)), (.ref a1)]) (fun t k => XS.iconst X6.here hx rfl (hb hby at_55) k) ?_
  refine hG _ _ _ (mkF m 58 #[.val (.int i0), .val (.int i1), .val (.int i2), .val (.int cc), .val (.int pa), .val (.int fl), .val (.ref a1), .unset, .unset, .unset, .unset, .unset, .unset] [(.int fl), (.int (5 : Int32)), (.ref a1)]) (fun t k => XS.iload X6.here hx rfl (hb hby at_56) rfl k) ?_
  obtain ⟨T7, L7, f7, X7, N7, V7, u7, r7, st7⟩ := own_sto X6 hx hZ rfl V6 (j := (5 : Int32)) (x := fl) (i := 5) (by decide) (by decide) (hb hby at_58) N6 ga
  refine hG _ _ _ (mkF m 59 #[.val (.int i0), .val (.int i1), .val (.int i2), .val (.int cc), .val (.int pa), .val (.int fl), .val (.ref a1), .unset, .unset, .unset, .unset, .unset, .unset] []) (fun t k => st7 _ _ t k) ?_
  refine hG _ _ _ (mkF m 61 #[.val (.int i0), .val (.int i1), .val (.int i2), .val (.int cc), .val (.int pa), .val (.int fl), .val (.ref a1), .unset, .unset, .unset, .unset, .unset, .unset] [(.ref a1)]) (fun t k => XS.aload X7.here hx rfl (hb hby at_59) rfl rfl k) ?_
  refine hG _ _ _ (mkF m 63 #[.val (.int i0), .val (.int i1), .val (.int i2), .val (.int cc), .val (.int pa), .val (.int fl), .val (.ref a1), .unset, .unset, .unset, .unset, .unset, .unset] [(.int (6 : Int32)), (.ref a1)]) (fun t k => XS.bipush X7.here hx rfl (hb hby at_61) k) ?_
  refine hG _ _ _ (mkF m 65 #[.val (.int i0), .val (.int i1), .val (.int i2), .val (.int cc), .val (.int pa), .val (.int fl), .val (.ref a1), .unset, .unset, .unset, .unset, .unset, .unset] [(.int fl), (.int (6 : Int32)), (.ref a1)]) (fun t k => XS.iload X7.here hx rfl (hb hby at_63) rfl k) ?_
  obtain ⟨T8, L8, f8, X8, N8, V8, u8, r8, st8⟩ := own_sto X7 hx hZ rfl V7 (j := (6 : Int32)) (x := fl) (i := 6) (by decide) (by decide) (hb hby at_65) N7 ga
  refine hG _ _ _ (mkF m 66 #[.val (.int i0), .val (.int i1), .val (.int i2), .val (.int cc), .val (.int pa), .val (.int fl), .val (.ref a1), .unset, .unset, .unset, .unset, .unset, .unset] []) (fun t k => st8 _ _ t k) ?_
  refine hG _ _ _ (mkF m 68 #[.val (.int i0), .val (.int i1), .val (.int i2), .val (.int cc), .val (.int pa), .val (.int fl), .val (.ref a1), .unset, .unset, .unset, .unset, .unset, .unset] [(.ref a1)]) (fun t k => XS.aload X8.here hx rfl (hb hby at_66) rfl rfl k) ?_
  refine hG _ _ _ (mkF m 70 #[.val (.int i0), .val (.int i1), .val (.int i2), .val (.int cc), .val (.int pa), .val (.int fl), .val (.ref a1), .unset, .unset, .unset, .unset, .unset, .unset] [(.int (7 : Int32)), (.ref a1)]) (fun t k => XS.bipush X8.here hx rfl (hb hby at_68) k) ?_
  refine hG _ _ _ (mkF m 72 #[.val (.int i0), .val (.int i1), .val (.int i2), .val (.int cc), .val (.int pa), .val (.int fl), .val (.ref a1), .unset, .unset, .unset, .unset, .unset, .unset] [(.int fl), (.int (7 : Int32)), (.ref a1)]) (fun t k => XS.iload X8.here hx rfl (hb hby at_70) rfl k) ?_
  obtain ⟨T9, L9, f9, X9, N9, V9, u9, r9, st9⟩ := own_sto X8 hx hZ rfl V8 (j := (7 : Int32)) (x := fl) (i := 7) (by decide) (by decide) (hb hby at_72) N8 ga
  refine hG _ _ _ (mkF m 73 #[.val (.int i0), .val (.int i1), .val (.int i2), .val (.int cc), .val (.int pa), .val (.int fl), .val (.ref a1), .unset, .unset, .unset, .unset, .unset, .unset] []) (fun t k => st9 _ _ t k) ?_
  have hfill : ∀ i, i < 8 → f9 i = fl := fun i hi => by
    rcases (by omega : i = 0 ∨ i = 1 ∨ i = 2 ∨ i = 3 ∨ i = 4 ∨ i = 5 ∨ i = 6 ∨ i = 7) with rfl | rfl | rfl | rfl | rfl | rfl | rfl | rfl
    · rw [r9 0 (by decide), r8 0 (by decide), r7 0 (by decide), r6 0 (by decide), r5 0 (by decide), r4 0 (by decide), r3 0 (by decide), u2, hfl]
    · rw [r9 1 (by decide), r8 1 (by decide), r7 1 (by decide), r6 1 (by decide), r5 1 (by decide), r4 1 (by decide), u3, hfl]
    · rw [r9 2 (by decide), r8 2 (by decide), r7 2 (by decide), r6 2 (by decide), r5 2 (by decide), u4, hfl]
    · rw [r9 3 (by decide), r8 3 (by decide), r7 3 (by decide), r6 3 (by decide), u5, hfl]
    · rw [r9 4 (by decide), r8 4 (by decide), r7 4 (by decide), u6, hfl]
    · rw [r9 5 (by decide), r8 5 (by decide), u7, hfl]
    · rw [r9 6 (by decide), u8, hfl]
    · rw [u9, hfl]
  refine hG _ _ _ (mkF m 74 #[.val (.int i0), .val (.int i1), .val (.int i2), .val (.int cc), .val (.int pa), .val (.int fl), .val (.ref a1), .unset, .unset, .unset, .unset, .unset, .unset] [(.int cc)]) (fun t k => XS.iloadN X9.here hx rfl (hb hby at_73) rfl k) ?_
  refine hG _ _ _ (mkF m 76 #[.val (.int i0), .val (.int i1), .val (.int i2), .val (.int cc), .val (.int pa), .val (.int fl), .val (.ref a1), .unset, .unset, .unset, .unset, .unset, .unset] [(.ref a1), (.int cc)]) (fun t k => XS.aload X9.here hx rfl (hb hby at_74) rfl rfl k) ?_
  refine hG _ _ _ (mkF m 78 #[.val (.int i0), .val (.int i1), .val (.int i2), .val (.int cc), .val (.int pa), .val (.int fl), .val (.ref a1), .unset, .unset, .unset, .unset, .unset, .unset] [(.int pa), (.ref a1), (.int cc)]) (fun t k => XS.iload X9.here hx rfl (hb hby at_76) rfl k) ?_
  obtain ⟨v10, T10, L10, X10, q10, st10⟩ := own_call X9 hx hZ rfl (argsL := [(.int cc), (.ref a1), (.int pa)]) (rest := []) (W := 0) hown (hw _ (List.mem_of_getElem? (i := 3) rfl)) (hw _ (List.mem_of_getElem? (i := 4) rfl)) (hw _ (List.mem_of_getElem? (i := 5) rfl)) (hw _ (List.mem_of_getElem? (i := 6) rfl)) (by decide) (rm1 l Z a0 hw [] cc a1 pa A f9 T9.heap n0 (Nat.le_trans ga (Nat.le_of_lt (own_arr_lt V9))) V9 hA hp ga) (by decide) (by decide) (Ls := #[.val (.int i0), .val (.int i1), .val (.int i2), .val (.int cc), .val (.int pa), .val (.int fl), .val (.ref a1), .unset, .unset, .unset, .unset, .unset, .unset]) (by rw [hml]; rfl) (lenOf pd_1 rfl) (by decide) (hb hby at_78) (by decide) (by decide)
  obtain ⟨w10, rfl, ⟨r, k, g, rfl, hr, V10, hkeep, henc⟩, M10⟩ := q10
  have N10 := Fr.app N9 M10
  refine hG _ _ _ (mkF m 81 #[.val (.int i0), .val (.int i1), .val (.int i2), .val (.int cc), .val (.int pa), .val (.int fl), .val (.ref a1), .unset, .unset, .unset, .unset, .unset, .unset] [(.int r)]) (fun t k => st10 t k) ?_
  refine hG _ _ _ (mkF m 83 #[.val (.int i0), .val (.int i1), .val (.int i2), .val (.int cc), .val (.int pa), .val (.int fl), .val (.ref a1), .val (.int r), .unset, .unset, .unset, .unset, .unset] []) (fun t k => XS.istore X10.here hx rfl (hb hby at_81) rfl (l' := #[.val (.int i0), .val (.int i1), .val (.int i2), .val (.int cc), .val (.int pa), .val (.int fl), .val (.ref a1), .val (.int r), .unset, .unset, .unset, .unset, .unset]) rfl k) ?_
  have Z10 : n0 ≤ T10.heap.size := Nat.le_trans ga (Nat.le_of_lt (own_arr_lt V10))
  have hg : ∀ i, i < 8 → (i < A ∨ A + k ≤ i) → g i = fl := fun i hi q => (hkeep i q).trans (hfill i hi)
  rcases henc with ⟨rfl, c1, b0⟩ | ⟨rfl, c1, c2, b0, b1⟩ | ⟨rfl, c1, c2, c3, b0, b1, b2⟩ | ⟨rfl, c1, c2, c3, b0, b1, b2, b3⟩
  · refine hG _ _ _ (mkF m 84 #[.val (.int i0), .val (.int i1), .val (.int i2), .val (.int cc), .val (.int pa), .val (.int fl), .val (.ref a1), .val (.int r), .unset, .unset, .unset, .unset, .unset] [(.int cc)]) (fun t k => XS.iloadN X10.here hx rfl (hb hby at_83) rfl k) ?_
    refine hG _ _ _ (mkF m 87 #[.val (.int i0), .val (.int i1), .val (.int i2), .val (.int cc), .val (.int pa), .val (.int fl), .val (.ref a1), .val (.int r), .unset, .unset, .unset, .unset, .unset] [(.int (128 : Int32)), (.int cc)]) (fun t k => XS.sipush X10.here hx rfl (hb hby at_84) k) ?_
    refine hG _ _ _ (mkF m 90 #[.val (.int i0), .val (.int i1), .val (.int i2), .val (.int cc), .val (.int pa), .val (.int fl), .val (.ref a1), .val (.int r), .unset, .unset, .unset, .unset, .unset] []) (fun t k => XS.icmpNo X10.here hx rfl (hb hby at_87) rfl (own_tlt c1).2.1 k) ?_
    refine hG _ _ _ (mkF m 91 #[.val (.int i0), .val (.int i1), .val (.int i2), .val (.int cc), .val (.int pa), .val (.int fl), .val (.ref a1), .val (.int r), .unset, .unset, .unset, .unset, .unset] [(.int (1 : Int32))]) (fun t k => XS.iconst X10.here hx rfl (hb hby at_90) k) ?_
    refine hG _ _ _ (mkF m 93 #[.val (.int i0), .val (.int i1), .val (.int i2), .val (.int cc), .val (.int pa), .val (.int fl), .val (.ref a1), .val (.int r), .val (.int (1 : Int32)), .unset, .unset, .unset, .unset] []) (fun t k => XS.istore X10.here hx rfl (hb hby at_91) rfl (l' := #[.val (.int i0), .val (.int i1), .val (.int i2), .val (.int cc), .val (.int pa), .val (.int fl), .val (.ref a1), .val (.int r), .val (.int (1 : Int32)), .unset, .unset, .unset, .unset]) rfl k) ?_
    refine hG _ _ _ (mkF m 124 #[.val (.int i0), .val (.int i1), .val (.int i2), .val (.int cc), .val (.int pa), .val (.int fl), .val (.ref a1), .val (.int r), .val (.int (1 : Int32)), .unset, .unset, .unset, .unset] []) (fun t k => XS.goto X10.here hx rfl (pc0 := 93) (pc' := 124) rfl (hb hby at_93) (by decide) (by decide) k) ?_
    refine hG _ _ _ (mkF m 126 #[.val (.int i0), .val (.int i1), .val (.int i2), .val (.int cc), .val (.int pa), .val (.int fl), .val (.ref a1), .val (.int r), .val (.int (1 : Int32)), .unset, .unset, .unset, .unset] [(.int r)]) (fun t k => XS.iload X10.here hx rfl (hb hby at_124) rfl k) ?_
    refine hG _ _ _ (mkF m 128 #[.val (.int i0), .val (.int i1), .val (.int i2), .val (.int cc), .val (.int pa), .val (.int fl), .val (.ref a1), .val (.int r), .val (.int (1 : Int32)), .unset, .unset, .unset, .unset] [(.int pa), (.int r)]) (fun t k => XS.iload X10.here hx rfl (hb hby at_126) rfl k) ?_
    refine hG _ _ _ (mkF m 130 #[.val (.int i0), .val (.int i1), .val (.int i2), .val (.int cc), .val (.int pa), .val (.int fl), .val (.ref a1), .val (.int r), .val (.int (1 : Int32)), .unset, .unset, .unset, .unset] [(.int (1 : Int32)), (.int pa), (.int r)]) (fun t k => XS.iload X10.here hx rfl (hb hby at_128) rfl k) ?_
    refine hG _ _ _ (mkF m 131 #[.val (.int i0), .val (.int i1), .val (.int i2), .val (.int cc), .val (.int pa), .val (.int fl), .val (.ref a1), .val (.int r), .val (.int (1 : Int32)), .unset, .unset, .unset, .unset] [(.int (pa + (1 : Int32))), (.int r)]) (fun t k => XS.iadd X10.here hx rfl (hb hby at_130) rfl k) ?_
    refine hG _ _ _ (mkF m 136 #[.val (.int i0), .val (.int i1), .val (.int i2), .val (.int cc), .val (.int pa), .val (.int fl), .val (.ref a1), .val (.int r), .val (.int (1 : Int32)), .unset, .unset, .unset, .unset] []) (fun t k => XS.icmpYes X10.here hx rfl (pc0 := 131) (pc' := 136) rfl (hb hby at_131) rfl (own_teq (own_next (1 : Int32) hp hA hr (by decide) (by decide))).1 (by decide) (by decide) k) ?_
    refine mid136 i0 i1 i2 cc pa fl r (1 : Int32) a1 A 1 g X10 hx hZ hw hby hml hown hret rfl N10 (by decide) (by decide) hG hR V10 hA hp hr hg Z10 (fun T' L' X11 e11 N11 => ?_)
    refine hG _ _ _ (mkF m 312 #[.val (.int i0), .val (.int i1), .val (.int i2), .val (.int cc), .val (.int pa), .val (.int fl), .val (.ref a1), .val (.int r), .val (.int (1 : Int32)), .val (.int ((g A) &&& (255 : Int32))), .val (.int ((g (A + 1)) &&& (255 : Int32))), .val (.int ((g (A + 2)) &&& (255 : Int32))), .val (.int ((g (A + 3)) &&& (255 : Int32)))] [(.int (1 : Int32))]) (fun t k => XS.iload X11.here hx rfl (hb hby at_310) rfl k) ?_
    refine hG _ _ _ (mkF m 313 #[.val (.int i0), .val (.int i1), .val (.int i2), .val (.int cc), .val (.int pa), .val (.int fl), .val (.ref a1), .val (.int r), .val (.int (1 : Int32)), .val (.int ((g A) &&& (255 : Int32))), .val (.int ((g (A + 1)) &&& (255 : Int32))), .val (.int ((g (A + 2)) &&& (255 : Int32))), .val (.int ((g (A + 3)) &&& (255 : Int32)))] [(.int (1 : Int32)), (.int (1 : Int32))]) (fun t k => XS.iconst X11.here hx rfl (hb hby at_312) k) ?_
    refine hG _ _ _ (mkF m 316 #[.val (.int i0), .val (.int i1), .val (.int i2), .val (.int cc), .val (.int pa), .val (.int fl), .val (.ref a1), .val (.int r), .val (.int (1 : Int32)), .val (.int ((g A) &&& (255 : Int32))), .val (.int ((g (A + 1)) &&& (255 : Int32))), .val (.int ((g (A + 2)) &&& (255 : Int32))), .val (.int ((g (A + 3)) &&& (255 : Int32)))] []) (fun t k => XS.icmpNo X11.here hx rfl (hb hby at_313) rfl (own_teq (by decide)).2 k) ?_
    refine hG _ _ _ (mkF m 318 #[.val (.int i0), .val (.int i1), .val (.int i2), .val (.int cc), .val (.int pa), .val (.int fl), .val (.ref a1), .val (.int r), .val (.int (1 : Int32)), .val (.int ((g A) &&& (255 : Int32))), .val (.int ((g (A + 1)) &&& (255 : Int32))), .val (.int ((g (A + 2)) &&& (255 : Int32))), .val (.int ((g (A + 3)) &&& (255 : Int32)))] [(.int ((g A) &&& (255 : Int32)))]) (fun t k => XS.iload X11.here hx rfl (hb hby at_316) rfl k) ?_
    refine hG _ _ _ (mkF m 319 #[.val (.int i0), .val (.int i1), .val (.int i2), .val (.int cc), .val (.int pa), .val (.int fl), .val (.ref a1), .val (.int r), .val (.int (1 : Int32)), .val (.int ((g A) &&& (255 : Int32))), .val (.int ((g (A + 1)) &&& (255 : Int32))), .val (.int ((g (A + 2)) &&& (255 : Int32))), .val (.int ((g (A + 3)) &&& (255 : Int32)))] [(.int cc), (.int ((g A) &&& (255 : Int32)))]) (fun t k => XS.iloadN X11.here hx rfl (hb hby at_318) rfl k) ?_
    refine hG _ _ _ (mkF m 322 #[.val (.int i0), .val (.int i1), .val (.int i2), .val (.int cc), .val (.int pa), .val (.int fl), .val (.ref a1), .val (.int r), .val (.int (1 : Int32)), .val (.int ((g A) &&& (255 : Int32))), .val (.int ((g (A + 1)) &&& (255 : Int32))), .val (.int ((g (A + 2)) &&& (255 : Int32))), .val (.int ((g (A + 3)) &&& (255 : Int32)))] []) (fun t k => XS.icmpNo X11.here hx rfl (hb hby at_319) rfl (own_teq (own_l1 hc0 c1 b0)).2 k) ?_
    refine hG _ _ _ (mkF m 323 #[.val (.int i0), .val (.int i1), .val (.int i2), .val (.int cc), .val (.int pa), .val (.int fl), .val (.ref a1), .val (.int r), .val (.int (1 : Int32)), .val (.int ((g A) &&& (255 : Int32))), .val (.int ((g (A + 1)) &&& (255 : Int32))), .val (.int ((g (A + 2)) &&& (255 : Int32))), .val (.int ((g (A + 3)) &&& (255 : Int32)))] [(.int (1 : Int32))]) (fun t k => XS.iconst X11.here hx rfl (hb hby at_322) k) ?_
    refine hG _ _ _ (mkF m 327 #[.val (.int i0), .val (.int i1), .val (.int i2), .val (.int cc), .val (.int pa), .val (.int fl), .val (.ref a1), .val (.int r), .val (.int (1 : Int32)), .val (.int ((g A) &&& (255 : Int32))), .val (.int ((g (A + 1)) &&& (255 : Int32))), .val (.int ((g (A + 2)) &&& (255 : Int32))), .val (.int ((g (A + 3)) &&& (255 : Int32)))] [(.int (1 : Int32))]) (fun t k => XS.goto X11.here hx rfl (pc0 := 323) (pc' := 327) rfl (hb hby at_323) (by decide) (by decide) k) ?_
    exact hR _ _ _ _ _ _ X11 N11 (by decide) (by decide) rfl (fun fs hr => retN X11 hx (t := .boolean) hret (by simp) (hb hby at_327) hr)
  · refine hG _ _ _ (mkF m 84 #[.val (.int i0), .val (.int i1), .val (.int i2), .val (.int cc), .val (.int pa), .val (.int fl), .val (.ref a1), .val (.int r), .unset, .unset, .unset, .unset, .unset] [(.int cc)]) (fun t k => XS.iloadN X10.here hx rfl (hb hby at_83) rfl k) ?_
    refine hG _ _ _ (mkF m 87 #[.val (.int i0), .val (.int i1), .val (.int i2), .val (.int cc), .val (.int pa), .val (.int fl), .val (.ref a1), .val (.int r), .unset, .unset, .unset, .unset, .unset] [(.int (128 : Int32)), (.int cc)]) (fun t k => XS.sipush X10.here hx rfl (hb hby at_84) k) ?_
    refine hG _ _ _ (mkF m 96 #[.val (.int i0), .val (.int i1), .val (.int i2), .val (.int cc), .val (.int pa), .val (.int fl), .val (.ref a1), .val (.int r), .unset, .unset, .unset, .unset, .unset] []) (fun t k => XS.icmpYes X10.here hx rfl (pc0 := 87) (pc' := 96) rfl (hb hby at_87) rfl (own_flt c1).2.1 (by decide) (by decide) k) ?_
    refine hG _ _ _ (mkF m 97 #[.val (.int i0), .val (.int i1), .val (.int i2), .val (.int cc), .val (.int pa), .val (.int fl), .val (.ref a1), .val (.int r), .unset, .unset, .unset, .unset, .unset] [(.int cc)]) (fun t k => XS.iloadN X10.here hx rfl (hb hby at_96) rfl k) ?_
    refine hG _ _ _ (mkF m 100 #[.val (.int i0), .val (.int i1), .val (.int i2), .val (.int cc), .val (.int pa), .val (.int fl), .val (.ref a1), .val (.int r), .unset, .unset, .unset, .unset, .unset] [(.int (2048 : Int32)), (.int cc)]) (fun t k => XS.sipush X10.here hx rfl (hb hby at_97) k) ?_
    refine hG _ _ _ (mkF m 103 #[.val (.int i0), .val (.int i1), .val (.int i2), .val (.int cc), .val (.int pa), .val (.int fl), .val (.ref a1), .val (.int r), .unset, .unset, .unset, .unset, .unset] []) (fun t k => XS.icmpNo X10.here hx rfl (hb hby at_100) rfl (own_tlt c2).2.1 k) ?_
    refine hG _ _ _ (mkF m 104 #[.val (.int i0), .val (.int i1), .val (.int i2), .val (.int cc), .val (.int pa), .val (.int fl), .val (.ref a1), .val (.int r), .unset, .unset, .unset, .unset, .unset] [(.int (2 : Int32))]) (fun t k => XS.iconst X10.here hx rfl (hb hby at_103) k) ?_
    refine hG _ _ _ (mkF m 106 #[.val (.int i0), .val (.int i1), .val (.int i2), .val (.int cc), .val (.int pa), .val (.int fl), .val (.ref a1), .val (.int r), .val (.int (2 : Int32)), .unset, .unset, .unset, .unset] []) (fun t k => XS.istore X10.here hx rfl (hb hby at_104) rfl (l' := #[.val (.int i0), .val (.int i1), .val (.int i2), .val (.int cc), .val (.int pa), .val (.int fl), .val (.ref a1), .val (.int r), .val (.int (2 : Int32)), .unset, .unset, .unset, .unset]) rfl k) ?_
    refine hG _ _ _ (mkF m 124 #[.val (.int i0), .val (.int i1), .val (.int i2), .val (.int cc), .val (.int pa), .val (.int fl), .val (.ref a1), .val (.int r), .val (.int (2 : Int32)), .unset, .unset, .unset, .unset] []) (fun t k => XS.goto X10.here hx rfl (pc0 := 106) (pc' := 124) rfl (hb hby at_106) (by decide) (by decide) k) ?_
    refine hG _ _ _ (mkF m 126 #[.val (.int i0), .val (.int i1), .val (.int i2), .val (.int cc), .val (.int pa), .val (.int fl), .val (.ref a1), .val (.int r), .val (.int (2 : Int32)), .unset, .unset, .unset, .unset] [(.int r)]) (fun t k => XS.iload X10.here hx rfl (hb hby at_124) rfl k) ?_
    refine hG _ _ _ (mkF m 128 #[.val (.int i0), .val (.int i1), .val (.int i2), .val (.int cc), .val (.int pa), .val (.int fl), .val (.ref a1), .val (.int r), .val (.int (2 : Int32)), .unset, .unset, .unset, .unset] [(.int pa), (.int r)]) (fun t k => XS.iload X10.here hx rfl (hb hby at_126) rfl k) ?_
    refine hG _ _ _ (mkF m 130 #[.val (.int i0), .val (.int i1), .val (.int i2), .val (.int cc), .val (.int pa), .val (.int fl), .val (.ref a1), .val (.int r), .val (.int (2 : Int32)), .unset, .unset, .unset, .unset] [(.int (2 : Int32)), (.int pa), (.int r)]) (fun t k => XS.iload X10.here hx rfl (hb hby at_128) rfl k) ?_
    refine hG _ _ _ (mkF m 131 #[.val (.int i0), .val (.int i1), .val (.int i2), .val (.int cc), .val (.int pa), .val (.int fl), .val (.ref a1), .val (.int r), .val (.int (2 : Int32)), .unset, .unset, .unset, .unset] [(.int (pa + (2 : Int32))), (.int r)]) (fun t k => XS.iadd X10.here hx rfl (hb hby at_130) rfl k) ?_
    refine hG _ _ _ (mkF m 136 #[.val (.int i0), .val (.int i1), .val (.int i2), .val (.int cc), .val (.int pa), .val (.int fl), .val (.ref a1), .val (.int r), .val (.int (2 : Int32)), .unset, .unset, .unset, .unset] []) (fun t k => XS.icmpYes X10.here hx rfl (pc0 := 131) (pc' := 136) rfl (hb hby at_131) rfl (own_teq (own_next (2 : Int32) hp hA hr (by decide) (by decide))).1 (by decide) (by decide) k) ?_
    refine mid136 i0 i1 i2 cc pa fl r (2 : Int32) a1 A 2 g X10 hx hZ hw hby hml hown hret rfl N10 (by decide) (by decide) hG hR V10 hA hp hr hg Z10 (fun T' L' X11 e11 N11 => ?_)
    refine hG _ _ _ (mkF m 312 #[.val (.int i0), .val (.int i1), .val (.int i2), .val (.int cc), .val (.int pa), .val (.int fl), .val (.ref a1), .val (.int r), .val (.int (2 : Int32)), .val (.int ((g A) &&& (255 : Int32))), .val (.int ((g (A + 1)) &&& (255 : Int32))), .val (.int ((g (A + 2)) &&& (255 : Int32))), .val (.int ((g (A + 3)) &&& (255 : Int32)))] [(.int (2 : Int32))]) (fun t k => XS.iload X11.here hx rfl (hb hby at_310) rfl k) ?_
    refine hG _ _ _ (mkF m 313 #[.val (.int i0), .val (.int i1), .val (.int i2), .val (.int cc), .val (.int pa), .val (.int fl), .val (.ref a1), .val (.int r), .val (.int (2 : Int32)), .val (.int ((g A) &&& (255 : Int32))), .val (.int ((g (A + 1)) &&& (255 : Int32))), .val (.int ((g (A + 2)) &&& (255 : Int32))), .val (.int ((g (A + 3)) &&& (255 : Int32)))] [(.int (1 : Int32)), (.int (2 : Int32))]) (fun t k => XS.iconst X11.here hx rfl (hb hby at_312) k) ?_
    refine hG _ _ _ (mkF m 328 #[.val (.int i0), .val (.int i1), .val (.int i2), .val (.int cc), .val (.int pa), .val (.int fl), .val (.ref a1), .val (.int r), .val (.int (2 : Int32)), .val (.int ((g A) &&& (255 : Int32))), .val (.int ((g (A + 1)) &&& (255 : Int32))), .val (.int ((g (A + 2)) &&& (255 : Int32))), .val (.int ((g (A + 3)) &&& (255 : Int32)))] []) (fun t k => XS.icmpYes X11.here hx rfl (pc0 := 313) (pc' := 328) rfl (hb hby at_313) rfl (own_feq (by decide)).2 (by decide) (by decide) k) ?_
    refine hG _ _ _ (mkF m 330 #[.val (.int i0), .val (.int i1), .val (.int i2), .val (.int cc), .val (.int pa), .val (.int fl), .val (.ref a1), .val (.int r), .val (.int (2 : Int32)), .val (.int ((g A) &&& (255 : Int32))), .val (.int ((g (A + 1)) &&& (255 : Int32))), .val (.int ((g (A + 2)) &&& (255 : Int32))), .val (.int ((g (A + 3)) &&& (255 : Int32)))] [(.int (2 : Int32))]) (fun t k => XS.iload X11.here hx rfl (hb hby at_328) rfl k) ?_
    refine hG _ _ _ (mkF m 331 #[.val (.int i0), .val (.int i1), .val (.int i2), .val (.int cc), .val (.int pa), .val (.int fl), .val (.ref a1), .val (.int r), .val (.int (2 : Int32)), .val (.int ((g A) &&& (255 : Int32))), .val (.int ((g (A + 1)) &&& (255 : Int32))), .val (.int ((g (A + 2)) &&& (255 : Int32))), .val (.int ((g (A + 3)) &&& (255 : Int32)))] [(.int (2 : Int32)), (.int (2 : Int32))]) (fun t k => XS.iconst X11.here hx rfl (hb hby at_330) k) ?_
    refine hG _ _ _ (mkF m 334 #[.val (.int i0), .val (.int i1), .val (.int i2), .val (.int cc), .val (.int pa), .val (.int fl), .val (.ref a1), .val (.int r), .val (.int (2 : Int32)), .val (.int ((g A) &&& (255 : Int32))), .val (.int ((g (A + 1)) &&& (255 : Int32))), .val (.int ((g (A + 2)) &&& (255 : Int32))), .val (.int ((g (A + 3)) &&& (255 : Int32)))] []) (fun t k => XS.icmpNo X11.here hx rfl (hb hby at_331) rfl (own_teq (by decide)).2 k) ?_
    refine hG _ _ _ (mkF m 336 #[.val (.int i0), .val (.int i1), .val (.int i2), .val (.int cc), .val (.int pa), .val (.int fl), .val (.ref a1), .val (.int r), .val (.int (2 : Int32)), .val (.int ((g A) &&& (255 : Int32))), .val (.int ((g (A + 1)) &&& (255 : Int32))), .val (.int ((g (A + 2)) &&& (255 : Int32))), .val (.int ((g (A + 3)) &&& (255 : Int32)))] [(.int ((g A) &&& (255 : Int32)))]) (fun t k => XS.iload X11.here hx rfl (hb hby at_334) rfl k) ?_
    refine hG _ _ _ (mkF m 339 #[.val (.int i0), .val (.int i1), .val (.int i2), .val (.int cc), .val (.int pa), .val (.int fl), .val (.ref a1), .val (.int r), .val (.int (2 : Int32)), .val (.int ((g A) &&& (255 : Int32))), .val (.int ((g (A + 1)) &&& (255 : Int32))), .val (.int ((g (A + 2)) &&& (255 : Int32))), .val (.int ((g (A + 3)) &&& (255 : Int32)))] [(.int (224 : Int32)), (.int ((g A) &&& (255 : Int32)))]) (fun t k => XS.sipush X11.here hx rfl (hb hby at_336) k) ?_
    refine hG _ _ _ (mkF m 340 #[.val (.int i0), .val (.int i1), .val (.int i2), .val (.int cc), .val (.int pa), .val (.int fl), .val (.ref a1), .val (.int r), .val (.int (2 : Int32)), .val (.int ((g A) &&& (255 : Int32))), .val (.int ((g (A + 1)) &&& (255 : Int32))), .val (.int ((g (A + 2)) &&& (255 : Int32))), .val (.int ((g (A + 3)) &&& (255 : Int32)))] [(.int (((g A) &&& (255 : Int32)) &&& (224 : Int32)))]) (fun t k => XS.iand X11.here hx rfl (hb hby at_339) rfl k) ?_
    refine hG _ _ _ (mkF m 343 #[.val (.int i0), .val (.int i1), .val (.int i2), .val (.int cc), .val (.int pa), .val (.int fl), .val (.ref a1), .val (.int r), .val (.int (2 : Int32)), .val (.int ((g A) &&& (255 : Int32))), .val (.int ((g (A + 1)) &&& (255 : Int32))), .val (.int ((g (A + 2)) &&& (255 : Int32))), .val (.int ((g (A + 3)) &&& (255 : Int32)))] [(.int (192 : Int32)), (.int (((g A) &&& (255 : Int32)) &&& (224 : Int32)))]) (fun t k => XS.sipush X11.here hx rfl (hb hby at_340) k) ?_
    refine hG _ _ _ (mkF m 346 #[.val (.int i0), .val (.int i1), .val (.int i2), .val (.int cc), .val (.int pa), .val (.int fl), .val (.ref a1), .val (.int r), .val (.int (2 : Int32)), .val (.int ((g A) &&& (255 : Int32))), .val (.int ((g (A + 1)) &&& (255 : Int32))), .val (.int ((g (A + 2)) &&& (255 : Int32))), .val (.int ((g (A + 3)) &&& (255 : Int32)))] []) (fun t k => XS.icmpNo X11.here hx rfl (hb hby at_343) rfl (own_teq (own_l2 c1 c2 b0).1).2 k) ?_
    refine hG _ _ _ (mkF m 348 #[.val (.int i0), .val (.int i1), .val (.int i2), .val (.int cc), .val (.int pa), .val (.int fl), .val (.ref a1), .val (.int r), .val (.int (2 : Int32)), .val (.int ((g A) &&& (255 : Int32))), .val (.int ((g (A + 1)) &&& (255 : Int32))), .val (.int ((g (A + 2)) &&& (255 : Int32))), .val (.int ((g (A + 3)) &&& (255 : Int32)))] [(.int ((g (A + 1)) &&& (255 : Int32)))]) (fun t k => XS.iload X11.here hx rfl (hb hby at_346) rfl k) ?_
    obtain ⟨v30, T30, L30, X30, q30, st30⟩ := own_call X11 hx hZ e11 (argsL := [(.int ((g (A + 1)) &&& (255 : Int32)))]) (rest := []) (W := 0) hown (hw _ (List.mem_of_getElem? (i := 11) rfl)) (hw _ (List.mem_of_getElem? (i := 12) rfl)) (hw _ (List.mem_of_getElem? (i := 9) rfl)) (hw _ (List.mem_of_getElem? (i := 13) rfl)) (by decide) (rm3 l Z a0 hw [] ((g (A + 1)) &&& (255 : Int32)) T10.heap n0 Z10 (own_tail cc b1).1) (by decide) (by decide) (Ls := #[.val (.int i0), .val (.int i1), .val (.int i2), .val (.int cc), .val (.int pa), .val (.int fl), .val (.ref a1), .val (.int r), .val (.int (2 : Int32)), .val (.int ((g A) &&& (255 : Int32))), .val (.int ((g (A + 1)) &&& (255 : Int32))), .val (.int ((g (A + 2)) &&& (255 : Int32))), .val (.int ((g (A + 3)) &&& (255 : Int32)))]) (by rw [hml]; rfl) (lenOf pd_3 rfl) (by decide) (hb hby at_348) (by decide) (by decide)
    obtain ⟨w30, rfl, ⟨rfl, e30⟩, M30⟩ := q30
    have N30 := Fr.app N11 M30
    refine hG _ _ _ (mkF m 351 #[.val (.int i0), .val (.int i1), .val (.int i2), .val (.int cc), .val (.int pa), .val (.int fl), .val (.ref a1), .val (.int r), .val (.int (2 : Int32)), .val (.int ((g A) &&& (255 : Int32))), .val (.int ((g (A + 1)) &&& (255 : Int32))), .val (.int ((g (A + 2)) &&& (255 : Int32))), .val (.int ((g (A + 3)) &&& (255 : Int32)))] [(.int (1 : Int32))]) (fun t k => st30 t k) ?_
    refine hG _ _ _ (mkF m 354 #[.val (.int i0), .val (.int i1), .val (.int i2), .val (.int cc), .val (.int pa), .val (.int fl), .val (.ref a1), .val (.int r), .val (.int (2 : Int32)), .val (.int ((g A) &&& (255 : Int32))), .val (.int ((g (A + 1)) &&& (255 : Int32))), .val (.int ((g (A + 2)) &&& (255 : Int32))), .val (.int ((g (A + 3)) &&& (255 : Int32)))] []) (fun t k => XS.ifNo X30.here hx rfl (hb hby at_351) rfl ((if0 _ _).trans (own_feq (by decide)).1) k) ?_
    refine hG _ _ _ (mkF m 356 #[.val (.int i0), .val (.int i1), .val (.int i2), .val (.int cc), .val (.int pa), .val (.int fl), .val (.ref a1), .val (.int r), .val (.int (2 : Int32)), .val (.int ((g A) &&& (255 : Int32))), .val (.int ((g (A + 1)) &&& (255 : Int32))), .val (.int ((g (A + 2)) &&& (255 : Int32))), .val (.int ((g (A + 3)) &&& (255 : Int32)))] [(.int ((g A) &&& (255 : Int32)))]) (fun t k => XS.iload X30.here hx rfl (hb hby at_354) rfl k) ?_
    refine hG _ _ _ (mkF m 358 #[.val (.int i0), .val (.int i1), .val (.int i2), .val (.int cc), .val (.int pa), .val (.int fl), .val (.ref a1), .val (.int r), .val (.int (2 : Int32)), .val (.int ((g A) &&& (255 : Int32))), .val (.int ((g (A + 1)) &&& (255 : Int32))), .val (.int ((g (A + 2)) &&& (255 : Int32))), .val (.int ((g (A + 3)) &&& (255 : Int32)))] [(.int (31 : Int32)), (.int ((g A) &&& (255 : Int32)))]) (fun t k => XS.bipush X30.here hx rfl (hb hby at_356) k) ?_
    refine hG _ _ _ (mkF m 359 #[.val (.int i0), .val (.int i1), .val (.int i2), .val (.int cc), .val (.int pa), .val (.int fl), .val (.ref a1), .val (.int r), .val (.int (2 : Int32)), .val (.int ((g A) &&& (255 : Int32))), .val (.int ((g (A + 1)) &&& (255 : Int32))), .val (.int ((g (A + 2)) &&& (255 : Int32))), .val (.int ((g (A + 3)) &&& (255 : Int32)))] [(.int (((g A) &&& (255 : Int32)) &&& (31 : Int32)))]) (fun t k => XS.iand X30.here hx rfl (hb hby at_358) rfl k) ?_
    refine hG _ _ _ (mkF m 361 #[.val (.int i0), .val (.int i1), .val (.int i2), .val (.int cc), .val (.int pa), .val (.int fl), .val (.ref a1), .val (.int r), .val (.int (2 : Int32)), .val (.int ((g A) &&& (255 : Int32))), .val (.int ((g (A + 1)) &&& (255 : Int32))), .val (.int ((g (A + 2)) &&& (255 : Int32))), .val (.int ((g (A + 3)) &&& (255 : Int32)))] [(.int (6 : Int32)), (.int (((g A) &&& (255 : Int32)) &&& (31 : Int32)))]) (fun t k => XS.bipush X30.here hx rfl (hb hby at_359) k) ?_
    refine hG _ _ _ (mkF m 362 #[.val (.int i0), .val (.int i1), .val (.int i2), .val (.int cc), .val (.int pa), .val (.int fl), .val (.ref a1), .val (.int r), .val (.int (2 : Int32)), .val (.int ((g A) &&& (255 : Int32))), .val (.int ((g (A + 1)) &&& (255 : Int32))), .val (.int ((g (A + 2)) &&& (255 : Int32))), .val (.int ((g (A + 3)) &&& (255 : Int32)))] [(.int ((((g A) &&& (255 : Int32)) &&& (31 : Int32)) <<< ((6 : Int32) &&& 31)))]) (fun t k => XS.ishl X30.here hx rfl (hb hby at_361) rfl k) ?_
    refine hG _ _ _ (mkF m 364 #[.val (.int i0), .val (.int i1), .val (.int i2), .val (.int cc), .val (.int pa), .val (.int fl), .val (.ref a1), .val (.int r), .val (.int (2 : Int32)), .val (.int ((g A) &&& (255 : Int32))), .val (.int ((g (A + 1)) &&& (255 : Int32))), .val (.int ((g (A + 2)) &&& (255 : Int32))), .val (.int ((g (A + 3)) &&& (255 : Int32)))] [(.int ((g (A + 1)) &&& (255 : Int32))), (.int ((((g A) &&& (255 : Int32)) &&& (31 : Int32)) <<< ((6 : Int32) &&& 31)))]) (fun t k => XS.iload X30.here hx rfl (hb hby at_362) rfl k) ?_
    refine hG _ _ _ (mkF m 366 #[.val (.int i0), .val (.int i1), .val (.int i2), .val (.int cc), .val (.int pa), .val (.int fl), .val (.ref a1), .val (.int r), .val (.int (2 : Int32)), .val (.int ((g A) &&& (255 : Int32))), .val (.int ((g (A + 1)) &&& (255 : Int32))), .val (.int ((g (A + 2)) &&& (255 : Int32))), .val (.int ((g (A + 3)) &&& (255 : Int32)))] [(.int (63 : Int32)), (.int ((g (A + 1)) &&& (255 : Int32))), (.int ((((g A) &&& (255 : Int32)) &&& (31 : Int32)) <<< ((6 : Int32) &&& 31)))]) (fun t k => XS.bipush X30.here hx rfl (hb hby at_364) k) ?_
    refine hG _ _ _ (mkF m 367 #[.val (.int i0), .val (.int i1), .val (.int i2), .val (.int cc), .val (.int pa), .val (.int fl), .val (.ref a1), .val (.int r), .val (.int (2 : Int32)), .val (.int ((g A) &&& (255 : Int32))), .val (.int ((g (A + 1)) &&& (255 : Int32))), .val (.int ((g (A + 2)) &&& (255 : Int32))), .val (.int ((g (A + 3)) &&& (255 : Int32)))] [(.int (((g (A + 1)) &&& (255 : Int32)) &&& (63 : Int32))), (.int ((((g A) &&& (255 : Int32)) &&& (31 : Int32)) <<< ((6 : Int32) &&& 31)))]) (fun t k => XS.iand X30.here hx rfl (hb hby at_366) rfl k) ?_
    refine hG _ _ _ (mkF m 368 #[.val (.int i0), .val (.int i1), .val (.int i2), .val (.int cc), .val (.int pa), .val (.int fl), .val (.ref a1), .val (.int r), .val (.int (2 : Int32)), .val (.int ((g A) &&& (255 : Int32))), .val (.int ((g (A + 1)) &&& (255 : Int32))), .val (.int ((g (A + 2)) &&& (255 : Int32))), .val (.int ((g (A + 3)) &&& (255 : Int32)))] [(.int (((((g A) &&& (255 : Int32)) &&& (31 : Int32)) <<< ((6 : Int32) &&& 31)) ||| (((g (A + 1)) &&& (255 : Int32)) &&& (63 : Int32))))]) (fun t k => XS.ior X30.here hx rfl (hb hby at_367) rfl k) ?_
    refine hG _ _ _ (mkF m 369 #[.val (.int i0), .val (.int i1), .val (.int i2), .val (.int cc), .val (.int pa), .val (.int fl), .val (.ref a1), .val (.int r), .val (.int (2 : Int32)), .val (.int ((g A) &&& (255 : Int32))), .val (.int ((g (A + 1)) &&& (255 : Int32))), .val (.int ((g (A + 2)) &&& (255 : Int32))), .val (.int ((g (A + 3)) &&& (255 : Int32)))] [(.int cc), (.int (((((g A) &&& (255 : Int32)) &&& (31 : Int32)) <<< ((6 : Int32) &&& 31)) ||| (((g (A + 1)) &&& (255 : Int32)) &&& (63 : Int32))))]) (fun t k => XS.iloadN X30.here hx rfl (hb hby at_368) rfl k) ?_
    refine hG _ _ _ (mkF m 372 #[.val (.int i0), .val (.int i1), .val (.int i2), .val (.int cc), .val (.int pa), .val (.int fl), .val (.ref a1), .val (.int r), .val (.int (2 : Int32)), .val (.int ((g A) &&& (255 : Int32))), .val (.int ((g (A + 1)) &&& (255 : Int32))), .val (.int ((g (A + 2)) &&& (255 : Int32))), .val (.int ((g (A + 3)) &&& (255 : Int32)))] []) (fun t k => XS.icmpNo X30.here hx rfl (hb hby at_369) rfl (own_teq (own_j2 c1 c2 (own_l2 c1 c2 b0).2 (own_tail cc b1).2)).2 k) ?_
    refine hG _ _ _ (mkF m 373 #[.val (.int i0), .val (.int i1), .val (.int i2), .val (.int cc), .val (.int pa), .val (.int fl), .val (.ref a1), .val (.int r), .val (.int (2 : Int32)), .val (.int ((g A) &&& (255 : Int32))), .val (.int ((g (A + 1)) &&& (255 : Int32))), .val (.int ((g (A + 2)) &&& (255 : Int32))), .val (.int ((g (A + 3)) &&& (255 : Int32)))] [(.int (1 : Int32))]) (fun t k => XS.iconst X30.here hx rfl (hb hby at_372) k) ?_
    refine hG _ _ _ (mkF m 377 #[.val (.int i0), .val (.int i1), .val (.int i2), .val (.int cc), .val (.int pa), .val (.int fl), .val (.ref a1), .val (.int r), .val (.int (2 : Int32)), .val (.int ((g A) &&& (255 : Int32))), .val (.int ((g (A + 1)) &&& (255 : Int32))), .val (.int ((g (A + 2)) &&& (255 : Int32))), .val (.int ((g (A + 3)) &&& (255 : Int32)))] [(.int (1 : Int32))]) (fun t k => XS.goto X30.here hx rfl (pc0 := 373) (pc' := 377) rfl (hb hby at_373) (by decide) (by decide) k) ?_
    exact hR _ _ _ _ _ _ X30 N30 (by decide) (by decide) rfl (fun fs hr => retN X30 hx (t := .boolean) hret (by simp) (hb hby at_377) hr)
  · refine hG _ _ _ (mkF m 84 #[.val (.int i0), .val (.int i1), .val (.int i2), .val (.int cc), .val (.int pa), .val (.int fl), .val (.ref a1), .val (.int r), .unset, .unset, .unset, .unset, .unset] [(.int cc)]) (fun t k => XS.iloadN X10.here hx rfl (hb hby at_83) rfl k) ?_
    refine hG _ _ _ (mkF m 87 #[.val (.int i0), .val (.int i1), .val (.int i2), .val (.int cc), .val (.int pa), .val (.int fl), .val (.ref a1), .val (.int r), .unset, .unset, .unset, .unset, .unset] [(.int (128 : Int32)), (.int cc)]) (fun t k => XS.sipush X10.here hx rfl (hb hby at_84) k) ?_
    refine hG _ _ _ (mkF m 96 #[.val (.int i0), .val (.int i1), .val (.int i2), .val (.int cc), .val (.int pa), .val (.int fl), .val (.ref a1), .val (.int r), .unset, .unset, .unset, .unset, .unset] []) (fun t k => XS.icmpYes X10.here hx rfl (pc0 := 87) (pc' := 96) rfl (hb hby at_87) rfl (own_flt c1).2.1 (by decide) (by decide) k) ?_
    refine hG _ _ _ (mkF m 97 #[.val (.int i0), .val (.int i1), .val (.int i2), .val (.int cc), .val (.int pa), .val (.int fl), .val (.ref a1), .val (.int r), .unset, .unset, .unset, .unset, .unset] [(.int cc)]) (fun t k => XS.iloadN X10.here hx rfl (hb hby at_96) rfl k) ?_
    refine hG _ _ _ (mkF m 100 #[.val (.int i0), .val (.int i1), .val (.int i2), .val (.int cc), .val (.int pa), .val (.int fl), .val (.ref a1), .val (.int r), .unset, .unset, .unset, .unset, .unset] [(.int (2048 : Int32)), (.int cc)]) (fun t k => XS.sipush X10.here hx rfl (hb hby at_97) k) ?_
    refine hG _ _ _ (mkF m 109 #[.val (.int i0), .val (.int i1), .val (.int i2), .val (.int cc), .val (.int pa), .val (.int fl), .val (.ref a1), .val (.int r), .unset, .unset, .unset, .unset, .unset] []) (fun t k => XS.icmpYes X10.here hx rfl (pc0 := 100) (pc' := 109) rfl (hb hby at_100) rfl (own_flt c2).2.1 (by decide) (by decide) k) ?_
    refine hG _ _ _ (mkF m 110 #[.val (.int i0), .val (.int i1), .val (.int i2), .val (.int cc), .val (.int pa), .val (.int fl), .val (.ref a1), .val (.int r), .unset, .unset, .unset, .unset, .unset] [(.int cc)]) (fun t k => XS.iloadN X10.here hx rfl (hb hby at_109) rfl k) ?_
    refine hG _ _ _ (mkF m 112 #[.val (.int i0), .val (.int i1), .val (.int i2), .val (.int cc), .val (.int pa), .val (.int fl), .val (.ref a1), .val (.int r), .unset, .unset, .unset, .unset, .unset] [(.int (65536 : Int32)), (.int cc)]) (fun t k => X10.ldcInt hx (own := "com/example/querytrail/querytrail/Utf8EncodePinLaw") (v := (65536 : Int32)) hown (mvT hZ (hw _ (List.mem_of_getElem? (i := 15) rfl))) (g := (mkF m 110 #[.val (.int i0), .val (.int i1), .val (.int i2), .val (.int cc), .val (.int pa), .val (.int fl), .val (.ref a1), .val (.int r), .unset, .unset, .unset, .unset, .unset] [(.int cc)])) rfl (hb hby at_110) t k) ?_
    refine hG _ _ _ (mkF m 115 #[.val (.int i0), .val (.int i1), .val (.int i2), .val (.int cc), .val (.int pa), .val (.int fl), .val (.ref a1), .val (.int r), .unset, .unset, .unset, .unset, .unset] []) (fun t k => XS.icmpNo X10.here hx rfl (hb hby at_112) rfl (own_tlt c3).2.1 k) ?_
    refine hG _ _ _ (mkF m 116 #[.val (.int i0), .val (.int i1), .val (.int i2), .val (.int cc), .val (.int pa), .val (.int fl), .val (.ref a1), .val (.int r), .unset, .unset, .unset, .unset, .unset] [(.int (3 : Int32))]) (fun t k => XS.iconst X10.here hx rfl (hb hby at_115) k) ?_
    refine hG _ _ _ (mkF m 118 #[.val (.int i0), .val (.int i1), .val (.int i2), .val (.int cc), .val (.int pa), .val (.int fl), .val (.ref a1), .val (.int r), .val (.int (3 : Int32)), .unset, .unset, .unset, .unset] []) (fun t k => XS.istore X10.here hx rfl (hb hby at_116) rfl (l' := #[.val (.int i0), .val (.int i1), .val (.int i2), .val (.int cc), .val (.int pa), .val (.int fl), .val (.ref a1), .val (.int r), .val (.int (3 : Int32)), .unset, .unset, .unset, .unset]) rfl k) ?_
    refine hG _ _ _ (mkF m 124 #[.val (.int i0), .val (.int i1), .val (.int i2), .val (.int cc), .val (.int pa), .val (.int fl), .val (.ref a1), .val (.int r), .val (.int (3 : Int32)), .unset, .unset, .unset, .unset] []) (fun t k => XS.goto X10.here hx rfl (pc0 := 118) (pc' := 124) rfl (hb hby at_118) (by decide) (by decide) k) ?_
    refine hG _ _ _ (mkF m 126 #[.val (.int i0), .val (.int i1), .val (.int i2), .val (.int cc), .val (.int pa), .val (.int fl), .val (.ref a1), .val (.int r), .val (.int (3 : Int32)), .unset, .unset, .unset, .unset] [(.int r)]) (fun t k => XS.iload X10.here hx rfl (hb hby at_124) rfl k) ?_
    refine hG _ _ _ (mkF m 128 #[.val (.int i0), .val (.int i1), .val (.int i2), .val (.int cc), .val (.int pa), .val (.int fl), .val (.ref a1), .val (.int r), .val (.int (3 : Int32)), .unset, .unset, .unset, .unset] [(.int pa), (.int r)]) (fun t k => XS.iload X10.here hx rfl (hb hby at_126) rfl k) ?_
    refine hG _ _ _ (mkF m 130 #[.val (.int i0), .val (.int i1), .val (.int i2), .val (.int cc), .val (.int pa), .val (.int fl), .val (.ref a1), .val (.int r), .val (.int (3 : Int32)), .unset, .unset, .unset, .unset] [(.int (3 : Int32)), (.int pa), (.int r)]) (fun t k => XS.iload X10.here hx rfl (hb hby at_128) rfl k) ?_
    refine hG _ _ _ (mkF m 131 #[.val (.int i0), .val (.int i1), .val (.int i2), .val (.int cc), .val (.int pa), .val (.int fl), .val (.ref a1), .val (.int r), .val (.int (3 : Int32)), .unset, .unset, .unset, .unset] [(.int (pa + (3 : Int32))), (.int r)]) (fun t k => XS.iadd X10.here hx rfl (hb hby at_130) rfl k) ?_
    refine hG _ _ _ (mkF m 136 #[.val (.int i0), .val (.int i1), .val (.int i2), .val (.int cc), .val (.int pa), .val (.int fl), .val (.ref a1), .val (.int r), .val (.int (3 : Int32)), .unset, .unset, .unset, .unset] []) (fun t k => XS.icmpYes X10.here hx rfl (pc0 := 131) (pc' := 136) rfl (hb hby at_131) rfl (own_teq (own_next (3 : Int32) hp hA hr (by decide) (by decide))).1 (by decide) (by decide) k) ?_
    refine mid136 i0 i1 i2 cc pa fl r (3 : Int32) a1 A 3 g X10 hx hZ hw hby hml hown hret rfl N10 (by decide) (by decide) hG hR V10 hA hp hr hg Z10 (fun T' L' X11 e11 N11 => ?_)
    refine hG _ _ _ (mkF m 312 #[.val (.int i0), .val (.int i1), .val (.int i2), .val (.int cc), .val (.int pa), .val (.int fl), .val (.ref a1), .val (.int r), .val (.int (3 : Int32)), .val (.int ((g A) &&& (255 : Int32))), .val (.int ((g (A + 1)) &&& (255 : Int32))), .val (.int ((g (A + 2)) &&& (255 : Int32))), .val (.int ((g (A + 3)) &&& (255 : Int32)))] [(.int (3 : Int32))]) (fun t k => XS.iload X11.here hx rfl (hb hby at_310) rfl k) ?_
    refine hG _ _ _ (mkF m 313 #[.val (.int i0), .val (.int i1), .val (.int i2), .val (.int cc), .val (.int pa), .val (.int fl), .val (.ref a1), .val (.int r), .val (.int (3 : Int32)), .val (.int ((g A) &&& (255 : Int32))), .val (.int ((g (A + 1)) &&& (255 : Int32))), .val (.int ((g (A + 2)) &&& (255 : Int32))), .val (.int ((g (A + 3)) &&& (255 : Int32)))] [(.int (1 : Int32)), (.int (3 : Int32))]) (fun t k => XS.iconst X11.here hx rfl (hb hby at_312) k) ?_
    refine hG _ _ _ (mkF m 328 #[.val (.int i0), .val (.int i1), .val (.int i2), .val (.int cc), .val (.int pa), .val (.int fl), .val (.ref a1), .val (.int r), .val (.int (3 : Int32)), .val (.int ((g A) &&& (255 : Int32))), .val (.int ((g (A + 1)) &&& (255 : Int32))), .val (.int ((g (A + 2)) &&& (255 : Int32))), .val (.int ((g (A + 3)) &&& (255 : Int32)))] []) (fun t k => XS.icmpYes X11.here hx rfl (pc0 := 313) (pc' := 328) rfl (hb hby at_313) rfl (own_feq (by decide)).2 (by decide) (by decide) k) ?_
    refine hG _ _ _ (mkF m 330 #[.val (.int i0), .val (.int i1), .val (.int i2), .val (.int cc), .val (.int pa), .val (.int fl), .val (.ref a1), .val (.int r), .val (.int (3 : Int32)), .val (.int ((g A) &&& (255 : Int32))), .val (.int ((g (A + 1)) &&& (255 : Int32))), .val (.int ((g (A + 2)) &&& (255 : Int32))), .val (.int ((g (A + 3)) &&& (255 : Int32)))] [(.int (3 : Int32))]) (fun t k => XS.iload X11.here hx rfl (hb hby at_328) rfl k) ?_
    refine hG _ _ _ (mkF m 331 #[.val (.int i0), .val (.int i1), .val (.int i2), .val (.int cc), .val (.int pa), .val (.int fl), .val (.ref a1), .val (.int r), .val (.int (3 : Int32)), .val (.int ((g A) &&& (255 : Int32))), .val (.int ((g (A + 1)) &&& (255 : Int32))), .val (.int ((g (A + 2)) &&& (255 : Int32))), .val (.int ((g (A + 3)) &&& (255 : Int32)))] [(.int (2 : Int32)), (.int (3 : Int32))]) (fun t k => XS.iconst X11.here hx rfl (hb hby at_330) k) ?_
    refine hG _ _ _ (mkF m 378 #[.val (.int i0), .val (.int i1), .val (.int i2), .val (.int cc), .val (.int pa), .val (.int fl), .val (.ref a1), .val (.int r), .val (.int (3 : Int32)), .val (.int ((g A) &&& (255 : Int32))), .val (.int ((g (A + 1)) &&& (255 : Int32))), .val (.int ((g (A + 2)) &&& (255 : Int32))), .val (.int ((g (A + 3)) &&& (255 : Int32)))] []) (fun t k => XS.icmpYes X11.here hx rfl (pc0 := 331) (pc' := 378) rfl (hb hby at_331) rfl (own_feq (by decide)).2 (by decide) (by decide) k) ?_
    refine hG _ _ _ (mkF m 380 #[.val (.int i0), .val (.int i1), .val (.int i2), .val (.int cc), .val (.int pa), .val (.int fl), .val (.ref a1), .val (.int r), .val (.int (3 : Int32)), .val (.int ((g A) &&& (255 : Int32))), .val (.int ((g (A + 1)) &&& (255 : Int32))), .val (.int ((g (A + 2)) &&& (255 : Int32))), .val (.int ((g (A + 3)) &&& (255 : Int32)))] [(.int (3 : Int32))]) (fun t k => XS.iload X11.here hx rfl (hb hby at_378) rfl k) ?_
    refine hG _ _ _ (mkF m 381 #[.val (.int i0), .val (.int i1), .val (.int i2), .val (.int cc), .val (.int pa), .val (.int fl), .val (.ref a1), .val (.int r), .val (.int (3 : Int32)), .val (.int ((g A) &&& (255 : Int32))), .val (.int ((g (A + 1)) &&& (255 : Int32))), .val (.int ((g (A + 2)) &&& (255 : Int32))), .val (.int ((g (A + 3)) &&& (255 : Int32)))] [(.int (3 : Int32)), (.int (3 : Int32))]) (fun t k => XS.iconst X11.here hx rfl (hb hby at_380) k) ?_
    refine hG _ _ _ (mkF m 384 #[.val (.int i0), .val (.int i1), .val (.int i2), .val (.int cc), .val (.int pa), .val (.int fl), .val (.ref a1), .val (.int r), .val (.int (3 : Int32)), .val (.int ((g A) &&& (255 : Int32))), .val (.int ((g (A + 1)) &&& (255 : Int32))), .val (.int ((g (A + 2)) &&& (255 : Int32))), .val (.int ((g (A + 3)) &&& (255 : Int32)))] []) (fun t k => XS.icmpNo X11.here hx rfl (hb hby at_381) rfl (own_teq (by decide)).2 k) ?_
    refine hG _ _ _ (mkF m 386 #[.val (.int i0), .val (.int i1), .val (.int i2), .val (.int cc), .val (.int pa), .val (.int fl), .val (.ref a1), .val (.int r), .val (.int (3 : Int32)), .val (.int ((g A) &&& (255 : Int32))), .val (.int ((g (A + 1)) &&& (255 : Int32))), .val (.int ((g (A + 2)) &&& (255 : Int32))), .val (.int ((g (A + 3)) &&& (255 : Int32)))] [(.int ((g A) &&& (255 : Int32)))]) (fun t k => XS.iload X11.here hx rfl (hb hby at_384) rfl k) ?_
    refine hG _ _ _ (mkF m 389 #[.val (.int i0), .val (.int i1), .val (.int i2), .val (.int cc), .val (.int pa), .val (.int fl), .val (.ref a1), .val (.int r), .val (.int (3 : Int32)), .val (.int ((g A) &&& (255 : Int32))), .val (.int ((g (A + 1)) &&& (255 : Int32))), .val (.int ((g (A + 2)) &&& (255 : Int32))), .val (.int ((g (A + 3)) &&& (255 : Int32)))] [(.int (240 : Int32)), (.int ((g A) &&& (255 : Int32)))]) (fun t k => XS.sipush X11.here hx rfl (hb hby at_386) k) ?_
    refine hG _ _ _ (mkF m 390 #[.val (.int i0), .val (.int i1), .val (.int i2), .val (.int cc), .val (.int pa), .val (.int fl), .val (.ref a1), .val (.int r), .val (.int (3 : Int32)), .val (.int ((g A) &&& (255 : Int32))), .val (.int ((g (A + 1)) &&& (255 : Int32))), .val (.int ((g (A + 2)) &&& (255 : Int32))), .val (.int ((g (A + 3)) &&& (255 : Int32)))] [(.int (((g A) &&& (255 : Int32)) &&& (240 : Int32)))]) (fun t k => XS.iand X11.here hx rfl (hb hby at_389) rfl k) ?_
    refine hG _ _ _ (mkF m 393 #[.val (.int i0), .val (.int i1), .val (.int i2), .val (.int cc), .val (.int pa), .val (.int fl), .val (.ref a1), .val (.int r), .val (.int (3 : Int32)), .val (.int ((g A) &&& (255 : Int32))), .val (.int ((g (A + 1)) &&& (255 : Int32))), .val (.int ((g (A + 2)) &&& (255 : Int32))), .val (.int ((g (A + 3)) &&& (255 : Int32)))] [(.int (224 : Int32)), (.int (((g A) &&& (255 : Int32)) &&& (240 : Int32)))]) (fun t k => XS.sipush X11.here hx rfl (hb hby at_390) k) ?_
    refine hG _ _ _ (mkF m 396 #[.val (.int i0), .val (.int i1), .val (.int i2), .val (.int cc), .val (.int pa), .val (.int fl), .val (.ref a1), .val (.int r), .val (.int (3 : Int32)), .val (.int ((g A) &&& (255 : Int32))), .val (.int ((g (A + 1)) &&& (255 : Int32))), .val (.int ((g (A + 2)) &&& (255 : Int32))), .val (.int ((g (A + 3)) &&& (255 : Int32)))] []) (fun t k => XS.icmpNo X11.here hx rfl (hb hby at_393) rfl (own_teq (own_l3 c2 c3 b0).1).2 k) ?_
    refine hG _ _ _ (mkF m 398 #[.val (.int i0), .val (.int i1), .val (.int i2), .val (.int cc), .val (.int pa), .val (.int fl), .val (.ref a1), .val (.int r), .val (.int (3 : Int32)), .val (.int ((g A) &&& (255 : Int32))), .val (.int ((g (A + 1)) &&& (255 : Int32))), .val (.int ((g (A + 2)) &&& (255 : Int32))), .val (.int ((g (A + 3)) &&& (255 : Int32)))] [(.int ((g (A + 1)) &&& (255 : Int32)))]) (fun t k => XS.iload X11.here hx rfl (hb hby at_396) rfl k) ?_
    obtain ⟨v30, T30, L30, X30, q30, st30⟩ := own_call X11 hx hZ e11 (argsL := [(.int ((g (A + 1)) &&& (255 : Int32)))]) (rest := []) (W := 0) hown (hw _ (List.mem_of_getElem? (i := 11) rfl)) (hw _ (List.mem_of_getElem? (i := 12) rfl)) (hw _ (List.mem_of_getElem? (i := 9) rfl)) (hw _ (List.mem_of_getElem? (i := 13) rfl)) (by decide) (rm3 l Z a0 hw [] ((g (A + 1)) &&& (255 : Int32)) T10.heap n0 Z10 (own_tail (cc >>> ((6 : Int32) &&& 31)) b1).1) (by decide) (by decide) (Ls := #[.val (.int i0), .val (.int i1), .val (.int i2), .val (.int cc), .val (.int pa), .val (.int fl), .val (.ref a1), .val (.int r), .val (.int (3 : Int32)), .val (.int ((g A) &&& (255 : Int32))), .val (.int ((g (A + 1)) &&& (255 : Int32))), .val (.int ((g (A + 2)) &&& (255 : Int32))), .val (.int ((g (A + 3)) &&& (255 : Int32)))]) (by rw [hml]; rfl) (lenOf pd_3 rfl) (by decide) (hb hby at_398) (by decide) (by decide)
    obtain ⟨w30, rfl, ⟨rfl, e30⟩, M30⟩ := q30
    have N30 := Fr.app N11 M30
    refine hG _ _ _ (mkF m 401 #[.val (.int i0), .val (.int i1), .val (.int i2), .val (.int cc), .val (.int pa), .val (.int fl), .val (.ref a1), .val (.int r), .val (.int (3 : Int32)), .val (.int ((g A) &&& (255 : Int32))), .val (.int ((g (A + 1)) &&& (255 : Int32))), .val (.int ((g (A + 2)) &&& (255 : Int32))), .val (.int ((g (A + 3)) &&& (255 : Int32)))] [(.int (1 : Int32))]) (fun t k => st30 t k) ?_
    refine hG _ _ _ (mkF m 404 #[.val (.int i0), .val (.int i1), .val (.int i2), .val (.int cc), .val (.int pa), .val (.int fl), .val (.ref a1), .val (.int r), .val (.int (3 : Int32)), .val (.int ((g A) &&& (255 : Int32))), .val (.int ((g (A + 1)) &&& (255 : Int32))), .val (.int ((g (A + 2)) &&& (255 : Int32))), .val (.int ((g (A + 3)) &&& (255 : Int32)))] []) (fun t k => XS.ifNo X30.here hx rfl (hb hby at_401) rfl ((if0 _ _).trans (own_feq (by decide)).1) k) ?_
    refine hG _ _ _ (mkF m 406 #[.val (.int i0), .val (.int i1), .val (.int i2), .val (.int cc), .val (.int pa), .val (.int fl), .val (.ref a1), .val (.int r), .val (.int (3 : Int32)), .val (.int ((g A) &&& (255 : Int32))), .val (.int ((g (A + 1)) &&& (255 : Int32))), .val (.int ((g (A + 2)) &&& (255 : Int32))), .val (.int ((g (A + 3)) &&& (255 : Int32)))] [(.int ((g (A + 2)) &&& (255 : Int32)))]) (fun t k => XS.iload X30.here hx rfl (hb hby at_404) rfl k) ?_
    obtain ⟨v31, T31, L31, X31, q31, st31⟩ := own_call X30 hx hZ e30 (argsL := [(.int ((g (A + 2)) &&& (255 : Int32)))]) (rest := []) (W := 0) hown (hw _ (List.mem_of_getElem? (i := 11) rfl)) (hw _ (List.mem_of_getElem? (i := 12) rfl)) (hw _ (List.mem_of_getElem? (i := 9) rfl)) (hw _ (List.mem_of_getElem? (i := 13) rfl)) (by decide) (rm3 l Z a0 hw [] ((g (A + 2)) &&& (255 : Int32)) T10.heap n0 Z10 (own_tail cc b2).1) (by decide) (by decide) (Ls := #[.val (.int i0), .val (.int i1), .val (.int i2), .val (.int cc), .val (.int pa), .val (.int fl), .val (.ref a1), .val (.int r), .val (.int (3 : Int32)), .val (.int ((g A) &&& (255 : Int32))), .val (.int ((g (A + 1)) &&& (255 : Int32))), .val (.int ((g (A + 2)) &&& (255 : Int32))), .val (.int ((g (A + 3)) &&& (255 : Int32)))]) (by rw [hml]; rfl) (lenOf pd_3 rfl) (by decide) (hb hby at_406) (by decide) (by decide)
    obtain ⟨w31, rfl, ⟨rfl, e31⟩, M31⟩ := q31
    have N31 := Fr.app N30 M31
    refine hG _ _ _ (mkF m 409 #[.val (.int i0), .val (.int i1), .val (.int i2), .val (.int cc), .val (.int pa), .val (.int fl), .val (.ref a1), .val (.int r), .val (.int (3 : Int32)), .val (.int ((g A) &&& (255 : Int32))), .val (.int ((g (A + 1)) &&& (255 : Int32))), .val (.int ((g (A + 2)) &&& (255 : Int32))), .val (.int ((g (A + 3)) &&& (255 : Int32)))] [(.int (1 : Int32))]) (fun t k => st31 t k) ?_
    refine hG _ _ _ (mkF m 412 #[.val (.int i0), .val (.int i1), .val (.int i2), .val (.int cc), .val (.int pa), .val (.int fl), .val (.ref a1), .val (.int r), .val (.int (3 : Int32)), .val (.int ((g A) &&& (255 : Int32))), .val (.int ((g (A + 1)) &&& (255 : Int32))), .val (.int ((g (A + 2)) &&& (255 : Int32))), .val (.int ((g (A + 3)) &&& (255 : Int32)))] []) (fun t k => XS.ifNo X31.here hx rfl (hb hby at_409) rfl ((if0 _ _).trans (own_feq (by decide)).1) k) ?_
    refine hG _ _ _ (mkF m 414 #[.val (.int i0), .val (.int i1), .val (.int i2), .val (.int cc), .val (.int pa), .val (.int fl), .val (.ref a1), .val (.int r), .val (.int (3 : Int32)), .val (.int ((g A) &&& (255 : Int32))), .val (.int ((g (A + 1)) &&& (255 : Int32))), .val (.int ((g (A + 2)) &&& (255 : Int32))), .val (.int ((g (A + 3)) &&& (255 : Int32)))] [(.int ((g A) &&& (255 : Int32)))]) (fun t k => XS.iload X31.here hx rfl (hb hby at_412) rfl k) ?_
    refine hG _ _ _ (mkF m 416 #[.val (.int i0), .val (.int i1), .val (.int i2), .val (.int cc), .val (.int pa), .val (.int fl), .val (.ref a1), .val (.int r), .val (.int (3 : Int32)), .val (.int ((g A) &&& (255 : Int32))), .val (.int ((g (A + 1)) &&& (255 : Int32))), .val (.int ((g (A + 2)) &&& (255 : Int32))), .val (.int ((g (A + 3)) &&& (255 : Int32)))] [(.int (15 : Int32)), (.int ((g A) &&& (255 : Int32)))]) (fun t k => XS.bipush X31.here hx rfl (hb hby at_414) k) ?_
    refine hG _ _ _ (mkF m 417 #[.val (.int i0), .val (.int i1), .val (.int i2), .val (.int cc), .val (.int pa), .val (.int fl), .val (.ref a1), .val (.int r), .val (.int (3 : Int32)), .val (.int ((g A) &&& (255 : Int32))), .val (.int ((g (A + 1)) &&& (255 : Int32))), .val (.int ((g (A + 2)) &&& (255 : Int32))), .val (.int ((g (A + 3)) &&& (255 : Int32)))] [(.int (((g A) &&& (255 : Int32)) &&& (15 : Int32)))]) (fun t k => XS.iand X31.here hx rfl (hb hby at_416) rfl k) ?_
    refine hG _ _ _ (mkF m 419 #[.val (.int i0), .val (.int i1), .val (.int i2), .val (.int cc), .val (.int pa), .val (.int fl), .val (.ref a1), .val (.int r), .val (.int (3 : Int32)), .val (.int ((g A) &&& (255 : Int32))), .val (.int ((g (A + 1)) &&& (255 : Int32))), .val (.int ((g (A + 2)) &&& (255 : Int32))), .val (.int ((g (A + 3)) &&& (255 : Int32)))] [(.int (12 : Int32)), (.int (((g A) &&& (255 : Int32)) &&& (15 : Int32)))]) (fun t k => XS.bipush X31.here hx rfl (hb hby at_417) k) ?_
    refine hG _ _ _ (mkF m 420 #[.val (.int i0), .val (.int i1), .val (.int i2), .val (.int cc), .val (.int pa), .val (.int fl), .val (.ref a1), .val (.int r), .val (.int (3 : Int32)), .val (.int ((g A) &&& (255 : Int32))), .val (.int ((g (A + 1)) &&& (255 : Int32))), .val (.int ((g (A + 2)) &&& (255 : Int32))), .val (.int ((g (A + 3)) &&& (255 : Int32)))] [(.int ((((g A) &&& (255 : Int32)) &&& (15 : Int32)) <<< ((12 : Int32) &&& 31)))]) (fun t k => XS.ishl X31.here hx rfl (hb hby at_419) rfl k) ?_
    refine hG _ _ _ (mkF m 422 #[.val (.int i0), .val (.int i1), .val (.int i2), .val (.int cc), .val (.int pa), .val (.int fl), .val (.ref a1), .val (.int r), .val (.int (3 : Int32)), .val (.int ((g A) &&& (255 : Int32))), .val (.int ((g (A + 1)) &&& (255 : Int32))), .val (.int ((g (A + 2)) &&& (255 : Int32))), .val (.int ((g (A + 3)) &&& (255 : Int32)))] [(.int ((g (A + 1)) &&& (255 : Int32))), (.int ((((g A) &&& (255 : Int32)) &&& (15 : Int32)) <<< ((12 : Int32) &&& 31)))]) (fun t k => XS.iload X31.here hx rfl (hb hby at_420) rfl k) ?_
    refine hG _ _ _ (mkF m 424 #[.val (.int i0), .val (.int i1), .val (.int i2), .val (.int cc), .val (.int pa), .val (.int fl), .val (.ref a1), .val (.int r), .val (.int (3 : Int32)), .val (.int ((g A) &&& (255 : Int32))), .val (.int ((g (A + 1)) &&& (255 : Int32))), .val (.int ((g (A + 2)) &&& (255 : Int32))), .val (.int ((g (A + 3)) &&& (255 : Int32)))] [(.int (63 : Int32)), (.int ((g (A + 1)) &&& (255 : Int32))), (.int ((((g A) &&& (255 : Int32)) &&& (15 : Int32)) <<< ((12 : Int32) &&& 31)))]) (fun t k => XS.bipush X31.here hx rfl (hb hby at_422) k) ?_
    refine hG _ _ _ (mkF m 425 #[.val (.int i0), .val (.int i1), .val (.int i2), .val (.int cc), .val (.int pa), .val (.int fl), .val (.ref a1), .val (.int r), .val (.int (3 : Int32)), .val (.int ((g A) &&& (255 : Int32))), .val (.int ((g (A + 1)) &&& (255 : Int32))), .val (.int ((g (A + 2)) &&& (255 : Int32))), .val (.int ((g (A + 3)) &&& (255 : Int32)))] [(.int (((g (A + 1)) &&& (255 : Int32)) &&& (63 : Int32))), (.int ((((g A) &&& (255 : Int32)) &&& (15 : Int32)) <<< ((12 : Int32) &&& 31)))]) (fun t k => XS.iand X31.here hx rfl (hb hby at_424) rfl k) ?_
    refine hG _ _ _ (mkF m 427 #[.val (.int i0), .val (.int i1), .val (.int i2), .val (.int cc), .val (.int pa), .val (.int fl), .val (.ref a1), .val (.int r), .val (.int (3 : Int32)), .val (.int ((g A) &&& (255 : Int32))), .val (.int ((g (A + 1)) &&& (255 : Int32))), .val (.int ((g (A + 2)) &&& (255 : Int32))), .val (.int ((g (A + 3)) &&& (255 : Int32)))] [(.int (6 : Int32)), (.int (((g (A + 1)) &&& (255 : Int32)) &&& (63 : Int32))), (.int ((((g A) &&& (255 : Int32)) &&& (15 : Int32)) <<< ((12 : Int32) &&& 31)))]) (fun t k => XS.bipush X31.here hx rfl (hb hby at_425) k) ?_
    refine hG _ _ _ (mkF m 428 #[.val (.int i0), .val (.int i1), .val (.int i2), .val (.int cc), .val (.int pa), .val (.int fl), .val (.ref a1), .val (.int r), .val (.int (3 : Int32)), .val (.int ((g A) &&& (255 : Int32))), .val (.int ((g (A + 1)) &&& (255 : Int32))), .val (.int ((g (A + 2)) &&& (255 : Int32))), .val (.int ((g (A + 3)) &&& (255 : Int32)))] [(.int ((((g (A + 1)) &&& (255 : Int32)) &&& (63 : Int32)) <<< ((6 : Int32) &&& 31))), (.int ((((g A) &&& (255 : Int32)) &&& (15 : Int32)) <<< ((12 : Int32) &&& 31)))]) (fun t k => XS.ishl X31.here hx rfl (hb hby at_427) rfl k) ?_
    refine hG _ _ _ (mkF m 429 #[.val (.int i0), .val (.int i1), .val (.int i2), .val (.int cc), .val (.int pa), .val (.int fl), .val (.ref a1), .val (.int r), .val (.int (3 : Int32)), .val (.int ((g A) &&& (255 : Int32))), .val (.int ((g (A + 1)) &&& (255 : Int32))), .val (.int ((g (A + 2)) &&& (255 : Int32))), .val (.int ((g (A + 3)) &&& (255 : Int32)))] [(.int (((((g A) &&& (255 : Int32)) &&& (15 : Int32)) <<< ((12 : Int32) &&& 31)) ||| ((((g (A + 1)) &&& (255 : Int32)) &&& (63 : Int32)) <<< ((6 : Int32) &&& 31))))]) (fun t k => XS.ior X31.here hx rfl (hb hby at_428) rfl k) ?_
    refine hG _ _ _ (mkF m 431 #[.val (.int i0), .val (.int i1), .val (.int i2), .val (.int cc), .val (.int pa), .val (.int fl), .val (.ref a1), .val (.int r), .val (.int (3 : Int32)), .val (.int ((g A) &&& (255 : Int32))), .val (.int ((g (A + 1)) &&& (255 : Int32))), .val (.int ((g (A + 2)) &&& (255 : Int32))), .val (.int ((g (A + 3)) &&& (255 : Int32)))] [(.int ((g (A + 2)) &&& (255 : Int32))), (.int (((((g A) &&& (255 : Int32)) &&& (15 : Int32)) <<< ((12 : Int32) &&& 31)) ||| ((((g (A + 1)) &&& (255 : Int32)) &&& (63 : Int32)) <<< ((6 : Int32) &&& 31))))]) (fun t k => XS.iload X31.here hx rfl (hb hby at_429) rfl k) ?_
    refine hG _ _ _ (mkF m 433 #[.val (.int i0), .val (.int i1), .val (.int i2), .val (.int cc), .val (.int pa), .val (.int fl), .val (.ref a1), .val (.int r), .val (.int (3 : Int32)), .val (.int ((g A) &&& (255 : Int32))), .val (.int ((g (A + 1)) &&& (255 : Int32))), .val (.int ((g (A + 2)) &&& (255 : Int32))), .val (.int ((g (A + 3)) &&& (255 : Int32)))] [(.int (63 : Int32)), (.int ((g (A + 2)) &&& (255 : Int32))), (.int (((((g A) &&& (255 : Int32)) &&& (15 : Int32)) <<< ((12 : Int32) &&& 31)) ||| ((((g (A + 1)) &&& (255 : Int32)) &&& (63 : Int32)) <<< ((6 : Int32) &&& 31))))]) (fun t k => XS.bipush X31.here hx rfl (hb hby at_431) k) ?_
    refine hG _ _ _ (mkF m 434 #[.val (.int i0), .val (.int i1), .val (.int i2), .val (.int cc), .val (.int pa), .val (.int fl), .val (.ref a1), .val (.int r), .val (.int (3 : Int32)), .val (.int ((g A) &&& (255 : Int32))), .val (.int ((g (A + 1)) &&& (255 : Int32))), .val (.int ((g (A + 2)) &&& (255 : Int32))), .val (.int ((g (A + 3)) &&& (255 : Int32)))] [(.int (((g (A + 2)) &&& (255 : Int32)) &&& (63 : Int32))), (.int (((((g A) &&& (255 : Int32)) &&& (15 : Int32)) <<< ((12 : Int32) &&& 31)) ||| ((((g (A + 1)) &&& (255 : Int32)) &&& (63 : Int32)) <<< ((6 : Int32) &&& 31))))]) (fun t k => XS.iand X31.here hx rfl (hb hby at_433) rfl k) ?_
    refine hG _ _ _ (mkF m 435 #[.val (.int i0), .val (.int i1), .val (.int i2), .val (.int cc), .val (.int pa), .val (.int fl), .val (.ref a1), .val (.int r), .val (.int (3 : Int32)), .val (.int ((g A) &&& (255 : Int32))), .val (.int ((g (A + 1)) &&& (255 : Int32))), .val (.int ((g (A + 2)) &&& (255 : Int32))), .val (.int ((g (A + 3)) &&& (255 : Int32)))] [(.int ((((((g A) &&& (255 : Int32)) &&& (15 : Int32)) <<< ((12 : Int32) &&& 31)) ||| ((((g (A + 1)) &&& (255 : Int32)) &&& (63 : Int32)) <<< ((6 : Int32) &&& 31))) ||| (((g (A + 2)) &&& (255 : Int32)) &&& (63 : Int32))))]) (fun t k => XS.ior X31.here hx rfl (hb hby at_434) rfl k) ?_
    refine hG _ _ _ (mkF m 436 #[.val (.int i0), .val (.int i1), .val (.int i2), .val (.int cc), .val (.int pa), .val (.int fl), .val (.ref a1), .val (.int r), .val (.int (3 : Int32)), .val (.int ((g A) &&& (255 : Int32))), .val (.int ((g (A + 1)) &&& (255 : Int32))), .val (.int ((g (A + 2)) &&& (255 : Int32))), .val (.int ((g (A + 3)) &&& (255 : Int32)))] [(.int cc), (.int ((((((g A) &&& (255 : Int32)) &&& (15 : Int32)) <<< ((12 : Int32) &&& 31)) ||| ((((g (A + 1)) &&& (255 : Int32)) &&& (63 : Int32)) <<< ((6 : Int32) &&& 31))) ||| (((g (A + 2)) &&& (255 : Int32)) &&& (63 : Int32))))]) (fun t k => XS.iloadN X31.here hx rfl (hb hby at_435) rfl k) ?_
    refine hG _ _ _ (mkF m 439 #[.val (.int i0), .val (.int i1), .val (.int i2), .val (.int cc), .val (.int pa), .val (.int fl), .val (.ref a1), .val (.int r), .val (.int (3 : Int32)), .val (.int ((g A) &&& (255 : Int32))), .val (.int ((g (A + 1)) &&& (255 : Int32))), .val (.int ((g (A + 2)) &&& (255 : Int32))), .val (.int ((g (A + 3)) &&& (255 : Int32)))] []) (fun t k => XS.icmpNo X31.here hx rfl (hb hby at_436) rfl (own_teq (own_j3 c2 c3 (own_l3 c2 c3 b0).2 ((own_tail (cc >>> ((6 : Int32) &&& 31)) b1).2.trans (by rw [(own_sh cc).1])) (own_tail cc b2).2)).2 k) ?_
    refine hG _ _ _ (mkF m 440 #[.val (.int i0), .val (.int i1), .val (.int i2), .val (.int cc), .val (.int pa), .val (.int fl), .val (.ref a1), .val (.int r), .val (.int (3 : Int32)), .val (.int ((g A) &&& (255 : Int32))), .val (.int ((g (A + 1)) &&& (255 : Int32))), .val (.int ((g (A + 2)) &&& (255 : Int32))), .val (.int ((g (A + 3)) &&& (255 : Int32)))] [(.int (1 : Int32))]) (fun t k => XS.iconst X31.here hx rfl (hb hby at_439) k) ?_
    refine hG _ _ _ (mkF m 444 #[.val (.int i0), .val (.int i1), .val (.int i2), .val (.int cc), .val (.int pa), .val (.int fl), .val (.ref a1), .val (.int r), .val (.int (3 : Int32)), .val (.int ((g A) &&& (255 : Int32))), .val (.int ((g (A + 1)) &&& (255 : Int32))), .val (.int ((g (A + 2)) &&& (255 : Int32))), .val (.int ((g (A + 3)) &&& (255 : Int32)))] [(.int (1 : Int32))]) (fun t k => XS.goto X31.here hx rfl (pc0 := 440) (pc' := 444) rfl (hb hby at_440) (by decide) (by decide) k) ?_
    exact hR _ _ _ _ _ _ X31 N31 (by decide) (by decide) rfl (fun fs hr => retN X31 hx (t := .boolean) hret (by simp) (hb hby at_444) hr)
  · refine hG _ _ _ (mkF m 84 #[.val (.int i0), .val (.int i1), .val (.int i2), .val (.int cc), .val (.int pa), .val (.int fl), .val (.ref a1), .val (.int r), .unset, .unset, .unset, .unset, .unset] [(.int cc)]) (fun t k => XS.iloadN X10.here hx rfl (hb hby at_83) rfl k) ?_
    refine hG _ _ _ (mkF m 87 #[.val (.int i0), .val (.int i1), .val (.int i2), .val (.int cc), .val (.int pa), .val (.int fl), .val (.ref a1), .val (.int r), .unset, .unset, .unset, .unset, .unset] [(.int (128 : Int32)), (.int cc)]) (fun t k => XS.sipush X10.here hx rfl (hb hby at_84) k) ?_
    refine hG _ _ _ (mkF m 96 #[.val (.int i0), .val (.int i1), .val (.int i2), .val (.int cc), .val (.int pa), .val (.int fl), .val (.ref a1), .val (.int r), .unset, .unset, .unset, .unset, .unset] []) (fun t k => XS.icmpYes X10.here hx rfl (pc0 := 87) (pc' := 96) rfl (hb hby at_87) rfl (own_flt c1).2.1 (by decide) (by decide) k) ?_
    refine hG _ _ _ (mkF m 97 #[.val (.int i0), .val (.int i1), .val (.int i2), .val (.int cc), .val (.int pa), .val (.int fl), .val (.ref a1), .val (.int r), .unset, .unset, .unset, .unset, .unset] [(.int cc)]) (fun t k => XS.iloadN X10.here hx rfl (hb hby at_96) rfl k) ?_
    refine hG _ _ _ (mkF m 100 #[.val (.int i0), .val (.int i1), .val (.int i2), .val (.int cc), .val (.int pa), .val (.int fl), .val (.ref a1), .val (.int r), .unset, .unset, .unset, .unset, .unset] [(.int (2048 : Int32)), (.int cc)]) (fun t k => XS.sipush X10.here hx rfl (hb hby at_97) k) ?_
    refine hG _ _ _ (mkF m 109 #[.val (.int i0), .val (.int i1), .val (.int i2), .val (.int cc), .val (.int pa), .val (.int fl), .val (.ref a1), .val (.int r), .unset, .unset, .unset, .unset, .unset] []) (fun t k => XS.icmpYes X10.here hx rfl (pc0 := 100) (pc' := 109) rfl (hb hby at_100) rfl (own_flt c2).2.1 (by decide) (by decide) k) ?_
    refine hG _ _ _ (mkF m 110 #[.val (.int i0), .val (.int i1), .val (.int i2), .val (.int cc), .val (.int pa), .val (.int fl), .val (.ref a1), .val (.int r), .unset, .unset, .unset, .unset, .unset] [(.int cc)]) (fun t k => XS.iloadN X10.here hx rfl (hb hby at_109) rfl k) ?_
    refine hG _ _ _ (mkF m 112 #[.val (.int i0), .val (.int i1), .val (.int i2), .val (.int cc), .val (.int pa), .val (.int fl), .val (.ref a1), .val (.int r), .unset, .unset, .unset, .unset, .unset] [(.int (65536 : Int32)), (.int cc)]) (fun t k => X10.ldcInt hx (own := "com/example/querytrail/querytrail/Utf8EncodePinLaw") (v := (65536 : Int32)) hown (mvT hZ (hw _ (List.mem_of_getElem? (i := 15) rfl))) (g := (mkF m 110 #[.val (.int i0), .val (.int i1), .val (.int i2), .val (.int cc), .val (.int pa), .val (.int fl), .val (.ref a1), .val (.int r), .unset, .unset, .unset, .unset, .unset] [(.int cc)])) rfl (hb hby at_110) t k) ?_
    refine hG _ _ _ (mkF m 121 #[.val (.int i0), .val (.int i1), .val (.int i2), .val (.int cc), .val (.int pa), .val (.int fl), .val (.ref a1), .val (.int r), .unset, .unset, .unset, .unset, .unset] []) (fun t k => XS.icmpYes X10.here hx rfl (pc0 := 112) (pc' := 121) rfl (hb hby at_112) rfl (own_flt c3).2.1 (by decide) (by decide) k) ?_
    refine hG _ _ _ (mkF m 122 #[.val (.int i0), .val (.int i1), .val (.int i2), .val (.int cc), .val (.int pa), .val (.int fl), .val (.ref a1), .val (.int r), .unset, .unset, .unset, .unset, .unset] [(.int (4 : Int32))]) (fun t k => XS.iconst X10.here hx rfl (hb hby at_121) k) ?_
    refine hG _ _ _ (mkF m 124 #[.val (.int i0), .val (.int i1), .val (.int i2), .val (.int cc), .val (.int pa), .val (.int fl), .val (.ref a1), .val (.int r), .val (.int (4 : Int32)), .unset, .unset, .unset, .unset] []) (fun t k => XS.istore X10.here hx rfl (hb hby at_122) rfl (l' := #[.val (.int i0), .val (.int i1), .val (.int i2), .val (.int cc), .val (.int pa), .val (.int fl), .val (.ref a1), .val (.int r), .val (.int (4 : Int32)), .unset, .unset, .unset, .unset]) rfl k) ?_
    refine hG _ _ _ (mkF m 126 #[.val (.int i0), .val (.int i1), .val (.int i2), .val (.int cc), .val (.int pa), .val (.int fl), .val (.ref a1), .val (.int r), .val (.int (4 : Int32)), .unset, .unset, .unset, .unset] [(.int r)]) (fun t k => XS.iload X10.here hx rfl (hb hby at_124) rfl k) ?_
    refine hG _ _ _ (mkF m 128 #[.val (.int i0), .val (.int i1), .val (.int i2), .val (.int cc), .val (.int pa), .val (.int fl), .val (.ref a1), .val (.int r), .val (.int (4 : Int32)), .unset, .unset, .unset, .unset] [(.int pa), (.int r)]) (fun t k => XS.iload X10.here hx rfl (hb hby at_126) rfl k) ?_
    refine hG _ _ _ (mkF m 130 #[.val (.int i0), .val (.int i1), .val (.int i2), .val (.int cc), .val (.int pa), .val (.int fl), .val (.ref a1), .val (.int r), .val (.int (4 : Int32)), .unset, .unset, .unset, .unset] [(.int (4 : Int32)), (.int pa), (.int r)]) (fun t k => XS.iload X10.here hx rfl (hb hby at_128) rfl k) ?_
    refine hG _ _ _ (mkF m 131 #[.val (.int i0), .val (.int i1), .val (.int i2), .val (.int cc), .val (.int pa), .val (.int fl), .val (.ref a1), .val (.int r), .val (.int (4 : Int32)), .unset, .unset, .unset, .unset] [(.int (pa + (4 : Int32))), (.int r)]) (fun t k => XS.iadd X10.here hx rfl (hb hby at_130) rfl k) ?_
    refine hG _ _ _ (mkF m 136 #[.val (.int i0), .val (.int i1), .val (.int i2), .val (.int cc), .val (.int pa), .val (.int fl), .val (.ref a1), .val (.int r), .val (.int (4 : Int32)), .unset, .unset, .unset, .unset] []) (fun t k => XS.icmpYes X10.here hx rfl (pc0 := 131) (pc' := 136) rfl (hb hby at_131) rfl (own_teq (own_next (4 : Int32) hp hA hr (by decide) (by decide))).1 (by decide) (by decide) k) ?_
    refine mid136 i0 i1 i2 cc pa fl r (4 : Int32) a1 A 4 g X10 hx hZ hw hby hml hown hret rfl N10 (by decide) (by decide) hG hR V10 hA hp hr hg Z10 (fun T' L' X11 e11 N11 => ?_)
    refine hG _ _ _ (mkF m 312 #[.val (.int i0), .val (.int i1), .val (.int i2), .val (.int cc), .val (.int pa), .val (.int fl), .val (.ref a1), .val (.int r), .val (.int (4 : Int32)), .val (.int ((g A) &&& (255 : Int32))), .val (.int ((g (A + 1)) &&& (255 : Int32))), .val (.int ((g (A + 2)) &&& (255 : Int32))), .val (.int ((g (A + 3)) &&& (255 : Int32)))] [(.int (4 : Int32))]) (fun t k => XS.iload X11.here hx rfl (hb hby at_310) rfl k) ?_
    refine hG _ _ _ (mkF m 313 #[.val (.int i0), .val (.int i1), .val (.int i2), .val (.int cc), .val (.int pa), .val (.int fl), .val (.ref a1), .val (.int r), .val (.int (4 : Int32)), .val (.int ((g A) &&& (255 : Int32))), .val (.int ((g (A + 1)) &&& (255 : Int32))), .val (.int ((g (A + 2)) &&& (255 : Int32))), .val (.int ((g (A + 3)) &&& (255 : Int32)))] [(.int (1 : Int32)), (.int (4 : Int32))]) (fun t k => XS.iconst X11.here hx rfl (hb hby at_312) k) ?_
    refine hG _ _ _ (mkF m 328 #[.val (.int i0), .val (.int i1), .val (.int i2), .val (.int cc), .val (.int pa), .val (.int fl), .val (.ref a1), .val (.int r), .val (.int (4 : Int32)), .val (.int ((g A) &&& (255 : Int32))), .val (.int ((g (A + 1)) &&& (255 : Int32))), .val (.int ((g (A + 2)) &&& (255 : Int32))), .val (.int ((g (A + 3)) &&& (255 : Int32)))] []) (fun t k => XS.icmpYes X11.here hx rfl (pc0 := 313) (pc' := 328) rfl (hb hby at_313) rfl (own_feq (by decide)).2 (by decide) (by decide) k) ?_
    refine hG _ _ _ (mkF m 330 #[.val (.int i0), .val (.int i1), .val (.int i2), .val (.int cc), .val (.int pa), .val (.int fl), .val (.ref a1), .val (.int r), .val (.int (4 : Int32)), .val (.int ((g A) &&& (255 : Int32))), .val (.int ((g (A + 1)) &&& (255 : Int32))), .val (.int ((g (A + 2)) &&& (255 : Int32))), .val (.int ((g (A + 3)) &&& (255 : Int32)))] [(.int (4 : Int32))]) (fun t k => XS.iload X11.here hx rfl (hb hby at_328) rfl k) ?_
    refine hG _ _ _ (mkF m 331 #[.val (.int i0), .val (.int i1), .val (.int i2), .val (.int cc), .val (.int pa), .val (.int fl), .val (.ref a1), .val (.int r), .val (.int (4 : Int32)), .val (.int ((g A) &&& (255 : Int32))), .val (.int ((g (A + 1)) &&& (255 : Int32))), .val (.int ((g (A + 2)) &&& (255 : Int32))), .val (.int ((g (A + 3)) &&& (255 : Int32)))] [(.int (2 : Int32)), (.int (4 : Int32))]) (fun t k => XS.iconst X11.here hx rfl (hb hby at_330) k) ?_
    refine hG _ _ _ (mkF m 378 #[.val (.int i0), .val (.int i1), .val (.int i2), .val (.int cc), .val (.int pa), .val (.int fl), .val (.ref a1), .val (.int r), .val (.int (4 : Int32)), .val (.int ((g A) &&& (255 : Int32))), .val (.int ((g (A + 1)) &&& (255 : Int32))), .val (.int ((g (A + 2)) &&& (255 : Int32))), .val (.int ((g (A + 3)) &&& (255 : Int32)))] []) (fun t k => XS.icmpYes X11.here hx rfl (pc0 := 331) (pc' := 378) rfl (hb hby at_331) rfl (own_feq (by decide)).2 (by decide) (by decide) k) ?_
    refine hG _ _ _ (mkF m 380 #[.val (.int i0), .val (.int i1), .val (.int i2), .val (.int cc), .val (.int pa), .val (.int fl), .val (.ref a1), .val (.int r), .val (.int (4 : Int32)), .val (.int ((g A) &&& (255 : Int32))), .val (.int ((g (A + 1)) &&& (255 : Int32))), .val (.int ((g (A + 2)) &&& (255 : Int32))), .val (.int ((g (A + 3)) &&& (255 : Int32)))] [(.int (4 : Int32))]) (fun t k => XS.iload X11.here hx rfl (hb hby at_378) rfl k) ?_
    refine hG _ _ _ (mkF m 381 #[.val (.int i0), .val (.int i1), .val (.int i2), .val (.int cc), .val (.int pa), .val (.int fl), .val (.ref a1), .val (.int r), .val (.int (4 : Int32)), .val (.int ((g A) &&& (255 : Int32))), .val (.int ((g (A + 1)) &&& (255 : Int32))), .val (.int ((g (A + 2)) &&& (255 : Int32))), .val (.int ((g (A + 3)) &&& (255 : Int32)))] [(.int (3 : Int32)), (.int (4 : Int32))]) (fun t k => XS.iconst X11.here hx rfl (hb hby at_380) k) ?_
    refine hG _ _ _ (mkF m 445 #[.val (.int i0), .val (.int i1), .val (.int i2), .val (.int cc), .val (.int pa), .val (.int fl), .val (.ref a1), .val (.int r), .val (.int (4 : Int32)), .val (.int ((g A) &&& (255 : Int32))), .val (.int ((g (A + 1)) &&& (255 : Int32))), .val (.int ((g (A + 2)) &&& (255 : Int32))), .val (.int ((g (A + 3)) &&& (255 : Int32)))] []) (fun t k => XS.icmpYes X11.here hx rfl (pc0 := 381) (pc' := 445) rfl (hb hby at_381) rfl (own_feq (by decide)).2 (by decide) (by decide) k) ?_
    refine hG _ _ _ (mkF m 447 #[.val (.int i0), .val (.int i1), .val (.int i2), .val (.int cc), .val (.int pa), .val (.int fl), .val (.ref a1), .val (.int r), .val (.int (4 : Int32)), .val (.int ((g A) &&& (255 : Int32))), .val (.int ((g (A + 1)) &&& (255 : Int32))), .val (.int ((g (A + 2)) &&& (255 : Int32))), .val (.int ((g (A + 3)) &&& (255 : Int32)))] [(.int ((g A) &&& (255 : Int32)))]) (fun t k => XS.iload X11.here hx rfl (hb hby at_445) rfl k) ?_
    refine hG _ _ _ (mkF m 450 #[.val (.int i0), .val (.int i1), .val (.int i2), .val (.int cc), .val (.int pa), .val (.int fl), .val (.ref a1), .val (.int r), .val (.int (4 : Int32)), .val (.int ((g A) &&& (255 : Int32))), .val (.int ((g (A + 1)) &&& (255 : Int32))), .val (.int ((g (A + 2)) &&& (255 : Int32))), .val (.int ((g (A + 3)) &&& (255 : Int32)))] [(.int (248 : Int32)), (.int ((g A) &&& (255 : Int32)))]) (fun t k => XS.sipush X11.here hx rfl (hb hby at_447) k) ?_
    refine hG _ _ _ (mkF m 451 #[.val (.int i0), .val (.int i1), .val (.int i2), .val (.int cc), .val (.int pa), .val (.int fl), .val (.ref a1), .val (.int r), .val (.int (4 : Int32)), .val (.int ((g A) &&& (255 : Int32))), .val (.int ((g (A + 1)) &&& (255 : Int32))), .val (.int ((g (A + 2)) &&& (255 : Int32))), .val (.int ((g (A + 3)) &&& (255 : Int32)))] [(.int (((g A) &&& (255 : Int32)) &&& (248 : Int32)))]) (fun t k => XS.iand X11.here hx rfl (hb hby at_450) rfl k) ?_
    refine hG _ _ _ (mkF m 454 #[.val (.int i0), .val (.int i1), .val (.int i2), .val (.int cc), .val (.int pa), .val (.int fl), .val (.ref a1), .val (.int r), .val (.int (4 : Int32)), .val (.int ((g A) &&& (255 : Int32))), .val (.int ((g (A + 1)) &&& (255 : Int32))), .val (.int ((g (A + 2)) &&& (255 : Int32))), .val (.int ((g (A + 3)) &&& (255 : Int32)))] [(.int (240 : Int32)), (.int (((g A) &&& (255 : Int32)) &&& (248 : Int32)))]) (fun t k => XS.sipush X11.here hx rfl (hb hby at_451) k) ?_
    refine hG _ _ _ (mkF m 457 #[.val (.int i0), .val (.int i1), .val (.int i2), .val (.int cc), .val (.int pa), .val (.int fl), .val (.ref a1), .val (.int r), .val (.int (4 : Int32)), .val (.int ((g A) &&& (255 : Int32))), .val (.int ((g (A + 1)) &&& (255 : Int32))), .val (.int ((g (A + 2)) &&& (255 : Int32))), .val (.int ((g (A + 3)) &&& (255 : Int32)))] []) (fun t k => XS.icmpNo X11.here hx rfl (hb hby at_454) rfl (own_teq (own_l4 c3 hc1 b0).1).2 k) ?_
    refine hG _ _ _ (mkF m 459 #[.val (.int i0), .val (.int i1), .val (.int i2), .val (.int cc), .val (.int pa), .val (.int fl), .val (.ref a1), .val (.int r), .val (.int (4 : Int32)), .val (.int ((g A) &&& (255 : Int32))), .val (.int ((g (A + 1)) &&& (255 : Int32))), .val (.int ((g (A + 2)) &&& (255 : Int32))), .val (.int ((g (A + 3)) &&& (255 : Int32)))] [(.int ((g (A + 1)) &&& (255 : Int32)))]) (fun t k => XS.iload X11.here hx rfl (hb hby at_457) rfl k) ?_
    obtain ⟨v30, T30, L30, X30, q30, st30⟩ := own_call X11 hx hZ e11 (argsL := [(.int ((g (A + 1)) &&& (255 : Int32)))]) (rest := []) (W := 0) hown (hw _ (List.mem_of_getElem? (i := 11) rfl)) (hw _ (List.mem_of_getElem? (i := 12) rfl)) (hw _ (List.mem_of_getElem? (i := 9) rfl)) (hw _ (List.mem_of_getElem? (i := 13) rfl)) (by decide) (rm3 l Z a0 hw [] ((g (A + 1)) &&& (255 : Int32)) T10.heap n0 Z10 (own_tail (cc >>> ((12 : Int32) &&& 31)) b1).1) (by decide) (by decide) (Ls := #[.val (.int i0), .val (.int i1), .val (.int i2), .val (.int cc), .val (.int pa), .val (.int fl), .val (.ref a1), .val (.int r), .val (.int (4 : Int32)), .val (.int ((g A) &&& (255 : Int32))), .val (.int ((g (A + 1)) &&& (255 : Int32))), .val (.int ((g (A + 2)) &&& (255 : Int32))), .val (.int ((g (A + 3)) &&& (255 : Int32)))]) (by rw [hml]; rfl) (lenOf pd_3 rfl) (by decide) (hb hby at_459) (by decide) (by decide)
    obtain ⟨w30, rfl, ⟨rfl, e30⟩, M30⟩ := q30
    have N30 := Fr.app N11 M30
    refine hG _ _ _ (mkF m 462 #[.val (.int i0), .val (.int i1), .val (.int i2), .val (.int cc), .val (.int pa), .val (.int fl), .val (.ref a1), .val (.int r), .val (.int (4 : Int32)), .val (.int ((g A) &&& (255 : Int32))), .val (.int ((g (A + 1)) &&& (255 : Int32))), .val (.int ((g (A + 2)) &&& (255 : Int32))), .val (.int ((g (A + 3)) &&& (255 : Int32)))] [(.int (1 : Int32))]) (fun t k => st30 t k) ?_
    refine hG _ _ _ (mkF m 465 #[.val (.int i0), .val (.int i1), .val (.int i2), .val (.int cc), .val (.int pa), .val (.int fl), .val (.ref a1), .val (.int r), .val (.int (4 : Int32)), .val (.int ((g A) &&& (255 : Int32))), .val (.int ((g (A + 1)) &&& (255 : Int32))), .val (.int ((g (A + 2)) &&& (255 : Int32))), .val (.int ((g (A + 3)) &&& (255 : Int32)))] []) (fun t k => XS.ifNo X30.here hx rfl (hb hby at_462) rfl ((if0 _ _).trans (own_feq (by decide)).1) k) ?_
    refine hG _ _ _ (mkF m 467 #[.val (.int i0), .val (.int i1), .val (.int i2), .val (.int cc), .val (.int pa), .val (.int fl), .val (.ref a1), .val (.int r), .val (.int (4 : Int32)), .val (.int ((g A) &&& (255 : Int32))), .val (.int ((g (A + 1)) &&& (255 : Int32))), .val (.int ((g (A + 2)) &&& (255 : Int32))), .val (.int ((g (A + 3)) &&& (255 : Int32)))] [(.int ((g (A + 2)) &&& (255 : Int32)))]) (fun t k => XS.iload X30.here hx rfl (hb hby at_465) rfl k) ?_
    obtain ⟨v31, T31, L31, X31, q31, st31⟩ := own_call X30 hx hZ e30 (argsL := [(.int ((g (A + 2)) &&& (255 : Int32)))]) (rest := []) (W := 0) hown (hw _ (List.mem_of_getElem? (i := 11) rfl)) (hw _ (List.mem_of_getElem? (i := 12) rfl)) (hw _ (List.mem_of_getElem? (i := 9) rfl)) (hw _ (List.mem_of_getElem? (i := 13) rfl)) (by decide) (rm3 l Z a0 hw [] ((g (A + 2)) &&& (255 : Int32)) T10.heap n0 Z10 (own_tail (cc >>> ((6 : Int32) &&& 31)) b2).1) (by decide) (by decide) (Ls := #[.val (.int i0), .val (.int i1), .val (.int i2), .val (.int cc), .val (.int pa), .val (.int fl), .val (.ref a1), .val (.int r), .val (.int (4 : Int32)), .val (.int ((g A) &&& (255 : Int32))), .val (.int ((g (A + 1)) &&& (255 : Int32))), .val (.int ((g (A + 2)) &&& (255 : Int32))), .val (.int ((g (A + 3)) &&& (255 : Int32)))]) (by rw [hml]; rfl) (lenOf pd_3 rfl) (by decide) (hb hby at_467) (by decide) (by decide)
    obtain ⟨w31, rfl, ⟨rfl, e31⟩, M31⟩ := q31
    have N31 := Fr.app N30 M31
    refine hG _ _ _ (mkF m 470 #[.val (.int i0), .val (.int i1), .val (.int i2), .val (.int cc), .val (.int pa), .val (.int fl), .val (.ref a1), .val (.int r), .val (.int (4 : Int32)), .val (.int ((g A) &&& (255 : Int32))), .val (.int ((g (A + 1)) &&& (255 : Int32))), .val (.int ((g (A + 2)) &&& (255 : Int32))), .val (.int ((g (A + 3)) &&& (255 : Int32)))] [(.int (1 : Int32))]) (fun t k => st31 t k) ?_
    refine hG _ _ _ (mkF m 473 #[.val (.int i0), .val (.int i1), .val (.int i2), .val (.int cc), .val (.int pa), .val (.int fl), .val (.ref a1), .val (.int r), .val (.int (4 : Int32)), .val (.int ((g A) &&& (255 : Int32))), .val (.int ((g (A + 1)) &&& (255 : Int32))), .val (.int ((g (A + 2)) &&& (255 : Int32))), .val (.int ((g (A + 3)) &&& (255 : Int32)))] []) (fun t k => XS.ifNo X31.here hx rfl (hb hby at_470) rfl ((if0 _ _).trans (own_feq (by decide)).1) k) ?_
    refine hG _ _ _ (mkF m 475 #[.val (.int i0), .val (.int i1), .val (.int i2), .val (.int cc), .val (.int pa), .val (.int fl), .val (.ref a1), .val (.int r), .val (.int (4 : Int32)), .val (.int ((g A) &&& (255 : Int32))), .val (.int ((g (A + 1)) &&& (255 : Int32))), .val (.int ((g (A + 2)) &&& (255 : Int32))), .val (.int ((g (A + 3)) &&& (255 : Int32)))] [(.int ((g (A + 3)) &&& (255 : Int32)))]) (fun t k => XS.iload X31.here hx rfl (hb hby at_473) rfl k) ?_
    obtain ⟨v32, T32, L32, X32, q32, st32⟩ := own_call X31 hx hZ e31 (argsL := [(.int ((g (A + 3)) &&& (255 : Int32)))]) (rest := []) (W := 0) hown (hw _ (List.mem_of_getElem? (i := 11) rfl)) (hw _ (List.mem_of_getElem? (i := 12) rfl)) (hw _ (List.mem_of_getElem? (i := 9) rfl)) (hw _ (List.mem_of_getElem? (i := 13) rfl)) (by decide) (rm3 l Z a0 hw [] ((g (A + 3)) &&& (255 : Int32)) T10.heap n0 Z10 (own_tail cc b3).1) (by decide) (by decide) (Ls := #[.val (.int i0), .val (.int i1), .val (.int i2), .val (.int cc), .val (.int pa), .val (.int fl), .val (.ref a1), .val (.int r), .val (.int (4 : Int32)), .val (.int ((g A) &&& (255 : Int32))), .val (.int ((g (A + 1)) &&& (255 : Int32))), .val (.int ((g (A + 2)) &&& (255 : Int32))), .val (.int ((g (A + 3)) &&& (255 : Int32)))]) (by rw [hml]; rfl) (lenOf pd_3 rfl) (by decide) (hb hby at_475) (by decide) (by decide)
    obtain ⟨w32, rfl, ⟨rfl, e32⟩, M32⟩ := q32
    have N32 := Fr.app N31 M32
    refine hG _ _ _ (mkF m 478 #[.val (.int i0), .val (.int i1), .val (.int i2), .val (.int cc), .val (.int pa), .val (.int fl), .val (.ref a1), .val (.int r), .val (.int (4 : Int32)), .val (.int ((g A) &&& (255 : Int32))), .val (.int ((g (A + 1)) &&& (255 : Int32))), .val (.int ((g (A + 2)) &&& (255 : Int32))), .val (.int ((g (A + 3)) &&& (255 : Int32)))] [(.int (1 : Int32))]) (fun t k => st32 t k) ?_
    refine hG _ _ _ (mkF m 481 #[.val (.int i0), .val (.int i1), .val (.int i2), .val (.int cc), .val (.int pa), .val (.int fl), .val (.ref a1), .val (.int r), .val (.int (4 : Int32)), .val (.int ((g A) &&& (255 : Int32))), .val (.int ((g (A + 1)) &&& (255 : Int32))), .val (.int ((g (A + 2)) &&& (255 : Int32))), .val (.int ((g (A + 3)) &&& (255 : Int32)))] []) (fun t k => XS.ifNo X32.here hx rfl (hb hby at_478) rfl ((if0 _ _).trans (own_feq (by decide)).1) k) ?_
    refine hG _ _ _ (mkF m 483 #[.val (.int i0), .val (.int i1), .val (.int i2), .val (.int cc), .val (.int pa), .val (.int fl), .val (.ref a1), .val (.int r), .val (.int (4 : Int32)), .val (.int ((g A) &&& (255 : Int32))), .val (.int ((g (A + 1)) &&& (255 : Int32))), .val (.int ((g (A + 2)) &&& (255 : Int32))), .val (.int ((g (A + 3)) &&& (255 : Int32)))] [(.int ((g A) &&& (255 : Int32)))]) (fun t k => XS.iload X32.here hx rfl (hb hby at_481) rfl k) ?_
    refine hG _ _ _ (mkF m 485 #[.val (.int i0), .val (.int i1), .val (.int i2), .val (.int cc), .val (.int pa), .val (.int fl), .val (.ref a1), .val (.int r), .val (.int (4 : Int32)), .val (.int ((g A) &&& (255 : Int32))), .val (.int ((g (A + 1)) &&& (255 : Int32))), .val (.int ((g (A + 2)) &&& (255 : Int32))), .val (.int ((g (A + 3)) &&& (255 : Int32)))] [(.int (7 : Int32)), (.int ((g A) &&& (255 : Int32)))]) (fun t k => XS.bipush X32.here hx rfl (hb hby at_483) k) ?_
    refine hG _ _ _ (mkF m 486 #[.val (.int i0), .val (.int i1), .val (.int i2), .val (.int cc), .val (.int pa), .val (.int fl), .val (.ref a1), .val (.int r), .val (.int (4 : Int32)), .val (.int ((g A) &&& (255 : Int32))), .val (.int ((g (A + 1)) &&& (255 : Int32))), .val (.int ((g (A + 2)) &&& (255 : Int32))), .val (.int ((g (A + 3)) &&& (255 : Int32)))] [(.int (((g A) &&& (255 : Int32)) &&& (7 : Int32)))]) (fun t k => XS.iand X32.here hx rfl (hb hby at_485) rfl k) ?_
    refine hG _ _ _ (mkF m 488 #[.val (.int i0), .val (.int i1), .val (.int i2), .val (.int cc), .val (.int pa), .val (.int fl), .val (.ref a1), .val (.int r), .val (.int (4 : Int32)), .val (.int ((g A) &&& (255 : Int32))), .val (.int ((g (A + 1)) &&& (255 : Int32))), .val (.int ((g (A + 2)) &&& (255 : Int32))), .val (.int ((g (A + 3)) &&& (255 : Int32)))] [(.int (18 : Int32)), (.int (((g A) &&& (255 : Int32)) &&& (7 : Int32)))]) (fun t k => XS.bipush X32.here hx rfl (hb hby at_486) k) ?_
    refine hG _ _ _ (mkF m 489 #[.val (.int i0), .val (.int i1), .val (.int i2), .val (.int cc), .val (.int pa), .val (.int fl), .val (.ref a1), .val (.int r), .val (.int (4 : Int32)), .val (.int ((g A) &&& (255 : Int32))), .val (.int ((g (A + 1)) &&& (255 : Int32))), .val (.int ((g (A + 2)) &&& (255 : Int32))), .val (.int ((g (A + 3)) &&& (255 : Int32)))] [(.int ((((g A) &&& (255 : Int32)) &&& (7 : Int32)) <<< ((18 : Int32) &&& 31)))]) (fun t k => XS.ishl X32.here hx rfl (hb hby at_488) rfl k) ?_
    refine hG _ _ _ (mkF m 491 #[.val (.int i0), .val (.int i1), .val (.int i2), .val (.int cc), .val (.int pa), .val (.int fl), .val (.ref a1), .val (.int r), .val (.int (4 : Int32)), .val (.int ((g A) &&& (255 : Int32))), .val (.int ((g (A + 1)) &&& (255 : Int32))), .val (.int ((g (A + 2)) &&& (255 : Int32))), .val (.int ((g (A + 3)) &&& (255 : Int32)))] [(.int ((g (A + 1)) &&& (255 : Int32))), (.int ((((g A) &&& (255 : Int32)) &&& (7 : Int32)) <<< ((18 : Int32) &&& 31)))]) (fun t k => XS.iload X32.here hx rfl (hb hby at_489) rfl k) ?_
    refine hG _ _ _ (mkF m 493 #[.val (.int i0), .val (.int i1), .val (.int i2), .val (.int cc), .val (.int pa), .val (.int fl), .val (.ref a1), .val (.int r), .val (.int (4 : Int32)), .val (.int ((g A) &&& (255 : Int32))), .val (.int ((g (A + 1)) &&& (255 : Int32))), .val (.int ((g (A + 2)) &&& (255 : Int32))), .val (.int ((g (A + 3)) &&& (255 : Int32)))] [(.int (63 : Int32)), (.int ((g (A + 1)) &&& (255 : Int32))), (.int ((((g A) &&& (255 : Int32)) &&& (7 : Int32)) <<< ((18 : Int32) &&& 31)))]) (fun t k => XS.bipush X32.here hx rfl (hb hby at_491) k) ?_
    refine hG _ _ _ (mkF m 494 #[.val (.int i0), .val (.int i1), .val (.int i2), .val (.int cc), .val (.int pa), .val (.int fl), .val (.ref a1), .val (.int r), .val (.int (4 : Int32)), .val (.int ((g A) &&& (255 : Int32))), .val (.int ((g (A + 1)) &&& (255 : Int32))), .val (.int ((g (A + 2)) &&& (255 : Int32))), .val (.int ((g (A + 3)) &&& (255 : Int32)))] [(.int (((g (A + 1)) &&& (255 : Int32)) &&& (63 : Int32))), (.int ((((g A) &&& (255 : Int32)) &&& (7 : Int32)) <<< ((18 : Int32) &&& 31)))]) (fun t k => XS.iand X32.here hx rfl (hb hby at_493) rfl k) ?_
    refine hG _ _ _ (mkF m 496 #[.val (.int i0), .val (.int i1), .val (.int i2), .val (.int cc), .val (.int pa), .val (.int fl), .val (.ref a1), .val (.int r), .val (.int (4 : Int32)), .val (.int ((g A) &&& (255 : Int32))), .val (.int ((g (A + 1)) &&& (255 : Int32))), .val (.int ((g (A + 2)) &&& (255 : Int32))), .val (.int ((g (A + 3)) &&& (255 : Int32)))] [(.int (12 : Int32)), (.int (((g (A + 1)) &&& (255 : Int32)) &&& (63 : Int32))), (.int ((((g A) &&& (255 : Int32)) &&& (7 : Int32)) <<< ((18 : Int32) &&& 31)))]) (fun t k => XS.bipush X32.here hx rfl (hb hby at_494) k) ?_
    refine hG _ _ _ (mkF m 497 #[.val (.int i0), .val (.int i1), .val (.int i2), .val (.int cc), .val (.int pa), .val (.int fl), .val (.ref a1), .val (.int r), .val (.int (4 : Int32)), .val (.int ((g A) &&& (255 : Int32))), .val (.int ((g (A + 1)) &&& (255 : Int32))), .val (.int ((g (A + 2)) &&& (255 : Int32))), .val (.int ((g (A + 3)) &&& (255 : Int32)))] [(.int ((((g (A + 1)) &&& (255 : Int32)) &&& (63 : Int32)) <<< ((12 : Int32) &&& 31))), (.int ((((g A) &&& (255 : Int32)) &&& (7 : Int32)) <<< ((18 : Int32) &&& 31)))]) (fun t k => XS.ishl X32.here hx rfl (hb hby at_496) rfl k) ?_
    refine hG _ _ _ (mkF m 498 #[.val (.int i0), .val (.int i1), .val (.int i2), .val (.int cc), .val (.int pa), .val (.int fl), .val (.ref a1), .val (.int r), .val (.int (4 : Int32)), .val (.int ((g A) &&& (255 : Int32))), .val (.int ((g (A + 1)) &&& (255 : Int32))), .val (.int ((g (A + 2)) &&& (255 : Int32))), .val (.int ((g (A + 3)) &&& (255 : Int32)))] [(.int (((((g A) &&& (255 : Int32)) &&& (7 : Int32)) <<< ((18 : Int32) &&& 31)) ||| ((((g (A + 1)) &&& (255 : Int32)) &&& (63 : Int32)) <<< ((12 : Int32) &&& 31))))]) (fun t k => XS.ior X32.here hx rfl (hb hby at_497) rfl k) ?_
    refine hG _ _ _ (mkF m 500 #[.val (.int i0), .val (.int i1), .val (.int i2), .val (.int cc), .val (.int pa), .val (.int fl), .val (.ref a1), .val (.int r), .val (.int (4 : Int32)), .val (.int ((g A) &&& (255 : Int32))), .val (.int ((g (A + 1)) &&& (255 : Int32))), .val (.int ((g (A + 2)) &&& (255 : Int32))), .val (.int ((g (A + 3)) &&& (255 : Int32)))] [(.int ((g (A + 2)) &&& (255 : Int32))), (.int (((((g A) &&& (255 : Int32)) &&& (7 : Int32)) <<< ((18 : Int32) &&& 31)) ||| ((((g (A + 1)) &&& (255 : Int32)) &&& (63 : Int32)) <<< ((12 : Int32) &&& 31))))]) (fun t k => XS.iload X32.here hx rfl (hb hby at_498) rfl k) ?_
    refine hG _ _ _ (mkF m 502 #[.val (.int i0), .val (.int i1), .val (.int i2), .val (.int cc), .val (.int pa), .val (.int fl), .val (.ref a1), .val (.int r), .val (.int (4 : Int32)), .val (.int ((g A) &&& (255 : Int32))), .val (.int ((g (A + 1)) &&& (255 : Int32))), .val (.int ((g (A + 2)) &&& (255 : Int32))), .val (.int ((g (A + 3)) &&& (255 : Int32)))] [(.int (63 : Int32)), (.int ((g (A + 2)) &&& (255 : Int32))), (.int (((((g A) &&& (255 : Int32)) &&& (7 : Int32)) <<< ((18 : Int32) &&& 31)) ||| ((((g (A + 1)) &&& (255 : Int32)) &&& (63 : Int32)) <<< ((12 : Int32) &&& 31))))]) (fun t k => XS.bipush X32.here hx rfl (hb hby at_500) k) ?_
    refine hG _ _ _ (mkF m 503 #[.val (.int i0), .val (.int i1), .val (.int i2), .val (.int cc), .val (.int pa), .val (.int fl), .val (.ref a1), .val (.int r), .val (.int (4 : Int32)), .val (.int ((g A) &&& (255 : Int32))), .val (.int ((g (A + 1)) &&& (255 : Int32))), .val (.int ((g (A + 2)) &&& (255 : Int32))), .val (.int ((g (A + 3)) &&& (255 : Int32)))] [(.int (((g (A + 2)) &&& (255 : Int32)) &&& (63 : Int32))), (.int (((((g A) &&& (255 : Int32)) &&& (7 : Int32)) <<< ((18 : Int32) &&& 31)) ||| ((((g (A + 1)) &&& (255 : Int32)) &&& (63 : Int32)) <<< ((12 : Int32) &&& 31))))]) (fun t k => XS.iand X32.here hx rfl (hb hby at_502) rfl k) ?_
    refine hG _ _ _ (mkF m 505 #[.val (.int i0), .val (.int i1), .val (.int i2), .val (.int cc), .val (.int pa), .val (.int fl), .val (.ref a1), .val (.int r), .val (.int (4 : Int32)), .val (.int ((g A) &&& (255 : Int32))), .val (.int ((g (A + 1)) &&& (255 : Int32))), .val (.int ((g (A + 2)) &&& (255 : Int32))), .val (.int ((g (A + 3)) &&& (255 : Int32)))] [(.int (6 : Int32)), (.int (((g (A + 2)) &&& (255 : Int32)) &&& (63 : Int32))), (.int (((((g A) &&& (255 : Int32)) &&& (7 : Int32)) <<< ((18 : Int32) &&& 31)) ||| ((((g (A + 1)) &&& (255 : Int32)) &&& (63 : Int32)) <<< ((12 : Int32) &&& 31))))]) (fun t k => XS.bipush X32.here hx rfl (hb hby at_503) k) ?_
    refine hG _ _ _ (mkF m 506 #[.val (.int i0), .val (.int i1), .val (.int i2), .val (.int cc), .val (.int pa), .val (.int fl), .val (.ref a1), .val (.int r), .val (.int (4 : Int32)), .val (.int ((g A) &&& (255 : Int32))), .val (.int ((g (A + 1)) &&& (255 : Int32))), .val (.int ((g (A + 2)) &&& (255 : Int32))), .val (.int ((g (A + 3)) &&& (255 : Int32)))] [(.int ((((g (A + 2)) &&& (255 : Int32)) &&& (63 : Int32)) <<< ((6 : Int32) &&& 31))), (.int (((((g A) &&& (255 : Int32)) &&& (7 : Int32)) <<< ((18 : Int32) &&& 31)) ||| ((((g (A + 1)) &&& (255 : Int32)) &&& (63 : Int32)) <<< ((12 : Int32) &&& 31))))]) (fun t k => XS.ishl X32.here hx rfl (hb hby at_505) rfl k) ?_
    refine hG _ _ _ (mkF m 507 #[.val (.int i0), .val (.int i1), .val (.int i2), .val (.int cc), .val (.int pa), .val (.int fl), .val (.ref a1), .val (.int r), .val (.int (4 : Int32)), .val (.int ((g A) &&& (255 : Int32))), .val (.int ((g (A + 1)) &&& (255 : Int32))), .val (.int ((g (A + 2)) &&& (255 : Int32))), .val (.int ((g (A + 3)) &&& (255 : Int32)))] [(.int ((((((g A) &&& (255 : Int32)) &&& (7 : Int32)) <<< ((18 : Int32) &&& 31)) ||| ((((g (A + 1)) &&& (255 : Int32)) &&& (63 : Int32)) <<< ((12 : Int32) &&& 31))) ||| ((((g (A + 2)) &&& (255 : Int32)) &&& (63 : Int32)) <<< ((6 : Int32) &&& 31))))]) (fun t k => XS.ior X32.here hx rfl (hb hby at_506) rfl k) ?_
    refine hG _ _ _ (mkF m 509 #[.val (.int i0), .val (.int i1), .val (.int i2), .val (.int cc), .val (.int pa), .val (.int fl), .val (.ref a1), .val (.int r), .val (.int (4 : Int32)), .val (.int ((g A) &&& (255 : Int32))), .val (.int ((g (A + 1)) &&& (255 : Int32))), .val (.int ((g (A + 2)) &&& (255 : Int32))), .val (.int ((g (A + 3)) &&& (255 : Int32)))] [(.int ((g (A + 3)) &&& (255 : Int32))), (.int ((((((g A) &&& (255 : Int32)) &&& (7 : Int32)) <<< ((18 : Int32) &&& 31)) ||| ((((g (A + 1)) &&& (255 : Int32)) &&& (63 : Int32)) <<< ((12 : Int32) &&& 31))) ||| ((((g (A + 2)) &&& (255 : Int32)) &&& (63 : Int32)) <<< ((6 : Int32) &&& 31))))]) (fun t k => XS.iload X32.here hx rfl (hb hby at_507) rfl k) ?_
    refine hG _ _ _ (mkF m 511 #[.val (.int i0), .val (.int i1), .val (.int i2), .val (.int cc), .val (.int pa), .val (.int fl), .val (.ref a1), .val (.int r), .val (.int (4 : Int32)), .val (.int ((g A) &&& (255 : Int32))), .val (.int ((g (A + 1)) &&& (255 : Int32))), .val (.int ((g (A + 2)) &&& (255 : Int32))), .val (.int ((g (A + 3)) &&& (255 : Int32)))] [(.int (63 : Int32)), (.int ((g (A + 3)) &&& (255 : Int32))), (.int ((((((g A) &&& (255 : Int32)) &&& (7 : Int32)) <<< ((18 : Int32) &&& 31)) ||| ((((g (A + 1)) &&& (255 : Int32)) &&& (63 : Int32)) <<< ((12 : Int32) &&& 31))) ||| ((((g (A + 2)) &&& (255 : Int32)) &&& (63 : Int32)) <<< ((6 : Int32) &&& 31))))]) (fun t k => XS.bipush X32.here hx rfl (hb hby at_509) k) ?_
    refine hG _ _ _ (mkF m 512 #[.val (.int i0), .val (.int i1), .val (.int i2), .val (.int cc), .val (.int pa), .val (.int fl), .val (.ref a1), .val (.int r), .val (.int (4 : Int32)), .val (.int ((g A) &&& (255 : Int32))), .val (.int ((g (A + 1)) &&& (255 : Int32))), .val (.int ((g (A + 2)) &&& (255 : Int32))), .val (.int ((g (A + 3)) &&& (255 : Int32)))] [(.int (((g (A + 3)) &&& (255 : Int32)) &&& (63 : Int32))), (.int ((((((g A) &&& (255 : Int32)) &&& (7 : Int32)) <<< ((18 : Int32) &&& 31)) ||| ((((g (A + 1)) &&& (255 : Int32)) &&& (63 : Int32)) <<< ((12 : Int32) &&& 31))) ||| ((((g (A + 2)) &&& (255 : Int32)) &&& (63 : Int32)) <<< ((6 : Int32) &&& 31))))]) (fun t k => XS.iand X32.here hx rfl (hb hby at_511) rfl k) ?_
    refine hG _ _ _ (mkF m 513 #[.val (.int i0), .val (.int i1), .val (.int i2), .val (.int cc), .val (.int pa), .val (.int fl), .val (.ref a1), .val (.int r), .val (.int (4 : Int32)), .val (.int ((g A) &&& (255 : Int32))), .val (.int ((g (A + 1)) &&& (255 : Int32))), .val (.int ((g (A + 2)) &&& (255 : Int32))), .val (.int ((g (A + 3)) &&& (255 : Int32)))] [(.int (((((((g A) &&& (255 : Int32)) &&& (7 : Int32)) <<< ((18 : Int32) &&& 31)) ||| ((((g (A + 1)) &&& (255 : Int32)) &&& (63 : Int32)) <<< ((12 : Int32) &&& 31))) ||| ((((g (A + 2)) &&& (255 : Int32)) &&& (63 : Int32)) <<< ((6 : Int32) &&& 31))) ||| (((g (A + 3)) &&& (255 : Int32)) &&& (63 : Int32))))]) (fun t k => XS.ior X32.here hx rfl (hb hby at_512) rfl k) ?_
    refine hG _ _ _ (mkF m 514 #[.val (.int i0), .val (.int i1), .val (.int i2), .val (.int cc), .val (.int pa), .val (.int fl), .val (.ref a1), .val (.int r), .val (.int (4 : Int32)), .val (.int ((g A) &&& (255 : Int32))), .val (.int ((g (A + 1)) &&& (255 : Int32))), .val (.int ((g (A + 2)) &&& (255 : Int32))), .val (.int ((g (A + 3)) &&& (255 : Int32)))] [(.int cc), (.int (((((((g A) &&& (255 : Int32)) &&& (7 : Int32)) <<< ((18 : Int32) &&& 31)) ||| ((((g (A + 1)) &&& (255 : Int32)) &&& (63 : Int32)) <<< ((12 : Int32) &&& 31))) ||| ((((g (A + 2)) &&& (255 : Int32)) &&& (63 : Int32)) <<< ((6 : Int32) &&& 31))) ||| (((g (A + 3)) &&& (255 : Int32)) &&& (63 : Int32))))]) (fun t k => XS.iloadN X32.here hx rfl (hb hby at_513) rfl k) ?_
    refine hG _ _ _ (mkF m 517 #[.val (.int i0), .val (.int i1), .val (.int i2), .val (.int cc), .val (.int pa), .val (.int fl), .val (.ref a1), .val (.int r), .val (.int (4 : Int32)), .val (.int ((g A) &&& (255 : Int32))), .val (.int ((g (A + 1)) &&& (255 : Int32))), .val (.int ((g (A + 2)) &&& (255 : Int32))), .val (.int ((g (A + 3)) &&& (255 : Int32)))] []) (fun t k => XS.icmpNo X32.here hx rfl (hb hby at_514) rfl (own_teq (own_j4 c3 hc1 (own_l4 c3 hc1 b0).2 ((own_tail (cc >>> ((12 : Int32) &&& 31)) b1).2.trans (by rw [(own_sh cc).2.1])) ((own_tail (cc >>> ((6 : Int32) &&& 31)) b2).2.trans (by rw [(own_sh cc).1])) (own_tail cc b3).2)).2 k) ?_
    refine hG _ _ _ (mkF m 518 #[.val (.int i0), .val (.int i1), .val (.int i2), .val (.int cc), .val (.int pa), .val (.int fl), .val (.ref a1), .val (.int r), .val (.int (4 : Int32)), .val (.int ((g A) &&& (255 : Int32))), .val (.int ((g (A + 1)) &&& (255 : Int32))), .val (.int ((g (A + 2)) &&& (255 : Int32))), .val (.int ((g (A + 3)) &&& (255 : Int32)))] [(.int (1 : Int32))]) (fun t k => XS.iconst X32.here hx rfl (hb hby at_517) k) ?_
    refine hG _ _ _ (mkF m 522 #[.val (.int i0), .val (.int i1), .val (.int i2), .val (.int cc), .val (.int pa), .val (.int fl), .val (.ref a1), .val (.int r), .val (.int (4 : Int32)), .val (.int ((g A) &&& (255 : Int32))), .val (.int ((g (A + 1)) &&& (255 : Int32))), .val (.int ((g (A + 2)) &&& (255 : Int32))), .val (.int ((g (A + 3)) &&& (255 : Int32)))] [(.int (1 : Int32))]) (fun t k => XS.goto X32.here hx rfl (pc0 := 518) (pc' := 522) rfl (hb hby at_518) (by decide) (by decide) k) ?_
    exact hR _ _ _ _ _ _ X32 N32 (by decide) (by decide) rfl (fun fs hr => retN X32 hx (t := .boolean) hret (by simp) (hb hby at_522) hr)
set_option maxRecDepth 65536 in
set_option maxHeartbeats 40000000 in
theorem comes_1 {Post : Tables → Env → Array Value → State → Outcome → State → Prop} (hpost : ∀ tb e args s v u, (limb_1_1.after args s (.returned v) u = true ∧ limb_1_2.after args s (.returned v) u = true ∧ True) → FrameEnd s (.returned v) u (Jvm.fieldLocs frame_1_writes args s ++ Jvm.arrayLocs frame_1_arrays args s ++ Jvm.staticLocs frame_1_statics s) 16 128 → Post tb e args s (.returned v) u) :
    ArmFor flags0 classFile x code maxLocals ret World_1 tables_1 room_1 Calls_1 rest_1 Pre_1 Post := by
  intro l hfl _ _ p e ha hc hk s m args below hf hA hF happ hP
  obtain ⟨hcalls, hrest, hpre⟩ := hP
  obtain ⟨-, -, -, hnamed, -, -, -, hat⟩ := (Spec.applies_iff hf).mp happ
  obtain ⟨hg, hn⟩ := and_e (Cond.before_iff.mp (show (Jvm.Cond.and given_1 narrow_1).before args s = true from hpre))
  obtain ⟨h1, h2⟩ := and_e hg
  obtain ⟨w0, w1, w2, rfl⟩ : ∃ w0 w1 w2 : Value, args = #[w0, w1, w2] := by
    have hs : args.size = 3 := by simpa [Cond.value, given_1] using h1
    obtain ⟨L⟩ := args
    match L, hs with
    | [w0, w1, w2], _ => exact ⟨w0, w1, w2, rfl⟩
  have hw := fun d (hd : d ∈ tables_1) => atoms_spec (ws := Jvm.Cond.code x code maxLocals ret :: tables_1) hat d (List.mem_cons_of_mem _ hd)
  obtain ⟨q0, r0⟩ := and_e h2
  obtain ⟨i0, e0⟩ := is_v q0
  obtain rfl : w0 = (.int i0) := Option.some.inj e0
  obtain ⟨q1, r1⟩ := and_e r0
  obtain ⟨i1, e1⟩ := is_v q1
  obtain rfl : w1 = (.int i1) := Option.some.inj e1
  obtain ⟨i2, e2⟩ := is_v r1
  obtain rfl : w2 = (.int i2) := Option.some.inj e2
  obtain ⟨n, o, h1, h2, h3, _, L, rfl, ⟨w, rfl, rfl, N⟩, hq⟩ := rm0 l s _ hw tables_1 i0 i1 i2 s.heap s.heap.size (Nat.le_refl _) p e ha hc hk s m _ below hf ((Spec.applies_iff_loose hf).mp happ).1 ⟨rfl, State.Warmed39.refl s, rfl⟩ trivial
  refine ⟨n, _, h1, h2, h3, hpost _ _ _ _ _ _ ⟨Cond.after_iff.mpr rfl, Cond.after_iff.mpr (eq_i res_at (Term.int_eval (1)) rfl), trivial⟩ ⟨hq.1, hq.2.1, (hq.2.2.sift fun y hy => Or.inr (N y hy)).mono (by decide) (by decide)⟩⟩
theorem main_1_1 : Claimed_1_1 := comes_1 fun _ _ _ _ _ _ h hF => ⟨h.1, hF⟩
theorem main_1_2 : Claimed_1_2 := comes_1 fun _ _ _ _ _ _ h hF => ⟨h.2.1, hF⟩
end Jvm.Pilot.@@N@@
namespace Jvm.Pilot.@@N@@
open Jvm Jvm.ClassFile Sem Op Lib Jvm.Free Jvm.Stand Jvm.Pilot.@@N@@.Jvm.D
/-! MADE BY PROGRAM (witnessworld.py) out of the Statement's table words and the real class files: 9 classes; the members and pool entries that the words name. The judged class is class 1, her method 3. -/
namespace start1
open Jvm.ClassFile
def u (s : String) : CpInfo := .utf8 (stringToUtf16 s)
/-- a pool by its gaps: so many unusable entries, then the entry; so many at the end -/
def gap : Nat → List CpInfo → List CpInfo
  | 0, r => r
  | n + 1, r => .unusable :: gap n r
def poolList (es : List (Nat × CpInfo)) (last : Nat) : List CpInfo := es.foldr (fun e r => gap e.1 (e.2 :: r)) (gap last [])
def pool (es : List (Nat × CpInfo)) (last : Nat) : Array CpInfo := ⟨poolList es last⟩
def fileOf (pool : Array CpInfo) (this : Nat) (attrs : Array Attribute := #[]) (ms : Array MethodInfo := #[]) (fl : Nat := 33) (sup : Nat := 0) (ifs : Array Nat := #[]) (fds : Array FieldInfo := #[]) : ClassFile where
  minorVersion := 0
  majorVersion := 65
  constantPool := pool
  accessFlags := fl
  thisClass := this
  superClass := sup
  interfaces := ifs
  fields := fds
  methods := ms
  attributes := attrs
def plain (name : String) (sup : Option ClassId) : Class where
  name := name
  kind := .ordinary
  loader := none
  accessFlags := 33
  super := sup
  interfaces := #[]
  cf := none
  fields := #[]
  methods := #[]
  instanceTypes := #[]
  staticTypes := #[]
  resolved := #[]
  callSites := []
  init := .initialized
  statics := none
  mirror := none

def pool0 : Array CpInfo := pool [(5, u "<init>"), (0, u "()V"), (1, .class_ 10), (1, u "java/lang/Object")] 113

def k0m0 : Method := { name := "<init>", desc := "()V", sig := { parameters := [], returnType := none }, accessFlags := 1, code := none }
/-- java/lang/Object -/
def k0 : Class := { plain "java/lang/Object" none with
  accessFlags := 33
  interfaces := #[]
  cf := some (fileOf pool0 8 #[] #[{ accessFlags := 1, nameIndex := 5, descriptorIndex := 6, attributes := #[] }] 33 0 #[] #[])
  fields := #[]
  methods := #[k0m0]
  instanceTypes := #[]
  staticTypes := #[]
  resolved := Array.replicate 124 none
  statics := none }

def pool1 : Array CpInfo := pool [(2, .class_ 4), (1, u "java/lang/Object"), (0, u "<init>"), (0, u "()V"), (0, .integer 2147483647), (0, .integer 1114112), (0, .methodref 10 11), (0, .class_ 12), (0, .nameAndType 13 14), (0, u "com/example/querytrail/querytrail/Utf8"), (0, u "encode"), (0, u "(I[BI)I"), (0, .integer 65536), (0, .methodref 17 18), (0, .class_ 19), (0, .nameAndType 20 21), (0, u "com/example/querytrail/querytrail/Utf8EncodePinLaw"), (0, u "kept"), (0, u "([BIIIB)Z"), (0, .methodref 17 23), (0, .nameAndType 24 25), (0, u "cont"), (0, u "(I)Z"), (3, u "law"), (0, u "(III)Z")] 4

def k1m0 : Method := { name := "<init>", desc := "()V", sig := { parameters := [], returnType := none }, accessFlags := 2, code := none }
def k1c1 : Code := { maxStack := 2, maxLocals := 1, code := method_2_code, exceptionTable := #[], attributes := #[] }
def k1m1 : Method := { name := "cont", desc := "(I)Z", sig := { parameters := [.int], returnType := some .boolean }, accessFlags := 10, code := some k1c1 }
def k1c2 : Code := { maxStack := 2, maxLocals := 5, code := method_3_code, exceptionTable := #[], attributes := #[] }
def k1m2 : Method := { name := "kept", desc := "([BIIIB)Z", sig := { parameters := [(.array .byte), .int, .int, .int, .byte], returnType := some .boolean }, accessFlags := 10, code := some k1c2 }
def k1c3 : Code := { maxStack := 5, maxLocals := 13, code := code, exceptionTable := #[], attributes := #[] }
def k1m3 : Method := { name := "law", desc := "(III)Z", sig := { parameters := [.int, .int, .int], returnType := some .boolean }, accessFlags := 9, code := some k1c3 }
/-- com/example/querytrail/querytrail/Utf8EncodePinLaw -/
def k1 : Class := { plain "com/example/querytrail/querytrail/Utf8EncodePinLaw" (some 0) with
  accessFlags := 49
  interfaces := #[]
  cf := some (fileOf pool1 17 #[] #[{ accessFlags := 2, nameIndex := 5, descriptorIndex := 6, attributes := #[] }, { accessFlags := 10, nameIndex := 24, descriptorIndex := 25, attributes := #[] }, { accessFlags := 10, nameIndex := 20, descriptorIndex := 21, attributes := #[] }, { accessFlags := 9, nameIndex := 29, descriptorIndex := 30, attributes := #[] }] 49 2 #[] #[])
  fields := #[]
  methods := #[k1m0, k1m1, k1m2, k1m3]
  instanceTypes := #[]
  staticTypes := #[]
  resolved := Array.replicate 35 none
  statics := none }

def pool2 : Array CpInfo := pool [(4, .class_ 6), (1, u "java/lang/Object"), (0, u "<init>"), (0, u "()V"), (1, .class_ 12), (1, u "com/example/querytrail/querytrail/Utf8"), (0, u "WORDS"), (0, u "Ljava/lang/invoke/VarHandle;"), (32, u "BYTE_ORDER_MARK_LENGTH"), (0, u "I"), (2, u "BYTE_ORDER_MARK"), (0, u "[B"), (100, u "encode"), (0, u "(I[BI)I"), (31, .integer 65536), (14, u "ONES"), (0, u "J"), (3, u "HIGH_BITS"), (0, u "CHARACTERS_A_TURN"), (1, u "BLOCK"), (1, u "UNPAIRED_LENGTH")] 22

def k2m0 : Method := { name := "<init>", desc := "()V", sig := { parameters := [], returnType := none }, accessFlags := 2, code := none }
def k2c1 : Code := { maxStack := 5, maxLocals := 4, code := prog_142_method_21_code, exceptionTable := #[], attributes := #[] }
def k2m1 : Method := { name := "encode", desc := "(I[BI)I", sig := { parameters := [.int, (.array .byte), .int], returnType := some .int }, accessFlags := 8, code := some k2c1 }
/-- com/example/querytrail/querytrail/Utf8 -/
def k2 : Class := { plain "com/example/querytrail/querytrail/Utf8" (some 0) with
  accessFlags := 48
  interfaces := #[]
  cf := some (fileOf pool2 10 #[] #[{ accessFlags := 2, nameIndex := 7, descriptorIndex := 8, attributes := #[] }, { accessFlags := 8, nameIndex := 153, descriptorIndex := 154, attributes := #[] }] 48 4 #[] #[{ accessFlags := 24, nameIndex := 201, descriptorIndex := 202, attributes := #[] }, { accessFlags := 24, nameIndex := 206, descriptorIndex := 202, attributes := #[] }, { accessFlags := 26, nameIndex := 51, descriptorIndex := 52, attributes := #[] }, { accessFlags := 24, nameIndex := 47, descriptorIndex := 48, attributes := #[] }, { accessFlags := 26, nameIndex := 207, descriptorIndex := 48, attributes := #[] }, { accessFlags := 26, nameIndex := 209, descriptorIndex := 48, attributes := #[] }, { accessFlags := 24, nameIndex := 211, descriptorIndex := 48, attributes := #[] }, { accessFlags := 26, nameIndex := 13, descriptorIndex := 14, attributes := #[] }])
  fields := #[{ name := "ONES", type := .long, accessFlags := 24, slot := 0, constantValue := 0 }, { name := "HIGH_BITS", type := .long, accessFlags := 24, slot := 1, constantValue := 0 }, { name := "BYTE_ORDER_MARK", type := (.array .byte), accessFlags := 26, slot := 2, constantValue := 0 }, { name := "BYTE_ORDER_MARK_LENGTH", type := .int, accessFlags := 24, slot := 3, constantValue := 0 }, { name := "CHARACTERS_A_TURN", type := .int, accessFlags := 26, slot := 4, constantValue := 0 }, { name := "BLOCK", type := .int, accessFlags := 26, slot := 5, constantValue := 0 }, { name := "UNPAIRED_LENGTH", type := .int, accessFlags := 24, slot := 6, constantValue := 0 }, { name := "WORDS", type := (.object "java/lang/invoke/VarHandle"), accessFlags := 26, slot := 7, constantValue := 0 }]
  methods := #[k2m0, k2m1]
  instanceTypes := #[]
  staticTypes := #[.long, .long, (.array .byte), .int, .int, .int, .int, (.object "java/lang/invoke/VarHandle")]
  resolved := Array.replicate 234 none
  statics := none }

def pool3 : Array CpInfo := pool [(1, u "java/lang/Cloneable"), (0, .class_ 1), (0, u "java/lang/Object"), (0, .class_ 3)] 3

/-- java/lang/Cloneable -/
def k3 : Class := { plain "java/lang/Cloneable" (some 0) with
  accessFlags := 1537
  interfaces := #[]
  cf := some (fileOf pool3 2 #[] #[] 1537 4 #[] #[])
  fields := #[]
  methods := #[]
  instanceTypes := #[]
  staticTypes := #[]
  resolved := Array.replicate 8 none
  statics := none }

def pool4 : Array CpInfo := pool [(1, u "java/io/Serializable"), (0, .class_ 1), (0, u "java/lang/Object"), (0, .class_ 3)] 3

/-- java/io/Serializable -/
def k4 : Class := { plain "java/io/Serializable" (some 0) with
  accessFlags := 1537
  interfaces := #[]
  cf := some (fileOf pool4 2 #[] #[] 1537 4 #[] #[])
  fields := #[]
  methods := #[]
  instanceTypes := #[]
  staticTypes := #[]
  resolved := Array.replicate 8 none
  statics := none }

/-- the primitive byte -/
def k5 : Class := { plain "byte" none with kind := .primitive 'B', accessFlags := 0x411 }
/-- [B -/
def k6 : Class := { plain "[B" (some 0) with kind := .array 5 .byte, interfaces := #[3, 4], accessFlags := 1041 }

/-- the primitive int -/
def k7 : Class := { plain "int" none with kind := .primitive 'I', accessFlags := 0x411 }
/-- [I -/
def k8 : Class := { plain "[I" (some 0) with kind := .array 7 .int, interfaces := #[3, 4], accessFlags := 1041 }

def heap : Heap := #[]
def classes : Array Class := #[k0, k1, k2, k3, k4, k5, k6, k7, k8]
def interned : List (Array UInt16 × Addr) := []
def slotsUsed : Nat := 0
def theMethod : MethodId := ⟨1, 3⟩
def args0 : Array Value := #[.int 5, .int 1, .int 3]
def aboutOver (below : List Frame) : State where
  vm := { classes := classes, interned := interned.toArray }
  heap := heap
  slotsUsed := slotsUsed
  threads := #[{ frames := .invoking theMethod args0 :: below }]
def below0 : List Frame := [.native { method := ⟨0, 0⟩, args := #[] }]
def about1 : State := aboutOver below0
def p0 : Program := .bare "" "" ""
def e0 : Env := launch0.env 0 0 0
theorem w_frames : about1.frames = Frame.invoking theMethod args0 :: below0 := rfl
set_option maxRecDepth 65536 in
theorem w_args : argsFit about1.vm theMethod args0 = true := by decide +kernel
set_option maxRecDepth 65536 in
theorem w_heap : heapFits about1 = true := by decide +kernel
set_option maxRecDepth 65536 in
theorem w_runnable : about1.curStatus? = some .runnable := by decide +kernel
set_option maxRecDepth 65536 in
theorem w_alone : about1.alone = true := by decide +kernel
set_option maxRecDepth 65536 in
theorem w_named : about1.methodNamed? x = some theMethod := by decide +kernel
set_option maxRecDepth 65536 in
theorem w_hears : about1.hears theMethod below0 = true := by decide +kernel
set_option maxRecDepth 65536 in
theorem w_ripe : about1.ripe theMethod args0 below0 = true := by decide +kernel
theorem w_running : about1.status = .running := rfl
set_option maxRecDepth 65536 in
theorem w_room : about1.hasRoom e0.platform room_1 = true :=
  launch0.hasRoom_least _ room_1 (by decide +kernel) (by decide +kernel) (by decide +kernel) (by decide +kernel) (by decide +kernel) (by decide +kernel)
theorem allAtoms_all (ts : List Jvm.Cond) (a : Array Jvm.Value) (st : Jvm.State) : (allAtoms ts).before a st = ts.all (fun c => c.before a st) := by
  induction ts with
  | nil => rfl
  | cons c t ih =>
    show (Jvm.Cond.and c (allAtoms t)).before a st = _
    rw [Jvm.Cond.before_and, ih, List.all_cons]
def words1 : List Jvm.Cond := Jvm.Cond.code x code maxLocals ret :: tables_1
/-- a 'code' word, met by the world's own term for the bytes: nothing is compared byte by byte -/
theorem code_word {y : MethodName} {bytes : ByteArray} {mx : Nat} {rt : Option FieldType} {a : Array Value} {s : State} {m : MethodId} {meth : Method} {c : Code} (h1 : s.methodNamed? y = some m) (h2 : s.vm.method? m = some meth) (h3 : meth.code = some c) (h4 : c.code = bytes)
    (h5 : (c.maxLocals == mx && c.exceptionTable.isEmpty && decide (c.maxStack ≤ mostOperands) && decide (meth.sig.returnType = rt) && !meth.locks && decide (parseMethodDescriptor y.desc = some meth.sig)) = true) : (Jvm.Cond.code y bytes mx rt).before a s = true := by
  simp only [Bool.and_eq_true, beq_iff_eq, Bool.not_eq_true', decide_eq_true_eq] at h5
  obtain ⟨⟨⟨⟨⟨g1, g2⟩, g3⟩, g4⟩, g5⟩, g6⟩ := h5
  simp [Cond.before, Cond.holds, Cond.value, h1, h2, h3, h4, g1, g2, g3, g4, g5, g6]
def isCode : Jvm.Cond → Bool
  | .code _ _ _ _ => true
  | _ => false
theorem all_split {L : List Jvm.Cond} {P : Jvm.Cond → Bool} (h1 : L.all (fun c => isCode c || P c) = true) (h2 : ∀ c ∈ L.filter isCode, P c = true) : L.all P = true := by
  refine List.all_eq_true.mpr fun c hc => ?_
  have h := List.all_eq_true.mp h1 c hc
  rcases Bool.eq_false_or_eq_true (isCode c) with hi | hi
  · exact h2 c (List.mem_filter.mpr ⟨hc, hi⟩)
  · simpa [hi] using h
set_option maxRecDepth 65536 in
theorem w_c0 : (Jvm.Cond.code x code maxLocals ret).before args0 about1 = true := code_word (m := ⟨1, 3⟩) (meth := k1m3) (c := k1c3) (by decide +kernel) rfl rfl rfl (by decide +kernel)
set_option maxRecDepth 65536 in
theorem w_c1 : (Jvm.Cond.code ({ cls := "com/example/querytrail/querytrail/Utf8", name := "encode", desc := "(I[BI)I" } : Jvm.MethodName) prog_142_method_21_code (4 : Nat) (Option.some Jvm.ClassFile.FieldType.int)).before args0 about1 = true := code_word (m := ⟨2, 1⟩) (meth := k2m1) (c := k2c1) (by decide +kernel) rfl rfl rfl (by decide +kernel)
set_option maxRecDepth 65536 in
theorem w_c2 : (Jvm.Cond.code ({ cls := "com/example/querytrail/querytrail/Utf8EncodePinLaw", name := "kept", desc := "([BIIIB)Z" } : Jvm.MethodName) method_3_code (5 : Nat) (Option.some Jvm.ClassFile.FieldType.boolean)).before args0 about1 = true := code_word (m := ⟨1, 2⟩) (meth := k1m2) (c := k1c2) (by decide +kernel) rfl rfl rfl (by decide +kernel)
set_option maxRecDepth 65536 in
theorem w_c3 : (Jvm.Cond.code ({ cls := "com/example/querytrail/querytrail/Utf8EncodePinLaw", name := "cont", desc := "(I)Z" } : Jvm.MethodName) method_2_code (1 : Nat) (Option.some Jvm.ClassFile.FieldType.boolean)).before args0 about1 = true := code_word (m := ⟨1, 1⟩) (meth := k1m1) (c := k1c1) (by decide +kernel) rfl rfl rfl (by decide +kernel)
def codes1 : List Jvm.Cond := [Jvm.Cond.code x code maxLocals ret, Jvm.Cond.code ({ cls := "com/example/querytrail/querytrail/Utf8", name := "encode", desc := "(I[BI)I" } : Jvm.MethodName) prog_142_method_21_code (4 : Nat) (Option.some Jvm.ClassFile.FieldType.int), Jvm.Cond.code ({ cls := "com/example/querytrail/querytrail/Utf8EncodePinLaw", name := "kept", desc := "([BIIIB)Z" } : Jvm.MethodName) method_3_code (5 : Nat) (Option.some Jvm.ClassFile.FieldType.boolean), Jvm.Cond.code ({ cls := "com/example/querytrail/querytrail/Utf8EncodePinLaw", name := "cont", desc := "(I)Z" } : Jvm.MethodName) method_2_code (1 : Nat) (Option.some Jvm.ClassFile.FieldType.boolean)]
set_option maxRecDepth 65536 in
theorem codes_eq : words1.filter isCode = codes1 := rfl
theorem w_codes : ∀ c ∈ words1.filter isCode, c.before args0 about1 = true := by
  rw [codes_eq]
  intro c hc
  simp only [codes1, List.mem_cons, List.not_mem_nil, or_false] at hc
  rcases hc with rfl | rfl | rfl | rfl
  · exact w_c0
  · exact w_c1
  · exact w_c2
  · exact w_c3
set_option maxRecDepth 65536 in
theorem w_t1 : words1.all (fun c => isCode c || c.before args0 about1) = true := by decide +kernel
theorem w_tables : (allAtoms (Jvm.Cond.code x code maxLocals ret :: tables_1)).before args0 about1 = true := by
  rw [allAtoms_all]
  show words1.all (fun c => c.before args0 about1) = true
  refine all_split ?_ w_codes
  rw [w_t1]
set_option maxRecDepth 65536 in
theorem w_case : (Jvm.Cond.and given_1 narrow_1).before args0 about1 = true := by decide +kernel
theorem w_applies : (headSpec (Jvm.Cond.code x code maxLocals ret :: tables_1) room_1).applies x e0.platform about1 = true :=
  (Spec.applies_iff w_frames).mpr ⟨w_running, w_runnable, w_alone, w_named, w_hears, w_ripe, w_room, w_tables⟩
theorem atStart : AtStart classFile x code maxLocals ret World_1 tables_1 room_1 Calls_1 rest_1 Pre_1 launch0 p0 e0 about1 theMethod args0 below0 :=
  ⟨lists_1, trivial, launch0.admits_env _ _ _, launch0.least_env, fairChoices_fair.cas, fairChoices_fair.clock, w_frames, w_args, w_heap, w_applies, trivial, trivial, w_case⟩
end start1
theorem witness_1 : WitnessClaimed_1 := ⟨start1.p0, start1.e0, start1.about1, start1.theMethod, start1.args0, start1.below0, start1.atStart⟩
end Jvm.Pilot.@@N@@
