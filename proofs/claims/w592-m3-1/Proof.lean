import JvmDerived
import JvmDerived.Pilot.@@N@@Statement
import JvmDerived.Pilot.@@N@@Code
set_option linter.unusedVariables false
set_option linter.unusedSimpArgs false
namespace Jvm.Pilot.@@N@@
open Jvm Jvm.ClassFile Sem Op Lib Jvm.Free Jvm.Stand Jvm.LawKit Jvm.RoadKit Bundle Jvm.Pilot.@@N@@.Jvm.D
section Own
variable {p : Program} {l : Launch} {e : Env} {R : Room} {s : State} {m : MethodId} {args : Array Value} {below : List Frame} {meth : Method} {c : Code} {T T' : State} {locs : List Loc} {cells slots : Nat} {C S : Nat} {Q : Option Value → Heap → List Loc → Prop} {g g' : JFrame} {Z : State} {a0 : Array Value}
/-- from T with the frame g on top the method runs to its end, and ends as Q says -/
def own_Go (p : Program) (e : Env) (below : List Frame) (s : State) (C S : Nat) (Q : Option Value → Heap → List Loc → Prop) (T : State) (g : JFrame) : Prop :=
  ∃ s₂ o, Steps p.tables e below (T.setTop g) s₂ ∧ s₂.status = .running ∧ Ended s₂ below o ∧ ∃ v L, o = .returned v ∧ Q v s₂.heap L ∧ FrameEnd s o s₂ L C S
theorem own_go (k : ∀ t, Steps p.tables e below (T'.setTop g') t → Steps p.tables e below (T.setTop g) t) (h : own_Go p e below s C S Q T' g') : own_Go p e below s C S Q T g := by
  obtain ⟨s₂, o, h1, r⟩ := h
  exact ⟨s₂, o, k _ h1, r⟩
theorem own_end (X : Stand p l e R s m args below meth c T locs cells slots) (hk : meth.locks = false) (v : Option Value) (hv : meth.sig.returnType = none → v = none) (hC : cells ≤ C) (hS : slots ≤ S) (hq : Q v T.heap locs)
    (hst : ∀ fs, (∀ (f : JFrame) (acts : List Action), f.method = m → f.locked = none → f.entered = [] → (doReturn e (T.setTop f) acts v).1 = T.setFrames fs) → Steps p.tables e below (T.setTop g) (T.setFrames fs)) : own_Go p e below s C S Q T g := by
  obtain ⟨fs, hr, hrun, hended, hW, hsame⟩ := X.leave (v := v) hv hk
  exact ⟨_, _, hst fs hr, hrun, hended, v, locs, rfl, hq, ⟨_, rfl⟩, hW, hsame.mono hC hS⟩
theorem own_retI (X : Stand p l e R s m args below meth c T locs cells slots) (hx : p.tables.exec = Jvm.exec) (hret : meth.sig.returnType = some .int) (hk : meth.locks = false) {pc : Nat} {Ls : Array Slot} {z : Int32} {rest : List Value} (hd : decode c.code pc = .ok (.ireturn, 1)) (hC : cells ≤ C) (hS : slots ≤ S) (hq : Q (some (.int z)) T.heap locs) :
    own_Go p e below s C S Q T (mkF m pc Ls (.int z :: rest)) :=
  own_end X hk _ (fun h => by rw [hret] at h; cases h) hC hS hq fun fs hr => retOut X hx hret rfl (Or.inl ⟨rfl, Or.inl rfl, _, rfl⟩) hd hr
theorem own_retZ (X : Stand p l e R s m args below meth c T locs cells slots) (hx : p.tables.exec = Jvm.exec) (hret : meth.sig.returnType = some .boolean) (hk : meth.locks = false) {pc : Nat} {Ls : Array Slot} {z : Int32} {rest : List Value} (hz : nar .boolean z = z) (hd : decode c.code pc = .ok (.ireturn, 1)) (hC : cells ≤ C) (hS : slots ≤ S) (hq : Q (some (.int z)) T.heap locs) :
    own_Go p e below s C S Q T (mkF m pc Ls (.int z :: rest)) :=
  own_end X hk _ (fun h => by rw [hret] at h; cases h) hC hS hq fun fs hr => retN X hx (t := .boolean) hret (Or.inl rfl) hd (by rw [hz]; exact hr)
theorem own_retL (X : Stand p l e R s m args below meth c T locs cells slots) (hx : p.tables.exec = Jvm.exec) (hret : meth.sig.returnType = some .long) (hk : meth.locks = false) {pc : Nat} {Ls : Array Slot} {z : Int64} {rest : List Value} (hd : decode c.code pc = .ok (.lreturn, 1)) (hC : cells ≤ C) (hS : slots ≤ S) (hq : Q (some (.long z)) T.heap locs) :
    own_Go p e below s C S Q T (mkF m pc Ls (.long z :: rest)) :=
  own_end X hk _ (fun h => by rw [hret] at h; cases h) hC hS hq fun fs hr => retOut X hx hret rfl (Or.inr (Or.inl ⟨rfl, rfl, _, rfl⟩)) hd hr
theorem own_retA (X : Stand p l e R s m args below meth c T locs cells slots) (hx : p.tables.exec = Jvm.exec) {t : FieldType} (ht : t.isReference = true) (hret : meth.sig.returnType = some t) (hk : meth.locks = false) {pc : Nat} {Ls : Array Slot} {a : Addr} (hd : decode c.code pc = .ok (.areturn, 1)) (hC : cells ≤ C) (hS : slots ≤ S) (hq : Q (some (.ref a)) T.heap locs) :
    own_Go p e below s C S Q T (mkF m pc Ls [.ref a]) :=
  own_end X hk _ (fun h => by rw [hret] at h; cases h) hC hS hq fun fs hr => X.areturnOut hx rfl hret ht hd hr
theorem own_retV (X : Stand p l e R s m args below meth c T locs cells slots) (hx : p.tables.exec = Jvm.exec) (hret : meth.sig.returnType = none) (hk : meth.locks = false) {pc : Nat} {Ls : Array Slot} (hd : decode c.code pc = .ok (.return_, 1)) (hC : cells ≤ C) (hS : slots ≤ S) (hq : Q none T.heap locs) :
    own_Go p e below s C S Q T (mkF m pc Ls []) :=
  own_end X hk _ (fun _ => rfl) hC hS hq fun fs hr => X.returnOut hx hret hd hr
/-- the contract of one body: entered with the values as' and the heap h, it returns as Q says -/
abbrev own_Con (l : Launch) (Z : State) (y : MethodName) (bytes : ByteArray) (maxL : Nat) (ret : Option FieldType) (ws : List Jvm.Cond) (rm : Room) (as' : Array Value) (h : Heap) (Q : Option Value → Heap → List Loc → Prop) : Prop :=
  MetFree l y (head1 (Jvm.Cond.code y bytes maxL ret :: ws) rm) (fun a U => a = as' ∧ Z.Warmed39 U.vm ∧ U.heap = h) (fun _ _ _ _ _ => True) (fun _ U o U' => ∃ v L, o = .returned v ∧ Q v U'.heap L ∧ FrameEnd U o U' L rm.cells rm.slots)
theorem own_body {y : MethodName} {bytes : ByteArray} {maxL : Nat} {ret : Option FieldType} {ws : List Jvm.Cond} {rm : Room} {as' : Array Value} {h : Heap} (hp : plainFor y = true)
    (body : ∀ (p : Program) (e : Env) (s : State) (m : MethodId) (below : List Frame) (meth : Method) (c : Code) (s₁ : State), p.tables.exec = Jvm.exec → c.code = bytes → c.maxLocals = maxL → Z.Warmed39 s.vm → s.vm.findClass y.cls = some m.cls → meth.name = y.name → meth.sig.returnType = ret → meth.locks = false → s₁.heap = h →
      Stand p l e rm s m as' below meth c s₁ [] 0 0 → own_Go p e below s rm.cells rm.slots Q s₁ (entryFrame m as' maxL)) : own_Con l Z y bytes maxL ret ws rm as' h Q := by
  refine MetFree.of_bodySF hp hisR ?_
  intro p e s m args below meth c s₁ Bd hml hP hK
  obtain ⟨rfl, hZ, hh⟩ := hP
  exact body p e s m below meth c s₁ Bd.exec Bd.bytes hml hZ (findClass_of_methodNamed Bd.named) (name_of_methodNamed Bd.named Bd.method).1 Bd.returns Bd.notSynchronized (by rw [← hh, Bd.state]; rfl) (Stand.of_body Bd)
theorem own_cast {g₀ : JFrame} (q : g₀ = g) (h : own_Go p e below s C S Q T g) : own_Go p e below s C S Q T g₀ := q ▸ h
/-- a static call by its callee's contract -/
theorem own_callS (X : Stand p l e R s m args below meth c T locs cells slots) (hx : p.tables.exec = Jvm.exec) (hZ : Z.Warmed39 s.vm) {own : String} {index : Nat} {y : MethodName} {bytes : ByteArray} {maxL : Nat} {ret : Option FieldType} {rm : Room} {W : Nat} {h : Heap} {Q' : Option Value → Heap → List Loc → Prop} {argsL rest : List Value}
    (hown : s.vm.findClass own = some m.cls) (w1 : (Jvm.Cond.methodLink own index y).before a0 Z = true) (w2 : (Jvm.Cond.static y).before a0 Z = true) (w3 : (Jvm.Cond.initialized y.cls).before a0 Z = true) (w4 : (Jvm.Cond.code y bytes maxL ret).before a0 Z = true) (hy : y.cls ≠ "java/lang/invoke/MethodHandle" ∧ y.cls ≠ "java/lang/invoke/VarHandle")
    (hM : own_Con l Z y bytes maxL ret [] rm argsL.toArray h Q') (hf : rm.frames + 1 ≤ R.frames) (hl : W + (maxL + 11) + rm.locals ≤ R.locals) (eT : T.heap = h) (hc : cells + rm.cells ≤ R.cells) (hs : slots + rm.slots ≤ R.slots)
    (hg : g.method = m) (hsize : g.locals.size = c.maxLocals) (hlen : ∀ sig, parseMethodDescriptor y.desc = some sig → argsL.length = sig.parameters.length) (hstack : g.stack = argsL.reverse ++ rest) (hW : 2 * g.monitorRoom + (rest.map fun v => v.category).sum ≤ W) (hdg : decode c.code g.pc = .ok (.invokestatic index, 3))
    (k : ∀ (v : Option Value) (T' : State) (L' : List Loc), Stand p l e R s m args below meth c T' (locs ++ L') (cells + rm.cells) (slots + rm.slots) → Q' v T'.heap L' → own_Go p e below s C S Q T' { g with pc := g.pc + 3, stack := v.toList ++ rest }) :
    own_Go p e below s C S Q T g := by
  obtain ⟨v, _, ⟨T2, L2, k2, n2⟩, -, X2, ⟨Lc2, hQ2, l2, y2, z2⟩, st2⟩ := Jvm.LawKit.callS X hx (y := y) hown (mvT hZ w1) (mvT hZ w2) (mvT hZ w3) (mvT hZ w4) hy (backOf (W := W) hM hZ w4 w3 hf hl) hg hsize hlen hstack hW hdg (fun _ _ => ⟨rfl, eT, hc, hs⟩)
  dsimp only [Pt.U, Pt.locs, Pt.cells, Pt.slots] at X2 l2 y2 z2 st2 hQ2
  subst l2 y2 z2
  exact own_go st2 (k v T2 Lc2 X2 hQ2)
end Own
section OwnA
variable {p : Program} {l : Launch} {e : Env} {R : Room} {s : State} {m : MethodId} {args : Array Value} {below : List Frame} {meth : Method} {c : Code} {T T' : State} {locs : List Loc} {cells slots : Nat} {C S : Nat} {Q : Option Value → Heap → List Loc → Prop} {g g' : JFrame} {Z : State} {a0 : Array Value} {h h' : Heap} {a b : Addr} {n : Nat} {f f' : Nat → Int32}
def own_upd (f : Nat → Int32) (i : Nat) (x : Int32) : Nat → Int32 := fun j => if j = i then x else f j
/-- at a lies an int[] of n places; place j holds f j -/
def own_Ar (Z : State) (h : Heap) (a : Addr) (n : Nat) (f : Nat → Int32) : Prop := ∃ c : Cell, Arr Z h a c .int ∧ c.slots.size = n ∧ ∀ j, j < n → c.slots[j]? = some (.int (f j))
theorem own_Ar.ext (A : own_Ar Z h a n f) (E : Ext h h') : own_Ar Z h' a n f := by obtain ⟨c, A, r⟩ := A; exact ⟨c, A.ext E, r⟩
theorem own_Ar.other {sl : Nat} {v : Value} (A : own_Ar Z h a n f) (W : Wr h h' b sl v) (q : a ≠ b) : own_Ar Z h' a n f := by obtain ⟨c, A, r⟩ := A; exact ⟨c, A.other W q, r⟩
theorem own_Ar.keep {ws : List Addr} (A : own_Ar Z h a n f) (K : Keep h h' ws) (q : a ∉ ws) : own_Ar Z h' a n f := by obtain ⟨c, A, r⟩ := A; exact ⟨c, ⟨K.2.1 a c A.1 q, A.2⟩, r⟩
theorem own_Ar.congr (A : own_Ar Z h a n f) (q : ∀ j, j < n → f j = f' j) : own_Ar Z h a n f' := by obtain ⟨c, A, r1, r2⟩ := A; exact ⟨c, A, r1, fun j hj => by rw [← q j hj]; exact r2 j hj⟩
theorem own_Ar.lt (A : own_Ar Z h a n f) : a < h.size := by obtain ⟨c, A, r⟩ := A; exact A.lt
theorem own_nat {j : Int32} {i : Nat} (hj : j.toInt = i) : j.toNatClampNeg = i := by
  show j.toInt.toNat = i
  omega
theorem own_ns {j : Int32} {i k : Nat} (hj : j.toInt = i) (hi : i < k) : ¬ (j < 0 ∨ k ≤ j.toNatClampNeg) := by
  rw [own_nat hj, Int32.lt_iff_toInt_lt]
  have e0 : (0 : Int32).toInt = 0 := by decide
  omega
theorem own_iaload (X : Stand p l e R s m args below meth c T locs cells slots) (hx : p.tables.exec = Jvm.exec) (hZ : Z.Warmed39 s.vm) (eT : T.heap = h) (A : own_Ar Z h a n f) (i : Nat) {j : Int32} (hj : j.toInt = i) (hi : i < n) (hg : g.method = m) {rest : List Value} (hs : g.stack = .int j :: .ref a :: rest) (hd : decode c.code g.pc = .ok (.iaload, 1))
    (k : own_Go p e below s C S Q T { g with pc := g.pc + 1, stack := .int (f i) :: rest }) : own_Go p e below s C S Q T g := by
  obtain ⟨cl, Ar, hsz, hv⟩ := A
  exact own_go (fun t kt => X.iaload hx (by rw [eT]; exact Ar.1) (State.isArrayOf_alike hZ.alike Ar.2.1) Ar.2.2 (own_ns hj (by rw [hsz]; exact hi)) (by rw [own_nat hj]; exact hv i hi) hg hs hd t kt) k
theorem own_alen (X : Stand p l e R s m args below meth c T locs cells slots) (hx : p.tables.exec = Jvm.exec) (hZ : Z.Warmed39 s.vm) (eT : T.heap = h) (A : own_Ar Z h a n f) (z : Int32) (hz : z.toInt = n) (hg : g.method = m) {rest : List Value} (hs : g.stack = .ref a :: rest) (hd : decode c.code g.pc = .ok (.arraylength, 1))
    (k : own_Go p e below s C S Q T { g with pc := g.pc + 1, stack := .int z :: rest }) : own_Go p e below s C S Q T g := by
  obtain ⟨cl, Ar, hsz, hv⟩ := A
  have q : cl.slots.size.toInt32 = z := len_of (by rw [hsz, own_nat hz]) (by rw [Int32.lt_iff_toInt_lt, show (0 : Int32).toInt = 0 from by decide]; omega)
  refine own_go (fun t kt => X.arraylength hx (by rw [eT]; exact Ar.1) (State.isArrayOf_alike hZ.alike Ar.2.1) hg hs hd t ?_) k
  rw [q]; exact kt
theorem own_iastore (X : Stand p l e R s m args below meth c T locs cells slots) (hx : p.tables.exec = Jvm.exec) (hZ : Z.Warmed39 s.vm) (eT : T.heap = h) (A : own_Ar Z h a n f) (i : Nat) {j x : Int32} (hj : j.toInt = i) (hi : i < n) (hg : g.method = m) {rest : List Value} (hs : g.stack = .int x :: .int j :: .ref a :: rest) (hd : decode c.code g.pc = .ok (.iastore, 1))
    (k : ∀ (T' : State) (h' : Heap), Stand p l e R s m args below meth c T' (locs ++ [⟨a, i⟩]) cells slots → T'.heap = h' → Wr h h' a i (.int x) → own_Ar Z h' a n (own_upd f i x) → own_Go p e below s C S Q T' { g with pc := g.pc + 1, stack := rest }) : own_Go p e below s C S Q T g := by
  obtain ⟨cl, Ar, hsz, hv⟩ := A
  obtain ⟨T', h', X', e', W, st⟩ := stI X hx hZ eT Ar (j := j) (x := x) (own_ns hj (by rw [hsz]; exact hi)) hg hs hd
  rw [own_nat hj] at X' W
  refine own_go st (k T' h' X' e' W ⟨_, Ar.same W, by simp [Cell.setSlot, hsz], fun q hq => ?_⟩)
  show (cl.slots.setIfInBounds i (.int x))[q]? = _
  rw [Array.getElem?_setIfInBounds, hsz]
  unfold own_upd
  by_cases e1 : i = q
  · subst e1; simp [hq]
  · rw [if_neg e1, if_neg (Ne.symm e1)]; exact hv q hq
theorem own_newI (X : Stand p l e R s m args below meth c T locs cells slots) (hx : p.tables.exec = Jvm.exec) (hZ : Z.Warmed39 s.vm) (w : (Jvm.Cond.arrayClass .int).before a0 Z = true) (eT : T.heap = h) {z : Int32} (hz : z.toInt = n) (cap : Nat) (hcap : n ≤ cap) (hb : cap * 8 ≤ 536870912) (hc : cells + 1 ≤ R.cells) (hl : slots + cap ≤ R.slots) (hg : g.method = m) {rest : List Value} (hs : g.stack = .int z :: rest) (hd : decode c.code g.pc = .ok (.newarray .int, 2))
    (k : ∀ (T' : State) (h' : Heap) (b : Addr), b = h.size → Stand p l e R s m args below meth c T' locs (cells + 1) (slots + cap) → T'.heap = h' → Ext h h' → own_Ar Z h' b n (fun _ => 0) → own_Go p e below s C S Q T' { g with pc := g.pc + 2, stack := .ref b :: rest }) : own_Go p e below s C S Q T g := by
  have hn : ¬ z < 0 := by rw [Int32.lt_iff_toInt_lt, show (0 : Int32).toInt = 0 from by decide]; omega
  obtain ⟨T', h', cA, X', e', E, Ar, st⟩ := newP X hx hZ (aty := .int) w eT hg hd hs hn (cap := cap) (by rw [own_nat hz]; exact hcap) hb hc hl
  refine own_go st (k T' h' _ rfl X' e' E ⟨_, Ar, by rw [sz_new, own_nat hz], fun q hq => ?_⟩)
  show (Array.replicate z.toNatClampNeg (Value.int 0))[q]? = _
  rw [own_nat hz]
  simp [hq]
end OwnA

def own_PI (P : Int32 → Prop) (h0 : Heap) (n0 : Nat) (v : Option Value) (h : Heap) (L : List Loc) : Prop := ∃ r, v = some (.int r) ∧ P r ∧ Fr n0 L ∧ h = h0
/-! the plain law -/
def own_isMin (a b r : Int32) : Prop := r.toInt ≤ a.toInt ∧ r.toInt ≤ b.toInt ∧ (r = a ∨ r = b)
def own_isMax (a b r : Int32) : Prop := a.toInt ≤ r.toInt ∧ b.toInt ≤ r.toInt ∧ (r = a ∨ r = b)
/-- r is the first place, of the first cnt, whose value isn't below the given one; all before it are below -/
def own_isFirst (f : Nat → Int32) (cnt : Int32) (v : Int64) (r : Int32) : Prop := 0 ≤ r.toInt ∧ r.toInt ≤ cnt.toInt ∧ (∀ i : Nat, (i : Int) < r.toInt → (f i).toInt < v.toInt) ∧ ∀ i : Nat, r.toInt ≤ i → (i : Int) < cnt.toInt → v.toInt ≤ (f i).toInt
theorem own_sorted4 {a b c d lo01 hi01 lo23 hi23 s0 q2 q1 s3 s1 s2 : Int32} (h1 : own_isMin a b lo01) (h2 : own_isMax a b hi01) (h3 : own_isMin c d lo23) (h4 : own_isMax c d hi23) (h5 : own_isMin lo01 lo23 s0) (h6 : own_isMax lo01 lo23 q2) (h7 : own_isMin hi01 hi23 q1) (h8 : own_isMax hi01 hi23 s3) (h9 : own_isMin q1 q2 s1) (h10 : own_isMax q1 q2 s2) :
    s0.toInt ≤ s1.toInt ∧ s1.toInt ≤ s2.toInt ∧ s2.toInt ≤ s3.toInt := by
  obtain ⟨a1, a2, -⟩ := h1
  obtain ⟨b1, b2, -⟩ := h2
  obtain ⟨c1, c2, -⟩ := h3
  obtain ⟨d1, d2, -⟩ := h4
  obtain ⟨e1, e2, -⟩ := h5
  obtain ⟨f1, f2, f3⟩ := h6
  obtain ⟨g1, g2, g3⟩ := h7
  obtain ⟨i1, i2, -⟩ := h8
  obtain ⟨j1, j2, j3⟩ := h9
  obtain ⟨k1, k2, k3⟩ := h10
  refine ⟨?_, by omega, ?_⟩
  · rcases j3 with rfl | rfl
    · rcases g3 with rfl | rfl <;> omega
    · omega
  · rcases k3 with rfl | rfl
    · omega
    · rcases f3 with rfl | rfl <;> omega
def own_f (s0 s1 s2 s3 : Int32) : Nat → Int32 := own_upd (own_upd (own_upd (own_upd (fun _ => 0) 0 s0) 1 s1) 2 s2) 3 s3
theorem own_f_sorted {s0 s1 s2 s3 : Int32} (h : s0.toInt ≤ s1.toInt ∧ s1.toInt ≤ s2.toInt ∧ s2.toInt ≤ s3.toInt) : ∀ i j : Nat, i ≤ j → j < 4 → (own_f s0 s1 s2 s3 i).toInt ≤ (own_f s0 s1 s2 s3 j).toInt := by
  intro i j hij hj
  have e0 : own_f s0 s1 s2 s3 0 = s0 := rfl
  have e1 : own_f s0 s1 s2 s3 1 = s1 := rfl
  have e2 : own_f s0 s1 s2 s3 2 = s2 := rfl
  have e3 : own_f s0 s1 s2 s3 3 = s3 := rfl
  have ci : i = 0 ∨ i = 1 ∨ i = 2 ∨ i = 3 := by omega
  have cj : j = 0 ∨ j = 1 ∨ j = 2 ∨ j = 3 := by omega
  rcases ci with rfl | rfl | rfl | rfl <;> rcases cj with rfl | rfl | rfl | rfl <;> simp only [e0, e1, e2, e3] <;> omega
theorem own_cnt (x : Int32) : 0 ≤ ((x &&& 2147483647) % 5).toInt ∧ ((x &&& 2147483647) % 5).toInt ≤ 4 := by
  have a := (c_and x 2147483647 (by decide)).1
  have e5 : (5 : Int32).toInt = 5 := by decide
  have r := (c_irem (x &&& 2147483647) 5 5 e5).1 a
  omega
theorem own_same {s0 s1 s2 s3 cnt r x1 x2 x3 x4 : Int32} {v : Int64} (hs : s0.toInt ≤ s1.toInt ∧ s1.toInt ≤ s2.toInt ∧ s2.toInt ≤ s3.toInt) (hc : 0 ≤ cnt.toInt ∧ cnt.toInt ≤ 4) (hr : own_isFirst (own_f s0 s1 s2 s3) cnt v r)
    (h1 : x1 = if (0 : Int32) < cnt ∧ s0.toInt64 < v then 1 else 0) (h2 : x2 = if (1 : Int32) < cnt ∧ s1.toInt64 < v then 2 else x1) (h3 : x3 = if (2 : Int32) < cnt ∧ s2.toInt64 < v then 3 else x2) (h4 : x4 = if (3 : Int32) < cnt ∧ s3.toInt64 < v then 4 else x3) : r = x4 := by
  have e0 : (0 : Int32).toInt = 0 := by decide
  have e1 : (1 : Int32).toInt = 1 := by decide
  have e2 : (2 : Int32).toInt = 2 := by decide
  have e3 : (3 : Int32).toInt = 3 := by decide
  have e4 : (4 : Int32).toInt = 4 := by decide
  simp only [Int32.lt_iff_toInt_lt, Int64.lt_iff_toInt_lt, c_i2l, e0, e1, e2, e3] at h1 h2 h3 h4
  obtain ⟨q1, q2, q3, q4⟩ := hr
  have f0 : own_f s0 s1 s2 s3 0 = s0 := rfl
  have f1 : own_f s0 s1 s2 s3 1 = s1 := rfl
  have f2 : own_f s0 s1 s2 s3 2 = s2 := rfl
  have f3 : own_f s0 s1 s2 s3 3 = s3 := rfl
  have l0 := q3 0; have l1 := q3 1; have l2 := q3 2; have l3 := q3 3
  have u0 := q4 0; have u1 := q4 1; have u2 := q4 2; have u3 := q4 3
  rw [f0] at l0 u0; rw [f1] at l1 u1; rw [f2] at l2 u2; rw [f3] at l3 u3
  clear q3 q4
  apply Int32.toInt_inj.mp
  by_cases c4 : 3 < cnt.toInt ∧ s3.toInt < v.toInt
  · rw [if_pos c4] at h4; subst h4; omega
  · rw [if_neg c4] at h4; subst h4
    by_cases c3 : 2 < cnt.toInt ∧ s2.toInt < v.toInt
    · rw [if_pos c3] at h3; subst h3; omega
    · rw [if_neg c3] at h3; subst h3
      by_cases c2 : 1 < cnt.toInt ∧ s1.toInt < v.toInt
      · rw [if_pos c2] at h2; subst h2; omega
      · rw [if_neg c2] at h2; subst h2
        by_cases c1 : 0 < cnt.toInt ∧ s0.toInt < v.toInt
        · rw [if_pos c1] at h1; subst h1; omega
        · rw [if_neg c1] at h1; subst h1; omega
/-! the callees -/
theorem d1_0 : decode jdk_29_method_69_code 0 = .ok (.iload_n 0, 1) := by decide +kernel
theorem d1_1 : decode jdk_29_method_69_code 1 = .ok (.iload_n 1, 1) := by decide +kernel
theorem d1_2 : decode jdk_29_method_69_code 2 = .ok (.if_icmp .gt 7, 3) := by decide +kernel
theorem d1_5 : decode jdk_29_method_69_code 5 = .ok (.iload_n 0, 1) := by decide +kernel
theorem d1_6 : decode jdk_29_method_69_code 6 = .ok (.goto 4, 3) := by decide +kernel
theorem d1_9 : decode jdk_29_method_69_code 9 = .ok (.iload_n 1, 1) := by decide +kernel
theorem d1_10 : decode jdk_29_method_69_code 10 = .ok (.ireturn, 1) := by decide +kernel
theorem pd1 : parseMethodDescriptor "(II)I" = some ⟨[.int, .int], some .int⟩ := by decide +kernel
theorem ef1 (m : MethodId) (x0 : Int32) (x1 : Int32) : entryFrame m #[(.int x0), (.int x1)] 2 = mkF m 0 #[.val (.int x0), .val (.int x1)] [] := by first | (simp [entryFrame, mkF, argsToLocals, Value.category]; done) | rfl
set_option maxRecDepth 65536 in
set_option maxHeartbeats 40000000 in
theorem rm1 (l : Launch) (Z : State) (a0 : Array Value) (hw : ∀ d ∈ tables_1, d.before a0 Z = true) (ws : List Jvm.Cond) (p1 : Int32) (p2 : Int32) (h0 : Heap) (n0 : Nat) (Z0 : n0 ≤ h0.size) :
    own_Con l Z (⟨"java/lang/Math", "min", "(II)I"⟩ : MethodName) jdk_29_method_69_code 2 (some .int) ws ({ frames := 0, cells := 0, slots := 0, locals := 0 } : Room) #[(.int p1), (.int p2)] h0 (own_PI (own_isMin p1 p2) h0 n0) := by
  refine own_body (Jvm.Free.JP.mathPlain rfl (by decide +kernel)) ?_
  intro p e s m below meth c s₁ hx hby hml0 hZ hown0 hnm0 hret0 hk e0 X0
  have hown : s.vm.findClass "java/lang/Math" = some m.cls := hown0
  have hnm : meth.name = "min" := hnm0
  have hret : meth.sig.returnType = (some .int) := hret0
  have hml : c.maxLocals = 2 := hml0
  have N0 := Fr.nil n0
  refine own_cast (ef1 m p1 p2) ?_
  refine own_go (T' := s₁) (g' := (mkF m 2 #[.val (.int p1), .val (.int p2)] [(.int p2), (.int p1)])) (fun t_ k_ => ?_) ?_
  · refine XS.iloadN X0.here hx rfl (hb hby d1_0) rfl ?_
    show Steps p.tables e below (s₁.setTop (mkF m 1 #[.val (.int p1), .val (.int p2)] [(.int p1)])) _
    refine XS.iloadN X0.here hx rfl (hb hby d1_1) rfl ?_
    show Steps p.tables e below (s₁.setTop (mkF m 2 #[.val (.int p1), .val (.int p2)] [(.int p2), (.int p1)])) _
    exact k_
  by_cases c1 : p2 < p1
  · refine own_go (T' := s₁) (g' := (mkF m 10 #[.val (.int p1), .val (.int p2)] [(.int p2)])) (fun t_ k_ => ?_) ?_
    · refine XS.icmpYes X0.here hx rfl (pc0 := 2) (pc' := 9) rfl (hb hby d1_2) rfl (tlt c1).2.2.1 (by decide) (by decide) ?_
      show Steps p.tables e below (s₁.setTop (mkF m 9 #[.val (.int p1), .val (.int p2)] [])) _
      refine XS.iloadN X0.here hx rfl (hb hby d1_9) rfl ?_
      show Steps p.tables e below (s₁.setTop (mkF m 10 #[.val (.int p1), .val (.int p2)] [(.int p2)])) _
      exact k_
    rw [Int32.lt_iff_toInt_lt] at c1
    exact own_retI X0 hx hret hk (hb hby d1_10) (by decide) (by decide) ⟨_, rfl, ⟨by omega, by omega, by first | exact Or.inl rfl | exact Or.inr rfl⟩, N0, e0⟩
  · refine own_go (T' := s₁) (g' := (mkF m 10 #[.val (.int p1), .val (.int p2)] [(.int p1)])) (fun t_ k_ => ?_) ?_
    · refine XS.icmpNo X0.here hx rfl (hb hby d1_2) rfl (flt c1).2.2.1 ?_
      show Steps p.tables e below (s₁.setTop (mkF m 5 #[.val (.int p1), .val (.int p2)] [])) _
      refine XS.iloadN X0.here hx rfl (hb hby d1_5) rfl ?_
      show Steps p.tables e below (s₁.setTop (mkF m 6 #[.val (.int p1), .val (.int p2)] [(.int p1)])) _
      refine XS.goto X0.here hx rfl (pc0 := 6) (pc' := 10) rfl (hb hby d1_6) (by decide) (by decide) ?_
      show Steps p.tables e below (s₁.setTop (mkF m 10 #[.val (.int p1), .val (.int p2)] [(.int p1)])) _
      exact k_
    rw [Int32.lt_iff_toInt_lt] at c1
    exact own_retI X0 hx hret hk (hb hby d1_10) (by decide) (by decide) ⟨_, rfl, ⟨by omega, by omega, by first | exact Or.inl rfl | exact Or.inr rfl⟩, N0, e0⟩
theorem d2_0 : decode jdk_29_method_65_code 0 = .ok (.iload_n 0, 1) := by decide +kernel
theorem d2_1 : decode jdk_29_method_65_code 1 = .ok (.iload_n 1, 1) := by decide +kernel
theorem d2_2 : decode jdk_29_method_65_code 2 = .ok (.if_icmp .lt 7, 3) := by decide +kernel
theorem d2_5 : decode jdk_29_method_65_code 5 = .ok (.iload_n 0, 1) := by decide +kernel
theorem d2_6 : decode jdk_29_method_65_code 6 = .ok (.goto 4, 3) := by decide +kernel
theorem d2_9 : decode jdk_29_method_65_code 9 = .ok (.iload_n 1, 1) := by decide +kernel
theorem d2_10 : decode jdk_29_method_65_code 10 = .ok (.ireturn, 1) := by decide +kernel
theorem pd2 : parseMethodDescriptor "(II)I" = some ⟨[.int, .int], some .int⟩ := by decide +kernel
theorem ef2 (m : MethodId) (x0 : Int32) (x1 : Int32) : entryFrame m #[(.int x0), (.int x1)] 2 = mkF m 0 #[.val (.int x0), .val (.int x1)] [] := by first | (simp [entryFrame, mkF, argsToLocals, Value.category]; done) | rfl
set_option maxRecDepth 65536 in
set_option maxHeartbeats 40000000 in
theorem rm2 (l : Launch) (Z : State) (a0 : Array Value) (hw : ∀ d ∈ tables_1, d.before a0 Z = true) (ws : List Jvm.Cond) (p1 : Int32) (p2 : Int32) (h0 : Heap) (n0 : Nat) (Z0 : n0 ≤ h0.size) :
    own_Con l Z (⟨"java/lang/Math", "max", "(II)I"⟩ : MethodName) jdk_29_method_65_code 2 (some .int) ws ({ frames := 0, cells := 0, slots := 0, locals := 0 } : Room) #[(.int p1), (.int p2)] h0 (own_PI (own_isMax p1 p2) h0 n0) := by
  refine own_body (Jvm.Free.JP.mathPlain rfl (by decide +kernel)) ?_
  intro p e s m below meth c s₁ hx hby hml0 hZ hown0 hnm0 hret0 hk e0 X0
  have hown : s.vm.findClass "java/lang/Math" = some m.cls := hown0
  have hnm : meth.name = "max" := hnm0
  have hret : meth.sig.returnType = (some .int) := hret0
  have hml : c.maxLocals = 2 := hml0
  have N0 := Fr.nil n0
  refine own_cast (ef2 m p1 p2) ?_
  refine own_go (T' := s₁) (g' := (mkF m 2 #[.val (.int p1), .val (.int p2)] [(.int p2), (.int p1)])) (fun t_ k_ => ?_) ?_
  · refine XS.iloadN X0.here hx rfl (hb hby d2_0) rfl ?_
    show Steps p.tables e below (s₁.setTop (mkF m 1 #[.val (.int p1), .val (.int p2)] [(.int p1)])) _
    refine XS.iloadN X0.here hx rfl (hb hby d2_1) rfl ?_
    show Steps p.tables e below (s₁.setTop (mkF m 2 #[.val (.int p1), .val (.int p2)] [(.int p2), (.int p1)])) _
    exact k_
  by_cases c1 : p1 < p2
  · refine own_go (T' := s₁) (g' := (mkF m 10 #[.val (.int p1), .val (.int p2)] [(.int p2)])) (fun t_ k_ => ?_) ?_
    · refine XS.icmpYes X0.here hx rfl (pc0 := 2) (pc' := 9) rfl (hb hby d2_2) rfl (tlt c1).1 (by decide) (by decide) ?_
      show Steps p.tables e below (s₁.setTop (mkF m 9 #[.val (.int p1), .val (.int p2)] [])) _
      refine XS.iloadN X0.here hx rfl (hb hby d2_9) rfl ?_
      show Steps p.tables e below (s₁.setTop (mkF m 10 #[.val (.int p1), .val (.int p2)] [(.int p2)])) _
      exact k_
    rw [Int32.lt_iff_toInt_lt] at c1
    exact own_retI X0 hx hret hk (hb hby d2_10) (by decide) (by decide) ⟨_, rfl, ⟨by omega, by omega, by first | exact Or.inl rfl | exact Or.inr rfl⟩, N0, e0⟩
  · refine own_go (T' := s₁) (g' := (mkF m 10 #[.val (.int p1), .val (.int p2)] [(.int p1)])) (fun t_ k_ => ?_) ?_
    · refine XS.icmpNo X0.here hx rfl (hb hby d2_2) rfl (flt c1).1 ?_
      show Steps p.tables e below (s₁.setTop (mkF m 5 #[.val (.int p1), .val (.int p2)] [])) _
      refine XS.iloadN X0.here hx rfl (hb hby d2_5) rfl ?_
      show Steps p.tables e below (s₁.setTop (mkF m 6 #[.val (.int p1), .val (.int p2)] [(.int p1)])) _
      refine XS.goto X0.here hx rfl (pc0 := 6) (pc' := 10) rfl (hb hby d2_6) (by decide) (by decide) ?_
      show Steps p.tables e below (s₁.setTop (mkF m 10 #[.val (.int p1), .val (.int p2)] [(.int p1)])) _
      exact k_
    rw [Int32.lt_iff_toInt_lt] at c1
    exact own_retI X0 hx hret hk (hb hby d2_10) (by decide) (by decide) ⟨_, rfl, ⟨by omega, by omega, by first | exact Or.inl rfl | exact Or.inr rfl⟩, N0, e0⟩
theorem d3_0 : decode prog_5_method_27_code 0 = .ok (.iconst 0, 1) := by decide +kernel
theorem d3_1 : decode prog_5_method_27_code 1 = .ok (.istore 4, 2) := by decide +kernel
theorem d3_3 : decode prog_5_method_27_code 3 = .ok (.iload_n 1, 1) := by decide +kernel
theorem d3_4 : decode prog_5_method_27_code 4 = .ok (.istore 5, 2) := by decide +kernel
theorem d3_6 : decode prog_5_method_27_code 6 = .ok (.iload 4, 2) := by decide +kernel
theorem d3_8 : decode prog_5_method_27_code 8 = .ok (.iload 5, 2) := by decide +kernel
theorem d3_10 : decode prog_5_method_27_code 10 = .ok (.if_icmp .ge 38, 3) := by decide +kernel
theorem d3_13 : decode prog_5_method_27_code 13 = .ok (.iload 4, 2) := by decide +kernel
theorem d3_15 : decode prog_5_method_27_code 15 = .ok (.iload 5, 2) := by decide +kernel
theorem d3_17 : decode prog_5_method_27_code 17 = .ok (.iadd, 1) := by decide +kernel
theorem d3_18 : decode prog_5_method_27_code 18 = .ok (.iconst 1, 1) := by decide +kernel
theorem d3_19 : decode prog_5_method_27_code 19 = .ok (.iushr, 1) := by decide +kernel
theorem d3_20 : decode prog_5_method_27_code 20 = .ok (.istore 6, 2) := by decide +kernel
theorem d3_22 : decode prog_5_method_27_code 22 = .ok (.aload_n 0, 1) := by decide +kernel
theorem d3_23 : decode prog_5_method_27_code 23 = .ok (.iload 6, 2) := by decide +kernel
theorem d3_25 : decode prog_5_method_27_code 25 = .ok (.iaload, 1) := by decide +kernel
theorem d3_26 : decode prog_5_method_27_code 26 = .ok (.i2l, 1) := by decide +kernel
theorem d3_27 : decode prog_5_method_27_code 27 = .ok (.lload_n 2, 1) := by decide +kernel
theorem d3_28 : decode prog_5_method_27_code 28 = .ok (.lcmp, 1) := by decide +kernel
theorem d3_29 : decode prog_5_method_27_code 29 = .ok (.ifCond .ge 12, 3) := by decide +kernel
theorem d3_32 : decode prog_5_method_27_code 32 = .ok (.iload 6, 2) := by decide +kernel
theorem d3_34 : decode prog_5_method_27_code 34 = .ok (.iconst 1, 1) := by decide +kernel
theorem d3_35 : decode prog_5_method_27_code 35 = .ok (.iadd, 1) := by decide +kernel
theorem d3_36 : decode prog_5_method_27_code 36 = .ok (.istore 4, 2) := by decide +kernel
theorem d3_38 : decode prog_5_method_27_code 38 = .ok (.goto 7, 3) := by decide +kernel
theorem d3_41 : decode prog_5_method_27_code 41 = .ok (.iload 6, 2) := by decide +kernel
theorem d3_43 : decode prog_5_method_27_code 43 = .ok (.istore 5, 2) := by decide +kernel
theorem d3_45 : decode prog_5_method_27_code 45 = .ok (.goto (-39), 3) := by decide +kernel
theorem d3_48 : decode prog_5_method_27_code 48 = .ok (.iload 4, 2) := by decide +kernel
theorem d3_50 : decode prog_5_method_27_code 50 = .ok (.ireturn, 1) := by decide +kernel
theorem pd3 : parseMethodDescriptor "([IIJ)I" = some ⟨[(.array .int), .int, .long], some .int⟩ := by decide +kernel
theorem pn3 : plainName "com/example/wordspan/wordspan/ChainShape" = true := by first | (simp [plainName, overriddenIn]; done) | decide +kernel
theorem ef3 (m : MethodId) (x0 : Addr) (x1 : Int32) (x2 : Int64) : entryFrame m #[(.ref x0), (.int x1), (.long x2)] 7 = mkF m 0 #[.val (.ref x0), .val (.int x1), .val (.long x2), .second, .unset, .unset, .unset] [] := by first | (simp [entryFrame, mkF, argsToLocals, Value.category]; done) | rfl

theorem own_os6 {s0 s1 s2 s3 s6 : Slot} {z4 z5 : Value} {v : Int32} (h : One s6) : storeLocals #[s0, s1, s2, s3, .val z4, .val z5, s6] 6 (.int v) = some #[s0, s1, s2, s3, .val z4, .val z5, .val (.int v)] := by
  rcases h with rfl | ⟨w, rfl, hw⟩
  · rfl
  · cases w <;> first | rfl | (simp [Value.category] at hw)
theorem own_mid {lo hi : Int32} (h0 : 0 ≤ lo.toInt) (h1 : lo.toInt < hi.toInt) (h2 : hi.toInt ≤ 4) : (((lo + hi).toUInt32 >>> ((1 : Int32) &&& 31).toUInt32).toInt32).toInt = (lo.toInt + hi.toInt) / 2 := by
  have a := c_iadd lo hi
  have r := rng32 (lo + hi)
  have s := c_iushr (lo + hi) 1 1 (by decide) (by decide)
  rw [s]
  omega
set_option maxRecDepth 65536 in
set_option maxHeartbeats 40000000 in
theorem own_loop {p : Program} {l : Launch} {e : Env} {R : Room} {s : State} {m : MethodId} {args : Array Value} {below : List Frame} {meth : Method} {c : Code} {T : State} {locs : List Loc} {cells slots C S : Nat} {Q : Option Value → Heap → List Loc → Prop} {Z : State} {h0 : Heap} {a : Addr} {cnt : Int32} {val : Int64} {f : Nat → Int32}
    (hx : p.tables.exec = Jvm.exec) (hZ : Z.Warmed39 s.vm) (hby : c.code = prog_5_method_27_code) (hret : meth.sig.returnType = some .int) (hk : meth.locks = false) (X0 : Stand p l e R s m args below meth c T locs cells slots) (e0 : T.heap = h0) (hC : cells ≤ C) (hS : slots ≤ S) (A : own_Ar Z h0 a 4 f) (hcn : cnt.toInt ≤ 4) (srt : ∀ i j : Nat, i ≤ j → j < 4 → (f i).toInt ≤ (f j).toInt)
    (fin : ∀ r : Int32, own_isFirst f cnt val r → Q (some (.int r)) T.heap locs) :
    ∀ (d : Nat) (lo hi : Int32) (s6 : Slot), One s6 → 0 ≤ lo.toInt → lo.toInt ≤ hi.toInt → hi.toInt ≤ cnt.toInt → hi.toInt - lo.toInt ≤ d → (∀ i : Nat, (i : Int) < lo.toInt → (f i).toInt < val.toInt) → (∀ i : Nat, hi.toInt ≤ i → (i : Int) < cnt.toInt → val.toInt ≤ (f i).toInt) →
      own_Go p e below s C S Q T (mkF m 6 #[.val (.ref a), .val (.int cnt), .val (.long val), .second, .val (.int lo), .val (.int hi), s6] []) := by
  have leave : ∀ (lo hi : Int32) (s6 : Slot), 0 ≤ lo.toInt → lo.toInt ≤ hi.toInt → hi.toInt ≤ cnt.toInt → (∀ i : Nat, (i : Int) < lo.toInt → (f i).toInt < val.toInt) → (∀ i : Nat, hi.toInt ≤ i → (i : Int) < cnt.toInt → val.toInt ≤ (f i).toInt) → ¬ lo < hi → own_Go p e below s C S Q T (mkF m 6 #[.val (.ref a), .val (.int cnt), .val (.long val), .second, .val (.int lo), .val (.int hi), s6] []) := by
    intro lo hi s6 h1 h2 h3 h5 h6 hlt
    refine own_go (T' := T) (g' := (mkF m 50 #[.val (.ref a), .val (.int cnt), .val (.long val), .second, .val (.int lo), .val (.int hi), s6] [(.int lo)])) (fun t_ k_ => ?_) ?_
    · refine XS.iload X0.here hx rfl (hb hby d3_6) rfl ?_
      show Steps p.tables e below (T.setTop (mkF m 8 #[.val (.ref a), .val (.int cnt), .val (.long val), .second, .val (.int lo), .val (.int hi), s6] [(.int lo)])) _
      refine XS.iload X0.here hx rfl (hb hby d3_8) rfl ?_
      show Steps p.tables e below (T.setTop (mkF m 10 #[.val (.ref a), .val (.int cnt), .val (.long val), .second, .val (.int lo), .val (.int hi), s6] [(.int hi), (.int lo)])) _
      refine XS.icmpYes X0.here hx rfl (pc0 := 10) (pc' := 48) rfl (hb hby d3_10) rfl (flt hlt).2.1 (by decide) (by decide) ?_
      show Steps p.tables e below (T.setTop (mkF m 48 #[.val (.ref a), .val (.int cnt), .val (.long val), .second, .val (.int lo), .val (.int hi), s6] [])) _
      refine XS.iload X0.here hx rfl (hb hby d3_48) rfl ?_
      show Steps p.tables e below (T.setTop (mkF m 50 #[.val (.ref a), .val (.int cnt), .val (.long val), .second, .val (.int lo), .val (.int hi), s6] [(.int lo)])) _
      exact k_
    rw [Int32.lt_iff_toInt_lt] at hlt
    exact own_retI X0 hx hret hk (hb hby d3_50) hC hS (fin lo ⟨h1, by omega, h5, fun i q r => h6 i (by omega) r⟩)
  intro d
  induction d with
  | zero =>
    intro lo hi s6 o6 h1 h2 h3 h4 h5 h6
    exact leave lo hi s6 h1 h2 h3 h5 h6 (by rw [Int32.lt_iff_toInt_lt]; omega)
  | succ d ih =>
    intro lo hi s6 o6 h1 h2 h3 h4 h5 h6
    by_cases hlt : lo < hi
    case neg => exact leave lo hi s6 h1 h2 h3 h5 h6 hlt
    have hlt' := Int32.lt_iff_toInt_lt.mp hlt
    have hm := own_mid h1 hlt' (Int.le_trans h3 hcn)
    refine own_go (T' := T) (g' := (mkF m 22 #[.val (.ref a), .val (.int cnt), .val (.long val), .second, .val (.int lo), .val (.int hi), .val (.int ((((lo + hi)).toUInt32 >>> ((1 : Int32) &&& 31).toUInt32).toInt32))] [])) (fun t_ k_ => ?_) ?_
    · refine XS.iload X0.here hx rfl (hb hby d3_6) rfl ?_
      show Steps p.tables e below (T.setTop (mkF m 8 #[.val (.ref a), .val (.int cnt), .val (.long val), .second, .val (.int lo), .val (.int hi), s6] [(.int lo)])) _
      refine XS.iload X0.here hx rfl (hb hby d3_8) rfl ?_
      show Steps p.tables e below (T.setTop (mkF m 10 #[.val (.ref a), .val (.int cnt), .val (.long val), .second, .val (.int lo), .val (.int hi), s6] [(.int hi), (.int lo)])) _
      refine XS.icmpNo X0.here hx rfl (hb hby d3_10) rfl (tlt hlt).2.1 ?_
      show Steps p.tables e below (T.setTop (mkF m 13 #[.val (.ref a), .val (.int cnt), .val (.long val), .second, .val (.int lo), .val (.int hi), s6] [])) _
      refine XS.iload X0.here hx rfl (hb hby d3_13) rfl ?_
      show Steps p.tables e below (T.setTop (mkF m 15 #[.val (.ref a), .val (.int cnt), .val (.long val), .second, .val (.int lo), .val (.int hi), s6] [(.int lo)])) _
      refine XS.iload X0.here hx rfl (hb hby d3_15) rfl ?_
      show Steps p.tables e below (T.setTop (mkF m 17 #[.val (.ref a), .val (.int cnt), .val (.long val), .second, .val (.int lo), .val (.int hi), s6] [(.int hi), (.int lo)])) _
      refine XS.iadd X0.here hx rfl (hb hby d3_17) rfl ?_
      show Steps p.tables e below (T.setTop (mkF m 18 #[.val (.ref a), .val (.int cnt), .val (.long val), .second, .val (.int lo), .val (.int hi), s6] [(.int (lo + hi))])) _
      refine XS.iconst X0.here hx rfl (hb hby d3_18) ?_
      show Steps p.tables e below (T.setTop (mkF m 19 #[.val (.ref a), .val (.int cnt), .val (.long val), .second, .val (.int lo), .val (.int hi), s6] [(.int (1 : Int32)), (.int (lo + hi))])) _
      refine XS.iushr X0.here hx rfl (hb hby d3_19) rfl ?_
      show Steps p.tables e below (T.setTop (mkF m 20 #[.val (.ref a), .val (.int cnt), .val (.long val), .second, .val (.int lo), .val (.int hi), s6] [(.int ((((lo + hi)).toUInt32 >>> ((1 : Int32) &&& 31).toUInt32).toInt32))])) _
      refine XS.istore X0.here hx rfl (hb hby d3_20) rfl (l' := #[.val (.ref a), .val (.int cnt), .val (.long val), .second, .val (.int lo), .val (.int hi), .val (.int ((((lo + hi)).toUInt32 >>> ((1 : Int32) &&& 31).toUInt32).toInt32))]) (own_os6 o6) ?_
      show Steps p.tables e below (T.setTop (mkF m 22 #[.val (.ref a), .val (.int cnt), .val (.long val), .second, .val (.int lo), .val (.int hi), .val (.int ((((lo + hi)).toUInt32 >>> ((1 : Int32) &&& 31).toUInt32).toInt32))] [])) _
      exact k_
    obtain ⟨mid, hmid⟩ : ∃ z : Int32, z = ((((lo + hi)).toUInt32 >>> ((1 : Int32) &&& 31).toUInt32).toInt32) := ⟨_, rfl⟩
    rw [← hmid] at hm ⊢
    obtain ⟨k, hk'⟩ : ∃ k : Nat, mid.toInt = k := ⟨mid.toInt.toNat, by omega⟩
    refine own_go (T' := T) (g' := (mkF m 25 #[.val (.ref a), .val (.int cnt), .val (.long val), .second, .val (.int lo), .val (.int hi), .val (.int mid)] [(.int mid), (.ref a)])) (fun t_ k_ => ?_) ?_
    · refine XS.aloadN X0.here hx rfl (hb hby d3_22) rfl rfl ?_
      show Steps p.tables e below (T.setTop (mkF m 23 #[.val (.ref a), .val (.int cnt), .val (.long val), .second, .val (.int lo), .val (.int hi), .val (.int mid)] [(.ref a)])) _
      refine XS.iload X0.here hx rfl (hb hby d3_23) rfl ?_
      show Steps p.tables e below (T.setTop (mkF m 25 #[.val (.ref a), .val (.int cnt), .val (.long val), .second, .val (.int lo), .val (.int hi), .val (.int mid)] [(.int mid), (.ref a)])) _
      exact k_
    refine own_iaload X0 hx hZ e0 A k hk' (by omega) rfl rfl (hb hby d3_25) ?_
    show own_Go p e below s C S Q T (mkF m 26 #[.val (.ref a), .val (.int cnt), .val (.long val), .second, .val (.int lo), .val (.int hi), .val (.int mid)] [(.int (f k))])
    refine own_go (T' := T) (g' := (mkF m 29 #[.val (.ref a), .val (.int cnt), .val (.long val), .second, .val (.int lo), .val (.int hi), .val (.int mid)] [(.int (lcmpW ((f k).toInt64) val))])) (fun t_ k_ => ?_) ?_
    · refine XS.i2l X0.here hx rfl (hb hby d3_26) rfl ?_
      show Steps p.tables e below (T.setTop (mkF m 27 #[.val (.ref a), .val (.int cnt), .val (.long val), .second, .val (.int lo), .val (.int hi), .val (.int mid)] [(.long ((f k).toInt64))])) _
      refine XS.lloadN X0.here hx rfl (hb hby d3_27) rfl ?_
      show Steps p.tables e below (T.setTop (mkF m 28 #[.val (.ref a), .val (.int cnt), .val (.long val), .second, .val (.int lo), .val (.int hi), .val (.int mid)] [(.long val), (.long ((f k).toInt64))])) _
      refine XS.lcmp X0.here hx rfl (hb hby d3_28) rfl ?_
      show Steps p.tables e below (T.setTop (mkF m 29 #[.val (.ref a), .val (.int cnt), .val (.long val), .second, .val (.int lo), .val (.int hi), .val (.int mid)] [(.int (lcmpW ((f k).toInt64) val))])) _
      exact k_
    by_cases c29 : ((f k).toInt64) < val
    · refine own_go (T' := T) (g' := (mkF m 6 #[.val (.ref a), .val (.int cnt), .val (.long val), .second, .val (.int (mid + (1 : Int32))), .val (.int hi), .val (.int mid)] [])) (fun t_ k_ => ?_) ?_
      · refine XS.ifNo X0.here hx rfl (hb hby d3_29) rfl ((if0 _ _).trans (tlt ((lw_lt _ _).mpr c29)).2.1) ?_
        show Steps p.tables e below (T.setTop (mkF m 32 #[.val (.ref a), .val (.int cnt), .val (.long val), .second, .val (.int lo), .val (.int hi), .val (.int mid)] [])) _
        refine XS.iload X0.here hx rfl (hb hby d3_32) rfl ?_
        show Steps p.tables e below (T.setTop (mkF m 34 #[.val (.ref a), .val (.int cnt), .val (.long val), .second, .val (.int lo), .val (.int hi), .val (.int mid)] [(.int mid)])) _
        refine XS.iconst X0.here hx rfl (hb hby d3_34) ?_
        show Steps p.tables e below (T.setTop (mkF m 35 #[.val (.ref a), .val (.int cnt), .val (.long val), .second, .val (.int lo), .val (.int hi), .val (.int mid)] [(.int (1 : Int32)), (.int mid)])) _
        refine XS.iadd X0.here hx rfl (hb hby d3_35) rfl ?_
        show Steps p.tables e below (T.setTop (mkF m 36 #[.val (.ref a), .val (.int cnt), .val (.long val), .second, .val (.int lo), .val (.int hi), .val (.int mid)] [(.int (mid + (1 : Int32)))])) _
        refine XS.istore X0.here hx rfl (hb hby d3_36) rfl (l' := #[.val (.ref a), .val (.int cnt), .val (.long val), .second, .val (.int (mid + (1 : Int32))), .val (.int hi), .val (.int mid)]) rfl ?_
        show Steps p.tables e below (T.setTop (mkF m 38 #[.val (.ref a), .val (.int cnt), .val (.long val), .second, .val (.int (mid + (1 : Int32))), .val (.int hi), .val (.int mid)] [])) _
        refine XS.goto X0.here hx rfl (pc0 := 38) (pc' := 45) rfl (hb hby d3_38) (by decide) (by decide) ?_
        show Steps p.tables e below (T.setTop (mkF m 45 #[.val (.ref a), .val (.int cnt), .val (.long val), .second, .val (.int (mid + (1 : Int32))), .val (.int hi), .val (.int mid)] [])) _
        refine XS.goto X0.here hx rfl (pc0 := 45) (pc' := 6) rfl (hb hby d3_45) (by decide) (by decide) ?_
        show Steps p.tables e below (T.setTop (mkF m 6 #[.val (.ref a), .val (.int cnt), .val (.long val), .second, .val (.int (mid + (1 : Int32))), .val (.int hi), .val (.int mid)] [])) _
        exact k_
      rw [Int64.lt_iff_toInt_lt, c_i2l] at c29
      have hp : (mid + 1).toInt = mid.toInt + 1 := by
              have q := c_iadd mid 1
              have r := rng32 (mid + 1)
              have e1 : (1 : Int32).toInt = 1 := by decide
              omega
      exact ih (mid + 1) hi _ (One.val rfl) (by omega) (by omega) h3 (by omega) (fun i q => Int.lt_of_le_of_lt (srt i k (by omega) (by omega)) c29) h6
    · refine own_go (T' := T) (g' := (mkF m 6 #[.val (.ref a), .val (.int cnt), .val (.long val), .second, .val (.int lo), .val (.int mid), .val (.int mid)] [])) (fun t_ k_ => ?_) ?_
      · refine XS.ifYes X0.here hx rfl (pc0 := 29) (pc' := 41) rfl (hb hby d3_29) rfl ((if0 _ _).trans (flt (mt (lw_lt _ _).mp c29)).2.1) (by decide) (by decide) ?_
        show Steps p.tables e below (T.setTop (mkF m 41 #[.val (.ref a), .val (.int cnt), .val (.long val), .second, .val (.int lo), .val (.int hi), .val (.int mid)] [])) _
        refine XS.iload X0.here hx rfl (hb hby d3_41) rfl ?_
        show Steps p.tables e below (T.setTop (mkF m 43 #[.val (.ref a), .val (.int cnt), .val (.long val), .second, .val (.int lo), .val (.int hi), .val (.int mid)] [(.int mid)])) _
        refine XS.istore X0.here hx rfl (hb hby d3_43) rfl (l' := #[.val (.ref a), .val (.int cnt), .val (.long val), .second, .val (.int lo), .val (.int mid), .val (.int mid)]) rfl ?_
        show Steps p.tables e below (T.setTop (mkF m 45 #[.val (.ref a), .val (.int cnt), .val (.long val), .second, .val (.int lo), .val (.int mid), .val (.int mid)] [])) _
        refine XS.goto X0.here hx rfl (pc0 := 45) (pc' := 6) rfl (hb hby d3_45) (by decide) (by decide) ?_
        show Steps p.tables e below (T.setTop (mkF m 6 #[.val (.ref a), .val (.int cnt), .val (.long val), .second, .val (.int lo), .val (.int mid), .val (.int mid)] [])) _
        exact k_
      rw [Int64.lt_iff_toInt_lt, c_i2l] at c29
      exact ih lo mid _ (One.val rfl) h1 (by omega) (by omega) (by omega) h5 (fun i q r => Int.le_trans (Int.not_lt.mp c29) (srt k i (by omega) (by omega)))
set_option maxRecDepth 65536 in
set_option maxHeartbeats 40000000 in
theorem rm3 (l : Launch) (Z : State) (a0 : Array Value) (hw : ∀ d ∈ tables_1, d.before a0 Z = true) (ws : List Jvm.Cond) (a : Addr) (cnt : Int32) (val : Int64) (h0 : Heap) (n0 : Nat) (Z0 : n0 ≤ h0.size) (f : Nat → Int32) (A : own_Ar Z h0 a 4 f) (hcn : 0 ≤ cnt.toInt ∧ cnt.toInt ≤ 4) (srt : ∀ i j : Nat, i ≤ j → j < 4 → (f i).toInt ≤ (f j).toInt) :
    own_Con l Z (⟨"com/example/wordspan/wordspan/ChainShape", "firstAtLeast", "([IIJ)I"⟩ : MethodName) prog_5_method_27_code 7 (some .int) ws ({ frames := 0, cells := 0, slots := 0, locals := 0 } : Room) #[(.ref a), (.int cnt), (.long val)] h0 (own_PI (own_isFirst f cnt val) h0 n0) := by
  refine own_body (plainFor_of_name pn3) ?_
  intro p e s m below meth c s₁ hx hby hml0 hZ hown0 hnm0 hret0 hk e0 X0
  have hown : s.vm.findClass "com/example/wordspan/wordspan/ChainShape" = some m.cls := hown0
  have hnm : meth.name = "firstAtLeast" := hnm0
  have hret : meth.sig.returnType = (some .int) := hret0
  have hml : c.maxLocals = 7 := hml0
  have N0 := Fr.nil n0
  refine own_cast (ef3 m a cnt val) ?_
  refine own_go (T' := s₁) (g' := (mkF m 6 #[.val (.ref a), .val (.int cnt), .val (.long val), .second, .val (.int (0 : Int32)), .val (.int cnt), .unset] [])) (fun t_ k_ => ?_) ?_
  · refine XS.iconst X0.here hx rfl (hb hby d3_0) ?_
    show Steps p.tables e below (s₁.setTop (mkF m 1 #[.val (.ref a), .val (.int cnt), .val (.long val), .second, .unset, .unset, .unset] [(.int (0 : Int32))])) _
    refine XS.istore X0.here hx rfl (hb hby d3_1) rfl (l' := #[.val (.ref a), .val (.int cnt), .val (.long val), .second, .val (.int (0 : Int32)), .unset, .unset]) rfl ?_
    show Steps p.tables e below (s₁.setTop (mkF m 3 #[.val (.ref a), .val (.int cnt), .val (.long val), .second, .val (.int (0 : Int32)), .unset, .unset] [])) _
    refine XS.iloadN X0.here hx rfl (hb hby d3_3) rfl ?_
    show Steps p.tables e below (s₁.setTop (mkF m 4 #[.val (.ref a), .val (.int cnt), .val (.long val), .second, .val (.int (0 : Int32)), .unset, .unset] [(.int cnt)])) _
    refine XS.istore X0.here hx rfl (hb hby d3_4) rfl (l' := #[.val (.ref a), .val (.int cnt), .val (.long val), .second, .val (.int (0 : Int32)), .val (.int cnt), .unset]) rfl ?_
    show Steps p.tables e below (s₁.setTop (mkF m 6 #[.val (.ref a), .val (.int cnt), .val (.long val), .second, .val (.int (0 : Int32)), .val (.int cnt), .unset] [])) _
    exact k_
  have z0 : (0 : Int32).toInt = 0 := by decide
  exact own_loop hx hZ hby hret hk X0 e0 (by decide) (by decide) A hcn.2 srt (fun r hr => ⟨r, rfl, hr, N0, e0⟩) 4 0 cnt _ One.u (by omega) (by omega) (by omega) (by omega) (fun i q => by omega) (fun i q r => by omega)
/-! the law -/
theorem pn0 : plainName "com/example/wordspan/wordspan/ChainShapeFirstAtLeastPinLaw" = true := by first | (simp [plainName, overriddenIn]; done) | decide +kernel
theorem ef0 (m : MethodId) (x0 : Int32) (x1 : Int32) (x2 : Int32) (x3 : Int32) (x4 : Int32) (x5 : Int64) : entryFrame m #[(.int x0), (.int x1), (.int x2), (.int x3), (.int x4), (.long x5)] maxLocals = mkF m 0 #[.val (.int x0), .val (.int x1), .val (.int x2), .val (.int x3), .val (.int x4), .val (.long x5), .second, .unset, .unset, .unset, .unset, .unset, .unset, .unset, .unset, .unset, .unset, .unset, .unset, .unset, .unset] [] := by first | (simp [entryFrame, mkF, argsToLocals, Value.category, maxLocals]; done) | rfl
set_option maxRecDepth 65536 in
set_option maxHeartbeats 40000000 in
theorem rm0 (l : Launch) (Z : State) (a0 : Array Value) (hw : ∀ d ∈ tables_1, d.before a0 Z = true) (ws : List Jvm.Cond) (p1 : Int32) (p2 : Int32) (p3 : Int32) (p4 : Int32) (p5 : Int32) (val : Int64) (h0 : Heap) (n0 : Nat) (Z0 : n0 ≤ h0.size) :
    own_Con l Z x code maxLocals ret ws room_1 #[(.int p1), (.int p2), (.int p3), (.int p4), (.int p5), (.long val)] h0 (fun v _ L => v = some (.int (1 : Int32)) ∧ Fr n0 L) := by
  refine own_body (plainFor_of_name pn0) ?_
  intro p e s m below meth c s₁ hx hby hml0 hZ hown0 hnm0 hret0 hk e0 X0
  have hown : s.vm.findClass "com/example/wordspan/wordspan/ChainShapeFirstAtLeastPinLaw" = some m.cls := hown0
  have hnm : meth.name = "law" := hnm0
  have hret : meth.sig.returnType = (some .boolean) := hret0
  have hml : c.maxLocals = 21 := hml0
  have N0 := Fr.nil n0
  refine own_cast (ef0 m p1 p2 p3 p4 p5 val) ?_
  refine own_go (T' := s₁) (g' := (mkF m 2 #[.val (.int p1), .val (.int p2), .val (.int p3), .val (.int p4), .val (.int p5), .val (.long val), .second, .unset, .unset, .unset, .unset, .unset, .unset, .unset, .unset, .unset, .unset, .unset, .unset, .unset, .unset] [(.int p2), (.int p1)])) (fun t_ k_ => ?_) ?_
  · refine XS.iloadN X0.here hx rfl (hb hby at_0) rfl ?_
    show Steps p.tables e below (s₁.setTop (mkF m 1 #[.val (.int p1), .val (.int p2), .val (.int p3), .val (.int p4), .val (.int p5), .val (.long val), .second, .unset, .unset, .unset, .unset, .unset, .unset, .unset, .unset, .unset, .unset, .unset, .unset, .unset, .unset] [(.int p1)])) _
    refine XS.iloadN X0.here hx rfl (hb hby at_1) rfl ?_
    show Steps p.tables e below (s₁.setTop (mkF m 2 #[.val (.int p1), .val (.int p2), .val (.int p3), .val (.int p4), .val (.int p5), .val (.long val), .second, .unset, .unset, .unset, .unset, .unset, .unset, .unset, .unset, .unset, .unset, .unset, .unset, .unset, .unset] [(.int p2), (.int p1)])) _
    exact k_
  refine own_callS (y := (⟨"java/lang/Math", "min", "(II)I"⟩ : MethodName)) (W := 0) (rm := ({ frames := 0, cells := 0, slots := 0, locals := 0 } : Room)) (argsL := [(.int p1), (.int p2)]) (rest := []) X0 hx hZ hown (hw _ (List.mem_of_getElem? (i := 0) rfl)) (hw _ (List.mem_of_getElem? (i := 1) rfl)) (hw _ (List.mem_of_getElem? (i := 2) rfl)) (hw _ (List.mem_of_getElem? (i := 3) rfl)) (by decide) (rm1 l Z a0 hw [] p1 p2 h0 n0 Z0) (by decide) (by decide) e0 (by decide) (by decide) rfl (by rw [hml]; rfl) (lenOf pd1 rfl) rfl (by show 2 * 0 + _ ≤ _; exact Nat.le_of_eq rfl) (hb hby at_2) ?_
  rintro _ T1 L1 X1 ⟨r1, rfl, hr1, N1, e1⟩
  show own_Go p e below s room_1.cells room_1.slots (fun v _ L => v = some (.int (1 : Int32)) ∧ Fr n0 L) T1 (mkF m 5 #[.val (.int p1), .val (.int p2), .val (.int p3), .val (.int p4), .val (.int p5), .val (.long val), .second, .unset, .unset, .unset, .unset, .unset, .unset, .unset, .unset, .unset, .unset, .unset, .unset, .unset, .unset] [(.int r1)])
  refine own_go (T' := T1) (g' := (mkF m 9 #[.val (.int p1), .val (.int p2), .val (.int p3), .val (.int p4), .val (.int p5), .val (.long val), .second, .val (.int r1), .unset, .unset, .unset, .unset, .unset, .unset, .unset, .unset, .unset, .unset, .unset, .unset, .unset] [(.int p2), (.int p1)])) (fun t_ k_ => ?_) ?_
  · refine XS.istore X1.here hx rfl (hb hby at_5) rfl (l' := #[.val (.int p1), .val (.int p2), .val (.int p3), .val (.int p4), .val (.int p5), .val (.long val), .second, .val (.int r1), .unset, .unset, .unset, .unset, .unset, .unset, .unset, .unset, .unset, .unset, .unset, .unset, .unset]) rfl ?_
    show Steps p.tables e below (T1.setTop (mkF m 7 #[.val (.int p1), .val (.int p2), .val (.int p3), .val (.int p4), .val (.int p5), .val (.long val), .second, .val (.int r1), .unset, .unset, .unset, .unset, .unset, .unset, .unset, .unset, .unset, .unset, .unset, .unset, .unset] [])) _
    refine XS.iloadN X1.here hx rfl (hb hby at_7) rfl ?_
    show Steps p.tables e below (T1.setTop (mkF m 8 #[.val (.int p1), .val (.int p2), .val (.int p3), .val (.int p4), .val (.int p5), .val (.long val), .second, .val (.int r1), .unset, .unset, .unset, .unset, .unset, .unset, .unset, .unset, .unset, .unset, .unset, .unset, .unset] [(.int p1)])) _
    refine XS.iloadN X1.here hx rfl (hb hby at_8) rfl ?_
    show Steps p.tables e below (T1.setTop (mkF m 9 #[.val (.int p1), .val (.int p2), .val (.int p3), .val (.int p4), .val (.int p5), .val (.long val), .second, .val (.int r1), .unset, .unset, .unset, .unset, .unset, .unset, .unset, .unset, .unset, .unset, .unset, .unset, .unset] [(.int p2), (.int p1)])) _
    exact k_
  refine own_callS (y := (⟨"java/lang/Math", "max", "(II)I"⟩ : MethodName)) (W := 0) (rm := ({ frames := 0, cells := 0, slots := 0, locals := 0 } : Room)) (argsL := [(.int p1), (.int p2)]) (rest := []) X1 hx hZ hown (hw _ (List.mem_of_getElem? (i := 4) rfl)) (hw _ (List.mem_of_getElem? (i := 5) rfl)) (hw _ (List.mem_of_getElem? (i := 2) rfl)) (hw _ (List.mem_of_getElem? (i := 6) rfl)) (by decide) (rm2 l Z a0 hw [] p1 p2 h0 n0 Z0) (by decide) (by decide) e1 (by decide) (by decide) rfl (by rw [hml]; rfl) (lenOf pd2 rfl) rfl (by show 2 * 0 + _ ≤ _; exact Nat.le_of_eq rfl) (hb hby at_9) ?_
  rintro _ T2 L2 X2 ⟨r2, rfl, hr2, N2, e2⟩
  show own_Go p e below s room_1.cells room_1.slots (fun v _ L => v = some (.int (1 : Int32)) ∧ Fr n0 L) T2 (mkF m 12 #[.val (.int p1), .val (.int p2), .val (.int p3), .val (.int p4), .val (.int p5), .val (.long val), .second, .val (.int r1), .unset, .unset, .unset, .unset, .unset, .unset, .unset, .unset, .unset, .unset, .unset, .unset, .unset] [(.int r2)])
  refine own_go (T' := T2) (g' := (mkF m 16 #[.val (.int p1), .val (.int p2), .val (.int p3), .val (.int p4), .val (.int p5), .val (.long val), .second, .val (.int r1), .val (.int r2), .unset, .unset, .unset, .unset, .unset, .unset, .unset, .unset, .unset, .unset, .unset, .unset] [(.int p4), (.int p3)])) (fun t_ k_ => ?_) ?_
  · refine XS.istore X2.here hx rfl (hb hby at_12) rfl (l' := #[.val (.int p1), .val (.int p2), .val (.int p3), .val (.int p4), .val (.int p5), .val (.long val), .second, .val (.int r1), .val (.int r2), .unset, .unset, .unset, .unset, .unset, .unset, .unset, .unset, .unset, .unset, .unset, .unset]) rfl ?_
    show Steps p.tables e below (T2.setTop (mkF m 14 #[.val (.int p1), .val (.int p2), .val (.int p3), .val (.int p4), .val (.int p5), .val (.long val), .second, .val (.int r1), .val (.int r2), .unset, .unset, .unset, .unset, .unset, .unset, .unset, .unset, .unset, .unset, .unset, .unset] [])) _
    refine XS.iloadN X2.here hx rfl (hb hby at_14) rfl ?_
    show Steps p.tables e below (T2.setTop (mkF m 15 #[.val (.int p1), .val (.int p2), .val (.int p3), .val (.int p4), .val (.int p5), .val (.long val), .second, .val (.int r1), .val (.int r2), .unset, .unset, .unset, .unset, .unset, .unset, .unset, .unset, .unset, .unset, .unset, .unset] [(.int p3)])) _
    refine XS.iloadN X2.here hx rfl (hb hby at_15) rfl ?_
    show Steps p.tables e below (T2.setTop (mkF m 16 #[.val (.int p1), .val (.int p2), .val (.int p3), .val (.int p4), .val (.int p5), .val (.long val), .second, .val (.int r1), .val (.int r2), .unset, .unset, .unset, .unset, .unset, .unset, .unset, .unset, .unset, .unset, .unset, .unset] [(.int p4), (.int p3)])) _
    exact k_
  refine own_callS (y := (⟨"java/lang/Math", "min", "(II)I"⟩ : MethodName)) (W := 0) (rm := ({ frames := 0, cells := 0, slots := 0, locals := 0 } : Room)) (argsL := [(.int p3), (.int p4)]) (rest := []) X2 hx hZ hown (hw _ (List.mem_of_getElem? (i := 0) rfl)) (hw _ (List.mem_of_getElem? (i := 1) rfl)) (hw _ (List.mem_of_getElem? (i := 2) rfl)) (hw _ (List.mem_of_getElem? (i := 3) rfl)) (by decide) (rm1 l Z a0 hw [] p3 p4 h0 n0 Z0) (by decide) (by decide) e2 (by decide) (by decide) rfl (by rw [hml]; rfl) (lenOf pd1 rfl) rfl (by show 2 * 0 + _ ≤ _; exact Nat.le_of_eq rfl) (hb hby at_16) ?_
  rintro _ T3 L3 X3 ⟨r3, rfl, hr3, N3, e3⟩
  show own_Go p e below s room_1.cells room_1.slots (fun v _ L => v = some (.int (1 : Int32)) ∧ Fr n0 L) T3 (mkF m 19 #[.val (.int p1), .val (.int p2), .val (.int p3), .val (.int p4), .val (.int p5), .val (.long val), .second, .val (.int r1), .val (.int r2), .unset, .unset, .unset, .unset, .unset, .unset, .unset, .unset, .unset, .unset, .unset, .unset] [(.int r3)])
  refine own_go (T' := T3) (g' := (mkF m 23 #[.val (.int p1), .val (.int p2), .val (.int p3), .val (.int p4), .val (.int p5), .val (.long val), .second, .val (.int r1), .val (.int r2), .val (.int r3), .unset, .unset, .unset, .unset, .unset, .unset, .unset, .unset, .unset, .unset, .unset] [(.int p4), (.int p3)])) (fun t_ k_ => ?_) ?_
  · refine XS.istore X3.here hx rfl (hb hby at_19) rfl (l' := #[.val (.int p1), .val (.int p2), .val (.int p3), .val (.int p4), .val (.int p5), .val (.long val), .second, .val (.int r1), .val (.int r2), .val (.int r3), .unset, .unset, .unset, .unset, .unset, .unset, .unset, .unset, .unset, .unset, .unset]) rfl ?_
    show Steps p.tables e below (T3.setTop (mkF m 21 #[.val (.int p1), .val (.int p2), .val (.int p3), .val (.int p4), .val (.int p5), .val (.long val), .second, .val (.int r1), .val (.int r2), .val (.int r3), .unset, .unset, .unset, .unset, .unset, .unset, .unset, .unset, .unset, .unset, .unset] [])) _
    refine XS.iloadN X3.here hx rfl (hb hby at_21) rfl ?_
    show Steps p.tables e below (T3.setTop (mkF m 22 #[.val (.int p1), .val (.int p2), .val (.int p3), .val (.int p4), .val (.int p5), .val (.long val), .second, .val (.int r1), .val (.int r2), .val (.int r3), .unset, .unset, .unset, .unset, .unset, .unset, .unset, .unset, .unset, .unset, .unset] [(.int p3)])) _
    refine XS.iloadN X3.here hx rfl (hb hby at_22) rfl ?_
    show Steps p.tables e below (T3.setTop (mkF m 23 #[.val (.int p1), .val (.int p2), .val (.int p3), .val (.int p4), .val (.int p5), .val (.long val), .second, .val (.int r1), .val (.int r2), .val (.int r3), .unset, .unset, .unset, .unset, .unset, .unset, .unset, .unset, .unset, .unset, .unset] [(.int p4), (.int p3)])) _
    exact k_
  refine own_callS (y := (⟨"java/lang/Math", "max", "(II)I"⟩ : MethodName)) (W := 0) (rm := ({ frames := 0, cells := 0, slots := 0, locals := 0 } : Room)) (argsL := [(.int p3), (.int p4)]) (rest := []) X3 hx hZ hown (hw _ (List.mem_of_getElem? (i := 4) rfl)) (hw _ (List.mem_of_getElem? (i := 5) rfl)) (hw _ (List.mem_of_getElem? (i := 2) rfl)) (hw _ (List.mem_of_getElem? (i := 6) rfl)) (by decide) (rm2 l Z a0 hw [] p3 p4 h0 n0 Z0) (by decide) (by decide) e3 (by decide) (by decide) rfl (by rw [hml]; rfl) (lenOf pd2 rfl) rfl (by show 2 * 0 + _ ≤ _; exact Nat.le_of_eq rfl) (hb hby at_23) ?_
  rintro _ T4 L4 X4 ⟨r4, rfl, hr4, N4, e4⟩
  show own_Go p e below s room_1.cells room_1.slots (fun v _ L => v = some (.int (1 : Int32)) ∧ Fr n0 L) T4 (mkF m 26 #[.val (.int p1), .val (.int p2), .val (.int p3), .val (.int p4), .val (.int p5), .val (.long val), .second, .val (.int r1), .val (.int r2), .val (.int r3), .unset, .unset, .unset, .unset, .unset, .unset, .unset, .unset, .unset, .unset, .unset] [(.int r4)])
  refine own_go (T' := T4) (g' := (mkF m 32 #[.val (.int p1), .val (.int p2), .val (.int p3), .val (.int p4), .val (.int p5), .val (.long val), .second, .val (.int r1), .val (.int r2), .val (.int r3), .val (.int r4), .unset, .unset, .unset, .unset, .unset, .unset, .unset, .unset, .unset, .unset] [(.int r3), (.int r1)])) (fun t_ k_ => ?_) ?_
  · refine XS.istore X4.here hx rfl (hb hby at_26) rfl (l' := #[.val (.int p1), .val (.int p2), .val (.int p3), .val (.int p4), .val (.int p5), .val (.long val), .second, .val (.int r1), .val (.int r2), .val (.int r3), .val (.int r4), .unset, .unset, .unset, .unset, .unset, .unset, .unset, .unset, .unset, .unset]) rfl ?_
    show Steps p.tables e below (T4.setTop (mkF m 28 #[.val (.int p1), .val (.int p2), .val (.int p3), .val (.int p4), .val (.int p5), .val (.long val), .second, .val (.int r1), .val (.int r2), .val (.int r3), .val (.int r4), .unset, .unset, .unset, .unset, .unset, .unset, .unset, .unset, .unset, .unset] [])) _
    refine XS.iload X4.here hx rfl (hb hby at_28) rfl ?_
    show Steps p.tables e below (T4.setTop (mkF m 30 #[.val (.int p1), .val (.int p2), .val (.int p3), .val (.int p4), .val (.int p5), .val (.long val), .second, .val (.int r1), .val (.int r2), .val (.int r3), .val (.int r4), .unset, .unset, .unset, .unset, .unset, .unset, .unset, .unset, .unset, .unset] [(.int r1)])) _
    refine XS.iload X4.here hx rfl (hb hby at_30) rfl ?_
    show Steps p.tables e below (T4.setTop (mkF m 32 #[.val (.int p1), .val (.int p2), .val (.int p3), .val (.int p4), .val (.int p5), .val (.long val), .second, .val (.int r1), .val (.int r2), .val (.int r3), .val (.int r4), .unset, .unset, .unset, .unset, .unset, .unset, .unset, .unset, .unset, .unset] [(.int r3), (.int r1)])) _
    exact k_
  refine own_callS (y := (⟨"java/lang/Math", "min", "(II)I"⟩ : MethodName)) (W := 0) (rm := ({ frames := 0, cells := 0, slots := 0, locals := 0 } : Room)) (argsL := [(.int r1), (.int r3)]) (rest := []) X4 hx hZ hown (hw _ (List.mem_of_getElem? (i := 0) rfl)) (hw _ (List.mem_of_getElem? (i := 1) rfl)) (hw _ (List.mem_of_getElem? (i := 2) rfl)) (hw _ (List.mem_of_getElem? (i := 3) rfl)) (by decide) (rm1 l Z a0 hw [] r1 r3 h0 n0 Z0) (by decide) (by decide) e4 (by decide) (by decide) rfl (by rw [hml]; rfl) (lenOf pd1 rfl) rfl (by show 2 * 0 + _ ≤ _; exact Nat.le_of_eq rfl) (hb hby at_32) ?_
  rintro _ T5 L5 X5 ⟨r5, rfl, hr5, N5, e5⟩
  show own_Go p e below s room_1.cells room_1.slots (fun v _ L => v = some (.int (1 : Int32)) ∧ Fr n0 L) T5 (mkF m 35 #[.val (.int p1), .val (.int p2), .val (.int p3), .val (.int p4), .val (.int p5), .val (.long val), .second, .val (.int r1), .val (.int r2), .val (.int r3), .val (.int r4), .unset, .unset, .unset, .unset, .unset, .unset, .unset, .unset, .unset, .unset] [(.int r5)])
  refine own_go (T' := T5) (g' := (mkF m 41 #[.val (.int p1), .val (.int p2), .val (.int p3), .val (.int p4), .val (.int p5), .val (.long val), .second, .val (.int r1), .val (.int r2), .val (.int r3), .val (.int r4), .val (.int r5), .unset, .unset, .unset, .unset, .unset, .unset, .unset, .unset, .unset] [(.int r3), (.int r1)])) (fun t_ k_ => ?_) ?_
  · refine XS.istore X5.here hx rfl (hb hby at_35) rfl (l' := #[.val (.int p1), .val (.int p2), .val (.int p3), .val (.int p4), .val (.int p5), .val (.long val), .second, .val (.int r1), .val (.int r2), .val (.int r3), .val (.int r4), .val (.int r5), .unset, .unset, .unset, .unset, .unset, .unset, .unset, .unset, .unset]) rfl ?_
    show Steps p.tables e below (T5.setTop (mkF m 37 #[.val (.int p1), .val (.int p2), .val (.int p3), .val (.int p4), .val (.int p5), .val (.long val), .second, .val (.int r1), .val (.int r2), .val (.int r3), .val (.int r4), .val (.int r5), .unset, .unset, .unset, .unset, .unset, .unset, .unset, .unset, .unset] [])) _
    refine XS.iload X5.here hx rfl (hb hby at_37) rfl ?_
    show Steps p.tables e below (T5.setTop (mkF m 39 #[.val (.int p1), .val (.int p2), .val (.int p3), .val (.int p4), .val (.int p5), .val (.long val), .second, .val (.int r1), .val (.int r2), .val (.int r3), .val (.int r4), .val (.int r5), .unset, .unset, .unset, .unset, .unset, .unset, .unset, .unset, .unset] [(.int r1)])) _
    refine XS.iload X5.here hx rfl (hb hby at_39) rfl ?_
    show Steps p.tables e below (T5.setTop (mkF m 41 #[.val (.int p1), .val (.int p2), .val (.int p3), .val (.int p4), .val (.int p5), .val (.long val), .second, .val (.int r1), .val (.int r2), .val (.int r3), .val (.int r4), .val (.int r5), .unset, .unset, .unset, .unset, .unset, .unset, .unset, .unset, .unset] [(.int r3), (.int r1)])) _
    exact k_
  refine own_callS (y := (⟨"java/lang/Math", "max", "(II)I"⟩ : MethodName)) (W := 0) (rm := ({ frames := 0, cells := 0, slots := 0, locals := 0 } : Room)) (argsL := [(.int r1), (.int r3)]) (rest := []) X5 hx hZ hown (hw _ (List.mem_of_getElem? (i := 4) rfl)) (hw _ (List.mem_of_getElem? (i := 5) rfl)) (hw _ (List.mem_of_getElem? (i := 2) rfl)) (hw _ (List.mem_of_getElem? (i := 6) rfl)) (by decide) (rm2 l Z a0 hw [] r1 r3 h0 n0 Z0) (by decide) (by decide) e5 (by decide) (by decide) rfl (by rw [hml]; rfl) (lenOf pd2 rfl) rfl (by show 2 * 0 + _ ≤ _; exact Nat.le_of_eq rfl) (hb hby at_41) ?_
  rintro _ T6 L6 X6 ⟨r6, rfl, hr6, N6, e6⟩
  show own_Go p e below s room_1.cells room_1.slots (fun v _ L => v = some (.int (1 : Int32)) ∧ Fr n0 L) T6 (mkF m 44 #[.val (.int p1), .val (.int p2), .val (.int p3), .val (.int p4), .val (.int p5), .val (.long val), .second, .val (.int r1), .val (.int r2), .val (.int r3), .val (.int r4), .val (.int r5), .unset, .unset, .unset, .unset, .unset, .unset, .unset, .unset, .unset] [(.int r6)])
  refine own_go (T' := T6) (g' := (mkF m 50 #[.val (.int p1), .val (.int p2), .val (.int p3), .val (.int p4), .val (.int p5), .val (.long val), .second, .val (.int r1), .val (.int r2), .val (.int r3), .val (.int r4), .val (.int r5), .val (.int r6), .unset, .unset, .unset, .unset, .unset, .unset, .unset, .unset] [(.int r4), (.int r2)])) (fun t_ k_ => ?_) ?_
  · refine XS.istore X6.here hx rfl (hb hby at_44) rfl (l' := #[.val (.int p1), .val (.int p2), .val (.int p3), .val (.int p4), .val (.int p5), .val (.long val), .second, .val (.int r1), .val (.int r2), .val (.int r3), .val (.int r4), .val (.int r5), .val (.int r6), .unset, .unset, .unset, .unset, .unset, .unset, .unset, .unset]) rfl ?_
    show Steps p.tables e below (T6.setTop (mkF m 46 #[.val (.int p1), .val (.int p2), .val (.int p3), .val (.int p4), .val (.int p5), .val (.long val), .second, .val (.int r1), .val (.int r2), .val (.int r3), .val (.int r4), .val (.int r5), .val (.int r6), .unset, .unset, .unset, .unset, .unset, .unset, .unset, .unset] [])) _
    refine XS.iload X6.here hx rfl (hb hby at_46) rfl ?_
    show Steps p.tables e below (T6.setTop (mkF m 48 #[.val (.int p1), .val (.int p2), .val (.int p3), .val (.int p4), .val (.int p5), .val (.long val), .second, .val (.int r1), .val (.int r2), .val (.int r3), .val (.int r4), .val (.int r5), .val (.int r6), .unset, .unset, .unset, .unset, .unset, .unset, .unset, .unset] [(.int r2)])) _
    refine XS.iload X6.here hx rfl (hb hby at_48) rfl ?_
    show Steps p.tables e below (T6.setTop (mkF m 50 #[.val (.int p1), .val (.int p2), .val (.int p3), .val (.int p4), .val (.int p5), .val (.long val), .second, .val (.int r1), .val (.int r2), .val (.int r3), .val (.int r4), .val (.int r5), .val (.int r6), .unset, .unset, .unset, .unset, .unset, .unset, .unset, .unset] [(.int r4), (.int r2)])) _
    exact k_
  refine own_callS (y := (⟨"java/lang/Math", "min", "(II)I"⟩ : MethodName)) (W := 0) (rm := ({ frames := 0, cells := 0, slots := 0, locals := 0 } : Room)) (argsL := [(.int r2), (.int r4)]) (rest := []) X6 hx hZ hown (hw _ (List.mem_of_getElem? (i := 0) rfl)) (hw _ (List.mem_of_getElem? (i := 1) rfl)) (hw _ (List.mem_of_getElem? (i := 2) rfl)) (hw _ (List.mem_of_getElem? (i := 3) rfl)) (by decide) (rm1 l Z a0 hw [] r2 r4 h0 n0 Z0) (by decide) (by decide) e6 (by decide) (by decide) rfl (by rw [hml]; rfl) (lenOf pd1 rfl) rfl (by show 2 * 0 + _ ≤ _; exact Nat.le_of_eq rfl) (hb hby at_50) ?_
  rintro _ T7 L7 X7 ⟨r7, rfl, hr7, N7, e7⟩
  show own_Go p e below s room_1.cells room_1.slots (fun v _ L => v = some (.int (1 : Int32)) ∧ Fr n0 L) T7 (mkF m 53 #[.val (.int p1), .val (.int p2), .val (.int p3), .val (.int p4), .val (.int p5), .val (.long val), .second, .val (.int r1), .val (.int r2), .val (.int r3), .val (.int r4), .val (.int r5), .val (.int r6), .unset, .unset, .unset, .unset, .unset, .unset, .unset, .unset] [(.int r7)])
  refine own_go (T' := T7) (g' := (mkF m 59 #[.val (.int p1), .val (.int p2), .val (.int p3), .val (.int p4), .val (.int p5), .val (.long val), .second, .val (.int r1), .val (.int r2), .val (.int r3), .val (.int r4), .val (.int r5), .val (.int r6), .val (.int r7), .unset, .unset, .unset, .unset, .unset, .unset, .unset] [(.int r4), (.int r2)])) (fun t_ k_ => ?_) ?_
  · refine XS.istore X7.here hx rfl (hb hby at_53) rfl (l' := #[.val (.int p1), .val (.int p2), .val (.int p3), .val (.int p4), .val (.int p5), .val (.long val), .second, .val (.int r1), .val (.int r2), .val (.int r3), .val (.int r4), .val (.int r5), .val (.int r6), .val (.int r7), .unset, .unset, .unset, .unset, .unset, .unset, .unset]) rfl ?_
    show Steps p.tables e below (T7.setTop (mkF m 55 #[.val (.int p1), .val (.int p2), .val (.int p3), .val (.int p4), .val (.int p5), .val (.long val), .second, .val (.int r1), .val (.int r2), .val (.int r3), .val (.int r4), .val (.int r5), .val (.int r6), .val (.int r7), .unset, .unset, .unset, .unset, .unset, .unset, .unset] [])) _
    refine XS.iload X7.here hx rfl (hb hby at_55) rfl ?_
    show Steps p.tables e below (T7.setTop (mkF m 57 #[.val (.int p1), .val (.int p2), .val (.int p3), .val (.int p4), .val (.int p5), .val (.long val), .second, .val (.int r1), .val (.int r2), .val (.int r3), .val (.int r4), .val (.int r5), .val (.int r6), .val (.int r7), .unset, .unset, .unset, .unset, .unset, .unset, .unset] [(.int r2)])) _
    refine XS.iload X7.here hx rfl (hb hby at_57) rfl ?_
    show Steps p.tables e below (T7.setTop (mkF m 59 #[.val (.int p1), .val (.int p2), .val (.int p3), .val (.int p4), .val (.int p5), .val (.long val), .second, .val (.int r1), .val (.int r2), .val (.int r3), .val (.int r4), .val (.int r5), .val (.int r6), .val (.int r7), .unset, .unset, .unset, .unset, .unset, .unset, .unset] [(.int r4), (.int r2)])) _
    exact k_
  refine own_callS (y := (⟨"java/lang/Math", "max", "(II)I"⟩ : MethodName)) (W := 0) (rm := ({ frames := 0, cells := 0, slots := 0, locals := 0 } : Room)) (argsL := [(.int r2), (.int r4)]) (rest := []) X7 hx hZ hown (hw _ (List.mem_of_getElem? (i := 4) rfl)) (hw _ (List.mem_of_getElem? (i := 5) rfl)) (hw _ (List.mem_of_getElem? (i := 2) rfl)) (hw _ (List.mem_of_getElem? (i := 6) rfl)) (by decide) (rm2 l Z a0 hw [] r2 r4 h0 n0 Z0) (by decide) (by decide) e7 (by decide) (by decide) rfl (by rw [hml]; rfl) (lenOf pd2 rfl) rfl (by show 2 * 0 + _ ≤ _; exact Nat.le_of_eq rfl) (hb hby at_59) ?_
  rintro _ T8 L8 X8 ⟨r8, rfl, hr8, N8, e8⟩
  show own_Go p e below s room_1.cells room_1.slots (fun v _ L => v = some (.int (1 : Int32)) ∧ Fr n0 L) T8 (mkF m 62 #[.val (.int p1), .val (.int p2), .val (.int p3), .val (.int p4), .val (.int p5), .val (.long val), .second, .val (.int r1), .val (.int r2), .val (.int r3), .val (.int r4), .val (.int r5), .val (.int r6), .val (.int r7), .unset, .unset, .unset, .unset, .unset, .unset, .unset] [(.int r8)])
  refine own_go (T' := T8) (g' := (mkF m 68 #[.val (.int p1), .val (.int p2), .val (.int p3), .val (.int p4), .val (.int p5), .val (.long val), .second, .val (.int r1), .val (.int r2), .val (.int r3), .val (.int r4), .val (.int r5), .val (.int r6), .val (.int r7), .val (.int r8), .unset, .unset, .unset, .unset, .unset, .unset] [(.int r6), (.int r7)])) (fun t_ k_ => ?_) ?_
  · refine XS.istore X8.here hx rfl (hb hby at_62) rfl (l' := #[.val (.int p1), .val (.int p2), .val (.int p3), .val (.int p4), .val (.int p5), .val (.long val), .second, .val (.int r1), .val (.int r2), .val (.int r3), .val (.int r4), .val (.int r5), .val (.int r6), .val (.int r7), .val (.int r8), .unset, .unset, .unset, .unset, .unset, .unset]) rfl ?_
    show Steps p.tables e below (T8.setTop (mkF m 64 #[.val (.int p1), .val (.int p2), .val (.int p3), .val (.int p4), .val (.int p5), .val (.long val), .second, .val (.int r1), .val (.int r2), .val (.int r3), .val (.int r4), .val (.int r5), .val (.int r6), .val (.int r7), .val (.int r8), .unset, .unset, .unset, .unset, .unset, .unset] [])) _
    refine XS.iload X8.here hx rfl (hb hby at_64) rfl ?_
    show Steps p.tables e below (T8.setTop (mkF m 66 #[.val (.int p1), .val (.int p2), .val (.int p3), .val (.int p4), .val (.int p5), .val (.long val), .second, .val (.int r1), .val (.int r2), .val (.int r3), .val (.int r4), .val (.int r5), .val (.int r6), .val (.int r7), .val (.int r8), .unset, .unset, .unset, .unset, .unset, .unset] [(.int r7)])) _
    refine XS.iload X8.here hx rfl (hb hby at_66) rfl ?_
    show Steps p.tables e below (T8.setTop (mkF m 68 #[.val (.int p1), .val (.int p2), .val (.int p3), .val (.int p4), .val (.int p5), .val (.long val), .second, .val (.int r1), .val (.int r2), .val (.int r3), .val (.int r4), .val (.int r5), .val (.int r6), .val (.int r7), .val (.int r8), .unset, .unset, .unset, .unset, .unset, .unset] [(.int r6), (.int r7)])) _
    exact k_
  refine own_callS (y := (⟨"java/lang/Math", "min", "(II)I"⟩ : MethodName)) (W := 0) (rm := ({ frames := 0, cells := 0, slots := 0, locals := 0 } : Room)) (argsL := [(.int r7), (.int r6)]) (rest := []) X8 hx hZ hown (hw _ (List.mem_of_getElem? (i := 0) rfl)) (hw _ (List.mem_of_getElem? (i := 1) rfl)) (hw _ (List.mem_of_getElem? (i := 2) rfl)) (hw _ (List.mem_of_getElem? (i := 3) rfl)) (by decide) (rm1 l Z a0 hw [] r7 r6 h0 n0 Z0) (by decide) (by decide) e8 (by decide) (by decide) rfl (by rw [hml]; rfl) (lenOf pd1 rfl) rfl (by show 2 * 0 + _ ≤ _; exact Nat.le_of_eq rfl) (hb hby at_68) ?_
  rintro _ T9 L9 X9 ⟨r9, rfl, hr9, N9, e9⟩
  show own_Go p e below s room_1.cells room_1.slots (fun v _ L => v = some (.int (1 : Int32)) ∧ Fr n0 L) T9 (mkF m 71 #[.val (.int p1), .val (.int p2), .val (.int p3), .val (.int p4), .val (.int p5), .val (.long val), .second, .val (.int r1), .val (.int r2), .val (.int r3), .val (.int r4), .val (.int r5), .val (.int r6), .val (.int r7), .val (.int r8), .unset, .unset, .unset, .unset, .unset, .unset] [(.int r9)])
  refine own_go (T' := T9) (g' := (mkF m 77 #[.val (.int p1), .val (.int p2), .val (.int p3), .val (.int p4), .val (.int p5), .val (.long val), .second, .val (.int r1), .val (.int r2), .val (.int r3), .val (.int r4), .val (.int r5), .val (.int r6), .val (.int r7), .val (.int r8), .val (.int r9), .unset, .unset, .unset, .unset, .unset] [(.int r6), (.int r7)])) (fun t_ k_ => ?_) ?_
  · refine XS.istore X9.here hx rfl (hb hby at_71) rfl (l' := #[.val (.int p1), .val (.int p2), .val (.int p3), .val (.int p4), .val (.int p5), .val (.long val), .second, .val (.int r1), .val (.int r2), .val (.int r3), .val (.int r4), .val (.int r5), .val (.int r6), .val (.int r7), .val (.int r8), .val (.int r9), .unset, .unset, .unset, .unset, .unset]) rfl ?_
    show Steps p.tables e below (T9.setTop (mkF m 73 #[.val (.int p1), .val (.int p2), .val (.int p3), .val (.int p4), .val (.int p5), .val (.long val), .second, .val (.int r1), .val (.int r2), .val (.int r3), .val (.int r4), .val (.int r5), .val (.int r6), .val (.int r7), .val (.int r8), .val (.int r9), .unset, .unset, .unset, .unset, .unset] [])) _
    refine XS.iload X9.here hx rfl (hb hby at_73) rfl ?_
    show Steps p.tables e below (T9.setTop (mkF m 75 #[.val (.int p1), .val (.int p2), .val (.int p3), .val (.int p4), .val (.int p5), .val (.long val), .second, .val (.int r1), .val (.int r2), .val (.int r3), .val (.int r4), .val (.int r5), .val (.int r6), .val (.int r7), .val (.int r8), .val (.int r9), .unset, .unset, .unset, .unset, .unset] [(.int r7)])) _
    refine XS.iload X9.here hx rfl (hb hby at_75) rfl ?_
    show Steps p.tables e below (T9.setTop (mkF m 77 #[.val (.int p1), .val (.int p2), .val (.int p3), .val (.int p4), .val (.int p5), .val (.long val), .second, .val (.int r1), .val (.int r2), .val (.int r3), .val (.int r4), .val (.int r5), .val (.int r6), .val (.int r7), .val (.int r8), .val (.int r9), .unset, .unset, .unset, .unset, .unset] [(.int r6), (.int r7)])) _
    exact k_
  refine own_callS (y := (⟨"java/lang/Math", "max", "(II)I"⟩ : MethodName)) (W := 0) (rm := ({ frames := 0, cells := 0, slots := 0, locals := 0 } : Room)) (argsL := [(.int r7), (.int r6)]) (rest := []) X9 hx hZ hown (hw _ (List.mem_of_getElem? (i := 4) rfl)) (hw _ (List.mem_of_getElem? (i := 5) rfl)) (hw _ (List.mem_of_getElem? (i := 2) rfl)) (hw _ (List.mem_of_getElem? (i := 6) rfl)) (by decide) (rm2 l Z a0 hw [] r7 r6 h0 n0 Z0) (by decide) (by decide) e9 (by decide) (by decide) rfl (by rw [hml]; rfl) (lenOf pd2 rfl) rfl (by show 2 * 0 + _ ≤ _; exact Nat.le_of_eq rfl) (hb hby at_77) ?_
  rintro _ T10 L10 X10 ⟨r10, rfl, hr10, N10, e10⟩
  show own_Go p e below s room_1.cells room_1.slots (fun v _ L => v = some (.int (1 : Int32)) ∧ Fr n0 L) T10 (mkF m 80 #[.val (.int p1), .val (.int p2), .val (.int p3), .val (.int p4), .val (.int p5), .val (.long val), .second, .val (.int r1), .val (.int r2), .val (.int r3), .val (.int r4), .val (.int r5), .val (.int r6), .val (.int r7), .val (.int r8), .val (.int r9), .unset, .unset, .unset, .unset, .unset] [(.int r10)])
  refine own_go (T' := T10) (g' := (mkF m 83 #[.val (.int p1), .val (.int p2), .val (.int p3), .val (.int p4), .val (.int p5), .val (.long val), .second, .val (.int r1), .val (.int r2), .val (.int r3), .val (.int r4), .val (.int r5), .val (.int r6), .val (.int r7), .val (.int r8), .val (.int r9), .val (.int r10), .unset, .unset, .unset, .unset] [(.int (4 : Int32))])) (fun t_ k_ => ?_) ?_
  · refine XS.istore X10.here hx rfl (hb hby at_80) rfl (l' := #[.val (.int p1), .val (.int p2), .val (.int p3), .val (.int p4), .val (.int p5), .val (.long val), .second, .val (.int r1), .val (.int r2), .val (.int r3), .val (.int r4), .val (.int r5), .val (.int r6), .val (.int r7), .val (.int r8), .val (.int r9), .val (.int r10), .unset, .unset, .unset, .unset]) rfl ?_
    show Steps p.tables e below (T10.setTop (mkF m 82 #[.val (.int p1), .val (.int p2), .val (.int p3), .val (.int p4), .val (.int p5), .val (.long val), .second, .val (.int r1), .val (.int r2), .val (.int r3), .val (.int r4), .val (.int r5), .val (.int r6), .val (.int r7), .val (.int r8), .val (.int r9), .val (.int r10), .unset, .unset, .unset, .unset] [])) _
    refine XS.iconst X10.here hx rfl (hb hby at_82) ?_
    show Steps p.tables e below (T10.setTop (mkF m 83 #[.val (.int p1), .val (.int p2), .val (.int p3), .val (.int p4), .val (.int p5), .val (.long val), .second, .val (.int r1), .val (.int r2), .val (.int r3), .val (.int r4), .val (.int r5), .val (.int r6), .val (.int r7), .val (.int r8), .val (.int r9), .val (.int r10), .unset, .unset, .unset, .unset] [(.int (4 : Int32))])) _
    exact k_
  have srt := own_sorted4 hr1 hr2 hr3 hr4 hr5 hr6 hr7 hr8 hr9 hr10
  refine own_newI (n := 4) X10 hx hZ (hw _ (List.mem_of_getElem? (i := 7) rfl)) e10 (by decide) 4 (Nat.le_refl _) (by decide) (by decide) (by decide) rfl rfl (hb hby at_83) ?_
  intro T11 h11 arr g11 X11 e11 E11 A11
  show own_Go p e below s room_1.cells room_1.slots (fun v _ L => v = some (.int (1 : Int32)) ∧ Fr n0 L) T11 (mkF m 85 #[.val (.int p1), .val (.int p2), .val (.int p3), .val (.int p4), .val (.int p5), .val (.long val), .second, .val (.int r1), .val (.int r2), .val (.int r3), .val (.int r4), .val (.int r5), .val (.int r6), .val (.int r7), .val (.int r8), .val (.int r9), .val (.int r10), .unset, .unset, .unset, .unset] [(.ref arr)])
  have garr : n0 ≤ arr := Nat.le_trans Z0 (Nat.le_of_eq g11.symm)
  refine own_go (T' := T11) (g' := (mkF m 92 #[.val (.int p1), .val (.int p2), .val (.int p3), .val (.int p4), .val (.int p5), .val (.long val), .second, .val (.int r1), .val (.int r2), .val (.int r3), .val (.int r4), .val (.int r5), .val (.int r6), .val (.int r7), .val (.int r8), .val (.int r9), .val (.int r10), .val (.ref arr), .unset, .unset, .unset] [(.int r5), (.int (0 : Int32)), (.ref arr)])) (fun t_ k_ => ?_) ?_
  · refine XS.astore X11.here hx rfl (hb hby at_85) rfl rfl (l' := #[.val (.int p1), .val (.int p2), .val (.int p3), .val (.int p4), .val (.int p5), .val (.long val), .second, .val (.int r1), .val (.int r2), .val (.int r3), .val (.int r4), .val (.int r5), .val (.int r6), .val (.int r7), .val (.int r8), .val (.int r9), .val (.int r10), .val (.ref arr), .unset, .unset, .unset]) rfl ?_
    show Steps p.tables e below (T11.setTop (mkF m 87 #[.val (.int p1), .val (.int p2), .val (.int p3), .val (.int p4), .val (.int p5), .val (.long val), .second, .val (.int r1), .val (.int r2), .val (.int r3), .val (.int r4), .val (.int r5), .val (.int r6), .val (.int r7), .val (.int r8), .val (.int r9), .val (.int r10), .val (.ref arr), .unset, .unset, .unset] [])) _
    refine XS.aload X11.here hx rfl (hb hby at_87) rfl rfl ?_
    show Steps p.tables e below (T11.setTop (mkF m 89 #[.val (.int p1), .val (.int p2), .val (.int p3), .val (.int p4), .val (.int p5), .val (.long val), .second, .val (.int r1), .val (.int r2), .val (.int r3), .val (.int r4), .val (.int r5), .val (.int r6), .val (.int r7), .val (.int r8), .val (.int r9), .val (.int r10), .val (.ref arr), .unset, .unset, .unset] [(.ref arr)])) _
    refine XS.iconst X11.here hx rfl (hb hby at_89) ?_
    show Steps p.tables e below (T11.setTop (mkF m 90 #[.val (.int p1), .val (.int p2), .val (.int p3), .val (.int p4), .val (.int p5), .val (.long val), .second, .val (.int r1), .val (.int r2), .val (.int r3), .val (.int r4), .val (.int r5), .val (.int r6), .val (.int r7), .val (.int r8), .val (.int r9), .val (.int r10), .val (.ref arr), .unset, .unset, .unset] [(.int (0 : Int32)), (.ref arr)])) _
    refine XS.iload X11.here hx rfl (hb hby at_90) rfl ?_
    show Steps p.tables e below (T11.setTop (mkF m 92 #[.val (.int p1), .val (.int p2), .val (.int p3), .val (.int p4), .val (.int p5), .val (.long val), .second, .val (.int r1), .val (.int r2), .val (.int r3), .val (.int r4), .val (.int r5), .val (.int r6), .val (.int r7), .val (.int r8), .val (.int r9), .val (.int r10), .val (.ref arr), .unset, .unset, .unset] [(.int r5), (.int (0 : Int32)), (.ref arr)])) _
    exact k_
  refine own_iastore X11 hx hZ e11 A11 0 (by decide) (by decide) rfl rfl (hb hby at_92) ?_
  intro T12 h12 X12 e12 W12 A12
  show own_Go p e below s room_1.cells room_1.slots (fun v _ L => v = some (.int (1 : Int32)) ∧ Fr n0 L) T12 (mkF m 93 #[.val (.int p1), .val (.int p2), .val (.int p3), .val (.int p4), .val (.int p5), .val (.long val), .second, .val (.int r1), .val (.int r2), .val (.int r3), .val (.int r4), .val (.int r5), .val (.int r6), .val (.int r7), .val (.int r8), .val (.int r9), .val (.int r10), .val (.ref arr), .unset, .unset, .unset] [])
  have N12 := Fr.snoc X12 (Fr.app (Fr.app (Fr.app (Fr.app (Fr.app (Fr.app (Fr.app (Fr.app (Fr.app (Fr.app N0 N1) N2) N3) N4) N5) N6) N7) N8) N9) N10) garr
  refine own_go (T' := T12) (g' := (mkF m 98 #[.val (.int p1), .val (.int p2), .val (.int p3), .val (.int p4), .val (.int p5), .val (.long val), .second, .val (.int r1), .val (.int r2), .val (.int r3), .val (.int r4), .val (.int r5), .val (.int r6), .val (.int r7), .val (.int r8), .val (.int r9), .val (.int r10), .val (.ref arr), .unset, .unset, .unset] [(.int r9), (.int (1 : Int32)), (.ref arr)])) (fun t_ k_ => ?_) ?_
  · refine XS.aload X12.here hx rfl (hb hby at_93) rfl rfl ?_
    show Steps p.tables e below (T12.setTop (mkF m 95 #[.val (.int p1), .val (.int p2), .val (.int p3), .val (.int p4), .val (.int p5), .val (.long val), .second, .val (.int r1), .val (.int r2), .val (.int r3), .val (.int r4), .val (.int r5), .val (.int r6), .val (.int r7), .val (.int r8), .val (.int r9), .val (.int r10), .val (.ref arr), .unset, .unset, .unset] [(.ref arr)])) _
    refine XS.iconst X12.here hx rfl (hb hby at_95) ?_
    show Steps p.tables e below (T12.setTop (mkF m 96 #[.val (.int p1), .val (.int p2), .val (.int p3), .val (.int p4), .val (.int p5), .val (.long val), .second, .val (.int r1), .val (.int r2), .val (.int r3), .val (.int r4), .val (.int r5), .val (.int r6), .val (.int r7), .val (.int r8), .val (.int r9), .val (.int r10), .val (.ref arr), .unset, .unset, .unset] [(.int (1 : Int32)), (.ref arr)])) _
    refine XS.iload X12.here hx rfl (hb hby at_96) rfl ?_
    show Steps p.tables e below (T12.setTop (mkF m 98 #[.val (.int p1), .val (.int p2), .val (.int p3), .val (.int p4), .val (.int p5), .val (.long val), .second, .val (.int r1), .val (.int r2), .val (.int r3), .val (.int r4), .val (.int r5), .val (.int r6), .val (.int r7), .val (.int r8), .val (.int r9), .val (.int r10), .val (.ref arr), .unset, .unset, .unset] [(.int r9), (.int (1 : Int32)), (.ref arr)])) _
    exact k_
  refine own_iastore X12 hx hZ e12 A12 1 (by decide) (by decide) rfl rfl (hb hby at_98) ?_
  intro T13 h13 X13 e13 W13 A13
  show own_Go p e below s room_1.cells room_1.slots (fun v _ L => v = some (.int (1 : Int32)) ∧ Fr n0 L) T13 (mkF m 99 #[.val (.int p1), .val (.int p2), .val (.int p3), .val (.int p4), .val (.int p5), .val (.long val), .second, .val (.int r1), .val (.int r2), .val (.int r3), .val (.int r4), .val (.int r5), .val (.int r6), .val (.int r7), .val (.int r8), .val (.int r9), .val (.int r10), .val (.ref arr), .unset, .unset, .unset] [])
  have N13 := Fr.snoc X13 N12 garr
  refine own_go (T' := T13) (g' := (mkF m 104 #[.val (.int p1), .val (.int p2), .val (.int p3), .val (.int p4), .val (.int p5), .val (.long val), .second, .val (.int r1), .val (.int r2), .val (.int r3), .val (.int r4), .val (.int r5), .val (.int r6), .val (.int r7), .val (.int r8), .val (.int r9), .val (.int r10), .val (.ref arr), .unset, .unset, .unset] [(.int r10), (.int (2 : Int32)), (.ref arr)])) (fun t_ k_ => ?_) ?_
  · refine XS.aload X13.here hx rfl (hb hby at_99) rfl rfl ?_
    show Steps p.tables e below (T13.setTop (mkF m 101 #[.val (.int p1), .val (.int p2), .val (.int p3), .val (.int p4), .val (.int p5), .val (.long val), .second, .val (.int r1), .val (.int r2), .val (.int r3), .val (.int r4), .val (.int r5), .val (.int r6), .val (.int r7), .val (.int r8), .val (.int r9), .val (.int r10), .val (.ref arr), .unset, .unset, .unset] [(.ref arr)])) _
    refine XS.iconst X13.here hx rfl (hb hby at_101) ?_
    show Steps p.tables e below (T13.setTop (mkF m 102 #[.val (.int p1), .val (.int p2), .val (.int p3), .val (.int p4), .val (.int p5), .val (.long val), .second, .val (.int r1), .val (.int r2), .val (.int r3), .val (.int r4), .val (.int r5), .val (.int r6), .val (.int r7), .val (.int r8), .val (.int r9), .val (.int r10), .val (.ref arr), .unset, .unset, .unset] [(.int (2 : Int32)), (.ref arr)])) _
    refine XS.iload X13.here hx rfl (hb hby at_102) rfl ?_
    show Steps p.tables e below (T13.setTop (mkF m 104 #[.val (.int p1), .val (.int p2), .val (.int p3), .val (.int p4), .val (.int p5), .val (.long val), .second, .val (.int r1), .val (.int r2), .val (.int r3), .val (.int r4), .val (.int r5), .val (.int r6), .val (.int r7), .val (.int r8), .val (.int r9), .val (.int r10), .val (.ref arr), .unset, .unset, .unset] [(.int r10), (.int (2 : Int32)), (.ref arr)])) _
    exact k_
  refine own_iastore X13 hx hZ e13 A13 2 (by decide) (by decide) rfl rfl (hb hby at_104) ?_
  intro T14 h14 X14 e14 W14 A14
  show own_Go p e below s room_1.cells room_1.slots (fun v _ L => v = some (.int (1 : Int32)) ∧ Fr n0 L) T14 (mkF m 105 #[.val (.int p1), .val (.int p2), .val (.int p3), .val (.int p4), .val (.int p5), .val (.long val), .second, .val (.int r1), .val (.int r2), .val (.int r3), .val (.int r4), .val (.int r5), .val (.int r6), .val (.int r7), .val (.int r8), .val (.int r9), .val (.int r10), .val (.ref arr), .unset, .unset, .unset] [])
  have N14 := Fr.snoc X14 N13 garr
  refine own_go (T' := T14) (g' := (mkF m 110 #[.val (.int p1), .val (.int p2), .val (.int p3), .val (.int p4), .val (.int p5), .val (.long val), .second, .val (.int r1), .val (.int r2), .val (.int r3), .val (.int r4), .val (.int r5), .val (.int r6), .val (.int r7), .val (.int r8), .val (.int r9), .val (.int r10), .val (.ref arr), .unset, .unset, .unset] [(.int r8), (.int (3 : Int32)), (.ref arr)])) (fun t_ k_ => ?_) ?_
  · refine XS.aload X14.here hx rfl (hb hby at_105) rfl rfl ?_
    show Steps p.tables e below (T14.setTop (mkF m 107 #[.val (.int p1), .val (.int p2), .val (.int p3), .val (.int p4), .val (.int p5), .val (.long val), .second, .val (.int r1), .val (.int r2), .val (.int r3), .val (.int r4), .val (.int r5), .val (.int r6), .val (.int r7), .val (.int r8), .val (.int r9), .val (.int r10), .val (.ref arr), .unset, .unset, .unset] [(.ref arr)])) _
    refine XS.iconst X14.here hx rfl (hb hby at_107) ?_
    show Steps p.tables e below (T14.setTop (mkF m 108 #[.val (.int p1), .val (.int p2), .val (.int p3), .val (.int p4), .val (.int p5), .val (.long val), .second, .val (.int r1), .val (.int r2), .val (.int r3), .val (.int r4), .val (.int r5), .val (.int r6), .val (.int r7), .val (.int r8), .val (.int r9), .val (.int r10), .val (.ref arr), .unset, .unset, .unset] [(.int (3 : Int32)), (.ref arr)])) _
    refine XS.iload X14.here hx rfl (hb hby at_108) rfl ?_
    show Steps p.tables e below (T14.setTop (mkF m 110 #[.val (.int p1), .val (.int p2), .val (.int p3), .val (.int p4), .val (.int p5), .val (.long val), .second, .val (.int r1), .val (.int r2), .val (.int r3), .val (.int r4), .val (.int r5), .val (.int r6), .val (.int r7), .val (.int r8), .val (.int r9), .val (.int r10), .val (.ref arr), .unset, .unset, .unset] [(.int r8), (.int (3 : Int32)), (.ref arr)])) _
    exact k_
  refine own_iastore X14 hx hZ e14 A14 3 (by decide) (by decide) rfl rfl (hb hby at_110) ?_
  intro T15 h15 X15 e15 W15 A15
  show own_Go p e below s room_1.cells room_1.slots (fun v _ L => v = some (.int (1 : Int32)) ∧ Fr n0 L) T15 (mkF m 111 #[.val (.int p1), .val (.int p2), .val (.int p3), .val (.int p4), .val (.int p5), .val (.long val), .second, .val (.int r1), .val (.int r2), .val (.int r3), .val (.int r4), .val (.int r5), .val (.int r6), .val (.int r7), .val (.int r8), .val (.int r9), .val (.int r10), .val (.ref arr), .unset, .unset, .unset] [])
  have N15 := Fr.snoc X15 N14 garr
  refine own_go (T' := T15) (g' := (mkF m 120 #[.val (.int p1), .val (.int p2), .val (.int p3), .val (.int p4), .val (.int p5), .val (.long val), .second, .val (.int r1), .val (.int r2), .val (.int r3), .val (.int r4), .val (.int r5), .val (.int r6), .val (.int r7), .val (.int r8), .val (.int r9), .val (.int r10), .val (.ref arr), .val (.int ((p5 &&& (2147483647 : Int32)) % (5 : Int32))), .unset, .unset] [])) (fun t_ k_ => ?_) ?_
  · refine XS.iload X15.here hx rfl (hb hby at_111) rfl ?_
    show Steps p.tables e below (T15.setTop (mkF m 113 #[.val (.int p1), .val (.int p2), .val (.int p3), .val (.int p4), .val (.int p5), .val (.long val), .second, .val (.int r1), .val (.int r2), .val (.int r3), .val (.int r4), .val (.int r5), .val (.int r6), .val (.int r7), .val (.int r8), .val (.int r9), .val (.int r10), .val (.ref arr), .unset, .unset, .unset] [(.int p5)])) _
    refine X15.ldcInt hx hown (mvT hZ (hw _ (List.mem_of_getElem? (i := 8) rfl))) (g := (mkF m 113 #[.val (.int p1), .val (.int p2), .val (.int p3), .val (.int p4), .val (.int p5), .val (.long val), .second, .val (.int r1), .val (.int r2), .val (.int r3), .val (.int r4), .val (.int r5), .val (.int r6), .val (.int r7), .val (.int r8), .val (.int r9), .val (.int r10), .val (.ref arr), .unset, .unset, .unset] [(.int p5)])) rfl (hb hby at_113) _ ?_
    show Steps p.tables e below (T15.setTop (mkF m 115 #[.val (.int p1), .val (.int p2), .val (.int p3), .val (.int p4), .val (.int p5), .val (.long val), .second, .val (.int r1), .val (.int r2), .val (.int r3), .val (.int r4), .val (.int r5), .val (.int r6), .val (.int r7), .val (.int r8), .val (.int r9), .val (.int r10), .val (.ref arr), .unset, .unset, .unset] [(.int (2147483647 : Int32)), (.int p5)])) _
    refine XS.iand X15.here hx rfl (hb hby at_115) rfl ?_
    show Steps p.tables e below (T15.setTop (mkF m 116 #[.val (.int p1), .val (.int p2), .val (.int p3), .val (.int p4), .val (.int p5), .val (.long val), .second, .val (.int r1), .val (.int r2), .val (.int r3), .val (.int r4), .val (.int r5), .val (.int r6), .val (.int r7), .val (.int r8), .val (.int r9), .val (.int r10), .val (.ref arr), .unset, .unset, .unset] [(.int (p5 &&& (2147483647 : Int32)))])) _
    refine XS.iconst X15.here hx rfl (hb hby at_116) ?_
    show Steps p.tables e below (T15.setTop (mkF m 117 #[.val (.int p1), .val (.int p2), .val (.int p3), .val (.int p4), .val (.int p5), .val (.long val), .second, .val (.int r1), .val (.int r2), .val (.int r3), .val (.int r4), .val (.int r5), .val (.int r6), .val (.int r7), .val (.int r8), .val (.int r9), .val (.int r10), .val (.ref arr), .unset, .unset, .unset] [(.int (5 : Int32)), (.int (p5 &&& (2147483647 : Int32)))])) _
    refine iremM X15 hx rfl (hb hby at_117) rfl (by decide) ?_
    show Steps p.tables e below (T15.setTop (mkF m 118 #[.val (.int p1), .val (.int p2), .val (.int p3), .val (.int p4), .val (.int p5), .val (.long val), .second, .val (.int r1), .val (.int r2), .val (.int r3), .val (.int r4), .val (.int r5), .val (.int r6), .val (.int r7), .val (.int r8), .val (.int r9), .val (.int r10), .val (.ref arr), .unset, .unset, .unset] [(.int ((p5 &&& (2147483647 : Int32)) % (5 : Int32)))])) _
    refine XS.istore X15.here hx rfl (hb hby at_118) rfl (l' := #[.val (.int p1), .val (.int p2), .val (.int p3), .val (.int p4), .val (.int p5), .val (.long val), .second, .val (.int r1), .val (.int r2), .val (.int r3), .val (.int r4), .val (.int r5), .val (.int r6), .val (.int r7), .val (.int r8), .val (.int r9), .val (.int r10), .val (.ref arr), .val (.int ((p5 &&& (2147483647 : Int32)) % (5 : Int32))), .unset, .unset]) rfl ?_
    show Steps p.tables e below (T15.setTop (mkF m 120 #[.val (.int p1), .val (.int p2), .val (.int p3), .val (.int p4), .val (.int p5), .val (.long val), .second, .val (.int r1), .val (.int r2), .val (.int r3), .val (.int r4), .val (.int r5), .val (.int r6), .val (.int r7), .val (.int r8), .val (.int r9), .val (.int r10), .val (.ref arr), .val (.int ((p5 &&& (2147483647 : Int32)) % (5 : Int32))), .unset, .unset] [])) _
    exact k_
  obtain ⟨cnt, hcnt⟩ : ∃ z : Int32, z = ((p5 &&& (2147483647 : Int32)) % (5 : Int32)) := ⟨_, rfl⟩
  rw [← hcnt]
  have hc := own_cnt p5
  rw [← hcnt] at hc
  refine own_go (T' := T15) (g' := (mkF m 123 #[.val (.int p1), .val (.int p2), .val (.int p3), .val (.int p4), .val (.int p5), .val (.long val), .second, .val (.int r1), .val (.int r2), .val (.int r3), .val (.int r4), .val (.int r5), .val (.int r6), .val (.int r7), .val (.int r8), .val (.int r9), .val (.int r10), .val (.ref arr), .val (.int cnt), .val (.int (0 : Int32)), .unset] [])) (fun t_ k_ => ?_) ?_
  · refine XS.iconst X15.here hx rfl (hb hby at_120) ?_
    show Steps p.tables e below (T15.setTop (mkF m 121 #[.val (.int p1), .val (.int p2), .val (.int p3), .val (.int p4), .val (.int p5), .val (.long val), .second, .val (.int r1), .val (.int r2), .val (.int r3), .val (.int r4), .val (.int r5), .val (.int r6), .val (.int r7), .val (.int r8), .val (.int r9), .val (.int r10), .val (.ref arr), .val (.int cnt), .unset, .unset] [(.int (0 : Int32))])) _
    refine XS.istore X15.here hx rfl (hb hby at_121) rfl (l' := #[.val (.int p1), .val (.int p2), .val (.int p3), .val (.int p4), .val (.int p5), .val (.long val), .second, .val (.int r1), .val (.int r2), .val (.int r3), .val (.int r4), .val (.int r5), .val (.int r6), .val (.int r7), .val (.int r8), .val (.int r9), .val (.int r10), .val (.ref arr), .val (.int cnt), .val (.int (0 : Int32)), .unset]) rfl ?_
    show Steps p.tables e below (T15.setTop (mkF m 123 #[.val (.int p1), .val (.int p2), .val (.int p3), .val (.int p4), .val (.int p5), .val (.long val), .second, .val (.int r1), .val (.int r2), .val (.int r3), .val (.int r4), .val (.int r5), .val (.int r6), .val (.int r7), .val (.int r8), .val (.int r9), .val (.int r10), .val (.ref arr), .val (.int cnt), .val (.int (0 : Int32)), .unset] [])) _
    exact k_
  obtain ⟨x1, hx1⟩ : ∃ z : Int32, z = if (0 : Int32) < cnt ∧ (r5).toInt64 < val then (1 : Int32) else (0 : Int32) := ⟨_, rfl⟩
  refine own_go (T' := T15) (g' := (mkF m 140 #[.val (.int p1), .val (.int p2), .val (.int p3), .val (.int p4), .val (.int p5), .val (.long val), .second, .val (.int r1), .val (.int r2), .val (.int r3), .val (.int r4), .val (.int r5), .val (.int r6), .val (.int r7), .val (.int r8), .val (.int r9), .val (.int r10), .val (.ref arr), .val (.int cnt), .val (.int x1), .unset] [])) (fun t_ k_ => ?_) ?_
  · refine XS.iload X15.here hx rfl (hb hby at_123) rfl ?_
    show Steps p.tables e below (T15.setTop (mkF m 125 #[.val (.int p1), .val (.int p2), .val (.int p3), .val (.int p4), .val (.int p5), .val (.long val), .second, .val (.int r1), .val (.int r2), .val (.int r3), .val (.int r4), .val (.int r5), .val (.int r6), .val (.int r7), .val (.int r8), .val (.int r9), .val (.int r10), .val (.ref arr), .val (.int cnt), .val (.int (0 : Int32)), .unset] [(.int cnt)])) _
    by_cases hm16 : (0 : Int32) < cnt
    · refine XS.ifNo X15.here hx rfl (hb hby at_125) rfl ((if0 _ _).trans (tlt hm16).2.2.2) ?_
      show Steps p.tables e below (T15.setTop (mkF m 128 #[.val (.int p1), .val (.int p2), .val (.int p3), .val (.int p4), .val (.int p5), .val (.long val), .second, .val (.int r1), .val (.int r2), .val (.int r3), .val (.int r4), .val (.int r5), .val (.int r6), .val (.int r7), .val (.int r8), .val (.int r9), .val (.int r10), .val (.ref arr), .val (.int cnt), .val (.int (0 : Int32)), .unset] [])) _
      refine XS.iload X15.here hx rfl (hb hby at_128) rfl ?_
      show Steps p.tables e below (T15.setTop (mkF m 130 #[.val (.int p1), .val (.int p2), .val (.int p3), .val (.int p4), .val (.int p5), .val (.long val), .second, .val (.int r1), .val (.int r2), .val (.int r3), .val (.int r4), .val (.int r5), .val (.int r6), .val (.int r7), .val (.int r8), .val (.int r9), .val (.int r10), .val (.ref arr), .val (.int cnt), .val (.int (0 : Int32)), .unset] [(.int r5)])) _
      refine XS.i2l X15.here hx rfl (hb hby at_130) rfl ?_
      show Steps p.tables e below (T15.setTop (mkF m 131 #[.val (.int p1), .val (.int p2), .val (.int p3), .val (.int p4), .val (.int p5), .val (.long val), .second, .val (.int r1), .val (.int r2), .val (.int r3), .val (.int r4), .val (.int r5), .val (.int r6), .val (.int r7), .val (.int r8), .val (.int r9), .val (.int r10), .val (.ref arr), .val (.int cnt), .val (.int (0 : Int32)), .unset] [(.long ((r5).toInt64))])) _
      refine XS.lload X15.here hx rfl (hb hby at_131) rfl ?_
      show Steps p.tables e below (T15.setTop (mkF m 133 #[.val (.int p1), .val (.int p2), .val (.int p3), .val (.int p4), .val (.int p5), .val (.long val), .second, .val (.int r1), .val (.int r2), .val (.int r3), .val (.int r4), .val (.int r5), .val (.int r6), .val (.int r7), .val (.int r8), .val (.int r9), .val (.int r10), .val (.ref arr), .val (.int cnt), .val (.int (0 : Int32)), .unset] [(.long val), (.long ((r5).toInt64))])) _
      refine XS.lcmp X15.here hx rfl (hb hby at_133) rfl ?_
      show Steps p.tables e below (T15.setTop (mkF m 134 #[.val (.int p1), .val (.int p2), .val (.int p3), .val (.int p4), .val (.int p5), .val (.long val), .second, .val (.int r1), .val (.int r2), .val (.int r3), .val (.int r4), .val (.int r5), .val (.int r6), .val (.int r7), .val (.int r8), .val (.int r9), .val (.int r10), .val (.ref arr), .val (.int cnt), .val (.int (0 : Int32)), .unset] [(.int (lcmpW ((r5).toInt64) val))])) _
      by_cases hm17 : ((r5).toInt64) < val
      · refine XS.ifNo X15.here hx rfl (hb hby at_134) rfl ((if0 _ _).trans (tlt ((lw_lt _ _).mpr hm17)).2.1) ?_
        show Steps p.tables e below (T15.setTop (mkF m 137 #[.val (.int p1), .val (.int p2), .val (.int p3), .val (.int p4), .val (.int p5), .val (.long val), .second, .val (.int r1), .val (.int r2), .val (.int r3), .val (.int r4), .val (.int r5), .val (.int r6), .val (.int r7), .val (.int r8), .val (.int r9), .val (.int r10), .val (.ref arr), .val (.int cnt), .val (.int (0 : Int32)), .unset] [])) _
        refine XS.iconst X15.here hx rfl (hb hby at_137) ?_
        show Steps p.tables e below (T15.setTop (mkF m 138 #[.val (.int p1), .val (.int p2), .val (.int p3), .val (.int p4), .val (.int p5), .val (.long val), .second, .val (.int r1), .val (.int r2), .val (.int r3), .val (.int r4), .val (.int r5), .val (.int r6), .val (.int r7), .val (.int r8), .val (.int r9), .val (.int r10), .val (.ref arr), .val (.int cnt), .val (.int (0 : Int32)), .unset] [(.int (1 : Int32))])) _
        refine XS.istore X15.here hx rfl (hb hby at_138) rfl (l' := #[.val (.int p1), .val (.int p2), .val (.int p3), .val (.int p4), .val (.int p5), .val (.long val), .second, .val (.int r1), .val (.int r2), .val (.int r3), .val (.int r4), .val (.int r5), .val (.int r6), .val (.int r7), .val (.int r8), .val (.int r9), .val (.int r10), .val (.ref arr), .val (.int cnt), .val (.int (1 : Int32)), .unset]) rfl ?_
        show Steps p.tables e below (T15.setTop (mkF m 140 #[.val (.int p1), .val (.int p2), .val (.int p3), .val (.int p4), .val (.int p5), .val (.long val), .second, .val (.int r1), .val (.int r2), .val (.int r3), .val (.int r4), .val (.int r5), .val (.int r6), .val (.int r7), .val (.int r8), .val (.int r9), .val (.int r10), .val (.ref arr), .val (.int cnt), .val (.int (1 : Int32)), .unset] [])) _
        rw [show x1 = (1 : Int32) from by rw [hx1]; simp [hm16, hm17]] at k_
        exact k_
      · refine XS.ifYes X15.here hx rfl (pc0 := 134) (pc' := 140) rfl (hb hby at_134) rfl ((if0 _ _).trans (flt (mt (lw_lt _ _).mp hm17)).2.1) (by decide) (by decide) ?_
        show Steps p.tables e below (T15.setTop (mkF m 140 #[.val (.int p1), .val (.int p2), .val (.int p3), .val (.int p4), .val (.int p5), .val (.long val), .second, .val (.int r1), .val (.int r2), .val (.int r3), .val (.int r4), .val (.int r5), .val (.int r6), .val (.int r7), .val (.int r8), .val (.int r9), .val (.int r10), .val (.ref arr), .val (.int cnt), .val (.int (0 : Int32)), .unset] [])) _
        rw [show x1 = (0 : Int32) from by rw [hx1]; simp [hm16, hm17]] at k_
        exact k_
    · refine XS.ifYes X15.here hx rfl (pc0 := 125) (pc' := 140) rfl (hb hby at_125) rfl ((if0 _ _).trans (flt hm16).2.2.2) (by decide) (by decide) ?_
      show Steps p.tables e below (T15.setTop (mkF m 140 #[.val (.int p1), .val (.int p2), .val (.int p3), .val (.int p4), .val (.int p5), .val (.long val), .second, .val (.int r1), .val (.int r2), .val (.int r3), .val (.int r4), .val (.int r5), .val (.int r6), .val (.int r7), .val (.int r8), .val (.int r9), .val (.int r10), .val (.ref arr), .val (.int cnt), .val (.int (0 : Int32)), .unset] [])) _
      rw [show x1 = (0 : Int32) from by rw [hx1]; simp [hm16]] at k_
      exact k_
  obtain ⟨x2, hx2⟩ : ∃ z : Int32, z = if (1 : Int32) < cnt ∧ (r9).toInt64 < val then (2 : Int32) else x1 := ⟨_, rfl⟩
  refine own_go (T' := T15) (g' := (mkF m 158 #[.val (.int p1), .val (.int p2), .val (.int p3), .val (.int p4), .val (.int p5), .val (.long val), .second, .val (.int r1), .val (.int r2), .val (.int r3), .val (.int r4), .val (.int r5), .val (.int r6), .val (.int r7), .val (.int r8), .val (.int r9), .val (.int r10), .val (.ref arr), .val (.int cnt), .val (.int x2), .unset] [])) (fun t_ k_ => ?_) ?_
  · refine XS.iload X15.here hx rfl (hb hby at_140) rfl ?_
    show Steps p.tables e below (T15.setTop (mkF m 142 #[.val (.int p1), .val (.int p2), .val (.int p3), .val (.int p4), .val (.int p5), .val (.long val), .second, .val (.int r1), .val (.int r2), .val (.int r3), .val (.int r4), .val (.int r5), .val (.int r6), .val (.int r7), .val (.int r8), .val (.int r9), .val (.int r10), .val (.ref arr), .val (.int cnt), .val (.int x1), .unset] [(.int cnt)])) _
    refine XS.iconst X15.here hx rfl (hb hby at_142) ?_
    show Steps p.tables e below (T15.setTop (mkF m 143 #[.val (.int p1), .val (.int p2), .val (.int p3), .val (.int p4), .val (.int p5), .val (.long val), .second, .val (.int r1), .val (.int r2), .val (.int r3), .val (.int r4), .val (.int r5), .val (.int r6), .val (.int r7), .val (.int r8), .val (.int r9), .val (.int r10), .val (.ref arr), .val (.int cnt), .val (.int x1), .unset] [(.int (1 : Int32)), (.int cnt)])) _
    by_cases hm18 : (1 : Int32) < cnt
    · refine XS.icmpNo X15.here hx rfl (hb hby at_143) rfl (tlt hm18).2.2.2 ?_
      show Steps p.tables e below (T15.setTop (mkF m 146 #[.val (.int p1), .val (.int p2), .val (.int p3), .val (.int p4), .val (.int p5), .val (.long val), .second, .val (.int r1), .val (.int r2), .val (.int r3), .val (.int r4), .val (.int r5), .val (.int r6), .val (.int r7), .val (.int r8), .val (.int r9), .val (.int r10), .val (.ref arr), .val (.int cnt), .val (.int x1), .unset] [])) _
      refine XS.iload X15.here hx rfl (hb hby at_146) rfl ?_
      show Steps p.tables e below (T15.setTop (mkF m 148 #[.val (.int p1), .val (.int p2), .val (.int p3), .val (.int p4), .val (.int p5), .val (.long val), .second, .val (.int r1), .val (.int r2), .val (.int r3), .val (.int r4), .val (.int r5), .val (.int r6), .val (.int r7), .val (.int r8), .val (.int r9), .val (.int r10), .val (.ref arr), .val (.int cnt), .val (.int x1), .unset] [(.int r9)])) _
      refine XS.i2l X15.here hx rfl (hb hby at_148) rfl ?_
      show Steps p.tables e below (T15.setTop (mkF m 149 #[.val (.int p1), .val (.int p2), .val (.int p3), .val (.int p4), .val (.int p5), .val (.long val), .second, .val (.int r1), .val (.int r2), .val (.int r3), .val (.int r4), .val (.int r5), .val (.int r6), .val (.int r7), .val (.int r8), .val (.int r9), .val (.int r10), .val (.ref arr), .val (.int cnt), .val (.int x1), .unset] [(.long ((r9).toInt64))])) _
      refine XS.lload X15.here hx rfl (hb hby at_149) rfl ?_
      show Steps p.tables e below (T15.setTop (mkF m 151 #[.val (.int p1), .val (.int p2), .val (.int p3), .val (.int p4), .val (.int p5), .val (.long val), .second, .val (.int r1), .val (.int r2), .val (.int r3), .val (.int r4), .val (.int r5), .val (.int r6), .val (.int r7), .val (.int r8), .val (.int r9), .val (.int r10), .val (.ref arr), .val (.int cnt), .val (.int x1), .unset] [(.long val), (.long ((r9).toInt64))])) _
      refine XS.lcmp X15.here hx rfl (hb hby at_151) rfl ?_
      show Steps p.tables e below (T15.setTop (mkF m 152 #[.val (.int p1), .val (.int p2), .val (.int p3), .val (.int p4), .val (.int p5), .val (.long val), .second, .val (.int r1), .val (.int r2), .val (.int r3), .val (.int r4), .val (.int r5), .val (.int r6), .val (.int r7), .val (.int r8), .val (.int r9), .val (.int r10), .val (.ref arr), .val (.int cnt), .val (.int x1), .unset] [(.int (lcmpW ((r9).toInt64) val))])) _
      by_cases hm19 : ((r9).toInt64) < val
      · refine XS.ifNo X15.here hx rfl (hb hby at_152) rfl ((if0 _ _).trans (tlt ((lw_lt _ _).mpr hm19)).2.1) ?_
        show Steps p.tables e below (T15.setTop (mkF m 155 #[.val (.int p1), .val (.int p2), .val (.int p3), .val (.int p4), .val (.int p5), .val (.long val), .second, .val (.int r1), .val (.int r2), .val (.int r3), .val (.int r4), .val (.int r5), .val (.int r6), .val (.int r7), .val (.int r8), .val (.int r9), .val (.int r10), .val (.ref arr), .val (.int cnt), .val (.int x1), .unset] [])) _
        refine XS.iconst X15.here hx rfl (hb hby at_155) ?_
        show Steps p.tables e below (T15.setTop (mkF m 156 #[.val (.int p1), .val (.int p2), .val (.int p3), .val (.int p4), .val (.int p5), .val (.long val), .second, .val (.int r1), .val (.int r2), .val (.int r3), .val (.int r4), .val (.int r5), .val (.int r6), .val (.int r7), .val (.int r8), .val (.int r9), .val (.int r10), .val (.ref arr), .val (.int cnt), .val (.int x1), .unset] [(.int (2 : Int32))])) _
        refine XS.istore X15.here hx rfl (hb hby at_156) rfl (l' := #[.val (.int p1), .val (.int p2), .val (.int p3), .val (.int p4), .val (.int p5), .val (.long val), .second, .val (.int r1), .val (.int r2), .val (.int r3), .val (.int r4), .val (.int r5), .val (.int r6), .val (.int r7), .val (.int r8), .val (.int r9), .val (.int r10), .val (.ref arr), .val (.int cnt), .val (.int (2 : Int32)), .unset]) rfl ?_
        show Steps p.tables e below (T15.setTop (mkF m 158 #[.val (.int p1), .val (.int p2), .val (.int p3), .val (.int p4), .val (.int p5), .val (.long val), .second, .val (.int r1), .val (.int r2), .val (.int r3), .val (.int r4), .val (.int r5), .val (.int r6), .val (.int r7), .val (.int r8), .val (.int r9), .val (.int r10), .val (.ref arr), .val (.int cnt), .val (.int (2 : Int32)), .unset] [])) _
        rw [show x2 = (2 : Int32) from by rw [hx2]; simp [hm18, hm19]] at k_
        exact k_
      · refine XS.ifYes X15.here hx rfl (pc0 := 152) (pc' := 158) rfl (hb hby at_152) rfl ((if0 _ _).trans (flt (mt (lw_lt _ _).mp hm19)).2.1) (by decide) (by decide) ?_
        show Steps p.tables e below (T15.setTop (mkF m 158 #[.val (.int p1), .val (.int p2), .val (.int p3), .val (.int p4), .val (.int p5), .val (.long val), .second, .val (.int r1), .val (.int r2), .val (.int r3), .val (.int r4), .val (.int r5), .val (.int r6), .val (.int r7), .val (.int r8), .val (.int r9), .val (.int r10), .val (.ref arr), .val (.int cnt), .val (.int x1), .unset] [])) _
        rw [show x2 = x1 from by rw [hx2]; simp [hm18, hm19]] at k_
        exact k_
    · refine XS.icmpYes X15.here hx rfl (pc0 := 143) (pc' := 158) rfl (hb hby at_143) rfl (flt hm18).2.2.2 (by decide) (by decide) ?_
      show Steps p.tables e below (T15.setTop (mkF m 158 #[.val (.int p1), .val (.int p2), .val (.int p3), .val (.int p4), .val (.int p5), .val (.long val), .second, .val (.int r1), .val (.int r2), .val (.int r3), .val (.int r4), .val (.int r5), .val (.int r6), .val (.int r7), .val (.int r8), .val (.int r9), .val (.int r10), .val (.ref arr), .val (.int cnt), .val (.int x1), .unset] [])) _
      rw [show x2 = x1 from by rw [hx2]; simp [hm18]] at k_
      exact k_
  obtain ⟨x3, hx3⟩ : ∃ z : Int32, z = if (2 : Int32) < cnt ∧ (r10).toInt64 < val then (3 : Int32) else x2 := ⟨_, rfl⟩
  refine own_go (T' := T15) (g' := (mkF m 176 #[.val (.int p1), .val (.int p2), .val (.int p3), .val (.int p4), .val (.int p5), .val (.long val), .second, .val (.int r1), .val (.int r2), .val (.int r3), .val (.int r4), .val (.int r5), .val (.int r6), .val (.int r7), .val (.int r8), .val (.int r9), .val (.int r10), .val (.ref arr), .val (.int cnt), .val (.int x3), .unset] [])) (fun t_ k_ => ?_) ?_
  · refine XS.iload X15.here hx rfl (hb hby at_158) rfl ?_
    show Steps p.tables e below (T15.setTop (mkF m 160 #[.val (.int p1), .val (.int p2), .val (.int p3), .val (.int p4), .val (.int p5), .val (.long val), .second, .val (.int r1), .val (.int r2), .val (.int r3), .val (.int r4), .val (.int r5), .val (.int r6), .val (.int r7), .val (.int r8), .val (.int r9), .val (.int r10), .val (.ref arr), .val (.int cnt), .val (.int x2), .unset] [(.int cnt)])) _
    refine XS.iconst X15.here hx rfl (hb hby at_160) ?_
    show Steps p.tables e below (T15.setTop (mkF m 161 #[.val (.int p1), .val (.int p2), .val (.int p3), .val (.int p4), .val (.int p5), .val (.long val), .second, .val (.int r1), .val (.int r2), .val (.int r3), .val (.int r4), .val (.int r5), .val (.int r6), .val (.int r7), .val (.int r8), .val (.int r9), .val (.int r10), .val (.ref arr), .val (.int cnt), .val (.int x2), .unset] [(.int (2 : Int32)), (.int cnt)])) _
    by_cases hm20 : (2 : Int32) < cnt
    · refine XS.icmpNo X15.here hx rfl (hb hby at_161) rfl (tlt hm20).2.2.2 ?_
      show Steps p.tables e below (T15.setTop (mkF m 164 #[.val (.int p1), .val (.int p2), .val (.int p3), .val (.int p4), .val (.int p5), .val (.long val), .second, .val (.int r1), .val (.int r2), .val (.int r3), .val (.int r4), .val (.int r5), .val (.int r6), .val (.int r7), .val (.int r8), .val (.int r9), .val (.int r10), .val (.ref arr), .val (.int cnt), .val (.int x2), .unset] [])) _
      refine XS.iload X15.here hx rfl (hb hby at_164) rfl ?_
      show Steps p.tables e below (T15.setTop (mkF m 166 #[.val (.int p1), .val (.int p2), .val (.int p3), .val (.int p4), .val (.int p5), .val (.long val), .second, .val (.int r1), .val (.int r2), .val (.int r3), .val (.int r4), .val (.int r5), .val (.int r6), .val (.int r7), .val (.int r8), .val (.int r9), .val (.int r10), .val (.ref arr), .val (.int cnt), .val (.int x2), .unset] [(.int r10)])) _
      refine XS.i2l X15.here hx rfl (hb hby at_166) rfl ?_
      show Steps p.tables e below (T15.setTop (mkF m 167 #[.val (.int p1), .val (.int p2), .val (.int p3), .val (.int p4), .val (.int p5), .val (.long val), .second, .val (.int r1), .val (.int r2), .val (.int r3), .val (.int r4), .val (.int r5), .val (.int r6), .val (.int r7), .val (.int r8), .val (.int r9), .val (.int r10), .val (.ref arr), .val (.int cnt), .val (.int x2), .unset] [(.long ((r10).toInt64))])) _
      refine XS.lload X15.here hx rfl (hb hby at_167) rfl ?_
      show Steps p.tables e below (T15.setTop (mkF m 169 #[.val (.int p1), .val (.int p2), .val (.int p3), .val (.int p4), .val (.int p5), .val (.long val), .second, .val (.int r1), .val (.int r2), .val (.int r3), .val (.int r4), .val (.int r5), .val (.int r6), .val (.int r7), .val (.int r8), .val (.int r9), .val (.int r10), .val (.ref arr), .val (.int cnt), .val (.int x2), .unset] [(.long val), (.long ((r10).toInt64))])) _
      refine XS.lcmp X15.here hx rfl (hb hby at_169) rfl ?_
      show Steps p.tables e below (T15.setTop (mkF m 170 #[.val (.int p1), .val (.int p2), .val (.int p3), .val (.int p4), .val (.int p5), .val (.long val), .second, .val (.int r1), .val (.int r2), .val (.int r3), .val (.int r4), .val (.int r5), .val (.int r6), .val (.int r7), .val (.int r8), .val (.int r9), .val (.int r10), .val (.ref arr), .val (.int cnt), .val (.int x2), .unset] [(.int (lcmpW ((r10).toInt64) val))])) _
      by_cases hm21 : ((r10).toInt64) < val
      · refine XS.ifNo X15.here hx rfl (hb hby at_170) rfl ((if0 _ _).trans (tlt ((lw_lt _ _).mpr hm21)).2.1) ?_
        show Steps p.tables e below (T15.setTop (mkF m 173 #[.val (.int p1), .val (.int p2), .val (.int p3), .val (.int p4), .val (.int p5), .val (.long val), .second, .val (.int r1), .val (.int r2), .val (.int r3), .val (.int r4), .val (.int r5), .val (.int r6), .val (.int r7), .val (.int r8), .val (.int r9), .val (.int r10), .val (.ref arr), .val (.int cnt), .val (.int x2), .unset] [])) _
        refine XS.iconst X15.here hx rfl (hb hby at_173) ?_
        show Steps p.tables e below (T15.setTop (mkF m 174 #[.val (.int p1), .val (.int p2), .val (.int p3), .val (.int p4), .val (.int p5), .val (.long val), .second, .val (.int r1), .val (.int r2), .val (.int r3), .val (.int r4), .val (.int r5), .val (.int r6), .val (.int r7), .val (.int r8), .val (.int r9), .val (.int r10), .val (.ref arr), .val (.int cnt), .val (.int x2), .unset] [(.int (3 : Int32))])) _
        refine XS.istore X15.here hx rfl (hb hby at_174) rfl (l' := #[.val (.int p1), .val (.int p2), .val (.int p3), .val (.int p4), .val (.int p5), .val (.long val), .second, .val (.int r1), .val (.int r2), .val (.int r3), .val (.int r4), .val (.int r5), .val (.int r6), .val (.int r7), .val (.int r8), .val (.int r9), .val (.int r10), .val (.ref arr), .val (.int cnt), .val (.int (3 : Int32)), .unset]) rfl ?_
        show Steps p.tables e below (T15.setTop (mkF m 176 #[.val (.int p1), .val (.int p2), .val (.int p3), .val (.int p4), .val (.int p5), .val (.long val), .second, .val (.int r1), .val (.int r2), .val (.int r3), .val (.int r4), .val (.int r5), .val (.int r6), .val (.int r7), .val (.int r8), .val (.int r9), .val (.int r10), .val (.ref arr), .val (.int cnt), .val (.int (3 : Int32)), .unset] [])) _
        rw [show x3 = (3 : Int32) from by rw [hx3]; simp [hm20, hm21]] at k_
        exact k_
      · refine XS.ifYes X15.here hx rfl (pc0 := 170) (pc' := 176) rfl (hb hby at_170) rfl ((if0 _ _).trans (flt (mt (lw_lt _ _).mp hm21)).2.1) (by decide) (by decide) ?_
        show Steps p.tables e below (T15.setTop (mkF m 176 #[.val (.int p1), .val (.int p2), .val (.int p3), .val (.int p4), .val (.int p5), .val (.long val), .second, .val (.int r1), .val (.int r2), .val (.int r3), .val (.int r4), .val (.int r5), .val (.int r6), .val (.int r7), .val (.int r8), .val (.int r9), .val (.int r10), .val (.ref arr), .val (.int cnt), .val (.int x2), .unset] [])) _
        rw [show x3 = x2 from by rw [hx3]; simp [hm20, hm21]] at k_
        exact k_
    · refine XS.icmpYes X15.here hx rfl (pc0 := 161) (pc' := 176) rfl (hb hby at_161) rfl (flt hm20).2.2.2 (by decide) (by decide) ?_
      show Steps p.tables e below (T15.setTop (mkF m 176 #[.val (.int p1), .val (.int p2), .val (.int p3), .val (.int p4), .val (.int p5), .val (.long val), .second, .val (.int r1), .val (.int r2), .val (.int r3), .val (.int r4), .val (.int r5), .val (.int r6), .val (.int r7), .val (.int r8), .val (.int r9), .val (.int r10), .val (.ref arr), .val (.int cnt), .val (.int x2), .unset] [])) _
      rw [show x3 = x2 from by rw [hx3]; simp [hm20]] at k_
      exact k_
  obtain ⟨x4, hx4⟩ : ∃ z : Int32, z = if (3 : Int32) < cnt ∧ (r8).toInt64 < val then (4 : Int32) else x3 := ⟨_, rfl⟩
  refine own_go (T' := T15) (g' := (mkF m 194 #[.val (.int p1), .val (.int p2), .val (.int p3), .val (.int p4), .val (.int p5), .val (.long val), .second, .val (.int r1), .val (.int r2), .val (.int r3), .val (.int r4), .val (.int r5), .val (.int r6), .val (.int r7), .val (.int r8), .val (.int r9), .val (.int r10), .val (.ref arr), .val (.int cnt), .val (.int x4), .unset] [])) (fun t_ k_ => ?_) ?_
  · refine XS.iload X15.here hx rfl (hb hby at_176) rfl ?_
    show Steps p.tables e below (T15.setTop (mkF m 178 #[.val (.int p1), .val (.int p2), .val (.int p3), .val (.int p4), .val (.int p5), .val (.long val), .second, .val (.int r1), .val (.int r2), .val (.int r3), .val (.int r4), .val (.int r5), .val (.int r6), .val (.int r7), .val (.int r8), .val (.int r9), .val (.int r10), .val (.ref arr), .val (.int cnt), .val (.int x3), .unset] [(.int cnt)])) _
    refine XS.iconst X15.here hx rfl (hb hby at_178) ?_
    show Steps p.tables e below (T15.setTop (mkF m 179 #[.val (.int p1), .val (.int p2), .val (.int p3), .val (.int p4), .val (.int p5), .val (.long val), .second, .val (.int r1), .val (.int r2), .val (.int r3), .val (.int r4), .val (.int r5), .val (.int r6), .val (.int r7), .val (.int r8), .val (.int r9), .val (.int r10), .val (.ref arr), .val (.int cnt), .val (.int x3), .unset] [(.int (3 : Int32)), (.int cnt)])) _
    by_cases hm22 : (3 : Int32) < cnt
    · refine XS.icmpNo X15.here hx rfl (hb hby at_179) rfl (tlt hm22).2.2.2 ?_
      show Steps p.tables e below (T15.setTop (mkF m 182 #[.val (.int p1), .val (.int p2), .val (.int p3), .val (.int p4), .val (.int p5), .val (.long val), .second, .val (.int r1), .val (.int r2), .val (.int r3), .val (.int r4), .val (.int r5), .val (.int r6), .val (.int r7), .val (.int r8), .val (.int r9), .val (.int r10), .val (.ref arr), .val (.int cnt), .val (.int x3), .unset] [])) _
      refine XS.iload X15.here hx rfl (hb hby at_182) rfl ?_
      show Steps p.tables e below (T15.setTop (mkF m 184 #[.val (.int p1), .val (.int p2), .val (.int p3), .val (.int p4), .val (.int p5), .val (.long val), .second, .val (.int r1), .val (.int r2), .val (.int r3), .val (.int r4), .val (.int r5), .val (.int r6), .val (.int r7), .val (.int r8), .val (.int r9), .val (.int r10), .val (.ref arr), .val (.int cnt), .val (.int x3), .unset] [(.int r8)])) _
      refine XS.i2l X15.here hx rfl (hb hby at_184) rfl ?_
      show Steps p.tables e below (T15.setTop (mkF m 185 #[.val (.int p1), .val (.int p2), .val (.int p3), .val (.int p4), .val (.int p5), .val (.long val), .second, .val (.int r1), .val (.int r2), .val (.int r3), .val (.int r4), .val (.int r5), .val (.int r6), .val (.int r7), .val (.int r8), .val (.int r9), .val (.int r10), .val (.ref arr), .val (.int cnt), .val (.int x3), .unset] [(.long ((r8).toInt64))])) _
      refine XS.lload X15.here hx rfl (hb hby at_185) rfl ?_
      show Steps p.tables e below (T15.setTop (mkF m 187 #[.val (.int p1), .val (.int p2), .val (.int p3), .val (.int p4), .val (.int p5), .val (.long val), .second, .val (.int r1), .val (.int r2), .val (.int r3), .val (.int r4), .val (.int r5), .val (.int r6), .val (.int r7), .val (.int r8), .val (.int r9), .val (.int r10), .val (.ref arr), .val (.int cnt), .val (.int x3), .unset] [(.long val), (.long ((r8).toInt64))])) _
      refine XS.lcmp X15.here hx rfl (hb hby at_187) rfl ?_
      show Steps p.tables e below (T15.setTop (mkF m 188 #[.val (.int p1), .val (.int p2), .val (.int p3), .val (.int p4), .val (.int p5), .val (.long val), .second, .val (.int r1), .val (.int r2), .val (.int r3), .val (.int r4), .val (.int r5), .val (.int r6), .val (.int r7), .val (.int r8), .val (.int r9), .val (.int r10), .val (.ref arr), .val (.int cnt), .val (.int x3), .unset] [(.int (lcmpW ((r8).toInt64) val))])) _
      by_cases hm23 : ((r8).toInt64) < val
      · refine XS.ifNo X15.here hx rfl (hb hby at_188) rfl ((if0 _ _).trans (tlt ((lw_lt _ _).mpr hm23)).2.1) ?_
        show Steps p.tables e below (T15.setTop (mkF m 191 #[.val (.int p1), .val (.int p2), .val (.int p3), .val (.int p4), .val (.int p5), .val (.long val), .second, .val (.int r1), .val (.int r2), .val (.int r3), .val (.int r4), .val (.int r5), .val (.int r6), .val (.int r7), .val (.int r8), .val (.int r9), .val (.int r10), .val (.ref arr), .val (.int cnt), .val (.int x3), .unset] [])) _
        refine XS.iconst X15.here hx rfl (hb hby at_191) ?_
        show Steps p.tables e below (T15.setTop (mkF m 192 #[.val (.int p1), .val (.int p2), .val (.int p3), .val (.int p4), .val (.int p5), .val (.long val), .second, .val (.int r1), .val (.int r2), .val (.int r3), .val (.int r4), .val (.int r5), .val (.int r6), .val (.int r7), .val (.int r8), .val (.int r9), .val (.int r10), .val (.ref arr), .val (.int cnt), .val (.int x3), .unset] [(.int (4 : Int32))])) _
        refine XS.istore X15.here hx rfl (hb hby at_192) rfl (l' := #[.val (.int p1), .val (.int p2), .val (.int p3), .val (.int p4), .val (.int p5), .val (.long val), .second, .val (.int r1), .val (.int r2), .val (.int r3), .val (.int r4), .val (.int r5), .val (.int r6), .val (.int r7), .val (.int r8), .val (.int r9), .val (.int r10), .val (.ref arr), .val (.int cnt), .val (.int (4 : Int32)), .unset]) rfl ?_
        show Steps p.tables e below (T15.setTop (mkF m 194 #[.val (.int p1), .val (.int p2), .val (.int p3), .val (.int p4), .val (.int p5), .val (.long val), .second, .val (.int r1), .val (.int r2), .val (.int r3), .val (.int r4), .val (.int r5), .val (.int r6), .val (.int r7), .val (.int r8), .val (.int r9), .val (.int r10), .val (.ref arr), .val (.int cnt), .val (.int (4 : Int32)), .unset] [])) _
        rw [show x4 = (4 : Int32) from by rw [hx4]; simp [hm22, hm23]] at k_
        exact k_
      · refine XS.ifYes X15.here hx rfl (pc0 := 188) (pc' := 194) rfl (hb hby at_188) rfl ((if0 _ _).trans (flt (mt (lw_lt _ _).mp hm23)).2.1) (by decide) (by decide) ?_
        show Steps p.tables e below (T15.setTop (mkF m 194 #[.val (.int p1), .val (.int p2), .val (.int p3), .val (.int p4), .val (.int p5), .val (.long val), .second, .val (.int r1), .val (.int r2), .val (.int r3), .val (.int r4), .val (.int r5), .val (.int r6), .val (.int r7), .val (.int r8), .val (.int r9), .val (.int r10), .val (.ref arr), .val (.int cnt), .val (.int x3), .unset] [])) _
        rw [show x4 = x3 from by rw [hx4]; simp [hm22, hm23]] at k_
        exact k_
    · refine XS.icmpYes X15.here hx rfl (pc0 := 179) (pc' := 194) rfl (hb hby at_179) rfl (flt hm22).2.2.2 (by decide) (by decide) ?_
      show Steps p.tables e below (T15.setTop (mkF m 194 #[.val (.int p1), .val (.int p2), .val (.int p3), .val (.int p4), .val (.int p5), .val (.long val), .second, .val (.int r1), .val (.int r2), .val (.int r3), .val (.int r4), .val (.int r5), .val (.int r6), .val (.int r7), .val (.int r8), .val (.int r9), .val (.int r10), .val (.ref arr), .val (.int cnt), .val (.int x3), .unset] [])) _
      rw [show x4 = x3 from by rw [hx4]; simp [hm22]] at k_
      exact k_
  refine own_go (T' := T15) (g' := (mkF m 200 #[.val (.int p1), .val (.int p2), .val (.int p3), .val (.int p4), .val (.int p5), .val (.long val), .second, .val (.int r1), .val (.int r2), .val (.int r3), .val (.int r4), .val (.int r5), .val (.int r6), .val (.int r7), .val (.int r8), .val (.int r9), .val (.int r10), .val (.ref arr), .val (.int cnt), .val (.int x4), .unset] [(.long val), (.int cnt), (.ref arr)])) (fun t_ k_ => ?_) ?_
  · refine XS.aload X15.here hx rfl (hb hby at_194) rfl rfl ?_
    show Steps p.tables e below (T15.setTop (mkF m 196 #[.val (.int p1), .val (.int p2), .val (.int p3), .val (.int p4), .val (.int p5), .val (.long val), .second, .val (.int r1), .val (.int r2), .val (.int r3), .val (.int r4), .val (.int r5), .val (.int r6), .val (.int r7), .val (.int r8), .val (.int r9), .val (.int r10), .val (.ref arr), .val (.int cnt), .val (.int x4), .unset] [(.ref arr)])) _
    refine XS.iload X15.here hx rfl (hb hby at_196) rfl ?_
    show Steps p.tables e below (T15.setTop (mkF m 198 #[.val (.int p1), .val (.int p2), .val (.int p3), .val (.int p4), .val (.int p5), .val (.long val), .second, .val (.int r1), .val (.int r2), .val (.int r3), .val (.int r4), .val (.int r5), .val (.int r6), .val (.int r7), .val (.int r8), .val (.int r9), .val (.int r10), .val (.ref arr), .val (.int cnt), .val (.int x4), .unset] [(.int cnt), (.ref arr)])) _
    refine XS.lload X15.here hx rfl (hb hby at_198) rfl ?_
    show Steps p.tables e below (T15.setTop (mkF m 200 #[.val (.int p1), .val (.int p2), .val (.int p3), .val (.int p4), .val (.int p5), .val (.long val), .second, .val (.int r1), .val (.int r2), .val (.int r3), .val (.int r4), .val (.int r5), .val (.int r6), .val (.int r7), .val (.int r8), .val (.int r9), .val (.int r10), .val (.ref arr), .val (.int cnt), .val (.int x4), .unset] [(.long val), (.int cnt), (.ref arr)])) _
    exact k_
  refine own_callS (y := (⟨"com/example/wordspan/wordspan/ChainShape", "firstAtLeast", "([IIJ)I"⟩ : MethodName)) (W := 0) (rm := ({ frames := 0, cells := 0, slots := 0, locals := 0 } : Room)) (argsL := [(.ref arr), (.int cnt), (.long val)]) (rest := []) X15 hx hZ hown (hw _ (List.mem_of_getElem? (i := 9) rfl)) (hw _ (List.mem_of_getElem? (i := 10) rfl)) (hw _ (List.mem_of_getElem? (i := 11) rfl)) (hw _ (List.mem_of_getElem? (i := 12) rfl)) (by decide) (rm3 l Z a0 hw [] arr cnt val h15 n0 (Nat.le_trans Z0 (Nat.le_trans E11.1 (Nat.le_of_eq (by rw [W15.size, W14.size, W13.size, W12.size])))) (own_f r5 r9 r10 r8) A15 hc (own_f_sorted srt)) (by decide) (by decide) e15 (by decide) (by decide) rfl (by rw [hml]; rfl) (lenOf pd3 rfl) rfl (by show 2 * 0 + _ ≤ _; exact Nat.le_of_eq rfl) (hb hby at_200) ?_
  rintro _ T24 L24 X24 ⟨r24, rfl, hr24, N24, e24⟩
  show own_Go p e below s room_1.cells room_1.slots (fun v _ L => v = some (.int (1 : Int32)) ∧ Fr n0 L) T24 (mkF m 203 #[.val (.int p1), .val (.int p2), .val (.int p3), .val (.int p4), .val (.int p5), .val (.long val), .second, .val (.int r1), .val (.int r2), .val (.int r3), .val (.int r4), .val (.int r5), .val (.int r6), .val (.int r7), .val (.int r8), .val (.int r9), .val (.int r10), .val (.ref arr), .val (.int cnt), .val (.int x4), .unset] [(.int r24)])
  refine own_go (T' := T24) (g' := (mkF m 209 #[.val (.int p1), .val (.int p2), .val (.int p3), .val (.int p4), .val (.int p5), .val (.long val), .second, .val (.int r1), .val (.int r2), .val (.int r3), .val (.int r4), .val (.int r5), .val (.int r6), .val (.int r7), .val (.int r8), .val (.int r9), .val (.int r10), .val (.ref arr), .val (.int cnt), .val (.int x4), .val (.int r24)] [(.int x4), (.int r24)])) (fun t_ k_ => ?_) ?_
  · refine XS.istore X24.here hx rfl (hb hby at_203) rfl (l' := #[.val (.int p1), .val (.int p2), .val (.int p3), .val (.int p4), .val (.int p5), .val (.long val), .second, .val (.int r1), .val (.int r2), .val (.int r3), .val (.int r4), .val (.int r5), .val (.int r6), .val (.int r7), .val (.int r8), .val (.int r9), .val (.int r10), .val (.ref arr), .val (.int cnt), .val (.int x4), .val (.int r24)]) rfl ?_
    show Steps p.tables e below (T24.setTop (mkF m 205 #[.val (.int p1), .val (.int p2), .val (.int p3), .val (.int p4), .val (.int p5), .val (.long val), .second, .val (.int r1), .val (.int r2), .val (.int r3), .val (.int r4), .val (.int r5), .val (.int r6), .val (.int r7), .val (.int r8), .val (.int r9), .val (.int r10), .val (.ref arr), .val (.int cnt), .val (.int x4), .val (.int r24)] [])) _
    refine XS.iload X24.here hx rfl (hb hby at_205) rfl ?_
    show Steps p.tables e below (T24.setTop (mkF m 207 #[.val (.int p1), .val (.int p2), .val (.int p3), .val (.int p4), .val (.int p5), .val (.long val), .second, .val (.int r1), .val (.int r2), .val (.int r3), .val (.int r4), .val (.int r5), .val (.int r6), .val (.int r7), .val (.int r8), .val (.int r9), .val (.int r10), .val (.ref arr), .val (.int cnt), .val (.int x4), .val (.int r24)] [(.int r24)])) _
    refine XS.iload X24.here hx rfl (hb hby at_207) rfl ?_
    show Steps p.tables e below (T24.setTop (mkF m 209 #[.val (.int p1), .val (.int p2), .val (.int p3), .val (.int p4), .val (.int p5), .val (.long val), .second, .val (.int r1), .val (.int r2), .val (.int r3), .val (.int r4), .val (.int r5), .val (.int r6), .val (.int r7), .val (.int r8), .val (.int r9), .val (.int r10), .val (.ref arr), .val (.int cnt), .val (.int x4), .val (.int r24)] [(.int x4), (.int r24)])) _
    exact k_
  have hf25 : r24 = x4 := own_same srt hc hr24 hx1 hx2 hx3 hx4
  refine own_go (T' := T24) (g' := (mkF m 217 #[.val (.int p1), .val (.int p2), .val (.int p3), .val (.int p4), .val (.int p5), .val (.long val), .second, .val (.int r1), .val (.int r2), .val (.int r3), .val (.int r4), .val (.int r5), .val (.int r6), .val (.int r7), .val (.int r8), .val (.int r9), .val (.int r10), .val (.ref arr), .val (.int cnt), .val (.int x4), .val (.int r24)] [(.int (1 : Int32))])) (fun t_ k_ => ?_) ?_
  · refine XS.icmpNo X24.here hx rfl (hb hby at_209) rfl (teq hf25).2 ?_
    show Steps p.tables e below (T24.setTop (mkF m 212 #[.val (.int p1), .val (.int p2), .val (.int p3), .val (.int p4), .val (.int p5), .val (.long val), .second, .val (.int r1), .val (.int r2), .val (.int r3), .val (.int r4), .val (.int r5), .val (.int r6), .val (.int r7), .val (.int r8), .val (.int r9), .val (.int r10), .val (.ref arr), .val (.int cnt), .val (.int x4), .val (.int r24)] [])) _
    refine XS.iconst X24.here hx rfl (hb hby at_212) ?_
    show Steps p.tables e below (T24.setTop (mkF m 213 #[.val (.int p1), .val (.int p2), .val (.int p3), .val (.int p4), .val (.int p5), .val (.long val), .second, .val (.int r1), .val (.int r2), .val (.int r3), .val (.int r4), .val (.int r5), .val (.int r6), .val (.int r7), .val (.int r8), .val (.int r9), .val (.int r10), .val (.ref arr), .val (.int cnt), .val (.int x4), .val (.int r24)] [(.int (1 : Int32))])) _
    refine XS.goto X24.here hx rfl (pc0 := 213) (pc' := 217) rfl (hb hby at_213) (by decide) (by decide) ?_
    show Steps p.tables e below (T24.setTop (mkF m 217 #[.val (.int p1), .val (.int p2), .val (.int p3), .val (.int p4), .val (.int p5), .val (.long val), .second, .val (.int r1), .val (.int r2), .val (.int r3), .val (.int r4), .val (.int r5), .val (.int r6), .val (.int r7), .val (.int r8), .val (.int r9), .val (.int r10), .val (.ref arr), .val (.int cnt), .val (.int x4), .val (.int r24)] [(.int (1 : Int32))])) _
    exact k_
  exact own_retZ X24 hx hret hk rfl (hb hby at_217) (by decide) (by decide) ⟨rfl, Fr.app N15 N24⟩
set_option maxRecDepth 65536 in
set_option maxHeartbeats 40000000 in
theorem comes_1 {Post : Tables → Env → Array Value → State → Outcome → State → Prop} (hpost : ∀ tb e args s v u, (limb_1_1.after args s (.returned v) u = true ∧ limb_1_2.after args s (.returned v) u = true ∧ True) → FrameEnd s (.returned v) u (Jvm.fieldLocs frame_1_writes args s ++ Jvm.arrayLocs frame_1_arrays args s ++ Jvm.staticLocs frame_1_statics s) 16 128 → Post tb e args s (.returned v) u) :
    ArmFor flags0 classFile x code maxLocals ret World_1 tables_1 room_1 Calls_1 rest_1 Pre_1 Post := by
  intro l hfl _ _ p e ha hc hk s m args below hf hA hF happ hP
  obtain ⟨hcalls, hrest, hpre⟩ := hP
  obtain ⟨-, -, -, hnamed, -, -, -, hat⟩ := (Spec.applies_iff hf).mp happ
  obtain ⟨hg, hn⟩ := and_e (Cond.before_iff.mp (show (Jvm.Cond.and given_1 narrow_1).before args s = true from hpre))
  obtain ⟨gc, gr0⟩ := and_e hg
  obtain ⟨gk0, gr1⟩ := and_e gr0
  obtain ⟨gk1, gr2⟩ := and_e gr1
  obtain ⟨gk2, gr3⟩ := and_e gr2
  obtain ⟨gk3, gr4⟩ := and_e gr3
  obtain ⟨gk4, gr5⟩ := and_e gr4
  have gk5 := gr5
  obtain ⟨w0, w1, w2, w3, w4, w5, rfl⟩ : ∃ w0 w1 w2 w3 w4 w5 : Value, args = #[w0, w1, w2, w3, w4, w5] := by
    have hs : args.size = 6 := by simpa [Cond.value, given_1] using gc
    obtain ⟨L⟩ := args
    match L, hs with
    | [w0, w1, w2, w3, w4, w5], _ => exact ⟨w0, w1, w2, w3, w4, w5, rfl⟩
  have hw := fun d (hd : d ∈ tables_1) => atoms_spec (ws := Jvm.Cond.code x code maxLocals ret :: tables_1) hat d (List.mem_cons_of_mem _ hd)
  have hfit : Fit s := fun {y c} hc i hi => by
    obtain ⟨ha, rfl⟩ := Array.getElem?_eq_some_iff.mp hc
    have q := List.all_eq_true.mp ((Array.all_eq_true_iff_forall_mem.mp hF) _ (Array.getElem_mem ha)) i (List.mem_range.mpr hi)
    simpa [Array.getElem?_eq_getElem hi] using q
  obtain ⟨i0, ei0⟩ := is_v gk0
  obtain rfl : w0 = (.int i0) := Option.some.inj ei0
  obtain ⟨i1, ei1⟩ := is_v gk1
  obtain rfl : w1 = (.int i1) := Option.some.inj ei1
  obtain ⟨i2, ei2⟩ := is_v gk2
  obtain rfl : w2 = (.int i2) := Option.some.inj ei2
  obtain ⟨i3, ei3⟩ := is_v gk3
  obtain rfl : w3 = (.int i3) := Option.some.inj ei3
  obtain ⟨i4, ei4⟩ := is_v gk4
  obtain rfl : w4 = (.int i4) := Option.some.inj ei4
  obtain ⟨i5, ei5⟩ := isL_v gk5
  obtain rfl : w5 = (.long i5) := Option.some.inj ei5
  obtain ⟨n, o, h1, h2, h3, _, L, rfl, ⟨rfl, N⟩, hq⟩ := rm0 l s _ hw tables_1 i0 i1 i2 i3 i4 i5 s.heap s.heap.size (Nat.le_refl _) p e ha hc hk s m _ below hf ((Spec.applies_iff_loose hf).mp happ).1 ⟨rfl, State.Warmed39.refl s, rfl⟩ trivial
  refine ⟨n, _, h1, h2, h3, hpost _ _ _ _ _ _ ⟨Cond.after_iff.mpr rfl, Cond.after_iff.mpr (eq_i res_at (Term.int_eval (1)) rfl), trivial⟩ ⟨hq.1, hq.2.1, (hq.2.2.sift fun y hy => Or.inr (N y hy)).mono (by decide) (by decide)⟩⟩
theorem main_1_1 : Claimed_1_1 := comes_1 fun _ _ _ _ _ _ h hF => ⟨h.1, hF⟩
theorem main_1_2 : Claimed_1_2 := comes_1 fun _ _ _ _ _ _ h hF => ⟨h.2.1, hF⟩
end Jvm.Pilot.@@N@@
namespace Jvm.Pilot.@@N@@
open Jvm Jvm.ClassFile Sem Op Lib Jvm.Free Jvm.Stand Jvm.Pilot.@@N@@.Jvm.D
/-! MADE BY PROGRAM (witnessworld.py) out of the Statement's table words and the real class files: 10 classes; the members and pool entries that the words name. The judged class is class 1, her method 1. -/
namespace start1
open Jvm.ClassFile
def u (s : String) : CpInfo := .utf8 (stringToUtf16 s)
/-- a pool by its gaps: so many unusable entries, then the entry; so many at the end -/
def gap : Nat → List CpInfo → List CpInfo
  | 0, r => r
  | n + 1, r => .unusable :: gap n r
def poolList (es : List (Nat × CpInfo)) (last : Nat) : List CpInfo := es.foldr (fun e r => gap e.1 (e.2 :: r)) (gap last [])
def pool (es : List (Nat × CpInfo)) (last : Nat) : Array CpInfo := ⟨poolList es last⟩
def fileOf (pool : Array CpInfo) (this : Nat) (attrs : Array Attribute := #[]) (ms : Array MethodInfo := #[]) (fl : Nat := 33) (sup : Nat := 0) (ifs : Array Nat := #[]) (fds : Array FieldInfo := #[]) : ClassFile where
  minorVersion := 0
  majorVersion := 65
  constantPool := pool
  accessFlags := fl
  thisClass := this
  superClass := sup
  interfaces := ifs
  fields := fds
  methods := ms
  attributes := attrs
def plain (name : String) (sup : Option ClassId) : Class where
  name := name
  kind := .ordinary
  loader := none
  accessFlags := 33
  super := sup
  interfaces := #[]
  cf := none
  fields := #[]
  methods := #[]
  instanceTypes := #[]
  staticTypes := #[]
  resolved := #[]
  callSites := []
  init := .initialized
  statics := none
  mirror := none

def pool0 : Array CpInfo := pool [(5, u "<init>"), (0, u "()V"), (1, .class_ 10), (1, u "java/lang/Object")] 113

def k0m0 : Method := { name := "<init>", desc := "()V", sig := { parameters := [], returnType := none }, accessFlags := 1, code := none }
/-- java/lang/Object -/
def k0 : Class := { plain "java/lang/Object" none with
  accessFlags := 33
  interfaces := #[]
  cf := some (fileOf pool0 8 #[] #[{ accessFlags := 1, nameIndex := 5, descriptorIndex := 6, attributes := #[] }] 33 0 #[] #[])
  fields := #[]
  methods := #[k0m0]
  instanceTypes := #[]
  staticTypes := #[]
  resolved := Array.replicate 124 none
  statics := none }

def pool1 : Array CpInfo := pool [(2, .class_ 4), (1, u "java/lang/Object"), (0, u "<init>"), (0, u "()V"), (0, .methodref 8 9), (0, .class_ 10), (0, .nameAndType 11 12), (0, u "java/lang/Math"), (0, u "min"), (0, u "(II)I"), (0, .methodref 8 14), (0, .nameAndType 15 12), (0, u "max"), (0, .integer 2147483647), (0, .methodref 18 19), (0, .class_ 20), (0, .nameAndType 21 22), (0, u "com/example/wordspan/wordspan/ChainShape"), (0, u "firstAtLeast"), (0, u "([IIJ)I"), (0, .class_ 24), (0, u "com/example/wordspan/wordspan/ChainShapeFirstAtLeastPinLaw"), (2, u "law"), (0, u "(IIIIIJ)Z")] 5

def k1m0 : Method := { name := "<init>", desc := "()V", sig := { parameters := [], returnType := none }, accessFlags := 2, code := none }
def k1c1 : Code := { maxStack := 4, maxLocals := 21, code := code, exceptionTable := #[], attributes := #[] }
def k1m1 : Method := { name := "law", desc := "(IIIIIJ)Z", sig := { parameters := [.int, .int, .int, .int, .int, .long], returnType := some .boolean }, accessFlags := 9, code := some k1c1 }
/-- com/example/wordspan/wordspan/ChainShapeFirstAtLeastPinLaw -/
def k1 : Class := { plain "com/example/wordspan/wordspan/ChainShapeFirstAtLeastPinLaw" (some 0) with
  accessFlags := 49
  interfaces := #[]
  cf := some (fileOf pool1 23 #[] #[{ accessFlags := 2, nameIndex := 5, descriptorIndex := 6, attributes := #[] }, { accessFlags := 9, nameIndex := 27, descriptorIndex := 28, attributes := #[] }] 49 2 #[] #[])
  fields := #[]
  methods := #[k1m0, k1m1]
  instanceTypes := #[]
  staticTypes := #[]
  resolved := Array.replicate 34 none
  statics := none }

def pool2 : Array CpInfo := pool [(1, .class_ 2), (0, u "java/lang/Math"), (1, .class_ 6), (1, u "java/lang/Object"), (0, u "<init>"), (0, u "()V"), (89, .class_ 100), (1, u "java/lang/Math$RandomNumberGeneratorHolder"), (71, u "negativeZeroFloatBits"), (0, u "J"), (2, u "negativeZeroDoubleBits"), (21, u "max"), (2, u "min"), (43, u "$assertionsDisabled"), (0, u "Z"), (88, u "(II)I"), (2, u "twoToTheDoubleScaleDown"), (0, u "D"), (4, u "twoToTheDoubleScaleUp"), (9, u "E"), (3, u "PI"), (2, u "TAU"), (2, u "DEGREES_TO_RADIANS"), (0, u "RADIANS_TO_DEGREES")] 94

def k2m0 : Method := { name := "<init>", desc := "()V", sig := { parameters := [], returnType := none }, accessFlags := 2, code := none }
def k2c1 : Code := { maxStack := 2, maxLocals := 2, code := jdk_29_method_65_code, exceptionTable := #[], attributes := #[] }
def k2m1 : Method := { name := "max", desc := "(II)I", sig := { parameters := [.int, .int], returnType := some .int }, accessFlags := 9, code := some k2c1 }
def k2c2 : Code := { maxStack := 2, maxLocals := 2, code := jdk_29_method_69_code, exceptionTable := #[], attributes := #[] }
def k2m2 : Method := { name := "min", desc := "(II)I", sig := { parameters := [.int, .int], returnType := some .int }, accessFlags := 9, code := some k2c2 }
/-- java/lang/Math -/
def k2 : Class := { plain "java/lang/Math" (some 0) with
  accessFlags := 49
  interfaces := #[]
  cf := some (fileOf pool2 1 #[.nestMembers #[98]] #[{ accessFlags := 2, nameIndex := 7, descriptorIndex := 8, attributes := #[] }, { accessFlags := 9, nameIndex := 198, descriptorIndex := 335, attributes := #[] }, { accessFlags := 9, nameIndex := 201, descriptorIndex := 335, attributes := #[] }] 49 4 #[] #[{ accessFlags := 25, nameIndex := 354, descriptorIndex := 339, attributes := #[] }, { accessFlags := 25, nameIndex := 358, descriptorIndex := 339, attributes := #[] }, { accessFlags := 25, nameIndex := 361, descriptorIndex := 339, attributes := #[] }, { accessFlags := 26, nameIndex := 364, descriptorIndex := 339, attributes := #[] }, { accessFlags := 26, nameIndex := 365, descriptorIndex := 339, attributes := #[] }, { accessFlags := 26, nameIndex := 172, descriptorIndex := 173, attributes := #[] }, { accessFlags := 26, nameIndex := 176, descriptorIndex := 173, attributes := #[] }, { accessFlags := 8, nameIndex := 344, descriptorIndex := 339, attributes := #[] }, { accessFlags := 8, nameIndex := 338, descriptorIndex := 339, attributes := #[] }, { accessFlags := 4120, nameIndex := 245, descriptorIndex := 246, attributes := #[] }])
  fields := #[{ name := "E", type := .double, accessFlags := 25, slot := 0, constantValue := 0 }, { name := "PI", type := .double, accessFlags := 25, slot := 1, constantValue := 0 }, { name := "TAU", type := .double, accessFlags := 25, slot := 2, constantValue := 0 }, { name := "DEGREES_TO_RADIANS", type := .double, accessFlags := 26, slot := 3, constantValue := 0 }, { name := "RADIANS_TO_DEGREES", type := .double, accessFlags := 26, slot := 4, constantValue := 0 }, { name := "negativeZeroFloatBits", type := .long, accessFlags := 26, slot := 5, constantValue := 0 }, { name := "negativeZeroDoubleBits", type := .long, accessFlags := 26, slot := 6, constantValue := 0 }, { name := "twoToTheDoubleScaleUp", type := .double, accessFlags := 8, slot := 7, constantValue := 0 }, { name := "twoToTheDoubleScaleDown", type := .double, accessFlags := 8, slot := 8, constantValue := 0 }, { name := "$assertionsDisabled", type := .boolean, accessFlags := 4120, slot := 9, constantValue := 0 }]
  methods := #[k2m0, k2m1, k2m2]
  instanceTypes := #[]
  staticTypes := #[.double, .double, .double, .double, .double, .long, .long, .double, .double, .boolean]
  resolved := Array.replicate 460 none
  statics := none }

def pool3 : Array CpInfo := pool [(2, u "[I"), (1, .class_ 6), (1, u "com/example/wordspan/wordspan/ChainShape"), (3, .class_ 12), (1, u "java/lang/Object"), (3, u "widths"), (2, u "after"), (2, u "before"), (2, u "units"), (0, u "[[I"), (12, u "firstAtLeast"), (0, u "([IIJ)I"), (27, .class_ 69), (0, u "com/example/wordspan/wordspan/ChainShape$Window"), (7, .class_ 78), (0, u "com/example/wordspan/wordspan/ChainShape$Reach")] 88

def k3c0 : Code := { maxStack := 4, maxLocals := 7, code := prog_5_method_27_code, exceptionTable := #[], attributes := #[] }
def k3m0 : Method := { name := "firstAtLeast", desc := "([IIJ)I", sig := { parameters := [(.array .int), .int, .long], returnType := some .int }, accessFlags := 8, code := some k3c0 }
/-- com/example/wordspan/wordspan/ChainShape -/
def k3 : Class := { plain "com/example/wordspan/wordspan/ChainShape" (some 0) with
  accessFlags := 48
  interfaces := #[]
  cf := some (fileOf pool3 4 #[.nestMembers #[68, 77]] #[{ accessFlags := 8, nameIndex := 39, descriptorIndex := 40, attributes := #[] }] 48 10 #[] #[{ accessFlags := 18, nameIndex := 16, descriptorIndex := 2, attributes := #[] }, { accessFlags := 18, nameIndex := 19, descriptorIndex := 2, attributes := #[] }, { accessFlags := 18, nameIndex := 22, descriptorIndex := 2, attributes := #[] }, { accessFlags := 18, nameIndex := 25, descriptorIndex := 26, attributes := #[] }])
  fields := #[{ name := "widths", type := (.array .int), accessFlags := 18, slot := 0, constantValue := 0 }, { name := "after", type := (.array .int), accessFlags := 18, slot := 1, constantValue := 0 }, { name := "before", type := (.array .int), accessFlags := 18, slot := 2, constantValue := 0 }, { name := "units", type := (.array (.array .int)), accessFlags := 18, slot := 3, constantValue := 0 }]
  methods := #[k3m0]
  instanceTypes := #[(.array .int), (.array .int), (.array .int), (.array (.array .int))]
  staticTypes := #[]
  resolved := Array.replicate 167 none
  statics := none }

def pool4 : Array CpInfo := pool [(1, u "java/lang/Cloneable"), (0, .class_ 1), (0, u "java/lang/Object"), (0, .class_ 3)] 3

/-- java/lang/Cloneable -/
def k4 : Class := { plain "java/lang/Cloneable" (some 0) with
  accessFlags := 1537
  interfaces := #[]
  cf := some (fileOf pool4 2 #[] #[] 1537 4 #[] #[])
  fields := #[]
  methods := #[]
  instanceTypes := #[]
  staticTypes := #[]
  resolved := Array.replicate 8 none
  statics := none }

def pool5 : Array CpInfo := pool [(1, u "java/io/Serializable"), (0, .class_ 1), (0, u "java/lang/Object"), (0, .class_ 3)] 3

/-- java/io/Serializable -/
def k5 : Class := { plain "java/io/Serializable" (some 0) with
  accessFlags := 1537
  interfaces := #[]
  cf := some (fileOf pool5 2 #[] #[] 1537 4 #[] #[])
  fields := #[]
  methods := #[]
  instanceTypes := #[]
  staticTypes := #[]
  resolved := Array.replicate 8 none
  statics := none }

/-- the primitive byte -/
def k6 : Class := { plain "byte" none with kind := .primitive 'B', accessFlags := 0x411 }
/-- [B -/
def k7 : Class := { plain "[B" (some 0) with kind := .array 6 .byte, interfaces := #[4, 5], accessFlags := 1041 }

/-- the primitive int -/
def k8 : Class := { plain "int" none with kind := .primitive 'I', accessFlags := 0x411 }
/-- [I -/
def k9 : Class := { plain "[I" (some 0) with kind := .array 8 .int, interfaces := #[4, 5], accessFlags := 1041 }

def heap : Heap := #[]
def classes : Array Class := #[k0, k1, k2, k3, k4, k5, k6, k7, k8, k9]
def interned : List (Array UInt16 × Addr) := []
def slotsUsed : Nat := 0
def theMethod : MethodId := ⟨1, 1⟩
def args0 : Array Value := #[.int 1, .int 2, .int 3, .int 4, .int 5, .long 6]
def aboutOver (below : List Frame) : State where
  vm := { classes := classes, interned := interned.toArray }
  heap := heap
  slotsUsed := slotsUsed
  threads := #[{ frames := .invoking theMethod args0 :: below }]
def below0 : List Frame := [.native { method := ⟨0, 0⟩, args := #[] }]
def about1 : State := aboutOver below0
def p0 : Program := .bare "" "" ""
def e0 : Env := launch0.env 0 0 0
theorem w_frames : about1.frames = Frame.invoking theMethod args0 :: below0 := rfl
set_option maxRecDepth 65536 in
theorem w_args : argsFit about1.vm theMethod args0 = true := by decide +kernel
set_option maxRecDepth 65536 in
theorem w_heap : heapFits about1 = true := by decide +kernel
set_option maxRecDepth 65536 in
theorem w_runnable : about1.curStatus? = some .runnable := by decide +kernel
set_option maxRecDepth 65536 in
theorem w_alone : about1.alone = true := by decide +kernel
set_option maxRecDepth 65536 in
theorem w_named : about1.methodNamed? x = some theMethod := by decide +kernel
set_option maxRecDepth 65536 in
theorem w_hears : about1.hears theMethod below0 = true := by decide +kernel
set_option maxRecDepth 65536 in
theorem w_ripe : about1.ripe theMethod args0 below0 = true := by decide +kernel
theorem w_running : about1.status = .running := rfl
set_option maxRecDepth 65536 in
theorem w_room : about1.hasRoom e0.platform room_1 = true :=
  launch0.hasRoom_least _ room_1 (by decide +kernel) (by decide +kernel) (by decide +kernel) (by decide +kernel) (by decide +kernel) (by decide +kernel)
theorem allAtoms_all (ts : List Jvm.Cond) (a : Array Jvm.Value) (st : Jvm.State) : (allAtoms ts).before a st = ts.all (fun c => c.before a st) := by
  induction ts with
  | nil => rfl
  | cons c t ih =>
    show (Jvm.Cond.and c (allAtoms t)).before a st = _
    rw [Jvm.Cond.before_and, ih, List.all_cons]
def words1 : List Jvm.Cond := Jvm.Cond.code x code maxLocals ret :: tables_1
/-- a 'code' word, met by the world's own term for the bytes: nothing is compared byte by byte -/
theorem code_word {y : MethodName} {bytes : ByteArray} {mx : Nat} {rt : Option FieldType} {a : Array Value} {s : State} {m : MethodId} {meth : Method} {c : Code} (h1 : s.methodNamed? y = some m) (h2 : s.vm.method? m = some meth) (h3 : meth.code = some c) (h4 : c.code = bytes)
    (h5 : (c.maxLocals == mx && c.exceptionTable.isEmpty && decide (c.maxStack ≤ mostOperands) && decide (meth.sig.returnType = rt) && !meth.locks && decide (parseMethodDescriptor y.desc = some meth.sig)) = true) : (Jvm.Cond.code y bytes mx rt).before a s = true := by
  simp only [Bool.and_eq_true, beq_iff_eq, Bool.not_eq_true', decide_eq_true_eq] at h5
  obtain ⟨⟨⟨⟨⟨g1, g2⟩, g3⟩, g4⟩, g5⟩, g6⟩ := h5
  simp [Cond.before, Cond.holds, Cond.value, h1, h2, h3, h4, g1, g2, g3, g4, g5, g6]
def isCode : Jvm.Cond → Bool
  | .code _ _ _ _ => true
  | _ => false
theorem all_split {L : List Jvm.Cond} {P : Jvm.Cond → Bool} (h1 : L.all (fun c => isCode c || P c) = true) (h2 : ∀ c ∈ L.filter isCode, P c = true) : L.all P = true := by
  refine List.all_eq_true.mpr fun c hc => ?_
  have h := List.all_eq_true.mp h1 c hc
  rcases Bool.eq_false_or_eq_true (isCode c) with hi | hi
  · exact h2 c (List.mem_filter.mpr ⟨hc, hi⟩)
  · simpa [hi] using h
set_option maxRecDepth 65536 in
theorem w_c0 : (Jvm.Cond.code x code maxLocals ret).before args0 about1 = true := code_word (m := ⟨1, 1⟩) (meth := k1m1) (c := k1c1) (by decide +kernel) rfl rfl rfl (by decide +kernel)
set_option maxRecDepth 65536 in
theorem w_c1 : (Jvm.Cond.code ({ cls := "java/lang/Math", name := "min", desc := "(II)I" } : Jvm.MethodName) jdk_29_method_69_code (2 : Nat) (Option.some Jvm.ClassFile.FieldType.int)).before args0 about1 = true := code_word (m := ⟨2, 2⟩) (meth := k2m2) (c := k2c2) (by decide +kernel) rfl rfl rfl (by decide +kernel)
set_option maxRecDepth 65536 in
theorem w_c2 : (Jvm.Cond.code ({ cls := "java/lang/Math", name := "max", desc := "(II)I" } : Jvm.MethodName) jdk_29_method_65_code (2 : Nat) (Option.some Jvm.ClassFile.FieldType.int)).before args0 about1 = true := code_word (m := ⟨2, 1⟩) (meth := k2m1) (c := k2c1) (by decide +kernel) rfl rfl rfl (by decide +kernel)
set_option maxRecDepth 65536 in
theorem w_c3 : (Jvm.Cond.code ({ cls := "com/example/wordspan/wordspan/ChainShape", name := "firstAtLeast", desc := "([IIJ)I" } : Jvm.MethodName) prog_5_method_27_code (7 : Nat) (Option.some Jvm.ClassFile.FieldType.int)).before args0 about1 = true := code_word (m := ⟨3, 0⟩) (meth := k3m0) (c := k3c0) (by decide +kernel) rfl rfl rfl (by decide +kernel)
def codes1 : List Jvm.Cond := [Jvm.Cond.code x code maxLocals ret, Jvm.Cond.code ({ cls := "java/lang/Math", name := "min", desc := "(II)I" } : Jvm.MethodName) jdk_29_method_69_code (2 : Nat) (Option.some Jvm.ClassFile.FieldType.int), Jvm.Cond.code ({ cls := "java/lang/Math", name := "max", desc := "(II)I" } : Jvm.MethodName) jdk_29_method_65_code (2 : Nat) (Option.some Jvm.ClassFile.FieldType.int), Jvm.Cond.code ({ cls := "com/example/wordspan/wordspan/ChainShape", name := "firstAtLeast", desc := "([IIJ)I" } : Jvm.MethodName) prog_5_method_27_code (7 : Nat) (Option.some Jvm.ClassFile.FieldType.int)]
set_option maxRecDepth 65536 in
theorem codes_eq : words1.filter isCode = codes1 := rfl
theorem w_codes : ∀ c ∈ words1.filter isCode, c.before args0 about1 = true := by
  rw [codes_eq]
  intro c hc
  simp only [codes1, List.mem_cons, List.not_mem_nil, or_false] at hc
  rcases hc with rfl | rfl | rfl | rfl
  · exact w_c0
  · exact w_c1
  · exact w_c2
  · exact w_c3
set_option maxRecDepth 65536 in
theorem w_t1 : words1.all (fun c => isCode c || c.before args0 about1) = true := by decide +kernel
theorem w_tables : (allAtoms (Jvm.Cond.code x code maxLocals ret :: tables_1)).before args0 about1 = true := by
  rw [allAtoms_all]
  show words1.all (fun c => c.before args0 about1) = true
  refine all_split ?_ w_codes
  rw [w_t1]
set_option maxRecDepth 65536 in
theorem w_case : (Jvm.Cond.and given_1 narrow_1).before args0 about1 = true := by decide +kernel
theorem w_applies : (headSpec (Jvm.Cond.code x code maxLocals ret :: tables_1) room_1).applies x e0.platform about1 = true :=
  (Spec.applies_iff w_frames).mpr ⟨w_running, w_runnable, w_alone, w_named, w_hears, w_ripe, w_room, w_tables⟩
theorem atStart : AtStart classFile x code maxLocals ret World_1 tables_1 room_1 Calls_1 rest_1 Pre_1 launch0 p0 e0 about1 theMethod args0 below0 :=
  ⟨lists_1, trivial, launch0.admits_env _ _ _, launch0.least_env, fairChoices_fair.cas, fairChoices_fair.clock, w_frames, w_args, w_heap, w_applies, trivial, trivial, w_case⟩
end start1
theorem witness_1 : WitnessClaimed_1 := ⟨start1.p0, start1.e0, start1.about1, start1.theMethod, start1.args0, start1.below0, start1.atStart⟩
end Jvm.Pilot.@@N@@
