import JvmDerived
import JvmDerived.Pilot.@@N@@Statement
import JvmDerived.Pilot.@@N@@Code
set_option linter.unusedVariables false
set_option linter.unusedSimpArgs false
namespace Jvm.Pilot.@@N@@
open Jvm Jvm.ClassFile Sem Op Lib Jvm.Free Jvm.Stand Jvm.LawKit Jvm.RoadKit Bundle Jvm.Pilot.@@N@@.Jvm.D
section Own
variable {p : Program} {l : Launch} {e : Env} {R : Room} {s : State} {m : MethodId} {args : Array Value} {below : List Frame} {meth : Method} {c : Code} {T T' : State} {locs : List Loc} {cells slots : Nat} {C S : Nat} {Q : Option Value → Heap → List Loc → Prop} {g g' : JFrame} {Z : State} {a0 : Array Value}
/-- from T with the frame g on top the method runs to its end, and ends as Q says -/
def own_Go (p : Program) (e : Env) (below : List Frame) (s : State) (C S : Nat) (Q : Option Value → Heap → List Loc → Prop) (T : State) (g : JFrame) : Prop :=
  ∃ s₂ o, Steps p.tables e below (T.setTop g) s₂ ∧ s₂.status = .running ∧ Ended s₂ below o ∧ ∃ v L, o = .returned v ∧ Q v s₂.heap L ∧ FrameEnd s o s₂ L C S
theorem own_go (k : ∀ t, Steps p.tables e below (T'.setTop g') t → Steps p.tables e below (T.setTop g) t) (h : own_Go p e below s C S Q T' g') : own_Go p e below s C S Q T g := by
  obtain ⟨s₂, o, h1, r⟩ := h
  exact ⟨s₂, o, k _ h1, r⟩
theorem own_end (X : Stand p l e R s m args below meth c T locs cells slots) (hk : meth.locks = false) (v : Option Value) (hv : meth.sig.returnType = none → v = none) (hC : cells ≤ C) (hS : slots ≤ S) (hq : Q v T.heap locs)
    (hst : ∀ fs, (∀ (f : JFrame) (acts : List Action), f.method = m → f.locked = none → f.entered = [] → (doReturn e (T.setTop f) acts v).1 = T.setFrames fs) → Steps p.tables e below (T.setTop g) (T.setFrames fs)) : own_Go p e below s C S Q T g := by
  obtain ⟨fs, hr, hrun, hended, hW, hsame⟩ := X.leave (v := v) hv hk
  exact ⟨_, _, hst fs hr, hrun, hended, v, locs, rfl, hq, ⟨_, rfl⟩, hW, hsame.mono hC hS⟩
theorem own_retI (X : Stand p l e R s m args below meth c T locs cells slots) (hx : p.tables.exec = Jvm.exec) (hret : meth.sig.returnType = some .int) (hk : meth.locks = false) {pc : Nat} {Ls : Array Slot} {z : Int32} {rest : List Value} (hd : decode c.code pc = .ok (.ireturn, 1)) (hC : cells ≤ C) (hS : slots ≤ S) (hq : Q (some (.int z)) T.heap locs) :
    own_Go p e below s C S Q T (mkF m pc Ls (.int z :: rest)) :=
  own_end X hk _ (fun h => by rw [hret] at h; cases h) hC hS hq fun fs hr => retOut X hx hret rfl (Or.inl ⟨rfl, Or.inl rfl, _, rfl⟩) hd hr
theorem own_retZ (X : Stand p l e R s m args below meth c T locs cells slots) (hx : p.tables.exec = Jvm.exec) (hret : meth.sig.returnType = some .boolean) (hk : meth.locks = false) {pc : Nat} {Ls : Array Slot} {z : Int32} {rest : List Value} (hz : nar .boolean z = z) (hd : decode c.code pc = .ok (.ireturn, 1)) (hC : cells ≤ C) (hS : slots ≤ S) (hq : Q (some (.int z)) T.heap locs) :
    own_Go p e below s C S Q T (mkF m pc Ls (.int z :: rest)) :=
  own_end X hk _ (fun h => by rw [hret] at h; cases h) hC hS hq fun fs hr => retN X hx (t := .boolean) hret (Or.inl rfl) hd (by rw [hz]; exact hr)
theorem own_retL (X : Stand p l e R s m args below meth c T locs cells slots) (hx : p.tables.exec = Jvm.exec) (hret : meth.sig.returnType = some .long) (hk : meth.locks = false) {pc : Nat} {Ls : Array Slot} {z : Int64} {rest : List Value} (hd : decode c.code pc = .ok (.lreturn, 1)) (hC : cells ≤ C) (hS : slots ≤ S) (hq : Q (some (.long z)) T.heap locs) :
    own_Go p e below s C S Q T (mkF m pc Ls (.long z :: rest)) :=
  own_end X hk _ (fun h => by rw [hret] at h; cases h) hC hS hq fun fs hr => retOut X hx hret rfl (Or.inr (Or.inl ⟨rfl, rfl, _, rfl⟩)) hd hr
theorem own_retA (X : Stand p l e R s m args below meth c T locs cells slots) (hx : p.tables.exec = Jvm.exec) {t : FieldType} (ht : t.isReference = true) (hret : meth.sig.returnType = some t) (hk : meth.locks = false) {pc : Nat} {Ls : Array Slot} {a : Addr} (hd : decode c.code pc = .ok (.areturn, 1)) (hC : cells ≤ C) (hS : slots ≤ S) (hq : Q (some (.ref a)) T.heap locs) :
    own_Go p e below s C S Q T (mkF m pc Ls [.ref a]) :=
  own_end X hk _ (fun h => by rw [hret] at h; cases h) hC hS hq fun fs hr => X.areturnOut hx rfl hret ht hd hr
theorem own_retV (X : Stand p l e R s m args below meth c T locs cells slots) (hx : p.tables.exec = Jvm.exec) (hret : meth.sig.returnType = none) (hk : meth.locks = false) {pc : Nat} {Ls : Array Slot} (hd : decode c.code pc = .ok (.return_, 1)) (hC : cells ≤ C) (hS : slots ≤ S) (hq : Q none T.heap locs) :
    own_Go p e below s C S Q T (mkF m pc Ls []) :=
  own_end X hk _ (fun _ => rfl) hC hS hq fun fs hr => X.returnOut hx hret hd hr
/-- the contract of one body: entered with the values as' and the heap h, it returns as Q says -/
abbrev own_Con (l : Launch) (Z : State) (y : MethodName) (bytes : ByteArray) (maxL : Nat) (ret : Option FieldType) (ws : List Jvm.Cond) (rm : Room) (as' : Array Value) (h : Heap) (Q : Option Value → Heap → List Loc → Prop) : Prop :=
  MetFree l y (head1 (Jvm.Cond.code y bytes maxL ret :: ws) rm) (fun a U => a = as' ∧ Z.Warmed39 U.vm ∧ U.heap = h) (fun _ _ _ _ _ => True) (fun _ U o U' => ∃ v L, o = .returned v ∧ Q v U'.heap L ∧ FrameEnd U o U' L rm.cells rm.slots)
theorem own_body {y : MethodName} {bytes : ByteArray} {maxL : Nat} {ret : Option FieldType} {ws : List Jvm.Cond} {rm : Room} {as' : Array Value} {h : Heap} (hp : plainFor y = true)
    (body : ∀ (p : Program) (e : Env) (s : State) (m : MethodId) (below : List Frame) (meth : Method) (c : Code) (s₁ : State), p.tables.exec = Jvm.exec → c.code = bytes → c.maxLocals = maxL → Z.Warmed39 s.vm → s.vm.findClass y.cls = some m.cls → meth.name = y.name → meth.sig.returnType = ret → meth.locks = false → s₁.heap = h →
      Stand p l e rm s m as' below meth c s₁ [] 0 0 → own_Go p e below s rm.cells rm.slots Q s₁ (entryFrame m as' maxL)) : own_Con l Z y bytes maxL ret ws rm as' h Q := by
  refine MetFree.of_bodySF hp hisR ?_
  intro p e s m args below meth c s₁ Bd hml hP hK
  obtain ⟨rfl, hZ, hh⟩ := hP
  exact body p e s m below meth c s₁ Bd.exec Bd.bytes hml hZ (findClass_of_methodNamed Bd.named) (name_of_methodNamed Bd.named Bd.method).1 Bd.returns Bd.notSynchronized (by rw [← hh, Bd.state]; rfl) (Stand.of_body Bd)
theorem own_cast {g₀ : JFrame} (q : g₀ = g) (h : own_Go p e below s C S Q T g) : own_Go p e below s C S Q T g₀ := q ▸ h
/-- a static call by its callee's contract -/
theorem own_callS (X : Stand p l e R s m args below meth c T locs cells slots) (hx : p.tables.exec = Jvm.exec) (hZ : Z.Warmed39 s.vm) {own : String} {index : Nat} {y : MethodName} {bytes : ByteArray} {maxL : Nat} {ret : Option FieldType} {rm : Room} {W : Nat} {h : Heap} {Q' : Option Value → Heap → List Loc → Prop} {argsL rest : List Value}
    (hown : s.vm.findClass own = some m.cls) (w1 : (Jvm.Cond.methodLink own index y).before a0 Z = true) (w2 : (Jvm.Cond.static y).before a0 Z = true) (w3 : (Jvm.Cond.initialized y.cls).before a0 Z = true) (w4 : (Jvm.Cond.code y bytes maxL ret).before a0 Z = true) (hy : y.cls ≠ "java/lang/invoke/MethodHandle" ∧ y.cls ≠ "java/lang/invoke/VarHandle")
    (hM : own_Con l Z y bytes maxL ret [] rm argsL.toArray h Q') (hf : rm.frames + 1 ≤ R.frames) (hl : W + (maxL + 11) + rm.locals ≤ R.locals) (eT : T.heap = h) (hc : cells + rm.cells ≤ R.cells) (hs : slots + rm.slots ≤ R.slots)
    (hg : g.method = m) (hsize : g.locals.size = c.maxLocals) (hlen : ∀ sig, parseMethodDescriptor y.desc = some sig → argsL.length = sig.parameters.length) (hstack : g.stack = argsL.reverse ++ rest) (hW : 2 * g.monitorRoom + (rest.map fun v => v.category).sum ≤ W) (hdg : decode c.code g.pc = .ok (.invokestatic index, 3))
    (k : ∀ (v : Option Value) (T' : State) (L' : List Loc), Stand p l e R s m args below meth c T' (locs ++ L') (cells + rm.cells) (slots + rm.slots) → Q' v T'.heap L' → own_Go p e below s C S Q T' { g with pc := g.pc + 3, stack := v.toList ++ rest }) :
    own_Go p e below s C S Q T g := by
  obtain ⟨v, _, ⟨T2, L2, k2, n2⟩, -, X2, ⟨Lc2, hQ2, l2, y2, z2⟩, st2⟩ := Jvm.LawKit.callS X hx (y := y) hown (mvT hZ w1) (mvT hZ w2) (mvT hZ w3) (mvT hZ w4) hy (backOf (W := W) hM hZ w4 w3 hf hl) hg hsize hlen hstack hW hdg (fun _ _ => ⟨rfl, eT, hc, hs⟩)
  dsimp only [Pt.U, Pt.locs, Pt.cells, Pt.slots] at X2 l2 y2 z2 st2 hQ2
  subst l2 y2 z2
  exact own_go st2 (k v T2 Lc2 X2 hQ2)
end Own
section OwnA
variable {p : Program} {l : Launch} {e : Env} {R : Room} {s : State} {m : MethodId} {args : Array Value} {below : List Frame} {meth : Method} {c : Code} {T T' : State} {locs : List Loc} {cells slots : Nat} {C S : Nat} {Q : Option Value → Heap → List Loc → Prop} {g g' : JFrame} {Z : State} {a0 : Array Value} {h h' : Heap} {a b : Addr} {n : Nat} {f f' : Nat → Int32}
def own_upd (f : Nat → Int32) (i : Nat) (x : Int32) : Nat → Int32 := fun j => if j = i then x else f j
/-- at a lies an int[] of n places; place j holds f j -/
def own_Ar (Z : State) (h : Heap) (a : Addr) (n : Nat) (f : Nat → Int32) : Prop := ∃ c : Cell, Arr Z h a c .int ∧ c.slots.size = n ∧ ∀ j, j < n → c.slots[j]? = some (.int (f j))
theorem own_Ar.ext (A : own_Ar Z h a n f) (E : Ext h h') : own_Ar Z h' a n f := by obtain ⟨c, A, r⟩ := A; exact ⟨c, A.ext E, r⟩
theorem own_Ar.other {sl : Nat} {v : Value} (A : own_Ar Z h a n f) (W : Wr h h' b sl v) (q : a ≠ b) : own_Ar Z h' a n f := by obtain ⟨c, A, r⟩ := A; exact ⟨c, A.other W q, r⟩
theorem own_Ar.keep {ws : List Addr} (A : own_Ar Z h a n f) (K : Keep h h' ws) (q : a ∉ ws) : own_Ar Z h' a n f := by obtain ⟨c, A, r⟩ := A; exact ⟨c, ⟨K.2.1 a c A.1 q, A.2⟩, r⟩
theorem own_Ar.congr (A : own_Ar Z h a n f) (q : ∀ j, j < n → f j = f' j) : own_Ar Z h a n f' := by obtain ⟨c, A, r1, r2⟩ := A; exact ⟨c, A, r1, fun j hj => by rw [← q j hj]; exact r2 j hj⟩
theorem own_Ar.lt (A : own_Ar Z h a n f) : a < h.size := by obtain ⟨c, A, r⟩ := A; exact A.lt
theorem own_nat {j : Int32} {i : Nat} (hj : j.toInt = i) : j.toNatClampNeg = i := by
  show j.toInt.toNat = i
  omega
theorem own_ns {j : Int32} {i k : Nat} (hj : j.toInt = i) (hi : i < k) : ¬ (j < 0 ∨ k ≤ j.toNatClampNeg) := by
  rw [own_nat hj, Int32.lt_iff_toInt_lt]
  have e0 : (0 : Int32).toInt = 0 := by decide
  omega
theorem own_iaload (X : Stand p l e R s m args below meth c T locs cells slots) (hx : p.tables.exec = Jvm.exec) (hZ : Z.Warmed39 s.vm) (eT : T.heap = h) (A : own_Ar Z h a n f) (i : Nat) {j : Int32} (hj : j.toInt = i) (hi : i < n) (hg : g.method = m) {rest : List Value} (hs : g.stack = .int j :: .ref a :: rest) (hd : decode c.code g.pc = .ok (.iaload, 1))
    (k : own_Go p e below s C S Q T { g with pc := g.pc + 1, stack := .int (f i) :: rest }) : own_Go p e below s C S Q T g := by
  obtain ⟨cl, Ar, hsz, hv⟩ := A
  exact own_go (fun t kt => X.iaload hx (by rw [eT]; exact Ar.1) (State.isArrayOf_alike hZ.alike Ar.2.1) Ar.2.2 (own_ns hj (by rw [hsz]; exact hi)) (by rw [own_nat hj]; exact hv i hi) hg hs hd t kt) k
theorem own_alen (X : Stand p l e R s m args below meth c T locs cells slots) (hx : p.tables.exec = Jvm.exec) (hZ : Z.Warmed39 s.vm) (eT : T.heap = h) (A : own_Ar Z h a n f) (z : Int32) (hz : z.toInt = n) (hg : g.method = m) {rest : List Value} (hs : g.stack = .ref a :: rest) (hd : decode c.code g.pc = .ok (.arraylength, 1))
    (k : own_Go p e below s C S Q T { g with pc := g.pc + 1, stack := .int z :: rest }) : own_Go p e below s C S Q T g := by
  obtain ⟨cl, Ar, hsz, hv⟩ := A
  have q : cl.slots.size.toInt32 = z := len_of (by rw [hsz, own_nat hz]) (by rw [Int32.lt_iff_toInt_lt, show (0 : Int32).toInt = 0 from by decide]; omega)
  refine own_go (fun t kt => X.arraylength hx (by rw [eT]; exact Ar.1) (State.isArrayOf_alike hZ.alike Ar.2.1) hg hs hd t ?_) k
  rw [q]; exact kt
theorem own_iastore (X : Stand p l e R s m args below meth c T locs cells slots) (hx : p.tables.exec = Jvm.exec) (hZ : Z.Warmed39 s.vm) (eT : T.heap = h) (A : own_Ar Z h a n f) (i : Nat) {j x : Int32} (hj : j.toInt = i) (hi : i < n) (hg : g.method = m) {rest : List Value} (hs : g.stack = .int x :: .int j :: .ref a :: rest) (hd : decode c.code g.pc = .ok (.iastore, 1))
    (k : ∀ (T' : State) (h' : Heap), Stand p l e R s m args below meth c T' (locs ++ [⟨a, i⟩]) cells slots → T'.heap = h' → Wr h h' a i (.int x) → own_Ar Z h' a n (own_upd f i x) → own_Go p e below s C S Q T' { g with pc := g.pc + 1, stack := rest }) : own_Go p e below s C S Q T g := by
  obtain ⟨cl, Ar, hsz, hv⟩ := A
  obtain ⟨T', h', X', e', W, st⟩ := stI X hx hZ eT Ar (j := j) (x := x) (own_ns hj (by rw [hsz]; exact hi)) hg hs hd
  rw [own_nat hj] at X' W
  refine own_go st (k T' h' X' e' W ⟨_, Ar.same W, by simp [Cell.setSlot, hsz], fun q hq => ?_⟩)
  show (cl.slots.setIfInBounds i (.int x))[q]? = _
  rw [Array.getElem?_setIfInBounds, hsz]
  unfold own_upd
  by_cases e1 : i = q
  · subst e1; simp [hq]
  · rw [if_neg e1, if_neg (Ne.symm e1)]; exact hv q hq
theorem own_newI (X : Stand p l e R s m args below meth c T locs cells slots) (hx : p.tables.exec = Jvm.exec) (hZ : Z.Warmed39 s.vm) (w : (Jvm.Cond.arrayClass .int).before a0 Z = true) (eT : T.heap = h) {z : Int32} (hz : z.toInt = n) (cap : Nat) (hcap : n ≤ cap) (hb : cap * 8 ≤ 536870912) (hc : cells + 1 ≤ R.cells) (hl : slots + cap ≤ R.slots) (hg : g.method = m) {rest : List Value} (hs : g.stack = .int z :: rest) (hd : decode c.code g.pc = .ok (.newarray .int, 2))
    (k : ∀ (T' : State) (h' : Heap) (b : Addr), b = h.size → Stand p l e R s m args below meth c T' locs (cells + 1) (slots + cap) → T'.heap = h' → Ext h h' → own_Ar Z h' b n (fun _ => 0) → own_Go p e below s C S Q T' { g with pc := g.pc + 2, stack := .ref b :: rest }) : own_Go p e below s C S Q T g := by
  have hn : ¬ z < 0 := by rw [Int32.lt_iff_toInt_lt, show (0 : Int32).toInt = 0 from by decide]; omega
  obtain ⟨T', h', cA, X', e', E, Ar, st⟩ := newP X hx hZ (aty := .int) w eT hg hd hs hn (cap := cap) (by rw [own_nat hz]; exact hcap) hb hc hl
  refine own_go st (k T' h' _ rfl X' e' E ⟨_, Ar, by rw [sz_new, own_nat hz], fun q hq => ?_⟩)
  show (Array.replicate z.toNatClampNeg (Value.int 0))[q]? = _
  rw [own_nat hz]
  simp [hq]
end OwnA

def own_PI (P : Int32 → Prop) (h0 : Heap) (n0 : Nat) (v : Option Value) (h : Heap) (L : List Loc) : Prop := ∃ r, v = some (.int r) ∧ P r ∧ Fr n0 L ∧ h = h0
/-! the plain law: borders of prefixes -/
/-- the first k places are the last k of the first L -/
def own_pre (f : Nat → Int32) (L k : Nat) : Prop := ∀ j, j < k → f j = f (L - k + j)
/-- b is the greatest k below L with own_pre f L k -/
def own_isB (f : Nat → Int32) (L b : Nat) : Prop := b < L ∧ own_pre f L b ∧ ∀ k, b < k → k < L → ¬ own_pre f L k
def own_PB (f : Nat → Int32) (L : Nat) (r : Int32) : Prop := ∃ b : Nat, r.toInt = b ∧ own_isB f L b
theorem own_PB_one {f : Nat → Int32} {L : Nat} {r r' : Int32} (h : own_PB f L r) (h' : own_PB f L r') : r = r' := by
  obtain ⟨b, e, b1, b2, b3⟩ := h
  obtain ⟨b', e', b1', b2', b3'⟩ := h'
  apply Int32.toInt_inj.mp
  rcases Nat.lt_trichotomy b b' with z | z | z
  · exact absurd b2' (b3 b' z b1')
  · omega
  · exact absurd b2 (b3' b z b1)
theorem own_pre_succ {f : Nat → Int32} {i k : Nat} (hk : k ≤ i) : own_pre f (i + 1) (k + 1) ↔ own_pre f i k ∧ f k = f i := by
  constructor
  · intro h
    refine ⟨fun j hj => ?_, ?_⟩
    · exact (h j (by omega)).trans (congrArg f (by omega))
    · exact (h k (by omega)).trans (congrArg f (by omega))
  · rintro ⟨h, q⟩ j hj
    rcases Nat.lt_or_ge j k with z | z
    · exact (h j z).trans (congrArg f (by omega))
    · obtain rfl : j = k := by omega
      exact q.trans (congrArg f (by omega))
theorem own_up {f : Nat → Int32} {i b : Nat} (hbn : b < i) (p : own_pre f i b) (q : f i = f b) (mx : ∀ k, b < k → k < i → own_pre f i k → f k ≠ f i) : own_isB f (i + 1) (b + 1) := by
  refine ⟨by omega, (own_pre_succ (by omega)).mpr ⟨p, q.symm⟩, fun k h1 h2 z => ?_⟩
  obtain ⟨k', rfl⟩ : ∃ k', k = k' + 1 := ⟨k - 1, by omega⟩
  have w := (own_pre_succ (by omega)).mp z
  exact mx k' (by omega) (by omega) w.1 w.2
theorem own_zero {f : Nat → Int32} {i : Nat} (q : ¬ f i = f 0) (mx : ∀ k, 0 < k → k < i → own_pre f i k → f k ≠ f i) : own_isB f (i + 1) 0 := by
  refine ⟨by omega, fun j hj => absurd hj (Nat.not_lt_zero _), fun k h1 h2 z => ?_⟩
  obtain ⟨k', rfl⟩ : ∃ k', k = k' + 1 := ⟨k - 1, by omega⟩
  have w := (own_pre_succ (by omega)).mp z
  rcases Nat.eq_zero_or_pos k' with rfl | y
  · exact q w.2.symm
  · exact mx k' y (by omega) w.1 w.2
theorem own_fall {f : Nat → Int32} {i b b' : Nat} (hbn : b < i) (p : own_pre f i b) (B : own_isB f b b') (q : ¬ f i = f b) (mx : ∀ k, b < k → k < i → own_pre f i k → f k ≠ f i) : own_pre f i b' ∧ ∀ k, b' < k → k < i → own_pre f i k → f k ≠ f i := by
  obtain ⟨l1, l2, l3⟩ := B
  refine ⟨fun j hj => ?_, fun k h1 h2 h3 => ?_⟩
  · exact (l2 j hj).trans ((p (b - b' + j) (by omega)).trans (congrArg f (by omega)))
  · rcases Nat.lt_trichotomy k b with z | rfl | z
    · refine absurd (fun j hj => ?_) (l3 k h1 z)
      exact (h3 j hj).trans ((congrArg f (by omega)).trans (p (b - k + j) (by omega)).symm)
    · exact fun y => q y.symm
    · exact mx k z h2 h3
theorem own_first (f : Nat → Int32) : own_isB f 1 0 := ⟨by omega, fun j hj => absurd hj (Nat.not_lt_zero _), fun k h1 h2 => by omega⟩
theorem own_cnt (x : Int32) : 0 ≤ ((x &&& 2147483647) % 7).toInt ∧ ((x &&& 2147483647) % 7).toInt ≤ 6 := by
  have a := (c_and x 2147483647 (by decide)).1
  have e7 : (7 : Int32).toInt = 7 := by decide
  have r := (c_irem (x &&& 2147483647) 7 7 e7).1 a
  omega
theorem own_inc {z : Int32} {n : Nat} (hz : z.toInt = n) (hn : n < 2147483647) : (z + (1 : Int32)).toInt = ((n + 1 : Nat) : Int) := by
  have a := c_iadd z 1
  have r := rng32 (z + 1)
  have e1 : (1 : Int32).toInt = 1 := by decide
  omega
/-! the callees -/
theorem d2_0 : decode method_2_code 0 = .ok (.iload_n 0, 1) := by decide +kernel
theorem d2_1 : decode method_2_code 1 = .ok (.iconst 1, 1) := by decide +kernel
theorem d2_2 : decode method_2_code 2 = .ok (.if_icmp .ne 5, 3) := by decide +kernel
theorem d2_5 : decode method_2_code 5 = .ok (.iload_n 2, 1) := by decide +kernel
theorem d2_6 : decode method_2_code 6 = .ok (.ireturn, 1) := by decide +kernel
theorem d2_7 : decode method_2_code 7 = .ok (.iload_n 0, 1) := by decide +kernel
theorem d2_8 : decode method_2_code 8 = .ok (.iconst 2, 1) := by decide +kernel
theorem d2_9 : decode method_2_code 9 = .ok (.if_icmp .ne 5, 3) := by decide +kernel
theorem d2_12 : decode method_2_code 12 = .ok (.iload_n 3, 1) := by decide +kernel
theorem d2_13 : decode method_2_code 13 = .ok (.ireturn, 1) := by decide +kernel
theorem d2_14 : decode method_2_code 14 = .ok (.iload_n 1, 1) := by decide +kernel
theorem d2_15 : decode method_2_code 15 = .ok (.ireturn, 1) := by decide +kernel
theorem pd2 : parseMethodDescriptor "(IIII)I" = some ⟨[.int, .int, .int, .int], some .int⟩ := by decide +kernel
theorem pn2 : plainName "com/example/ioconic/ioconic/expr/LanguageBordersPinLaw" = true := by first | (simp [plainName, overriddenIn]; done) | decide +kernel
theorem ef2 (m : MethodId) (x0 : Int32) (x1 : Int32) (x2 : Int32) (x3 : Int32) : entryFrame m #[(.int x0), (.int x1), (.int x2), (.int x3)] 4 = mkF m 0 #[.val (.int x0), .val (.int x1), .val (.int x2), .val (.int x3)] [] := by first | (simp [entryFrame, mkF, argsToLocals, Value.category]; done) | rfl
set_option maxRecDepth 65536 in
set_option maxHeartbeats 40000000 in
theorem rm2 (l : Launch) (Z : State) (a0 : Array Value) (hw : ∀ d ∈ tables_1, d.before a0 Z = true) (ws : List Jvm.Cond) (p1 : Int32) (p2 : Int32) (p3 : Int32) (p4 : Int32) (h0 : Heap) (n0 : Nat) (Z0 : n0 ≤ h0.size) :
    own_Con l Z (⟨"com/example/ioconic/ioconic/expr/LanguageBordersPinLaw", "pick", "(IIII)I"⟩ : MethodName) method_2_code 4 (some .int) ws ({ frames := 0, cells := 0, slots := 0, locals := 0 } : Room) #[(.int p1), (.int p2), (.int p3), (.int p4)] h0 (own_PI (fun _ => True) h0 n0) := by
  refine own_body (plainFor_of_name pn2) ?_
  intro p e s m below meth c s₁ hx hby hml0 hZ hown0 hnm0 hret0 hk e0 X0
  have hown : s.vm.findClass "com/example/ioconic/ioconic/expr/LanguageBordersPinLaw" = some m.cls := hown0
  have hnm : meth.name = "pick" := hnm0
  have hret : meth.sig.returnType = (some .int) := hret0
  have hml : c.maxLocals = 4 := hml0
  have N0 := Fr.nil n0
  refine own_cast (ef2 m p1 p2 p3 p4) ?_
  refine own_go (T' := s₁) (g' := (mkF m 2 #[.val (.int p1), .val (.int p2), .val (.int p3), .val (.int p4)] [(.int (1 : Int32)), (.int p1)])) (fun t_ k_ => ?_) ?_
  · refine XS.iloadN X0.here hx rfl (hb hby d2_0) rfl ?_
    show Steps p.tables e below (s₁.setTop (mkF m 1 #[.val (.int p1), .val (.int p2), .val (.int p3), .val (.int p4)] [(.int p1)])) _
    refine XS.iconst X0.here hx rfl (hb hby d2_1) ?_
    show Steps p.tables e below (s₁.setTop (mkF m 2 #[.val (.int p1), .val (.int p2), .val (.int p3), .val (.int p4)] [(.int (1 : Int32)), (.int p1)])) _
    exact k_
  by_cases c1 : p1 = (1 : Int32)
  · refine own_go (T' := s₁) (g' := (mkF m 6 #[.val (.int p1), .val (.int p2), .val (.int p3), .val (.int p4)] [(.int p3)])) (fun t_ k_ => ?_) ?_
    · refine XS.icmpNo X0.here hx rfl (hb hby d2_2) rfl (teq c1).2 ?_
      show Steps p.tables e below (s₁.setTop (mkF m 5 #[.val (.int p1), .val (.int p2), .val (.int p3), .val (.int p4)] [])) _
      refine XS.iloadN X0.here hx rfl (hb hby d2_5) rfl ?_
      show Steps p.tables e below (s₁.setTop (mkF m 6 #[.val (.int p1), .val (.int p2), .val (.int p3), .val (.int p4)] [(.int p3)])) _
      exact k_
    exact own_retI X0 hx hret hk (hb hby d2_6) (by decide) (by decide) ⟨_, rfl, trivial, N0, e0⟩
  · refine own_go (T' := s₁) (g' := (mkF m 9 #[.val (.int p1), .val (.int p2), .val (.int p3), .val (.int p4)] [(.int (2 : Int32)), (.int p1)])) (fun t_ k_ => ?_) ?_
    · refine XS.icmpYes X0.here hx rfl (pc0 := 2) (pc' := 7) rfl (hb hby d2_2) rfl (feq c1).2 (by decide) (by decide) ?_
      show Steps p.tables e below (s₁.setTop (mkF m 7 #[.val (.int p1), .val (.int p2), .val (.int p3), .val (.int p4)] [])) _
      refine XS.iloadN X0.here hx rfl (hb hby d2_7) rfl ?_
      show Steps p.tables e below (s₁.setTop (mkF m 8 #[.val (.int p1), .val (.int p2), .val (.int p3), .val (.int p4)] [(.int p1)])) _
      refine XS.iconst X0.here hx rfl (hb hby d2_8) ?_
      show Steps p.tables e below (s₁.setTop (mkF m 9 #[.val (.int p1), .val (.int p2), .val (.int p3), .val (.int p4)] [(.int (2 : Int32)), (.int p1)])) _
      exact k_
    by_cases c2 : p1 = (2 : Int32)
    · refine own_go (T' := s₁) (g' := (mkF m 13 #[.val (.int p1), .val (.int p2), .val (.int p3), .val (.int p4)] [(.int p4)])) (fun t_ k_ => ?_) ?_
      · refine XS.icmpNo X0.here hx rfl (hb hby d2_9) rfl (teq c2).2 ?_
        show Steps p.tables e below (s₁.setTop (mkF m 12 #[.val (.int p1), .val (.int p2), .val (.int p3), .val (.int p4)] [])) _
        refine XS.iloadN X0.here hx rfl (hb hby d2_12) rfl ?_
        show Steps p.tables e below (s₁.setTop (mkF m 13 #[.val (.int p1), .val (.int p2), .val (.int p3), .val (.int p4)] [(.int p4)])) _
        exact k_
      exact own_retI X0 hx hret hk (hb hby d2_13) (by decide) (by decide) ⟨_, rfl, trivial, N0, e0⟩
    · refine own_go (T' := s₁) (g' := (mkF m 15 #[.val (.int p1), .val (.int p2), .val (.int p3), .val (.int p4)] [(.int p2)])) (fun t_ k_ => ?_) ?_
      · refine XS.icmpYes X0.here hx rfl (pc0 := 9) (pc' := 14) rfl (hb hby d2_9) rfl (feq c2).2 (by decide) (by decide) ?_
        show Steps p.tables e below (s₁.setTop (mkF m 14 #[.val (.int p1), .val (.int p2), .val (.int p3), .val (.int p4)] [])) _
        refine XS.iloadN X0.here hx rfl (hb hby d2_14) rfl ?_
        show Steps p.tables e below (s₁.setTop (mkF m 15 #[.val (.int p1), .val (.int p2), .val (.int p3), .val (.int p4)] [(.int p2)])) _
        exact k_
      exact own_retI X0 hx hret hk (hb hby d2_15) (by decide) (by decide) ⟨_, rfl, trivial, N0, e0⟩
theorem d4_0 : decode method_3_code 0 = .ok (.iload_n 2, 1) := by decide +kernel
theorem d4_1 : decode method_3_code 1 = .ok (.iconst 1, 1) := by decide +kernel
theorem d4_2 : decode method_3_code 2 = .ok (.if_icmp .lt 14, 3) := by decide +kernel
theorem d4_5 : decode method_3_code 5 = .ok (.aload_n 0, 1) := by decide +kernel
theorem d4_6 : decode method_3_code 6 = .ok (.iconst 0, 1) := by decide +kernel
theorem d4_7 : decode method_3_code 7 = .ok (.iaload, 1) := by decide +kernel
theorem d4_8 : decode method_3_code 8 = .ok (.aload_n 0, 1) := by decide +kernel
theorem d4_9 : decode method_3_code 9 = .ok (.iload_n 1, 1) := by decide +kernel
theorem d4_10 : decode method_3_code 10 = .ok (.iload_n 2, 1) := by decide +kernel
theorem d4_11 : decode method_3_code 11 = .ok (.isub, 1) := by decide +kernel
theorem d4_12 : decode method_3_code 12 = .ok (.iaload, 1) := by decide +kernel
theorem d4_13 : decode method_3_code 13 = .ok (.if_icmp .ne 79, 3) := by decide +kernel
theorem d4_16 : decode method_3_code 16 = .ok (.iload_n 2, 1) := by decide +kernel
theorem d4_17 : decode method_3_code 17 = .ok (.iconst 2, 1) := by decide +kernel
theorem d4_18 : decode method_3_code 18 = .ok (.if_icmp .lt 16, 3) := by decide +kernel
theorem d4_21 : decode method_3_code 21 = .ok (.aload_n 0, 1) := by decide +kernel
theorem d4_22 : decode method_3_code 22 = .ok (.iconst 1, 1) := by decide +kernel
theorem d4_23 : decode method_3_code 23 = .ok (.iaload, 1) := by decide +kernel
theorem d4_24 : decode method_3_code 24 = .ok (.aload_n 0, 1) := by decide +kernel
theorem d4_25 : decode method_3_code 25 = .ok (.iload_n 1, 1) := by decide +kernel
theorem d4_26 : decode method_3_code 26 = .ok (.iload_n 2, 1) := by decide +kernel
theorem d4_27 : decode method_3_code 27 = .ok (.isub, 1) := by decide +kernel
theorem d4_28 : decode method_3_code 28 = .ok (.iconst 1, 1) := by decide +kernel
theorem d4_29 : decode method_3_code 29 = .ok (.iadd, 1) := by decide +kernel
theorem d4_30 : decode method_3_code 30 = .ok (.iaload, 1) := by decide +kernel
theorem d4_31 : decode method_3_code 31 = .ok (.if_icmp .ne 61, 3) := by decide +kernel
theorem d4_34 : decode method_3_code 34 = .ok (.iload_n 2, 1) := by decide +kernel
theorem d4_35 : decode method_3_code 35 = .ok (.iconst 3, 1) := by decide +kernel
theorem d4_36 : decode method_3_code 36 = .ok (.if_icmp .lt 16, 3) := by decide +kernel
theorem d4_39 : decode method_3_code 39 = .ok (.aload_n 0, 1) := by decide +kernel
theorem d4_40 : decode method_3_code 40 = .ok (.iconst 2, 1) := by decide +kernel
theorem d4_41 : decode method_3_code 41 = .ok (.iaload, 1) := by decide +kernel
theorem d4_42 : decode method_3_code 42 = .ok (.aload_n 0, 1) := by decide +kernel
theorem d4_43 : decode method_3_code 43 = .ok (.iload_n 1, 1) := by decide +kernel
theorem d4_44 : decode method_3_code 44 = .ok (.iload_n 2, 1) := by decide +kernel
theorem d4_45 : decode method_3_code 45 = .ok (.isub, 1) := by decide +kernel
theorem d4_46 : decode method_3_code 46 = .ok (.iconst 2, 1) := by decide +kernel
theorem d4_47 : decode method_3_code 47 = .ok (.iadd, 1) := by decide +kernel
theorem d4_48 : decode method_3_code 48 = .ok (.iaload, 1) := by decide +kernel
theorem d4_49 : decode method_3_code 49 = .ok (.if_icmp .ne 43, 3) := by decide +kernel
theorem d4_52 : decode method_3_code 52 = .ok (.iload_n 2, 1) := by decide +kernel
theorem d4_53 : decode method_3_code 53 = .ok (.iconst 4, 1) := by decide +kernel
theorem d4_54 : decode method_3_code 54 = .ok (.if_icmp .lt 16, 3) := by decide +kernel
theorem d4_57 : decode method_3_code 57 = .ok (.aload_n 0, 1) := by decide +kernel
theorem d4_58 : decode method_3_code 58 = .ok (.iconst 3, 1) := by decide +kernel
theorem d4_59 : decode method_3_code 59 = .ok (.iaload, 1) := by decide +kernel
theorem d4_60 : decode method_3_code 60 = .ok (.aload_n 0, 1) := by decide +kernel
theorem d4_61 : decode method_3_code 61 = .ok (.iload_n 1, 1) := by decide +kernel
theorem d4_62 : decode method_3_code 62 = .ok (.iload_n 2, 1) := by decide +kernel
theorem d4_63 : decode method_3_code 63 = .ok (.isub, 1) := by decide +kernel
theorem d4_64 : decode method_3_code 64 = .ok (.iconst 3, 1) := by decide +kernel
theorem d4_65 : decode method_3_code 65 = .ok (.iadd, 1) := by decide +kernel
theorem d4_66 : decode method_3_code 66 = .ok (.iaload, 1) := by decide +kernel
theorem d4_67 : decode method_3_code 67 = .ok (.if_icmp .ne 25, 3) := by decide +kernel
theorem d4_70 : decode method_3_code 70 = .ok (.iload_n 2, 1) := by decide +kernel
theorem d4_71 : decode method_3_code 71 = .ok (.iconst 5, 1) := by decide +kernel
theorem d4_72 : decode method_3_code 72 = .ok (.if_icmp .lt 16, 3) := by decide +kernel
theorem d4_75 : decode method_3_code 75 = .ok (.aload_n 0, 1) := by decide +kernel
theorem d4_76 : decode method_3_code 76 = .ok (.iconst 4, 1) := by decide +kernel
theorem d4_77 : decode method_3_code 77 = .ok (.iaload, 1) := by decide +kernel
theorem d4_78 : decode method_3_code 78 = .ok (.aload_n 0, 1) := by decide +kernel
theorem d4_79 : decode method_3_code 79 = .ok (.iload_n 1, 1) := by decide +kernel
theorem d4_80 : decode method_3_code 80 = .ok (.iload_n 2, 1) := by decide +kernel
theorem d4_81 : decode method_3_code 81 = .ok (.isub, 1) := by decide +kernel
theorem d4_82 : decode method_3_code 82 = .ok (.iconst 4, 1) := by decide +kernel
theorem d4_83 : decode method_3_code 83 = .ok (.iadd, 1) := by decide +kernel
theorem d4_84 : decode method_3_code 84 = .ok (.iaload, 1) := by decide +kernel
theorem d4_85 : decode method_3_code 85 = .ok (.if_icmp .ne 7, 3) := by decide +kernel
theorem d4_88 : decode method_3_code 88 = .ok (.iconst 1, 1) := by decide +kernel
theorem d4_89 : decode method_3_code 89 = .ok (.goto 4, 3) := by decide +kernel
theorem d4_92 : decode method_3_code 92 = .ok (.iconst 0, 1) := by decide +kernel
theorem d4_93 : decode method_3_code 93 = .ok (.ireturn, 1) := by decide +kernel
theorem pd4 : parseMethodDescriptor "([III)Z" = some ⟨[(.array .int), .int, .int], some .boolean⟩ := by decide +kernel
theorem pn4 : plainName "com/example/ioconic/ioconic/expr/LanguageBordersPinLaw" = true := by first | (simp [plainName, overriddenIn]; done) | decide +kernel
theorem ef4 (m : MethodId) (x0 : Addr) (x1 : Int32) (x2 : Int32) : entryFrame m #[(.ref x0), (.int x1), (.int x2)] 3 = mkF m 0 #[.val (.ref x0), .val (.int x1), .val (.int x2)] [] := by first | (simp [entryFrame, mkF, argsToLocals, Value.category]; done) | rfl
set_option maxRecDepth 65536 in
set_option maxHeartbeats 40000000 in
theorem rm4 (l : Launch) (Z : State) (a0 : Array Value) (hw : ∀ d ∈ tables_1, d.before a0 Z = true) (ws : List Jvm.Cond) (t : Addr) (L : Int32) (k : Int32) (h0 : Heap) (n0 : Nat) (Z0 : n0 ≤ h0.size) (n : Nat) (f : Nat → Int32) (Ln kn : Nat) (A : own_Ar Z h0 t n f) (hL : L.toInt = Ln) (hkn : k.toInt = kn) (h1 : kn < Ln) (h2 : Ln ≤ n) (h3 : kn ≤ 5) :
    own_Con l Z (⟨"com/example/ioconic/ioconic/expr/LanguageBordersPinLaw", "eq", "([III)Z"⟩ : MethodName) method_3_code 3 (some .boolean) ws ({ frames := 0, cells := 0, slots := 0, locals := 0 } : Room) #[(.ref t), (.int L), (.int k)] h0 (own_PI (fun r => (r = 1 ∧ own_pre f Ln kn) ∨ (r = 0 ∧ ¬ own_pre f Ln kn)) h0 n0) := by
  refine own_body (plainFor_of_name pn4) ?_
  intro p e s m below meth c s₁ hx hby hml0 hZ hown0 hnm0 hret0 hk e0 X0
  have hown : s.vm.findClass "com/example/ioconic/ioconic/expr/LanguageBordersPinLaw" = some m.cls := hown0
  have hnm : meth.name = "eq" := hnm0
  have hret : meth.sig.returnType = (some .boolean) := hret0
  have hml : c.maxLocals = 3 := hml0
  have N0 := Fr.nil n0
  refine own_cast (ef4 m t L k) ?_
  have z0 : (0 : Int32).toInt = 0 := by decide
  have z1 : (1 : Int32).toInt = 1 := by decide
  have z2 : (2 : Int32).toInt = 2 := by decide
  have z3 : (3 : Int32).toInt = 3 := by decide
  have z4 : (4 : Int32).toInt = 4 := by decide
  have z5 : (5 : Int32).toInt = 5 := by decide
  have d0 : (L - k).toInt = ((Ln - kn : Nat) : Int) := by
    have q := c_isub L k
    have r := rng32 (L - k)
    have r' := rng32 L
    omega
  have d1 : 1 < kn → ((L - k) + (1 : Int32)).toInt = ((Ln - kn + 1 : Nat) : Int) := fun hh => by
    have q := c_iadd (L - k) 1
    have r := rng32 ((L - k) + 1)
    have r' := rng32 L
    omega
  have d2 : 2 < kn → ((L - k) + (2 : Int32)).toInt = ((Ln - kn + 2 : Nat) : Int) := fun hh => by
    have q := c_iadd (L - k) 2
    have r := rng32 ((L - k) + 2)
    have r' := rng32 L
    omega
  have d3 : 3 < kn → ((L - k) + (3 : Int32)).toInt = ((Ln - kn + 3 : Nat) : Int) := fun hh => by
    have q := c_iadd (L - k) 3
    have r := rng32 ((L - k) + 3)
    have r' := rng32 L
    omega
  have d4 : 4 < kn → ((L - k) + (4 : Int32)).toInt = ((Ln - kn + 4 : Nat) : Int) := fun hh => by
    have q := c_iadd (L - k) 4
    have r := rng32 ((L - k) + 4)
    have r' := rng32 L
    omega
  refine own_go (T' := s₁) (g' := (mkF m 2 #[.val (.ref t), .val (.int L), .val (.int k)] [(.int (1 : Int32)), (.int k)])) (fun t_ k_ => ?_) ?_
  · refine XS.iloadN X0.here hx rfl (hb hby d4_0) rfl ?_
    show Steps p.tables e below (s₁.setTop (mkF m 1 #[.val (.ref t), .val (.int L), .val (.int k)] [(.int k)])) _
    refine XS.iconst X0.here hx rfl (hb hby d4_1) ?_
    show Steps p.tables e below (s₁.setTop (mkF m 2 #[.val (.ref t), .val (.int L), .val (.int k)] [(.int (1 : Int32)), (.int k)])) _
    exact k_
  by_cases l0 : k < (1 : Int32)
  · refine own_go (T' := s₁) (g' := (mkF m 16 #[.val (.ref t), .val (.int L), .val (.int k)] [])) (fun t_ k_ => ?_) ?_
    · refine XS.icmpYes X0.here hx rfl (pc0 := 2) (pc' := 16) rfl (hb hby d4_2) rfl (tlt l0).1 (by decide) (by decide) ?_
      show Steps p.tables e below (s₁.setTop (mkF m 16 #[.val (.ref t), .val (.int L), .val (.int k)] [])) _
      exact k_
    have l' := Int32.lt_iff_toInt_lt.mp l0
    refine own_go (T' := s₁) (g' := (mkF m 18 #[.val (.ref t), .val (.int L), .val (.int k)] [(.int (2 : Int32)), (.int k)])) (fun t_ k_ => ?_) ?_
    · refine XS.iloadN X0.here hx rfl (hb hby d4_16) rfl ?_
      show Steps p.tables e below (s₁.setTop (mkF m 17 #[.val (.ref t), .val (.int L), .val (.int k)] [(.int k)])) _
      refine XS.iconst X0.here hx rfl (hb hby d4_17) ?_
      show Steps p.tables e below (s₁.setTop (mkF m 18 #[.val (.ref t), .val (.int L), .val (.int k)] [(.int (2 : Int32)), (.int k)])) _
      exact k_
    have hf1 : k < (2 : Int32) := by rw [Int32.lt_iff_toInt_lt]; omega
    refine own_go (T' := s₁) (g' := (mkF m 36 #[.val (.ref t), .val (.int L), .val (.int k)] [(.int (3 : Int32)), (.int k)])) (fun t_ k_ => ?_) ?_
    · refine XS.icmpYes X0.here hx rfl (pc0 := 18) (pc' := 34) rfl (hb hby d4_18) rfl (tlt hf1).1 (by decide) (by decide) ?_
      show Steps p.tables e below (s₁.setTop (mkF m 34 #[.val (.ref t), .val (.int L), .val (.int k)] [])) _
      refine XS.iloadN X0.here hx rfl (hb hby d4_34) rfl ?_
      show Steps p.tables e below (s₁.setTop (mkF m 35 #[.val (.ref t), .val (.int L), .val (.int k)] [(.int k)])) _
      refine XS.iconst X0.here hx rfl (hb hby d4_35) ?_
      show Steps p.tables e below (s₁.setTop (mkF m 36 #[.val (.ref t), .val (.int L), .val (.int k)] [(.int (3 : Int32)), (.int k)])) _
      exact k_
    have hf2 : k < (3 : Int32) := by rw [Int32.lt_iff_toInt_lt]; omega
    refine own_go (T' := s₁) (g' := (mkF m 54 #[.val (.ref t), .val (.int L), .val (.int k)] [(.int (4 : Int32)), (.int k)])) (fun t_ k_ => ?_) ?_
    · refine XS.icmpYes X0.here hx rfl (pc0 := 36) (pc' := 52) rfl (hb hby d4_36) rfl (tlt hf2).1 (by decide) (by decide) ?_
      show Steps p.tables e below (s₁.setTop (mkF m 52 #[.val (.ref t), .val (.int L), .val (.int k)] [])) _
      refine XS.iloadN X0.here hx rfl (hb hby d4_52) rfl ?_
      show Steps p.tables e below (s₁.setTop (mkF m 53 #[.val (.ref t), .val (.int L), .val (.int k)] [(.int k)])) _
      refine XS.iconst X0.here hx rfl (hb hby d4_53) ?_
      show Steps p.tables e below (s₁.setTop (mkF m 54 #[.val (.ref t), .val (.int L), .val (.int k)] [(.int (4 : Int32)), (.int k)])) _
      exact k_
    have hf3 : k < (4 : Int32) := by rw [Int32.lt_iff_toInt_lt]; omega
    refine own_go (T' := s₁) (g' := (mkF m 72 #[.val (.ref t), .val (.int L), .val (.int k)] [(.int (5 : Int32)), (.int k)])) (fun t_ k_ => ?_) ?_
    · refine XS.icmpYes X0.here hx rfl (pc0 := 54) (pc' := 70) rfl (hb hby d4_54) rfl (tlt hf3).1 (by decide) (by decide) ?_
      show Steps p.tables e below (s₁.setTop (mkF m 70 #[.val (.ref t), .val (.int L), .val (.int k)] [])) _
      refine XS.iloadN X0.here hx rfl (hb hby d4_70) rfl ?_
      show Steps p.tables e below (s₁.setTop (mkF m 71 #[.val (.ref t), .val (.int L), .val (.int k)] [(.int k)])) _
      refine XS.iconst X0.here hx rfl (hb hby d4_71) ?_
      show Steps p.tables e below (s₁.setTop (mkF m 72 #[.val (.ref t), .val (.int L), .val (.int k)] [(.int (5 : Int32)), (.int k)])) _
      exact k_
    have hf4 : k < (5 : Int32) := by rw [Int32.lt_iff_toInt_lt]; omega
    refine own_go (T' := s₁) (g' := (mkF m 93 #[.val (.ref t), .val (.int L), .val (.int k)] [(.int (1 : Int32))])) (fun t_ k_ => ?_) ?_
    · refine XS.icmpYes X0.here hx rfl (pc0 := 72) (pc' := 88) rfl (hb hby d4_72) rfl (tlt hf4).1 (by decide) (by decide) ?_
      show Steps p.tables e below (s₁.setTop (mkF m 88 #[.val (.ref t), .val (.int L), .val (.int k)] [])) _
      refine XS.iconst X0.here hx rfl (hb hby d4_88) ?_
      show Steps p.tables e below (s₁.setTop (mkF m 89 #[.val (.ref t), .val (.int L), .val (.int k)] [(.int (1 : Int32))])) _
      refine XS.goto X0.here hx rfl (pc0 := 89) (pc' := 93) rfl (hb hby d4_89) (by decide) (by decide) ?_
      show Steps p.tables e below (s₁.setTop (mkF m 93 #[.val (.ref t), .val (.int L), .val (.int k)] [(.int (1 : Int32))])) _
      exact k_
    refine own_retZ X0 hx hret hk rfl (hb hby d4_93) (by decide) (by decide) ⟨_, rfl, Or.inl ⟨rfl, fun j hj => ?_⟩, N0, e0⟩
    omega
  · refine own_go (T' := s₁) (g' := (mkF m 5 #[.val (.ref t), .val (.int L), .val (.int k)] [])) (fun t_ k_ => ?_) ?_
    · refine XS.icmpNo X0.here hx rfl (hb hby d4_2) rfl (flt l0).1 ?_
      show Steps p.tables e below (s₁.setTop (mkF m 5 #[.val (.ref t), .val (.int L), .val (.int k)] [])) _
      exact k_
    have l0' : 0 < kn := by rw [Int32.lt_iff_toInt_lt] at l0; omega
    refine own_go (T' := s₁) (g' := (mkF m 7 #[.val (.ref t), .val (.int L), .val (.int k)] [(.int (0 : Int32)), (.ref t)])) (fun t_ k_ => ?_) ?_
    · refine XS.aloadN X0.here hx rfl (hb hby d4_5) rfl rfl ?_
      show Steps p.tables e below (s₁.setTop (mkF m 6 #[.val (.ref t), .val (.int L), .val (.int k)] [(.ref t)])) _
      refine XS.iconst X0.here hx rfl (hb hby d4_6) ?_
      show Steps p.tables e below (s₁.setTop (mkF m 7 #[.val (.ref t), .val (.int L), .val (.int k)] [(.int (0 : Int32)), (.ref t)])) _
      exact k_
    refine own_iaload X0 hx hZ e0 A 0 z0 (by omega) rfl rfl (hb hby d4_7) ?_
    show own_Go p e below s ({ frames := 0, cells := 0, slots := 0, locals := 0 } : Room).cells ({ frames := 0, cells := 0, slots := 0, locals := 0 } : Room).slots (own_PI (fun r => (r = 1 ∧ own_pre f Ln kn) ∨ (r = 0 ∧ ¬ own_pre f Ln kn)) h0 n0) s₁ (mkF m 8 #[.val (.ref t), .val (.int L), .val (.int k)] [(.int (f 0))])
    refine own_go (T' := s₁) (g' := (mkF m 12 #[.val (.ref t), .val (.int L), .val (.int k)] [(.int (L - k)), (.ref t), (.int (f 0))])) (fun t_ k_ => ?_) ?_
    · refine XS.aloadN X0.here hx rfl (hb hby d4_8) rfl rfl ?_
      show Steps p.tables e below (s₁.setTop (mkF m 9 #[.val (.ref t), .val (.int L), .val (.int k)] [(.ref t), (.int (f 0))])) _
      refine XS.iloadN X0.here hx rfl (hb hby d4_9) rfl ?_
      show Steps p.tables e below (s₁.setTop (mkF m 10 #[.val (.ref t), .val (.int L), .val (.int k)] [(.int L), (.ref t), (.int (f 0))])) _
      refine XS.iloadN X0.here hx rfl (hb hby d4_10) rfl ?_
      show Steps p.tables e below (s₁.setTop (mkF m 11 #[.val (.ref t), .val (.int L), .val (.int k)] [(.int k), (.int L), (.ref t), (.int (f 0))])) _
      refine XS.isub X0.here hx rfl (hb hby d4_11) rfl ?_
      show Steps p.tables e below (s₁.setTop (mkF m 12 #[.val (.ref t), .val (.int L), .val (.int k)] [(.int (L - k)), (.ref t), (.int (f 0))])) _
      exact k_
    refine own_iaload X0 hx hZ e0 A (Ln - kn + 0) d0 (by omega) rfl rfl (hb hby d4_12) ?_
    show own_Go p e below s ({ frames := 0, cells := 0, slots := 0, locals := 0 } : Room).cells ({ frames := 0, cells := 0, slots := 0, locals := 0 } : Room).slots (own_PI (fun r => (r = 1 ∧ own_pre f Ln kn) ∨ (r = 0 ∧ ¬ own_pre f Ln kn)) h0 n0) s₁ (mkF m 13 #[.val (.ref t), .val (.int L), .val (.int k)] [(.int (f (Ln - kn + 0))), (.int (f 0))])
    by_cases q0 : (f 0) = (f (Ln - kn + 0))
    rotate_left
    · refine own_go (T' := s₁) (g' := (mkF m 93 #[.val (.ref t), .val (.int L), .val (.int k)] [(.int (0 : Int32))])) (fun t_ k_ => ?_) ?_
      · refine XS.icmpYes X0.here hx rfl (pc0 := 13) (pc' := 92) rfl (hb hby d4_13) rfl (feq q0).2 (by decide) (by decide) ?_
        show Steps p.tables e below (s₁.setTop (mkF m 92 #[.val (.ref t), .val (.int L), .val (.int k)] [])) _
        refine XS.iconst X0.here hx rfl (hb hby d4_92) ?_
        show Steps p.tables e below (s₁.setTop (mkF m 93 #[.val (.ref t), .val (.int L), .val (.int k)] [(.int (0 : Int32))])) _
        exact k_
      exact own_retZ X0 hx hret hk rfl (hb hby d4_93) (by decide) (by decide) ⟨_, rfl, Or.inr ⟨rfl, fun z => q0 (z 0 (by omega))⟩, N0, e0⟩
    · refine own_go (T' := s₁) (g' := (mkF m 18 #[.val (.ref t), .val (.int L), .val (.int k)] [(.int (2 : Int32)), (.int k)])) (fun t_ k_ => ?_) ?_
      · refine XS.icmpNo X0.here hx rfl (hb hby d4_13) rfl (teq q0).2 ?_
        show Steps p.tables e below (s₁.setTop (mkF m 16 #[.val (.ref t), .val (.int L), .val (.int k)] [])) _
        refine XS.iloadN X0.here hx rfl (hb hby d4_16) rfl ?_
        show Steps p.tables e below (s₁.setTop (mkF m 17 #[.val (.ref t), .val (.int L), .val (.int k)] [(.int k)])) _
        refine XS.iconst X0.here hx rfl (hb hby d4_17) ?_
        show Steps p.tables e below (s₁.setTop (mkF m 18 #[.val (.ref t), .val (.int L), .val (.int k)] [(.int (2 : Int32)), (.int k)])) _
        exact k_
      by_cases l1 : k < (2 : Int32)
      · refine own_go (T' := s₁) (g' := (mkF m 34 #[.val (.ref t), .val (.int L), .val (.int k)] [])) (fun t_ k_ => ?_) ?_
        · refine XS.icmpYes X0.here hx rfl (pc0 := 18) (pc' := 34) rfl (hb hby d4_18) rfl (tlt l1).1 (by decide) (by decide) ?_
          show Steps p.tables e below (s₁.setTop (mkF m 34 #[.val (.ref t), .val (.int L), .val (.int k)] [])) _
          exact k_
        have l' := Int32.lt_iff_toInt_lt.mp l1
        refine own_go (T' := s₁) (g' := (mkF m 36 #[.val (.ref t), .val (.int L), .val (.int k)] [(.int (3 : Int32)), (.int k)])) (fun t_ k_ => ?_) ?_
        · refine XS.iloadN X0.here hx rfl (hb hby d4_34) rfl ?_
          show Steps p.tables e below (s₁.setTop (mkF m 35 #[.val (.ref t), .val (.int L), .val (.int k)] [(.int k)])) _
          refine XS.iconst X0.here hx rfl (hb hby d4_35) ?_
          show Steps p.tables e below (s₁.setTop (mkF m 36 #[.val (.ref t), .val (.int L), .val (.int k)] [(.int (3 : Int32)), (.int k)])) _
          exact k_
        have hf5 : k < (3 : Int32) := by rw [Int32.lt_iff_toInt_lt]; omega
        refine own_go (T' := s₁) (g' := (mkF m 54 #[.val (.ref t), .val (.int L), .val (.int k)] [(.int (4 : Int32)), (.int k)])) (fun t_ k_ => ?_) ?_
        · refine XS.icmpYes X0.here hx rfl (pc0 := 36) (pc' := 52) rfl (hb hby d4_36) rfl (tlt hf5).1 (by decide) (by decide) ?_
          show Steps p.tables e below (s₁.setTop (mkF m 52 #[.val (.ref t), .val (.int L), .val (.int k)] [])) _
          refine XS.iloadN X0.here hx rfl (hb hby d4_52) rfl ?_
          show Steps p.tables e below (s₁.setTop (mkF m 53 #[.val (.ref t), .val (.int L), .val (.int k)] [(.int k)])) _
          refine XS.iconst X0.here hx rfl (hb hby d4_53) ?_
          show Steps p.tables e below (s₁.setTop (mkF m 54 #[.val (.ref t), .val (.int L), .val (.int k)] [(.int (4 : Int32)), (.int k)])) _
          exact k_
        have hf6 : k < (4 : Int32) := by rw [Int32.lt_iff_toInt_lt]; omega
        refine own_go (T' := s₁) (g' := (mkF m 72 #[.val (.ref t), .val (.int L), .val (.int k)] [(.int (5 : Int32)), (.int k)])) (fun t_ k_ => ?_) ?_
        · refine XS.icmpYes X0.here hx rfl (pc0 := 54) (pc' := 70) rfl (hb hby d4_54) rfl (tlt hf6).1 (by decide) (by decide) ?_
          show Steps p.tables e below (s₁.setTop (mkF m 70 #[.val (.ref t), .val (.int L), .val (.int k)] [])) _
          refine XS.iloadN X0.here hx rfl (hb hby d4_70) rfl ?_
          show Steps p.tables e below (s₁.setTop (mkF m 71 #[.val (.ref t), .val (.int L), .val (.int k)] [(.int k)])) _
          refine XS.iconst X0.here hx rfl (hb hby d4_71) ?_
          show Steps p.tables e below (s₁.setTop (mkF m 72 #[.val (.ref t), .val (.int L), .val (.int k)] [(.int (5 : Int32)), (.int k)])) _
          exact k_
        have hf7 : k < (5 : Int32) := by rw [Int32.lt_iff_toInt_lt]; omega
        refine own_go (T' := s₁) (g' := (mkF m 93 #[.val (.ref t), .val (.int L), .val (.int k)] [(.int (1 : Int32))])) (fun t_ k_ => ?_) ?_
        · refine XS.icmpYes X0.here hx rfl (pc0 := 72) (pc' := 88) rfl (hb hby d4_72) rfl (tlt hf7).1 (by decide) (by decide) ?_
          show Steps p.tables e below (s₁.setTop (mkF m 88 #[.val (.ref t), .val (.int L), .val (.int k)] [])) _
          refine XS.iconst X0.here hx rfl (hb hby d4_88) ?_
          show Steps p.tables e below (s₁.setTop (mkF m 89 #[.val (.ref t), .val (.int L), .val (.int k)] [(.int (1 : Int32))])) _
          refine XS.goto X0.here hx rfl (pc0 := 89) (pc' := 93) rfl (hb hby d4_89) (by decide) (by decide) ?_
          show Steps p.tables e below (s₁.setTop (mkF m 93 #[.val (.ref t), .val (.int L), .val (.int k)] [(.int (1 : Int32))])) _
          exact k_
        refine own_retZ X0 hx hret hk rfl (hb hby d4_93) (by decide) (by decide) ⟨_, rfl, Or.inl ⟨rfl, fun j hj => ?_⟩, N0, e0⟩
        have cj : j = 0 := by omega
        rcases cj with rfl
        · exact q0
      · refine own_go (T' := s₁) (g' := (mkF m 21 #[.val (.ref t), .val (.int L), .val (.int k)] [])) (fun t_ k_ => ?_) ?_
        · refine XS.icmpNo X0.here hx rfl (hb hby d4_18) rfl (flt l1).1 ?_
          show Steps p.tables e below (s₁.setTop (mkF m 21 #[.val (.ref t), .val (.int L), .val (.int k)] [])) _
          exact k_
        have l1' : 1 < kn := by rw [Int32.lt_iff_toInt_lt] at l1; omega
        refine own_go (T' := s₁) (g' := (mkF m 23 #[.val (.ref t), .val (.int L), .val (.int k)] [(.int (1 : Int32)), (.ref t)])) (fun t_ k_ => ?_) ?_
        · refine XS.aloadN X0.here hx rfl (hb hby d4_21) rfl rfl ?_
          show Steps p.tables e below (s₁.setTop (mkF m 22 #[.val (.ref t), .val (.int L), .val (.int k)] [(.ref t)])) _
          refine XS.iconst X0.here hx rfl (hb hby d4_22) ?_
          show Steps p.tables e below (s₁.setTop (mkF m 23 #[.val (.ref t), .val (.int L), .val (.int k)] [(.int (1 : Int32)), (.ref t)])) _
          exact k_
        refine own_iaload X0 hx hZ e0 A 1 z1 (by omega) rfl rfl (hb hby d4_23) ?_
        show own_Go p e below s ({ frames := 0, cells := 0, slots := 0, locals := 0 } : Room).cells ({ frames := 0, cells := 0, slots := 0, locals := 0 } : Room).slots (own_PI (fun r => (r = 1 ∧ own_pre f Ln kn) ∨ (r = 0 ∧ ¬ own_pre f Ln kn)) h0 n0) s₁ (mkF m 24 #[.val (.ref t), .val (.int L), .val (.int k)] [(.int (f 1))])
        refine own_go (T' := s₁) (g' := (mkF m 30 #[.val (.ref t), .val (.int L), .val (.int k)] [(.int ((L - k) + (1 : Int32))), (.ref t), (.int (f 1))])) (fun t_ k_ => ?_) ?_
        · refine XS.aloadN X0.here hx rfl (hb hby d4_24) rfl rfl ?_
          show Steps p.tables e below (s₁.setTop (mkF m 25 #[.val (.ref t), .val (.int L), .val (.int k)] [(.ref t), (.int (f 1))])) _
          refine XS.iloadN X0.here hx rfl (hb hby d4_25) rfl ?_
          show Steps p.tables e below (s₁.setTop (mkF m 26 #[.val (.ref t), .val (.int L), .val (.int k)] [(.int L), (.ref t), (.int (f 1))])) _
          refine XS.iloadN X0.here hx rfl (hb hby d4_26) rfl ?_
          show Steps p.tables e below (s₁.setTop (mkF m 27 #[.val (.ref t), .val (.int L), .val (.int k)] [(.int k), (.int L), (.ref t), (.int (f 1))])) _
          refine XS.isub X0.here hx rfl (hb hby d4_27) rfl ?_
          show Steps p.tables e below (s₁.setTop (mkF m 28 #[.val (.ref t), .val (.int L), .val (.int k)] [(.int (L - k)), (.ref t), (.int (f 1))])) _
          refine XS.iconst X0.here hx rfl (hb hby d4_28) ?_
          show Steps p.tables e below (s₁.setTop (mkF m 29 #[.val (.ref t), .val (.int L), .val (.int k)] [(.int (1 : Int32)), (.int (L - k)), (.ref t), (.int (f 1))])) _
          refine XS.iadd X0.here hx rfl (hb hby d4_29) rfl ?_
          show Steps p.tables e below (s₁.setTop (mkF m 30 #[.val (.ref t), .val (.int L), .val (.int k)] [(.int ((L - k) + (1 : Int32))), (.ref t), (.int (f 1))])) _
          exact k_
        refine own_iaload X0 hx hZ e0 A (Ln - kn + 1) (d1 l1') (by omega) rfl rfl (hb hby d4_30) ?_
        show own_Go p e below s ({ frames := 0, cells := 0, slots := 0, locals := 0 } : Room).cells ({ frames := 0, cells := 0, slots := 0, locals := 0 } : Room).slots (own_PI (fun r => (r = 1 ∧ own_pre f Ln kn) ∨ (r = 0 ∧ ¬ own_pre f Ln kn)) h0 n0) s₁ (mkF m 31 #[.val (.ref t), .val (.int L), .val (.int k)] [(.int (f (Ln - kn + 1))), (.int (f 1))])
        by_cases q1 : (f 1) = (f (Ln - kn + 1))
        rotate_left
        · refine own_go (T' := s₁) (g' := (mkF m 93 #[.val (.ref t), .val (.int L), .val (.int k)] [(.int (0 : Int32))])) (fun t_ k_ => ?_) ?_
          · refine XS.icmpYes X0.here hx rfl (pc0 := 31) (pc' := 92) rfl (hb hby d4_31) rfl (feq q1).2 (by decide) (by decide) ?_
            show Steps p.tables e below (s₁.setTop (mkF m 92 #[.val (.ref t), .val (.int L), .val (.int k)] [])) _
            refine XS.iconst X0.here hx rfl (hb hby d4_92) ?_
            show Steps p.tables e below (s₁.setTop (mkF m 93 #[.val (.ref t), .val (.int L), .val (.int k)] [(.int (0 : Int32))])) _
            exact k_
          exact own_retZ X0 hx hret hk rfl (hb hby d4_93) (by decide) (by decide) ⟨_, rfl, Or.inr ⟨rfl, fun z => q1 (z 1 (by omega))⟩, N0, e0⟩
        · refine own_go (T' := s₁) (g' := (mkF m 36 #[.val (.ref t), .val (.int L), .val (.int k)] [(.int (3 : Int32)), (.int k)])) (fun t_ k_ => ?_) ?_
          · refine XS.icmpNo X0.here hx rfl (hb hby d4_31) rfl (teq q1).2 ?_
            show Steps p.tables e below (s₁.setTop (mkF m 34 #[.val (.ref t), .val (.int L), .val (.int k)] [])) _
            refine XS.iloadN X0.here hx rfl (hb hby d4_34) rfl ?_
            show Steps p.tables e below (s₁.setTop (mkF m 35 #[.val (.ref t), .val (.int L), .val (.int k)] [(.int k)])) _
            refine XS.iconst X0.here hx rfl (hb hby d4_35) ?_
            show Steps p.tables e below (s₁.setTop (mkF m 36 #[.val (.ref t), .val (.int L), .val (.int k)] [(.int (3 : Int32)), (.int k)])) _
            exact k_
          by_cases l2 : k < (3 : Int32)
          · refine own_go (T' := s₁) (g' := (mkF m 52 #[.val (.ref t), .val (.int L), .val (.int k)] [])) (fun t_ k_ => ?_) ?_
            · refine XS.icmpYes X0.here hx rfl (pc0 := 36) (pc' := 52) rfl (hb hby d4_36) rfl (tlt l2).1 (by decide) (by decide) ?_
              show Steps p.tables e below (s₁.setTop (mkF m 52 #[.val (.ref t), .val (.int L), .val (.int k)] [])) _
              exact k_
            have l' := Int32.lt_iff_toInt_lt.mp l2
            refine own_go (T' := s₁) (g' := (mkF m 54 #[.val (.ref t), .val (.int L), .val (.int k)] [(.int (4 : Int32)), (.int k)])) (fun t_ k_ => ?_) ?_
            · refine XS.iloadN X0.here hx rfl (hb hby d4_52) rfl ?_
              show Steps p.tables e below (s₁.setTop (mkF m 53 #[.val (.ref t), .val (.int L), .val (.int k)] [(.int k)])) _
              refine XS.iconst X0.here hx rfl (hb hby d4_53) ?_
              show Steps p.tables e below (s₁.setTop (mkF m 54 #[.val (.ref t), .val (.int L), .val (.int k)] [(.int (4 : Int32)), (.int k)])) _
              exact k_
            have hf8 : k < (4 : Int32) := by rw [Int32.lt_iff_toInt_lt]; omega
            refine own_go (T' := s₁) (g' := (mkF m 72 #[.val (.ref t), .val (.int L), .val (.int k)] [(.int (5 : Int32)), (.int k)])) (fun t_ k_ => ?_) ?_
            · refine XS.icmpYes X0.here hx rfl (pc0 := 54) (pc' := 70) rfl (hb hby d4_54) rfl (tlt hf8).1 (by decide) (by decide) ?_
              show Steps p.tables e below (s₁.setTop (mkF m 70 #[.val (.ref t), .val (.int L), .val (.int k)] [])) _
              refine XS.iloadN X0.here hx rfl (hb hby d4_70) rfl ?_
              show Steps p.tables e below (s₁.setTop (mkF m 71 #[.val (.ref t), .val (.int L), .val (.int k)] [(.int k)])) _
              refine XS.iconst X0.here hx rfl (hb hby d4_71) ?_
              show Steps p.tables e below (s₁.setTop (mkF m 72 #[.val (.ref t), .val (.int L), .val (.int k)] [(.int (5 : Int32)), (.int k)])) _
              exact k_
            have hf9 : k < (5 : Int32) := by rw [Int32.lt_iff_toInt_lt]; omega
            refine own_go (T' := s₁) (g' := (mkF m 93 #[.val (.ref t), .val (.int L), .val (.int k)] [(.int (1 : Int32))])) (fun t_ k_ => ?_) ?_
            · refine XS.icmpYes X0.here hx rfl (pc0 := 72) (pc' := 88) rfl (hb hby d4_72) rfl (tlt hf9).1 (by decide) (by decide) ?_
              show Steps p.tables e below (s₁.setTop (mkF m 88 #[.val (.ref t), .val (.int L), .val (.int k)] [])) _
              refine XS.iconst X0.here hx rfl (hb hby d4_88) ?_
              show Steps p.tables e below (s₁.setTop (mkF m 89 #[.val (.ref t), .val (.int L), .val (.int k)] [(.int (1 : Int32))])) _
              refine XS.goto X0.here hx rfl (pc0 := 89) (pc' := 93) rfl (hb hby d4_89) (by decide) (by decide) ?_
              show Steps p.tables e below (s₁.setTop (mkF m 93 #[.val (.ref t), .val (.int L), .val (.int k)] [(.int (1 : Int32))])) _
              exact k_
            refine own_retZ X0 hx hret hk rfl (hb hby d4_93) (by decide) (by decide) ⟨_, rfl, Or.inl ⟨rfl, fun j hj => ?_⟩, N0, e0⟩
            have cj : j = 0 ∨ j = 1 := by omega
            rcases cj with rfl | rfl
            · exact q0
            · exact q1
          · refine own_go (T' := s₁) (g' := (mkF m 39 #[.val (.ref t), .val (.int L), .val (.int k)] [])) (fun t_ k_ => ?_) ?_
            · refine XS.icmpNo X0.here hx rfl (hb hby d4_36) rfl (flt l2).1 ?_
              show Steps p.tables e below (s₁.setTop (mkF m 39 #[.val (.ref t), .val (.int L), .val (.int k)] [])) _
              exact k_
            have l2' : 2 < kn := by rw [Int32.lt_iff_toInt_lt] at l2; omega
            refine own_go (T' := s₁) (g' := (mkF m 41 #[.val (.ref t), .val (.int L), .val (.int k)] [(.int (2 : Int32)), (.ref t)])) (fun t_ k_ => ?_) ?_
            · refine XS.aloadN X0.here hx rfl (hb hby d4_39) rfl rfl ?_
              show Steps p.tables e below (s₁.setTop (mkF m 40 #[.val (.ref t), .val (.int L), .val (.int k)] [(.ref t)])) _
              refine XS.iconst X0.here hx rfl (hb hby d4_40) ?_
              show Steps p.tables e below (s₁.setTop (mkF m 41 #[.val (.ref t), .val (.int L), .val (.int k)] [(.int (2 : Int32)), (.ref t)])) _
              exact k_
            refine own_iaload X0 hx hZ e0 A 2 z2 (by omega) rfl rfl (hb hby d4_41) ?_
            show own_Go p e below s ({ frames := 0, cells := 0, slots := 0, locals := 0 } : Room).cells ({ frames := 0, cells := 0, slots := 0, locals := 0 } : Room).slots (own_PI (fun r => (r = 1 ∧ own_pre f Ln kn) ∨ (r = 0 ∧ ¬ own_pre f Ln kn)) h0 n0) s₁ (mkF m 42 #[.val (.ref t), .val (.int L), .val (.int k)] [(.int (f 2))])
            refine own_go (T' := s₁) (g' := (mkF m 48 #[.val (.ref t), .val (.int L), .val (.int k)] [(.int ((L - k) + (2 : Int32))), (.ref t), (.int (f 2))])) (fun t_ k_ => ?_) ?_
            · refine XS.aloadN X0.here hx rfl (hb hby d4_42) rfl rfl ?_
              show Steps p.tables e below (s₁.setTop (mkF m 43 #[.val (.ref t), .val (.int L), .val (.int k)] [(.ref t), (.int (f 2))])) _
              refine XS.iloadN X0.here hx rfl (hb hby d4_43) rfl ?_
              show Steps p.tables e below (s₁.setTop (mkF m 44 #[.val (.ref t), .val (.int L), .val (.int k)] [(.int L), (.ref t), (.int (f 2))])) _
              refine XS.iloadN X0.here hx rfl (hb hby d4_44) rfl ?_
              show Steps p.tables e below (s₁.setTop (mkF m 45 #[.val (.ref t), .val (.int L), .val (.int k)] [(.int k), (.int L), (.ref t), (.int (f 2))])) _
              refine XS.isub X0.here hx rfl (hb hby d4_45) rfl ?_
              show Steps p.tables e below (s₁.setTop (mkF m 46 #[.val (.ref t), .val (.int L), .val (.int k)] [(.int (L - k)), (.ref t), (.int (f 2))])) _
              refine XS.iconst X0.here hx rfl (hb hby d4_46) ?_
              show Steps p.tables e below (s₁.setTop (mkF m 47 #[.val (.ref t), .val (.int L), .val (.int k)] [(.int (2 : Int32)), (.int (L - k)), (.ref t), (.int (f 2))])) _
              refine XS.iadd X0.here hx rfl (hb hby d4_47) rfl ?_
              show Steps p.tables e below (s₁.setTop (mkF m 48 #[.val (.ref t), .val (.int L), .val (.int k)] [(.int ((L - k) + (2 : Int32))), (.ref t), (.int (f 2))])) _
              exact k_
            refine own_iaload X0 hx hZ e0 A (Ln - kn + 2) (d2 l2') (by omega) rfl rfl (hb hby d4_48) ?_
            show own_Go p e below s ({ frames := 0, cells := 0, slots := 0, locals := 0 } : Room).cells ({ frames := 0, cells := 0, slots := 0, locals := 0 } : Room).slots (own_PI (fun r => (r = 1 ∧ own_pre f Ln kn) ∨ (r = 0 ∧ ¬ own_pre f Ln kn)) h0 n0) s₁ (mkF m 49 #[.val (.ref t), .val (.int L), .val (.int k)] [(.int (f (Ln - kn + 2))), (.int (f 2))])
            by_cases q2 : (f 2) = (f (Ln - kn + 2))
            rotate_left
            · refine own_go (T' := s₁) (g' := (mkF m 93 #[.val (.ref t), .val (.int L), .val (.int k)] [(.int (0 : Int32))])) (fun t_ k_ => ?_) ?_
              · refine XS.icmpYes X0.here hx rfl (pc0 := 49) (pc' := 92) rfl (hb hby d4_49) rfl (feq q2).2 (by decide) (by decide) ?_
                show Steps p.tables e below (s₁.setTop (mkF m 92 #[.val (.ref t), .val (.int L), .val (.int k)] [])) _
                refine XS.iconst X0.here hx rfl (hb hby d4_92) ?_
                show Steps p.tables e below (s₁.setTop (mkF m 93 #[.val (.ref t), .val (.int L), .val (.int k)] [(.int (0 : Int32))])) _
                exact k_
              exact own_retZ X0 hx hret hk rfl (hb hby d4_93) (by decide) (by decide) ⟨_, rfl, Or.inr ⟨rfl, fun z => q2 (z 2 (by omega))⟩, N0, e0⟩
            · refine own_go (T' := s₁) (g' := (mkF m 54 #[.val (.ref t), .val (.int L), .val (.int k)] [(.int (4 : Int32)), (.int k)])) (fun t_ k_ => ?_) ?_
              · refine XS.icmpNo X0.here hx rfl (hb hby d4_49) rfl (teq q2).2 ?_
                show Steps p.tables e below (s₁.setTop (mkF m 52 #[.val (.ref t), .val (.int L), .val (.int k)] [])) _
                refine XS.iloadN X0.here hx rfl (hb hby d4_52) rfl ?_
                show Steps p.tables e below (s₁.setTop (mkF m 53 #[.val (.ref t), .val (.int L), .val (.int k)] [(.int k)])) _
                refine XS.iconst X0.here hx rfl (hb hby d4_53) ?_
                show Steps p.tables e below (s₁.setTop (mkF m 54 #[.val (.ref t), .val (.int L), .val (.int k)] [(.int (4 : Int32)), (.int k)])) _
                exact k_
              by_cases l3 : k < (4 : Int32)
              · refine own_go (T' := s₁) (g' := (mkF m 70 #[.val (.ref t), .val (.int L), .val (.int k)] [])) (fun t_ k_ => ?_) ?_
                · refine XS.icmpYes X0.here hx rfl (pc0 := 54) (pc' := 70) rfl (hb hby d4_54) rfl (tlt l3).1 (by decide) (by decide) ?_
                  show Steps p.tables e below (s₁.setTop (mkF m 70 #[.val (.ref t), .val (.int L), .val (.int k)] [])) _
                  exact k_
                have l' := Int32.lt_iff_toInt_lt.mp l3
                refine own_go (T' := s₁) (g' := (mkF m 72 #[.val (.ref t), .val (.int L), .val (.int k)] [(.int (5 : Int32)), (.int k)])) (fun t_ k_ => ?_) ?_
                · refine XS.iloadN X0.here hx rfl (hb hby d4_70) rfl ?_
                  show Steps p.tables e below (s₁.setTop (mkF m 71 #[.val (.ref t), .val (.int L), .val (.int k)] [(.int k)])) _
                  refine XS.iconst X0.here hx rfl (hb hby d4_71) ?_
                  show Steps p.tables e below (s₁.setTop (mkF m 72 #[.val (.ref t), .val (.int L), .val (.int k)] [(.int (5 : Int32)), (.int k)])) _
                  exact k_
                have hf10 : k < (5 : Int32) := by rw [Int32.lt_iff_toInt_lt]; omega
                refine own_go (T' := s₁) (g' := (mkF m 93 #[.val (.ref t), .val (.int L), .val (.int k)] [(.int (1 : Int32))])) (fun t_ k_ => ?_) ?_
                · refine XS.icmpYes X0.here hx rfl (pc0 := 72) (pc' := 88) rfl (hb hby d4_72) rfl (tlt hf10).1 (by decide) (by decide) ?_
                  show Steps p.tables e below (s₁.setTop (mkF m 88 #[.val (.ref t), .val (.int L), .val (.int k)] [])) _
                  refine XS.iconst X0.here hx rfl (hb hby d4_88) ?_
                  show Steps p.tables e below (s₁.setTop (mkF m 89 #[.val (.ref t), .val (.int L), .val (.int k)] [(.int (1 : Int32))])) _
                  refine XS.goto X0.here hx rfl (pc0 := 89) (pc' := 93) rfl (hb hby d4_89) (by decide) (by decide) ?_
                  show Steps p.tables e below (s₁.setTop (mkF m 93 #[.val (.ref t), .val (.int L), .val (.int k)] [(.int (1 : Int32))])) _
                  exact k_
                refine own_retZ X0 hx hret hk rfl (hb hby d4_93) (by decide) (by decide) ⟨_, rfl, Or.inl ⟨rfl, fun j hj => ?_⟩, N0, e0⟩
                have cj : j = 0 ∨ j = 1 ∨ j = 2 := by omega
                rcases cj with rfl | rfl | rfl
                · exact q0
                · exact q1
                · exact q2
              · refine own_go (T' := s₁) (g' := (mkF m 57 #[.val (.ref t), .val (.int L), .val (.int k)] [])) (fun t_ k_ => ?_) ?_
                · refine XS.icmpNo X0.here hx rfl (hb hby d4_54) rfl (flt l3).1 ?_
                  show Steps p.tables e below (s₁.setTop (mkF m 57 #[.val (.ref t), .val (.int L), .val (.int k)] [])) _
                  exact k_
                have l3' : 3 < kn := by rw [Int32.lt_iff_toInt_lt] at l3; omega
                refine own_go (T' := s₁) (g' := (mkF m 59 #[.val (.ref t), .val (.int L), .val (.int k)] [(.int (3 : Int32)), (.ref t)])) (fun t_ k_ => ?_) ?_
                · refine XS.aloadN X0.here hx rfl (hb hby d4_57) rfl rfl ?_
                  show Steps p.tables e below (s₁.setTop (mkF m 58 #[.val (.ref t), .val (.int L), .val (.int k)] [(.ref t)])) _
                  refine XS.iconst X0.here hx rfl (hb hby d4_58) ?_
                  show Steps p.tables e below (s₁.setTop (mkF m 59 #[.val (.ref t), .val (.int L), .val (.int k)] [(.int (3 : Int32)), (.ref t)])) _
                  exact k_
                refine own_iaload X0 hx hZ e0 A 3 z3 (by omega) rfl rfl (hb hby d4_59) ?_
                show own_Go p e below s ({ frames := 0, cells := 0, slots := 0, locals := 0 } : Room).cells ({ frames := 0, cells := 0, slots := 0, locals := 0 } : Room).slots (own_PI (fun r => (r = 1 ∧ own_pre f Ln kn) ∨ (r = 0 ∧ ¬ own_pre f Ln kn)) h0 n0) s₁ (mkF m 60 #[.val (.ref t), .val (.int L), .val (.int k)] [(.int (f 3))])
                refine own_go (T' := s₁) (g' := (mkF m 66 #[.val (.ref t), .val (.int L), .val (.int k)] [(.int ((L - k) + (3 : Int32))), (.ref t), (.int (f 3))])) (fun t_ k_ => ?_) ?_
                · refine XS.aloadN X0.here hx rfl (hb hby d4_60) rfl rfl ?_
                  show Steps p.tables e below (s₁.setTop (mkF m 61 #[.val (.ref t), .val (.int L), .val (.int k)] [(.ref t), (.int (f 3))])) _
                  refine XS.iloadN X0.here hx rfl (hb hby d4_61) rfl ?_
                  show Steps p.tables e below (s₁.setTop (mkF m 62 #[.val (.ref t), .val (.int L), .val (.int k)] [(.int L), (.ref t), (.int (f 3))])) _
                  refine XS.iloadN X0.here hx rfl (hb hby d4_62) rfl ?_
                  show Steps p.tables e below (s₁.setTop (mkF m 63 #[.val (.ref t), .val (.int L), .val (.int k)] [(.int k), (.int L), (.ref t), (.int (f 3))])) _
                  refine XS.isub X0.here hx rfl (hb hby d4_63) rfl ?_
                  show Steps p.tables e below (s₁.setTop (mkF m 64 #[.val (.ref t), .val (.int L), .val (.int k)] [(.int (L - k)), (.ref t), (.int (f 3))])) _
                  refine XS.iconst X0.here hx rfl (hb hby d4_64) ?_
                  show Steps p.tables e below (s₁.setTop (mkF m 65 #[.val (.ref t), .val (.int L), .val (.int k)] [(.int (3 : Int32)), (.int (L - k)), (.ref t), (.int (f 3))])) _
                  refine XS.iadd X0.here hx rfl (hb hby d4_65) rfl ?_
                  show Steps p.tables e below (s₁.setTop (mkF m 66 #[.val (.ref t), .val (.int L), .val (.int k)] [(.int ((L - k) + (3 : Int32))), (.ref t), (.int (f 3))])) _
                  exact k_
                refine own_iaload X0 hx hZ e0 A (Ln - kn + 3) (d3 l3') (by omega) rfl rfl (hb hby d4_66) ?_
                show own_Go p e below s ({ frames := 0, cells := 0, slots := 0, locals := 0 } : Room).cells ({ frames := 0, cells := 0, slots := 0, locals := 0 } : Room).slots (own_PI (fun r => (r = 1 ∧ own_pre f Ln kn) ∨ (r = 0 ∧ ¬ own_pre f Ln kn)) h0 n0) s₁ (mkF m 67 #[.val (.ref t), .val (.int L), .val (.int k)] [(.int (f (Ln - kn + 3))), (.int (f 3))])
                by_cases q3 : (f 3) = (f (Ln - kn + 3))
                rotate_left
                · refine own_go (T' := s₁) (g' := (mkF m 93 #[.val (.ref t), .val (.int L), .val (.int k)] [(.int (0 : Int32))])) (fun t_ k_ => ?_) ?_
                  · refine XS.icmpYes X0.here hx rfl (pc0 := 67) (pc' := 92) rfl (hb hby d4_67) rfl (feq q3).2 (by decide) (by decide) ?_
                    show Steps p.tables e below (s₁.setTop (mkF m 92 #[.val (.ref t), .val (.int L), .val (.int k)] [])) _
                    refine XS.iconst X0.here hx rfl (hb hby d4_92) ?_
                    show Steps p.tables e below (s₁.setTop (mkF m 93 #[.val (.ref t), .val (.int L), .val (.int k)] [(.int (0 : Int32))])) _
                    exact k_
                  exact own_retZ X0 hx hret hk rfl (hb hby d4_93) (by decide) (by decide) ⟨_, rfl, Or.inr ⟨rfl, fun z => q3 (z 3 (by omega))⟩, N0, e0⟩
                · refine own_go (T' := s₁) (g' := (mkF m 72 #[.val (.ref t), .val (.int L), .val (.int k)] [(.int (5 : Int32)), (.int k)])) (fun t_ k_ => ?_) ?_
                  · refine XS.icmpNo X0.here hx rfl (hb hby d4_67) rfl (teq q3).2 ?_
                    show Steps p.tables e below (s₁.setTop (mkF m 70 #[.val (.ref t), .val (.int L), .val (.int k)] [])) _
                    refine XS.iloadN X0.here hx rfl (hb hby d4_70) rfl ?_
                    show Steps p.tables e below (s₁.setTop (mkF m 71 #[.val (.ref t), .val (.int L), .val (.int k)] [(.int k)])) _
                    refine XS.iconst X0.here hx rfl (hb hby d4_71) ?_
                    show Steps p.tables e below (s₁.setTop (mkF m 72 #[.val (.ref t), .val (.int L), .val (.int k)] [(.int (5 : Int32)), (.int k)])) _
                    exact k_
                  by_cases l4 : k < (5 : Int32)
                  · refine own_go (T' := s₁) (g' := (mkF m 88 #[.val (.ref t), .val (.int L), .val (.int k)] [])) (fun t_ k_ => ?_) ?_
                    · refine XS.icmpYes X0.here hx rfl (pc0 := 72) (pc' := 88) rfl (hb hby d4_72) rfl (tlt l4).1 (by decide) (by decide) ?_
                      show Steps p.tables e below (s₁.setTop (mkF m 88 #[.val (.ref t), .val (.int L), .val (.int k)] [])) _
                      exact k_
                    have l' := Int32.lt_iff_toInt_lt.mp l4
                    refine own_go (T' := s₁) (g' := (mkF m 93 #[.val (.ref t), .val (.int L), .val (.int k)] [(.int (1 : Int32))])) (fun t_ k_ => ?_) ?_
                    · refine XS.iconst X0.here hx rfl (hb hby d4_88) ?_
                      show Steps p.tables e below (s₁.setTop (mkF m 89 #[.val (.ref t), .val (.int L), .val (.int k)] [(.int (1 : Int32))])) _
                      refine XS.goto X0.here hx rfl (pc0 := 89) (pc' := 93) rfl (hb hby d4_89) (by decide) (by decide) ?_
                      show Steps p.tables e below (s₁.setTop (mkF m 93 #[.val (.ref t), .val (.int L), .val (.int k)] [(.int (1 : Int32))])) _
                      exact k_
                    refine own_retZ X0 hx hret hk rfl (hb hby d4_93) (by decide) (by decide) ⟨_, rfl, Or.inl ⟨rfl, fun j hj => ?_⟩, N0, e0⟩
                    have cj : j = 0 ∨ j = 1 ∨ j = 2 ∨ j = 3 := by omega
                    rcases cj with rfl | rfl | rfl | rfl
                    · exact q0
                    · exact q1
                    · exact q2
                    · exact q3
                  · refine own_go (T' := s₁) (g' := (mkF m 75 #[.val (.ref t), .val (.int L), .val (.int k)] [])) (fun t_ k_ => ?_) ?_
                    · refine XS.icmpNo X0.here hx rfl (hb hby d4_72) rfl (flt l4).1 ?_
                      show Steps p.tables e below (s₁.setTop (mkF m 75 #[.val (.ref t), .val (.int L), .val (.int k)] [])) _
                      exact k_
                    have l4' : 4 < kn := by rw [Int32.lt_iff_toInt_lt] at l4; omega
                    refine own_go (T' := s₁) (g' := (mkF m 77 #[.val (.ref t), .val (.int L), .val (.int k)] [(.int (4 : Int32)), (.ref t)])) (fun t_ k_ => ?_) ?_
                    · refine XS.aloadN X0.here hx rfl (hb hby d4_75) rfl rfl ?_
                      show Steps p.tables e below (s₁.setTop (mkF m 76 #[.val (.ref t), .val (.int L), .val (.int k)] [(.ref t)])) _
                      refine XS.iconst X0.here hx rfl (hb hby d4_76) ?_
                      show Steps p.tables e below (s₁.setTop (mkF m 77 #[.val (.ref t), .val (.int L), .val (.int k)] [(.int (4 : Int32)), (.ref t)])) _
                      exact k_
                    refine own_iaload X0 hx hZ e0 A 4 z4 (by omega) rfl rfl (hb hby d4_77) ?_
                    show own_Go p e below s ({ frames := 0, cells := 0, slots := 0, locals := 0 } : Room).cells ({ frames := 0, cells := 0, slots := 0, locals := 0 } : Room).slots (own_PI (fun r => (r = 1 ∧ own_pre f Ln kn) ∨ (r = 0 ∧ ¬ own_pre f Ln kn)) h0 n0) s₁ (mkF m 78 #[.val (.ref t), .val (.int L), .val (.int k)] [(.int (f 4))])
                    refine own_go (T' := s₁) (g' := (mkF m 84 #[.val (.ref t), .val (.int L), .val (.int k)] [(.int ((L - k) + (4 : Int32))), (.ref t), (.int (f 4))])) (fun t_ k_ => ?_) ?_
                    · refine XS.aloadN X0.here hx rfl (hb hby d4_78) rfl rfl ?_
                      show Steps p.tables e below (s₁.setTop (mkF m 79 #[.val (.ref t), .val (.int L), .val (.int k)] [(.ref t), (.int (f 4))])) _
                      refine XS.iloadN X0.here hx rfl (hb hby d4_79) rfl ?_
                      show Steps p.tables e below (s₁.setTop (mkF m 80 #[.val (.ref t), .val (.int L), .val (.int k)] [(.int L), (.ref t), (.int (f 4))])) _
                      refine XS.iloadN X0.here hx rfl (hb hby d4_80) rfl ?_
                      show Steps p.tables e below (s₁.setTop (mkF m 81 #[.val (.ref t), .val (.int L), .val (.int k)] [(.int k), (.int L), (.ref t), (.int (f 4))])) _
                      refine XS.isub X0.here hx rfl (hb hby d4_81) rfl ?_
                      show Steps p.tables e below (s₁.setTop (mkF m 82 #[.val (.ref t), .val (.int L), .val (.int k)] [(.int (L - k)), (.ref t), (.int (f 4))])) _
                      refine XS.iconst X0.here hx rfl (hb hby d4_82) ?_
                      show Steps p.tables e below (s₁.setTop (mkF m 83 #[.val (.ref t), .val (.int L), .val (.int k)] [(.int (4 : Int32)), (.int (L - k)), (.ref t), (.int (f 4))])) _
                      refine XS.iadd X0.here hx rfl (hb hby d4_83) rfl ?_
                      show Steps p.tables e below (s₁.setTop (mkF m 84 #[.val (.ref t), .val (.int L), .val (.int k)] [(.int ((L - k) + (4 : Int32))), (.ref t), (.int (f 4))])) _
                      exact k_
                    refine own_iaload X0 hx hZ e0 A (Ln - kn + 4) (d4 l4') (by omega) rfl rfl (hb hby d4_84) ?_
                    show own_Go p e below s ({ frames := 0, cells := 0, slots := 0, locals := 0 } : Room).cells ({ frames := 0, cells := 0, slots := 0, locals := 0 } : Room).slots (own_PI (fun r => (r = 1 ∧ own_pre f Ln kn) ∨ (r = 0 ∧ ¬ own_pre f Ln kn)) h0 n0) s₁ (mkF m 85 #[.val (.ref t), .val (.int L), .val (.int k)] [(.int (f (Ln - kn + 4))), (.int (f 4))])
                    by_cases q4 : (f 4) = (f (Ln - kn + 4))
                    rotate_left
                    · refine own_go (T' := s₁) (g' := (mkF m 93 #[.val (.ref t), .val (.int L), .val (.int k)] [(.int (0 : Int32))])) (fun t_ k_ => ?_) ?_
                      · refine XS.icmpYes X0.here hx rfl (pc0 := 85) (pc' := 92) rfl (hb hby d4_85) rfl (feq q4).2 (by decide) (by decide) ?_
                        show Steps p.tables e below (s₁.setTop (mkF m 92 #[.val (.ref t), .val (.int L), .val (.int k)] [])) _
                        refine XS.iconst X0.here hx rfl (hb hby d4_92) ?_
                        show Steps p.tables e below (s₁.setTop (mkF m 93 #[.val (.ref t), .val (.int L), .val (.int k)] [(.int (0 : Int32))])) _
                        exact k_
                      exact own_retZ X0 hx hret hk rfl (hb hby d4_93) (by decide) (by decide) ⟨_, rfl, Or.inr ⟨rfl, fun z => q4 (z 4 (by omega))⟩, N0, e0⟩
                    · refine own_go (T' := s₁) (g' := (mkF m 93 #[.val (.ref t), .val (.int L), .val (.int k)] [(.int (1 : Int32))])) (fun t_ k_ => ?_) ?_
                      · refine XS.icmpNo X0.here hx rfl (hb hby d4_85) rfl (teq q4).2 ?_
                        show Steps p.tables e below (s₁.setTop (mkF m 88 #[.val (.ref t), .val (.int L), .val (.int k)] [])) _
                        refine XS.iconst X0.here hx rfl (hb hby d4_88) ?_
                        show Steps p.tables e below (s₁.setTop (mkF m 89 #[.val (.ref t), .val (.int L), .val (.int k)] [(.int (1 : Int32))])) _
                        refine XS.goto X0.here hx rfl (pc0 := 89) (pc' := 93) rfl (hb hby d4_89) (by decide) (by decide) ?_
                        show Steps p.tables e below (s₁.setTop (mkF m 93 #[.val (.ref t), .val (.int L), .val (.int k)] [(.int (1 : Int32))])) _
                        exact k_
                      refine own_retZ X0 hx hret hk rfl (hb hby d4_93) (by decide) (by decide) ⟨_, rfl, Or.inl ⟨rfl, fun j hj => ?_⟩, N0, e0⟩
                      have cj : j = 0 ∨ j = 1 ∨ j = 2 ∨ j = 3 ∨ j = 4 := by omega
                      rcases cj with rfl | rfl | rfl | rfl | rfl
                      · exact q0
                      · exact q1
                      · exact q2
                      · exact q3
                      · exact q4
theorem d3_0 : decode method_4_code 0 = .ok (.iload_n 1, 1) := by decide +kernel
theorem d3_1 : decode method_4_code 1 = .ok (.bipush 6, 2) := by decide +kernel
theorem d3_3 : decode method_4_code 3 = .ok (.if_icmp .lt 14, 3) := by decide +kernel
theorem d3_6 : decode method_4_code 6 = .ok (.aload_n 0, 1) := by decide +kernel
theorem d3_7 : decode method_4_code 7 = .ok (.iload_n 1, 1) := by decide +kernel
theorem d3_8 : decode method_4_code 8 = .ok (.iconst 5, 1) := by decide +kernel
theorem d3_9 : decode method_4_code 9 = .ok (.invokestatic 7, 3) := by decide +kernel
theorem d3_12 : decode method_4_code 12 = .ok (.ifCond .eq 5, 3) := by decide +kernel
theorem d3_15 : decode method_4_code 15 = .ok (.iconst 5, 1) := by decide +kernel
theorem d3_16 : decode method_4_code 16 = .ok (.ireturn, 1) := by decide +kernel
theorem d3_17 : decode method_4_code 17 = .ok (.iload_n 1, 1) := by decide +kernel
theorem d3_18 : decode method_4_code 18 = .ok (.iconst 5, 1) := by decide +kernel
theorem d3_19 : decode method_4_code 19 = .ok (.if_icmp .lt 14, 3) := by decide +kernel
theorem d3_22 : decode method_4_code 22 = .ok (.aload_n 0, 1) := by decide +kernel
theorem d3_23 : decode method_4_code 23 = .ok (.iload_n 1, 1) := by decide +kernel
theorem d3_24 : decode method_4_code 24 = .ok (.iconst 4, 1) := by decide +kernel
theorem d3_25 : decode method_4_code 25 = .ok (.invokestatic 7, 3) := by decide +kernel
theorem d3_28 : decode method_4_code 28 = .ok (.ifCond .eq 5, 3) := by decide +kernel
theorem d3_31 : decode method_4_code 31 = .ok (.iconst 4, 1) := by decide +kernel
theorem d3_32 : decode method_4_code 32 = .ok (.ireturn, 1) := by decide +kernel
theorem d3_33 : decode method_4_code 33 = .ok (.iload_n 1, 1) := by decide +kernel
theorem d3_34 : decode method_4_code 34 = .ok (.iconst 4, 1) := by decide +kernel
theorem d3_35 : decode method_4_code 35 = .ok (.if_icmp .lt 14, 3) := by decide +kernel
theorem d3_38 : decode method_4_code 38 = .ok (.aload_n 0, 1) := by decide +kernel
theorem d3_39 : decode method_4_code 39 = .ok (.iload_n 1, 1) := by decide +kernel
theorem d3_40 : decode method_4_code 40 = .ok (.iconst 3, 1) := by decide +kernel
theorem d3_41 : decode method_4_code 41 = .ok (.invokestatic 7, 3) := by decide +kernel
theorem d3_44 : decode method_4_code 44 = .ok (.ifCond .eq 5, 3) := by decide +kernel
theorem d3_47 : decode method_4_code 47 = .ok (.iconst 3, 1) := by decide +kernel
theorem d3_48 : decode method_4_code 48 = .ok (.ireturn, 1) := by decide +kernel
theorem d3_49 : decode method_4_code 49 = .ok (.iload_n 1, 1) := by decide +kernel
theorem d3_50 : decode method_4_code 50 = .ok (.iconst 3, 1) := by decide +kernel
theorem d3_51 : decode method_4_code 51 = .ok (.if_icmp .lt 14, 3) := by decide +kernel
theorem d3_54 : decode method_4_code 54 = .ok (.aload_n 0, 1) := by decide +kernel
theorem d3_55 : decode method_4_code 55 = .ok (.iload_n 1, 1) := by decide +kernel
theorem d3_56 : decode method_4_code 56 = .ok (.iconst 2, 1) := by decide +kernel
theorem d3_57 : decode method_4_code 57 = .ok (.invokestatic 7, 3) := by decide +kernel
theorem d3_60 : decode method_4_code 60 = .ok (.ifCond .eq 5, 3) := by decide +kernel
theorem d3_63 : decode method_4_code 63 = .ok (.iconst 2, 1) := by decide +kernel
theorem d3_64 : decode method_4_code 64 = .ok (.ireturn, 1) := by decide +kernel
theorem d3_65 : decode method_4_code 65 = .ok (.iload_n 1, 1) := by decide +kernel
theorem d3_66 : decode method_4_code 66 = .ok (.iconst 2, 1) := by decide +kernel
theorem d3_67 : decode method_4_code 67 = .ok (.if_icmp .lt 14, 3) := by decide +kernel
theorem d3_70 : decode method_4_code 70 = .ok (.aload_n 0, 1) := by decide +kernel
theorem d3_71 : decode method_4_code 71 = .ok (.iload_n 1, 1) := by decide +kernel
theorem d3_72 : decode method_4_code 72 = .ok (.iconst 1, 1) := by decide +kernel
theorem d3_73 : decode method_4_code 73 = .ok (.invokestatic 7, 3) := by decide +kernel
theorem d3_76 : decode method_4_code 76 = .ok (.ifCond .eq 5, 3) := by decide +kernel
theorem d3_79 : decode method_4_code 79 = .ok (.iconst 1, 1) := by decide +kernel
theorem d3_80 : decode method_4_code 80 = .ok (.ireturn, 1) := by decide +kernel
theorem d3_81 : decode method_4_code 81 = .ok (.iconst 0, 1) := by decide +kernel
theorem d3_82 : decode method_4_code 82 = .ok (.ireturn, 1) := by decide +kernel
theorem pd3 : parseMethodDescriptor "([II)I" = some ⟨[(.array .int), .int], some .int⟩ := by decide +kernel
theorem pn3 : plainName "com/example/ioconic/ioconic/expr/LanguageBordersPinLaw" = true := by first | (simp [plainName, overriddenIn]; done) | decide +kernel
theorem ef3 (m : MethodId) (x0 : Addr) (x1 : Int32) : entryFrame m #[(.ref x0), (.int x1)] 2 = mkF m 0 #[.val (.ref x0), .val (.int x1)] [] := by first | (simp [entryFrame, mkF, argsToLocals, Value.category]; done) | rfl
set_option maxRecDepth 65536 in
set_option maxHeartbeats 40000000 in
theorem rm3 (l : Launch) (Z : State) (a0 : Array Value) (hw : ∀ d ∈ tables_1, d.before a0 Z = true) (ws : List Jvm.Cond) (t : Addr) (L : Int32) (h0 : Heap) (n0 : Nat) (Z0 : n0 ≤ h0.size) (n : Nat) (f : Nat → Int32) (Ln : Nat) (A : own_Ar Z h0 t n f) (hL : L.toInt = Ln) (h1 : 1 ≤ Ln) (h2 : Ln ≤ n) (h3 : Ln ≤ 6) :
    own_Con l Z (⟨"com/example/ioconic/ioconic/expr/LanguageBordersPinLaw", "border", "([II)I"⟩ : MethodName) method_4_code 2 (some .int) ws ({ frames := 1, cells := 0, slots := 0, locals := 14 } : Room) #[(.ref t), (.int L)] h0 (own_PI (own_PB f Ln) h0 n0) := by
  refine own_body (plainFor_of_name pn3) ?_
  intro p e s m below meth c s₁ hx hby hml0 hZ hown0 hnm0 hret0 hk e0 X0
  have hown : s.vm.findClass "com/example/ioconic/ioconic/expr/LanguageBordersPinLaw" = some m.cls := hown0
  have hnm : meth.name = "border" := hnm0
  have hret : meth.sig.returnType = (some .int) := hret0
  have hml : c.maxLocals = 2 := hml0
  have N0 := Fr.nil n0
  refine own_cast (ef3 m t L) ?_
  have z0 : (0 : Int32).toInt = 0 := by decide
  have z1 : (1 : Int32).toInt = 1 := by decide
  have z2 : (2 : Int32).toInt = 2 := by decide
  have z3 : (3 : Int32).toInt = 3 := by decide
  have z4 : (4 : Int32).toInt = 4 := by decide
  have z5 : (5 : Int32).toInt = 5 := by decide
  have z6 : (6 : Int32).toInt = 6 := by decide
  have J0 : ∀ (T : State) (K : List Loc), Stand p l e ({ frames := 1, cells := 0, slots := 0, locals := 14 } : Room) s m #[(.ref t), (.int L)] below meth c T K 0 0 → T.heap = h0 → Fr n0 K → (∀ k, 0 < k → k < Ln → ¬ own_pre f Ln k) → own_Go p e below s ({ frames := 1, cells := 0, slots := 0, locals := 14 } : Room).cells ({ frames := 1, cells := 0, slots := 0, locals := 14 } : Room).slots (own_PI (own_PB f Ln) h0 n0) T (mkF m 81 #[.val (.ref t), .val (.int L)] []) := by
    intro T K X eT N mx
    refine own_go (T' := T) (g' := (mkF m 82 #[.val (.ref t), .val (.int L)] [(.int (0 : Int32))])) (fun t_ k_ => ?_) ?_
    · refine XS.iconst X.here hx rfl (hb hby d3_81) ?_
      show Steps p.tables e below (T.setTop (mkF m 82 #[.val (.ref t), .val (.int L)] [(.int (0 : Int32))])) _
      exact k_
    exact own_retI X hx hret hk (hb hby d3_82) (by decide) (by decide) ⟨_, rfl, ⟨0, z0, h1, fun j hj => absurd hj (Nat.not_lt_zero _), mx⟩, N, eT⟩
  have J1 : ∀ (T : State) (K : List Loc), Stand p l e ({ frames := 1, cells := 0, slots := 0, locals := 14 } : Room) s m #[(.ref t), (.int L)] below meth c T K 0 0 → T.heap = h0 → Fr n0 K → (∀ k, 1 < k → k < Ln → ¬ own_pre f Ln k) → own_Go p e below s ({ frames := 1, cells := 0, slots := 0, locals := 14 } : Room).cells ({ frames := 1, cells := 0, slots := 0, locals := 14 } : Room).slots (own_PI (own_PB f Ln) h0 n0) T (mkF m 65 #[.val (.ref t), .val (.int L)] []) := by
    intro T K X eT N mx
    refine own_go (T' := T) (g' := (mkF m 67 #[.val (.ref t), .val (.int L)] [(.int (2 : Int32)), (.int L)])) (fun t_ k_ => ?_) ?_
    · refine XS.iloadN X.here hx rfl (hb hby d3_65) rfl ?_
      show Steps p.tables e below (T.setTop (mkF m 66 #[.val (.ref t), .val (.int L)] [(.int L)])) _
      refine XS.iconst X.here hx rfl (hb hby d3_66) ?_
      show Steps p.tables e below (T.setTop (mkF m 67 #[.val (.ref t), .val (.int L)] [(.int (2 : Int32)), (.int L)])) _
      exact k_
    by_cases c1 : L < (2 : Int32)
    · refine own_go (T' := T) (g' := (mkF m 81 #[.val (.ref t), .val (.int L)] [])) (fun t_ k_ => ?_) ?_
      · refine XS.icmpYes X.here hx rfl (pc0 := 67) (pc' := 81) rfl (hb hby d3_67) rfl (tlt c1).1 (by decide) (by decide) ?_
        show Steps p.tables e below (T.setTop (mkF m 81 #[.val (.ref t), .val (.int L)] [])) _
        exact k_
      exact J0 T K X eT N (fun k q r => mx k (by rw [Int32.lt_iff_toInt_lt] at c1; omega) r)
    · refine own_go (T' := T) (g' := (mkF m 70 #[.val (.ref t), .val (.int L)] [])) (fun t_ k_ => ?_) ?_
      · refine XS.icmpNo X.here hx rfl (hb hby d3_67) rfl (flt c1).1 ?_
        show Steps p.tables e below (T.setTop (mkF m 70 #[.val (.ref t), .val (.int L)] [])) _
        exact k_
      have c1' : 1 < Ln := by rw [Int32.lt_iff_toInt_lt] at c1; omega
      refine own_go (T' := T) (g' := (mkF m 73 #[.val (.ref t), .val (.int L)] [(.int (1 : Int32)), (.int L), (.ref t)])) (fun t_ k_ => ?_) ?_
      · refine XS.aloadN X.here hx rfl (hb hby d3_70) rfl rfl ?_
        show Steps p.tables e below (T.setTop (mkF m 71 #[.val (.ref t), .val (.int L)] [(.ref t)])) _
        refine XS.iloadN X.here hx rfl (hb hby d3_71) rfl ?_
        show Steps p.tables e below (T.setTop (mkF m 72 #[.val (.ref t), .val (.int L)] [(.int L), (.ref t)])) _
        refine XS.iconst X.here hx rfl (hb hby d3_72) ?_
        show Steps p.tables e below (T.setTop (mkF m 73 #[.val (.ref t), .val (.int L)] [(.int (1 : Int32)), (.int L), (.ref t)])) _
        exact k_
      refine own_callS (y := (⟨"com/example/ioconic/ioconic/expr/LanguageBordersPinLaw", "eq", "([III)Z"⟩ : MethodName)) (W := 0) (rm := ({ frames := 0, cells := 0, slots := 0, locals := 0 } : Room)) (argsL := [(.ref t), (.int L), (.int (1 : Int32))]) (rest := []) X hx hZ hown (hw _ (List.mem_of_getElem? (i := 13) rfl)) (hw _ (List.mem_of_getElem? (i := 14) rfl)) (hw _ (List.mem_of_getElem? (i := 8) rfl)) (hw _ (List.mem_of_getElem? (i := 15) rfl)) (by decide) (rm4 l Z a0 hw [] t L (1 : Int32) h0 n0 Z0 n f Ln 1 A hL z1 c1' h2 (by decide)) (by decide) (by decide) eT (by decide) (by decide) rfl (by rw [hml]; rfl) (lenOf pd4 rfl) rfl (by show 2 * 0 + _ ≤ _; exact Nat.le_of_eq rfl) (hb hby d3_73) ?_
      rintro _ T1 L1 X1 ⟨r1, rfl, hr1, N1, e1⟩
      show own_Go p e below s ({ frames := 1, cells := 0, slots := 0, locals := 14 } : Room).cells ({ frames := 1, cells := 0, slots := 0, locals := 14 } : Room).slots (own_PI (own_PB f Ln) h0 n0) T1 (mkF m 76 #[.val (.ref t), .val (.int L)] [(.int r1)])
      by_cases c2 : r1 = (0 : Int32)
      · refine own_go (T' := T1) (g' := (mkF m 81 #[.val (.ref t), .val (.int L)] [])) (fun t_ k_ => ?_) ?_
        · refine XS.ifYes X1.here hx rfl (pc0 := 76) (pc' := 81) rfl (hb hby d3_76) rfl ((if0 _ _).trans (teq c2).1) (by decide) (by decide) ?_
          show Steps p.tables e below (T1.setTop (mkF m 81 #[.val (.ref t), .val (.int L)] [])) _
          exact k_
        have np : ¬ own_pre f Ln 1 := by rcases hr1 with ⟨y, -⟩ | ⟨-, y⟩; exact absurd (y.symm.trans c2) (by decide); exact y
        exact J0 T1 _ X1 e1 (Fr.app N N1) (fun k q r => by rcases Nat.lt_or_ge 1 k with y | y; exact mx k y r; obtain rfl : k = 1 := (by omega); exact np)
      · refine own_go (T' := T1) (g' := (mkF m 80 #[.val (.ref t), .val (.int L)] [(.int (1 : Int32))])) (fun t_ k_ => ?_) ?_
        · refine XS.ifNo X1.here hx rfl (hb hby d3_76) rfl ((if0 _ _).trans (feq c2).1) ?_
          show Steps p.tables e below (T1.setTop (mkF m 79 #[.val (.ref t), .val (.int L)] [])) _
          refine XS.iconst X1.here hx rfl (hb hby d3_79) ?_
          show Steps p.tables e below (T1.setTop (mkF m 80 #[.val (.ref t), .val (.int L)] [(.int (1 : Int32))])) _
          exact k_
        have yp : own_pre f Ln 1 := by rcases hr1 with ⟨-, y⟩ | ⟨y, -⟩; exact y; exact absurd y c2
        exact own_retI X1 hx hret hk (hb hby d3_80) (by decide) (by decide) ⟨_, rfl, ⟨1, z1, c1', yp, mx⟩, Fr.app N N1, e1⟩
  have J2 : ∀ (T : State) (K : List Loc), Stand p l e ({ frames := 1, cells := 0, slots := 0, locals := 14 } : Room) s m #[(.ref t), (.int L)] below meth c T K 0 0 → T.heap = h0 → Fr n0 K → (∀ k, 2 < k → k < Ln → ¬ own_pre f Ln k) → own_Go p e below s ({ frames := 1, cells := 0, slots := 0, locals := 14 } : Room).cells ({ frames := 1, cells := 0, slots := 0, locals := 14 } : Room).slots (own_PI (own_PB f Ln) h0 n0) T (mkF m 49 #[.val (.ref t), .val (.int L)] []) := by
    intro T K X eT N mx
    refine own_go (T' := T) (g' := (mkF m 51 #[.val (.ref t), .val (.int L)] [(.int (3 : Int32)), (.int L)])) (fun t_ k_ => ?_) ?_
    · refine XS.iloadN X.here hx rfl (hb hby d3_49) rfl ?_
      show Steps p.tables e below (T.setTop (mkF m 50 #[.val (.ref t), .val (.int L)] [(.int L)])) _
      refine XS.iconst X.here hx rfl (hb hby d3_50) ?_
      show Steps p.tables e below (T.setTop (mkF m 51 #[.val (.ref t), .val (.int L)] [(.int (3 : Int32)), (.int L)])) _
      exact k_
    by_cases c1 : L < (3 : Int32)
    · refine own_go (T' := T) (g' := (mkF m 65 #[.val (.ref t), .val (.int L)] [])) (fun t_ k_ => ?_) ?_
      · refine XS.icmpYes X.here hx rfl (pc0 := 51) (pc' := 65) rfl (hb hby d3_51) rfl (tlt c1).1 (by decide) (by decide) ?_
        show Steps p.tables e below (T.setTop (mkF m 65 #[.val (.ref t), .val (.int L)] [])) _
        exact k_
      exact J1 T K X eT N (fun k q r => mx k (by rw [Int32.lt_iff_toInt_lt] at c1; omega) r)
    · refine own_go (T' := T) (g' := (mkF m 54 #[.val (.ref t), .val (.int L)] [])) (fun t_ k_ => ?_) ?_
      · refine XS.icmpNo X.here hx rfl (hb hby d3_51) rfl (flt c1).1 ?_
        show Steps p.tables e below (T.setTop (mkF m 54 #[.val (.ref t), .val (.int L)] [])) _
        exact k_
      have c1' : 2 < Ln := by rw [Int32.lt_iff_toInt_lt] at c1; omega
      refine own_go (T' := T) (g' := (mkF m 57 #[.val (.ref t), .val (.int L)] [(.int (2 : Int32)), (.int L), (.ref t)])) (fun t_ k_ => ?_) ?_
      · refine XS.aloadN X.here hx rfl (hb hby d3_54) rfl rfl ?_
        show Steps p.tables e below (T.setTop (mkF m 55 #[.val (.ref t), .val (.int L)] [(.ref t)])) _
        refine XS.iloadN X.here hx rfl (hb hby d3_55) rfl ?_
        show Steps p.tables e below (T.setTop (mkF m 56 #[.val (.ref t), .val (.int L)] [(.int L), (.ref t)])) _
        refine XS.iconst X.here hx rfl (hb hby d3_56) ?_
        show Steps p.tables e below (T.setTop (mkF m 57 #[.val (.ref t), .val (.int L)] [(.int (2 : Int32)), (.int L), (.ref t)])) _
        exact k_
      refine own_callS (y := (⟨"com/example/ioconic/ioconic/expr/LanguageBordersPinLaw", "eq", "([III)Z"⟩ : MethodName)) (W := 0) (rm := ({ frames := 0, cells := 0, slots := 0, locals := 0 } : Room)) (argsL := [(.ref t), (.int L), (.int (2 : Int32))]) (rest := []) X hx hZ hown (hw _ (List.mem_of_getElem? (i := 13) rfl)) (hw _ (List.mem_of_getElem? (i := 14) rfl)) (hw _ (List.mem_of_getElem? (i := 8) rfl)) (hw _ (List.mem_of_getElem? (i := 15) rfl)) (by decide) (rm4 l Z a0 hw [] t L (2 : Int32) h0 n0 Z0 n f Ln 2 A hL z2 c1' h2 (by decide)) (by decide) (by decide) eT (by decide) (by decide) rfl (by rw [hml]; rfl) (lenOf pd4 rfl) rfl (by show 2 * 0 + _ ≤ _; exact Nat.le_of_eq rfl) (hb hby d3_57) ?_
      rintro _ T2 L2 X2 ⟨r2, rfl, hr2, N2, e2⟩
      show own_Go p e below s ({ frames := 1, cells := 0, slots := 0, locals := 14 } : Room).cells ({ frames := 1, cells := 0, slots := 0, locals := 14 } : Room).slots (own_PI (own_PB f Ln) h0 n0) T2 (mkF m 60 #[.val (.ref t), .val (.int L)] [(.int r2)])
      by_cases c2 : r2 = (0 : Int32)
      · refine own_go (T' := T2) (g' := (mkF m 65 #[.val (.ref t), .val (.int L)] [])) (fun t_ k_ => ?_) ?_
        · refine XS.ifYes X2.here hx rfl (pc0 := 60) (pc' := 65) rfl (hb hby d3_60) rfl ((if0 _ _).trans (teq c2).1) (by decide) (by decide) ?_
          show Steps p.tables e below (T2.setTop (mkF m 65 #[.val (.ref t), .val (.int L)] [])) _
          exact k_
        have np : ¬ own_pre f Ln 2 := by rcases hr2 with ⟨y, -⟩ | ⟨-, y⟩; exact absurd (y.symm.trans c2) (by decide); exact y
        exact J1 T2 _ X2 e2 (Fr.app N N2) (fun k q r => by rcases Nat.lt_or_ge 2 k with y | y; exact mx k y r; obtain rfl : k = 2 := (by omega); exact np)
      · refine own_go (T' := T2) (g' := (mkF m 64 #[.val (.ref t), .val (.int L)] [(.int (2 : Int32))])) (fun t_ k_ => ?_) ?_
        · refine XS.ifNo X2.here hx rfl (hb hby d3_60) rfl ((if0 _ _).trans (feq c2).1) ?_
          show Steps p.tables e below (T2.setTop (mkF m 63 #[.val (.ref t), .val (.int L)] [])) _
          refine XS.iconst X2.here hx rfl (hb hby d3_63) ?_
          show Steps p.tables e below (T2.setTop (mkF m 64 #[.val (.ref t), .val (.int L)] [(.int (2 : Int32))])) _
          exact k_
        have yp : own_pre f Ln 2 := by rcases hr2 with ⟨-, y⟩ | ⟨y, -⟩; exact y; exact absurd y c2
        exact own_retI X2 hx hret hk (hb hby d3_64) (by decide) (by decide) ⟨_, rfl, ⟨2, z2, c1', yp, mx⟩, Fr.app N N2, e2⟩
  have J3 : ∀ (T : State) (K : List Loc), Stand p l e ({ frames := 1, cells := 0, slots := 0, locals := 14 } : Room) s m #[(.ref t), (.int L)] below meth c T K 0 0 → T.heap = h0 → Fr n0 K → (∀ k, 3 < k → k < Ln → ¬ own_pre f Ln k) → own_Go p e below s ({ frames := 1, cells := 0, slots := 0, locals := 14 } : Room).cells ({ frames := 1, cells := 0, slots := 0, locals := 14 } : Room).slots (own_PI (own_PB f Ln) h0 n0) T (mkF m 33 #[.val (.ref t), .val (.int L)] []) := by
    intro T K X eT N mx
    refine own_go (T' := T) (g' := (mkF m 35 #[.val (.ref t), .val (.int L)] [(.int (4 : Int32)), (.int L)])) (fun t_ k_ => ?_) ?_
    · refine XS.iloadN X.here hx rfl (hb hby d3_33) rfl ?_
      show Steps p.tables e below (T.setTop (mkF m 34 #[.val (.ref t), .val (.int L)] [(.int L)])) _
      refine XS.iconst X.here hx rfl (hb hby d3_34) ?_
      show Steps p.tables e below (T.setTop (mkF m 35 #[.val (.ref t), .val (.int L)] [(.int (4 : Int32)), (.int L)])) _
      exact k_
    by_cases c1 : L < (4 : Int32)
    · refine own_go (T' := T) (g' := (mkF m 49 #[.val (.ref t), .val (.int L)] [])) (fun t_ k_ => ?_) ?_
      · refine XS.icmpYes X.here hx rfl (pc0 := 35) (pc' := 49) rfl (hb hby d3_35) rfl (tlt c1).1 (by decide) (by decide) ?_
        show Steps p.tables e below (T.setTop (mkF m 49 #[.val (.ref t), .val (.int L)] [])) _
        exact k_
      exact J2 T K X eT N (fun k q r => mx k (by rw [Int32.lt_iff_toInt_lt] at c1; omega) r)
    · refine own_go (T' := T) (g' := (mkF m 38 #[.val (.ref t), .val (.int L)] [])) (fun t_ k_ => ?_) ?_
      · refine XS.icmpNo X.here hx rfl (hb hby d3_35) rfl (flt c1).1 ?_
        show Steps p.tables e below (T.setTop (mkF m 38 #[.val (.ref t), .val (.int L)] [])) _
        exact k_
      have c1' : 3 < Ln := by rw [Int32.lt_iff_toInt_lt] at c1; omega
      refine own_go (T' := T) (g' := (mkF m 41 #[.val (.ref t), .val (.int L)] [(.int (3 : Int32)), (.int L), (.ref t)])) (fun t_ k_ => ?_) ?_
      · refine XS.aloadN X.here hx rfl (hb hby d3_38) rfl rfl ?_
        show Steps p.tables e below (T.setTop (mkF m 39 #[.val (.ref t), .val (.int L)] [(.ref t)])) _
        refine XS.iloadN X.here hx rfl (hb hby d3_39) rfl ?_
        show Steps p.tables e below (T.setTop (mkF m 40 #[.val (.ref t), .val (.int L)] [(.int L), (.ref t)])) _
        refine XS.iconst X.here hx rfl (hb hby d3_40) ?_
        show Steps p.tables e below (T.setTop (mkF m 41 #[.val (.ref t), .val (.int L)] [(.int (3 : Int32)), (.int L), (.ref t)])) _
        exact k_
      refine own_callS (y := (⟨"com/example/ioconic/ioconic/expr/LanguageBordersPinLaw", "eq", "([III)Z"⟩ : MethodName)) (W := 0) (rm := ({ frames := 0, cells := 0, slots := 0, locals := 0 } : Room)) (argsL := [(.ref t), (.int L), (.int (3 : Int32))]) (rest := []) X hx hZ hown (hw _ (List.mem_of_getElem? (i := 13) rfl)) (hw _ (List.mem_of_getElem? (i := 14) rfl)) (hw _ (List.mem_of_getElem? (i := 8) rfl)) (hw _ (List.mem_of_getElem? (i := 15) rfl)) (by decide) (rm4 l Z a0 hw [] t L (3 : Int32) h0 n0 Z0 n f Ln 3 A hL z3 c1' h2 (by decide)) (by decide) (by decide) eT (by decide) (by decide) rfl (by rw [hml]; rfl) (lenOf pd4 rfl) rfl (by show 2 * 0 + _ ≤ _; exact Nat.le_of_eq rfl) (hb hby d3_41) ?_
      rintro _ T3 L3 X3 ⟨r3, rfl, hr3, N3, e3⟩
      show own_Go p e below s ({ frames := 1, cells := 0, slots := 0, locals := 14 } : Room).cells ({ frames := 1, cells := 0, slots := 0, locals := 14 } : Room).slots (own_PI (own_PB f Ln) h0 n0) T3 (mkF m 44 #[.val (.ref t), .val (.int L)] [(.int r3)])
      by_cases c2 : r3 = (0 : Int32)
      · refine own_go (T' := T3) (g' := (mkF m 49 #[.val (.ref t), .val (.int L)] [])) (fun t_ k_ => ?_) ?_
        · refine XS.ifYes X3.here hx rfl (pc0 := 44) (pc' := 49) rfl (hb hby d3_44) rfl ((if0 _ _).trans (teq c2).1) (by decide) (by decide) ?_
          show Steps p.tables e below (T3.setTop (mkF m 49 #[.val (.ref t), .val (.int L)] [])) _
          exact k_
        have np : ¬ own_pre f Ln 3 := by rcases hr3 with ⟨y, -⟩ | ⟨-, y⟩; exact absurd (y.symm.trans c2) (by decide); exact y
        exact J2 T3 _ X3 e3 (Fr.app N N3) (fun k q r => by rcases Nat.lt_or_ge 3 k with y | y; exact mx k y r; obtain rfl : k = 3 := (by omega); exact np)
      · refine own_go (T' := T3) (g' := (mkF m 48 #[.val (.ref t), .val (.int L)] [(.int (3 : Int32))])) (fun t_ k_ => ?_) ?_
        · refine XS.ifNo X3.here hx rfl (hb hby d3_44) rfl ((if0 _ _).trans (feq c2).1) ?_
          show Steps p.tables e below (T3.setTop (mkF m 47 #[.val (.ref t), .val (.int L)] [])) _
          refine XS.iconst X3.here hx rfl (hb hby d3_47) ?_
          show Steps p.tables e below (T3.setTop (mkF m 48 #[.val (.ref t), .val (.int L)] [(.int (3 : Int32))])) _
          exact k_
        have yp : own_pre f Ln 3 := by rcases hr3 with ⟨-, y⟩ | ⟨y, -⟩; exact y; exact absurd y c2
        exact own_retI X3 hx hret hk (hb hby d3_48) (by decide) (by decide) ⟨_, rfl, ⟨3, z3, c1', yp, mx⟩, Fr.app N N3, e3⟩
  have J4 : ∀ (T : State) (K : List Loc), Stand p l e ({ frames := 1, cells := 0, slots := 0, locals := 14 } : Room) s m #[(.ref t), (.int L)] below meth c T K 0 0 → T.heap = h0 → Fr n0 K → (∀ k, 4 < k → k < Ln → ¬ own_pre f Ln k) → own_Go p e below s ({ frames := 1, cells := 0, slots := 0, locals := 14 } : Room).cells ({ frames := 1, cells := 0, slots := 0, locals := 14 } : Room).slots (own_PI (own_PB f Ln) h0 n0) T (mkF m 17 #[.val (.ref t), .val (.int L)] []) := by
    intro T K X eT N mx
    refine own_go (T' := T) (g' := (mkF m 19 #[.val (.ref t), .val (.int L)] [(.int (5 : Int32)), (.int L)])) (fun t_ k_ => ?_) ?_
    · refine XS.iloadN X.here hx rfl (hb hby d3_17) rfl ?_
      show Steps p.tables e below (T.setTop (mkF m 18 #[.val (.ref t), .val (.int L)] [(.int L)])) _
      refine XS.iconst X.here hx rfl (hb hby d3_18) ?_
      show Steps p.tables e below (T.setTop (mkF m 19 #[.val (.ref t), .val (.int L)] [(.int (5 : Int32)), (.int L)])) _
      exact k_
    by_cases c1 : L < (5 : Int32)
    · refine own_go (T' := T) (g' := (mkF m 33 #[.val (.ref t), .val (.int L)] [])) (fun t_ k_ => ?_) ?_
      · refine XS.icmpYes X.here hx rfl (pc0 := 19) (pc' := 33) rfl (hb hby d3_19) rfl (tlt c1).1 (by decide) (by decide) ?_
        show Steps p.tables e below (T.setTop (mkF m 33 #[.val (.ref t), .val (.int L)] [])) _
        exact k_
      exact J3 T K X eT N (fun k q r => mx k (by rw [Int32.lt_iff_toInt_lt] at c1; omega) r)
    · refine own_go (T' := T) (g' := (mkF m 22 #[.val (.ref t), .val (.int L)] [])) (fun t_ k_ => ?_) ?_
      · refine XS.icmpNo X.here hx rfl (hb hby d3_19) rfl (flt c1).1 ?_
        show Steps p.tables e below (T.setTop (mkF m 22 #[.val (.ref t), .val (.int L)] [])) _
        exact k_
      have c1' : 4 < Ln := by rw [Int32.lt_iff_toInt_lt] at c1; omega
      refine own_go (T' := T) (g' := (mkF m 25 #[.val (.ref t), .val (.int L)] [(.int (4 : Int32)), (.int L), (.ref t)])) (fun t_ k_ => ?_) ?_
      · refine XS.aloadN X.here hx rfl (hb hby d3_22) rfl rfl ?_
        show Steps p.tables e below (T.setTop (mkF m 23 #[.val (.ref t), .val (.int L)] [(.ref t)])) _
        refine XS.iloadN X.here hx rfl (hb hby d3_23) rfl ?_
        show Steps p.tables e below (T.setTop (mkF m 24 #[.val (.ref t), .val (.int L)] [(.int L), (.ref t)])) _
        refine XS.iconst X.here hx rfl (hb hby d3_24) ?_
        show Steps p.tables e below (T.setTop (mkF m 25 #[.val (.ref t), .val (.int L)] [(.int (4 : Int32)), (.int L), (.ref t)])) _
        exact k_
      refine own_callS (y := (⟨"com/example/ioconic/ioconic/expr/LanguageBordersPinLaw", "eq", "([III)Z"⟩ : MethodName)) (W := 0) (rm := ({ frames := 0, cells := 0, slots := 0, locals := 0 } : Room)) (argsL := [(.ref t), (.int L), (.int (4 : Int32))]) (rest := []) X hx hZ hown (hw _ (List.mem_of_getElem? (i := 13) rfl)) (hw _ (List.mem_of_getElem? (i := 14) rfl)) (hw _ (List.mem_of_getElem? (i := 8) rfl)) (hw _ (List.mem_of_getElem? (i := 15) rfl)) (by decide) (rm4 l Z a0 hw [] t L (4 : Int32) h0 n0 Z0 n f Ln 4 A hL z4 c1' h2 (by decide)) (by decide) (by decide) eT (by decide) (by decide) rfl (by rw [hml]; rfl) (lenOf pd4 rfl) rfl (by show 2 * 0 + _ ≤ _; exact Nat.le_of_eq rfl) (hb hby d3_25) ?_
      rintro _ T4 L4 X4 ⟨r4, rfl, hr4, N4, e4⟩
      show own_Go p e below s ({ frames := 1, cells := 0, slots := 0, locals := 14 } : Room).cells ({ frames := 1, cells := 0, slots := 0, locals := 14 } : Room).slots (own_PI (own_PB f Ln) h0 n0) T4 (mkF m 28 #[.val (.ref t), .val (.int L)] [(.int r4)])
      by_cases c2 : r4 = (0 : Int32)
      · refine own_go (T' := T4) (g' := (mkF m 33 #[.val (.ref t), .val (.int L)] [])) (fun t_ k_ => ?_) ?_
        · refine XS.ifYes X4.here hx rfl (pc0 := 28) (pc' := 33) rfl (hb hby d3_28) rfl ((if0 _ _).trans (teq c2).1) (by decide) (by decide) ?_
          show Steps p.tables e below (T4.setTop (mkF m 33 #[.val (.ref t), .val (.int L)] [])) _
          exact k_
        have np : ¬ own_pre f Ln 4 := by rcases hr4 with ⟨y, -⟩ | ⟨-, y⟩; exact absurd (y.symm.trans c2) (by decide); exact y
        exact J3 T4 _ X4 e4 (Fr.app N N4) (fun k q r => by rcases Nat.lt_or_ge 4 k with y | y; exact mx k y r; obtain rfl : k = 4 := (by omega); exact np)
      · refine own_go (T' := T4) (g' := (mkF m 32 #[.val (.ref t), .val (.int L)] [(.int (4 : Int32))])) (fun t_ k_ => ?_) ?_
        · refine XS.ifNo X4.here hx rfl (hb hby d3_28) rfl ((if0 _ _).trans (feq c2).1) ?_
          show Steps p.tables e below (T4.setTop (mkF m 31 #[.val (.ref t), .val (.int L)] [])) _
          refine XS.iconst X4.here hx rfl (hb hby d3_31) ?_
          show Steps p.tables e below (T4.setTop (mkF m 32 #[.val (.ref t), .val (.int L)] [(.int (4 : Int32))])) _
          exact k_
        have yp : own_pre f Ln 4 := by rcases hr4 with ⟨-, y⟩ | ⟨y, -⟩; exact y; exact absurd y c2
        exact own_retI X4 hx hret hk (hb hby d3_32) (by decide) (by decide) ⟨_, rfl, ⟨4, z4, c1', yp, mx⟩, Fr.app N N4, e4⟩
  have J5 : ∀ (T : State) (K : List Loc), Stand p l e ({ frames := 1, cells := 0, slots := 0, locals := 14 } : Room) s m #[(.ref t), (.int L)] below meth c T K 0 0 → T.heap = h0 → Fr n0 K → (∀ k, 5 < k → k < Ln → ¬ own_pre f Ln k) → own_Go p e below s ({ frames := 1, cells := 0, slots := 0, locals := 14 } : Room).cells ({ frames := 1, cells := 0, slots := 0, locals := 14 } : Room).slots (own_PI (own_PB f Ln) h0 n0) T (mkF m 0 #[.val (.ref t), .val (.int L)] []) := by
    intro T K X eT N mx
    refine own_go (T' := T) (g' := (mkF m 3 #[.val (.ref t), .val (.int L)] [(.int (6 : Int32)), (.int L)])) (fun t_ k_ => ?_) ?_
    · refine XS.iloadN X.here hx rfl (hb hby d3_0) rfl ?_
      show Steps p.tables e below (T.setTop (mkF m 1 #[.val (.ref t), .val (.int L)] [(.int L)])) _
      refine XS.bipush X.here hx rfl (hb hby d3_1) ?_
      show Steps p.tables e below (T.setTop (mkF m 3 #[.val (.ref t), .val (.int L)] [(.int (6 : Int32)), (.int L)])) _
      exact k_
    by_cases c1 : L < (6 : Int32)
    · refine own_go (T' := T) (g' := (mkF m 17 #[.val (.ref t), .val (.int L)] [])) (fun t_ k_ => ?_) ?_
      · refine XS.icmpYes X.here hx rfl (pc0 := 3) (pc' := 17) rfl (hb hby d3_3) rfl (tlt c1).1 (by decide) (by decide) ?_
        show Steps p.tables e below (T.setTop (mkF m 17 #[.val (.ref t), .val (.int L)] [])) _
        exact k_
      exact J4 T K X eT N (fun k q r => mx k (by rw [Int32.lt_iff_toInt_lt] at c1; omega) r)
    · refine own_go (T' := T) (g' := (mkF m 6 #[.val (.ref t), .val (.int L)] [])) (fun t_ k_ => ?_) ?_
      · refine XS.icmpNo X.here hx rfl (hb hby d3_3) rfl (flt c1).1 ?_
        show Steps p.tables e below (T.setTop (mkF m 6 #[.val (.ref t), .val (.int L)] [])) _
        exact k_
      have c1' : 5 < Ln := by rw [Int32.lt_iff_toInt_lt] at c1; omega
      refine own_go (T' := T) (g' := (mkF m 9 #[.val (.ref t), .val (.int L)] [(.int (5 : Int32)), (.int L), (.ref t)])) (fun t_ k_ => ?_) ?_
      · refine XS.aloadN X.here hx rfl (hb hby d3_6) rfl rfl ?_
        show Steps p.tables e below (T.setTop (mkF m 7 #[.val (.ref t), .val (.int L)] [(.ref t)])) _
        refine XS.iloadN X.here hx rfl (hb hby d3_7) rfl ?_
        show Steps p.tables e below (T.setTop (mkF m 8 #[.val (.ref t), .val (.int L)] [(.int L), (.ref t)])) _
        refine XS.iconst X.here hx rfl (hb hby d3_8) ?_
        show Steps p.tables e below (T.setTop (mkF m 9 #[.val (.ref t), .val (.int L)] [(.int (5 : Int32)), (.int L), (.ref t)])) _
        exact k_
      refine own_callS (y := (⟨"com/example/ioconic/ioconic/expr/LanguageBordersPinLaw", "eq", "([III)Z"⟩ : MethodName)) (W := 0) (rm := ({ frames := 0, cells := 0, slots := 0, locals := 0 } : Room)) (argsL := [(.ref t), (.int L), (.int (5 : Int32))]) (rest := []) X hx hZ hown (hw _ (List.mem_of_getElem? (i := 13) rfl)) (hw _ (List.mem_of_getElem? (i := 14) rfl)) (hw _ (List.mem_of_getElem? (i := 8) rfl)) (hw _ (List.mem_of_getElem? (i := 15) rfl)) (by decide) (rm4 l Z a0 hw [] t L (5 : Int32) h0 n0 Z0 n f Ln 5 A hL z5 c1' h2 (by decide)) (by decide) (by decide) eT (by decide) (by decide) rfl (by rw [hml]; rfl) (lenOf pd4 rfl) rfl (by show 2 * 0 + _ ≤ _; exact Nat.le_of_eq rfl) (hb hby d3_9) ?_
      rintro _ T5 L5 X5 ⟨r5, rfl, hr5, N5, e5⟩
      show own_Go p e below s ({ frames := 1, cells := 0, slots := 0, locals := 14 } : Room).cells ({ frames := 1, cells := 0, slots := 0, locals := 14 } : Room).slots (own_PI (own_PB f Ln) h0 n0) T5 (mkF m 12 #[.val (.ref t), .val (.int L)] [(.int r5)])
      by_cases c2 : r5 = (0 : Int32)
      · refine own_go (T' := T5) (g' := (mkF m 17 #[.val (.ref t), .val (.int L)] [])) (fun t_ k_ => ?_) ?_
        · refine XS.ifYes X5.here hx rfl (pc0 := 12) (pc' := 17) rfl (hb hby d3_12) rfl ((if0 _ _).trans (teq c2).1) (by decide) (by decide) ?_
          show Steps p.tables e below (T5.setTop (mkF m 17 #[.val (.ref t), .val (.int L)] [])) _
          exact k_
        have np : ¬ own_pre f Ln 5 := by rcases hr5 with ⟨y, -⟩ | ⟨-, y⟩; exact absurd (y.symm.trans c2) (by decide); exact y
        exact J4 T5 _ X5 e5 (Fr.app N N5) (fun k q r => by rcases Nat.lt_or_ge 5 k with y | y; exact mx k y r; obtain rfl : k = 5 := (by omega); exact np)
      · refine own_go (T' := T5) (g' := (mkF m 16 #[.val (.ref t), .val (.int L)] [(.int (5 : Int32))])) (fun t_ k_ => ?_) ?_
        · refine XS.ifNo X5.here hx rfl (hb hby d3_12) rfl ((if0 _ _).trans (feq c2).1) ?_
          show Steps p.tables e below (T5.setTop (mkF m 15 #[.val (.ref t), .val (.int L)] [])) _
          refine XS.iconst X5.here hx rfl (hb hby d3_15) ?_
          show Steps p.tables e below (T5.setTop (mkF m 16 #[.val (.ref t), .val (.int L)] [(.int (5 : Int32))])) _
          exact k_
        have yp : own_pre f Ln 5 := by rcases hr5 with ⟨-, y⟩ | ⟨y, -⟩; exact y; exact absurd y c2
        exact own_retI X5 hx hret hk (hb hby d3_16) (by decide) (by decide) ⟨_, rfl, ⟨5, z5, c1', yp, mx⟩, Fr.app N N5, e5⟩
  exact J5 _ _ X0 e0 N0 (fun k q r => by omega)
theorem d1_0 : decode prog_29_method_22_code 0 = .ok (.aload_n 0, 1) := by decide +kernel
theorem d1_1 : decode prog_29_method_22_code 1 = .ok (.arraylength, 1) := by decide +kernel
theorem d1_2 : decode prog_29_method_22_code 2 = .ok (.iconst 1, 1) := by decide +kernel
theorem d1_3 : decode prog_29_method_22_code 3 = .ok (.iadd, 1) := by decide +kernel
theorem d1_4 : decode prog_29_method_22_code 4 = .ok (.newarray .int, 2) := by decide +kernel
theorem d1_6 : decode prog_29_method_22_code 6 = .ok (.astore_n 1, 1) := by decide +kernel
theorem d1_7 : decode prog_29_method_22_code 7 = .ok (.iconst 1, 1) := by decide +kernel
theorem d1_8 : decode prog_29_method_22_code 8 = .ok (.istore_n 2, 1) := by decide +kernel
theorem d1_9 : decode prog_29_method_22_code 9 = .ok (.iconst 0, 1) := by decide +kernel
theorem d1_10 : decode prog_29_method_22_code 10 = .ok (.istore_n 3, 1) := by decide +kernel
theorem d1_11 : decode prog_29_method_22_code 11 = .ok (.iload_n 2, 1) := by decide +kernel
theorem d1_12 : decode prog_29_method_22_code 12 = .ok (.aload_n 0, 1) := by decide +kernel
theorem d1_13 : decode prog_29_method_22_code 13 = .ok (.arraylength, 1) := by decide +kernel
theorem d1_14 : decode prog_29_method_22_code 14 = .ok (.if_icmp .ge 47, 3) := by decide +kernel
theorem d1_17 : decode prog_29_method_22_code 17 = .ok (.iload_n 3, 1) := by decide +kernel
theorem d1_18 : decode prog_29_method_22_code 18 = .ok (.ifCond .le 19, 3) := by decide +kernel
theorem d1_21 : decode prog_29_method_22_code 21 = .ok (.aload_n 0, 1) := by decide +kernel
theorem d1_22 : decode prog_29_method_22_code 22 = .ok (.iload_n 2, 1) := by decide +kernel
theorem d1_23 : decode prog_29_method_22_code 23 = .ok (.iaload, 1) := by decide +kernel
theorem d1_24 : decode prog_29_method_22_code 24 = .ok (.aload_n 0, 1) := by decide +kernel
theorem d1_25 : decode prog_29_method_22_code 25 = .ok (.iload_n 3, 1) := by decide +kernel
theorem d1_26 : decode prog_29_method_22_code 26 = .ok (.iaload, 1) := by decide +kernel
theorem d1_27 : decode prog_29_method_22_code 27 = .ok (.if_icmp .eq 10, 3) := by decide +kernel
theorem d1_30 : decode prog_29_method_22_code 30 = .ok (.aload_n 1, 1) := by decide +kernel
theorem d1_31 : decode prog_29_method_22_code 31 = .ok (.iload_n 3, 1) := by decide +kernel
theorem d1_32 : decode prog_29_method_22_code 32 = .ok (.iaload, 1) := by decide +kernel
theorem d1_33 : decode prog_29_method_22_code 33 = .ok (.istore_n 3, 1) := by decide +kernel
theorem d1_34 : decode prog_29_method_22_code 34 = .ok (.goto (-17), 3) := by decide +kernel
theorem d1_37 : decode prog_29_method_22_code 37 = .ok (.aload_n 0, 1) := by decide +kernel
theorem d1_38 : decode prog_29_method_22_code 38 = .ok (.iload_n 2, 1) := by decide +kernel
theorem d1_39 : decode prog_29_method_22_code 39 = .ok (.iaload, 1) := by decide +kernel
theorem d1_40 : decode prog_29_method_22_code 40 = .ok (.aload_n 0, 1) := by decide +kernel
theorem d1_41 : decode prog_29_method_22_code 41 = .ok (.iload_n 3, 1) := by decide +kernel
theorem d1_42 : decode prog_29_method_22_code 42 = .ok (.iaload, 1) := by decide +kernel
theorem d1_43 : decode prog_29_method_22_code 43 = .ok (.if_icmp .ne 6, 3) := by decide +kernel
theorem d1_46 : decode prog_29_method_22_code 46 = .ok (.iinc 3 1, 3) := by decide +kernel
theorem d1_49 : decode prog_29_method_22_code 49 = .ok (.aload_n 1, 1) := by decide +kernel
theorem d1_50 : decode prog_29_method_22_code 50 = .ok (.iload_n 2, 1) := by decide +kernel
theorem d1_51 : decode prog_29_method_22_code 51 = .ok (.iconst 1, 1) := by decide +kernel
theorem d1_52 : decode prog_29_method_22_code 52 = .ok (.iadd, 1) := by decide +kernel
theorem d1_53 : decode prog_29_method_22_code 53 = .ok (.iload_n 3, 1) := by decide +kernel
theorem d1_54 : decode prog_29_method_22_code 54 = .ok (.iastore, 1) := by decide +kernel
theorem d1_55 : decode prog_29_method_22_code 55 = .ok (.iinc 2 1, 3) := by decide +kernel
theorem d1_58 : decode prog_29_method_22_code 58 = .ok (.goto (-47), 3) := by decide +kernel
theorem d1_61 : decode prog_29_method_22_code 61 = .ok (.aload_n 1, 1) := by decide +kernel
theorem d1_62 : decode prog_29_method_22_code 62 = .ok (.areturn, 1) := by decide +kernel
theorem pd1 : parseMethodDescriptor "([I)[I" = some ⟨[(.array .int)], some (.array .int)⟩ := by decide +kernel
theorem pn1 : plainName "com/example/ioconic/ioconic/expr/Language" = true := by first | (simp [plainName, overriddenIn]; done) | decide +kernel
theorem ef1 (m : MethodId) (x0 : Addr) : entryFrame m #[(.ref x0)] 4 = mkF m 0 #[.val (.ref x0), .unset, .unset, .unset] [] := by first | (simp [entryFrame, mkF, argsToLocals, Value.category]; done) | rfl
set_option maxRecDepth 65536 in
set_option maxHeartbeats 40000000 in
theorem own_inner {p : Program} {l : Launch} {e : Env} {R : Room} {s : State} {m : MethodId} {args : Array Value} {below : List Frame} {meth : Method} {c : Code} {cells slots C S : Nat} {Q : Option Value → Heap → List Loc → Prop} {Z : State} {t r : Addr} {n : Nat} {f : Nat → Int32} {T : State} {K : List Loc} {h : Heap} {i : Int32} {ii : Nat} {g : Nat → Int32} (hx : p.tables.exec = Jvm.exec) (hZ : Z.Warmed39 s.vm) (hby : c.code = prog_29_method_22_code) (X0 : Stand p l e R s m args below meth c T K cells slots) (e0 : T.heap = h) (At : own_Ar Z h t n f) (Ag : own_Ar Z h r (n + 1) g) (hi : i.toInt = ii) (hin : ii < n) (gB : ∀ L, 1 ≤ L → L ≤ ii → own_PB f L (g L))
    (cont : ∀ (b : Int32) (bb : Nat), b.toInt = bb → bb < ii → own_pre f ii bb → (∀ k, bb < k → k < ii → own_pre f ii k → f k ≠ f ii) → (bb = 0 ∨ f ii = f bb) → own_Go p e below s C S Q T (mkF m 37 #[.val (.ref t), .val (.ref r), .val (.int i), .val (.int b)] [])) :
    ∀ (d : Nat) (b : Int32) (bb : Nat), bb ≤ d → b.toInt = bb → bb < ii → own_pre f ii bb → (∀ k, bb < k → k < ii → own_pre f ii k → f k ≠ f ii) → own_Go p e below s C S Q T (mkF m 17 #[.val (.ref t), .val (.ref r), .val (.int i), .val (.int b)] []) := by
  have z0 : (0 : Int32).toInt = 0 := by decide
  intro d
  induction d with
  | zero =>
    intro b bb hd hbn h1 h2 h3
    refine own_go (T' := T) (g' := (mkF m 18 #[.val (.ref t), .val (.ref r), .val (.int i), .val (.int b)] [(.int b)])) (fun t_ k_ => ?_) ?_
    · refine XS.iloadN X0.here hx rfl (hb hby d1_17) rfl ?_
      show Steps p.tables e below (T.setTop (mkF m 18 #[.val (.ref t), .val (.ref r), .val (.int i), .val (.int b)] [(.int b)])) _
      exact k_
    have hf1 : ¬ ((0 : Int32) < b) := by rw [Int32.lt_iff_toInt_lt]; omega
    refine own_go (T' := T) (g' := (mkF m 37 #[.val (.ref t), .val (.ref r), .val (.int i), .val (.int b)] [])) (fun t_ k_ => ?_) ?_
    · refine XS.ifYes X0.here hx rfl (pc0 := 18) (pc' := 37) rfl (hb hby d1_18) rfl ((if0 _ _).trans (flt hf1).2.2.2) (by decide) (by decide) ?_
      show Steps p.tables e below (T.setTop (mkF m 37 #[.val (.ref t), .val (.ref r), .val (.int i), .val (.int b)] [])) _
      exact k_
    exact cont b bb hbn h1 h2 h3 (Or.inl (by omega))
  | succ d ih =>
    intro b bb hd hbn h1 h2 h3
    refine own_go (T' := T) (g' := (mkF m 18 #[.val (.ref t), .val (.ref r), .val (.int i), .val (.int b)] [(.int b)])) (fun t_ k_ => ?_) ?_
    · refine XS.iloadN X0.here hx rfl (hb hby d1_17) rfl ?_
      show Steps p.tables e below (T.setTop (mkF m 18 #[.val (.ref t), .val (.ref r), .val (.int i), .val (.int b)] [(.int b)])) _
      exact k_
    by_cases c18 : (0 : Int32) < b
    · refine own_go (T' := T) (g' := (mkF m 21 #[.val (.ref t), .val (.ref r), .val (.int i), .val (.int b)] [])) (fun t_ k_ => ?_) ?_
      · refine XS.ifNo X0.here hx rfl (hb hby d1_18) rfl ((if0 _ _).trans (tlt c18).2.2.2) ?_
        show Steps p.tables e below (T.setTop (mkF m 21 #[.val (.ref t), .val (.ref r), .val (.int i), .val (.int b)] [])) _
        exact k_
      refine own_go (T' := T) (g' := (mkF m 23 #[.val (.ref t), .val (.ref r), .val (.int i), .val (.int b)] [(.int i), (.ref t)])) (fun t_ k_ => ?_) ?_
      · refine XS.aloadN X0.here hx rfl (hb hby d1_21) rfl rfl ?_
        show Steps p.tables e below (T.setTop (mkF m 22 #[.val (.ref t), .val (.ref r), .val (.int i), .val (.int b)] [(.ref t)])) _
        refine XS.iloadN X0.here hx rfl (hb hby d1_22) rfl ?_
        show Steps p.tables e below (T.setTop (mkF m 23 #[.val (.ref t), .val (.ref r), .val (.int i), .val (.int b)] [(.int i), (.ref t)])) _
        exact k_
      refine own_iaload X0 hx hZ e0 At ii hi hin rfl rfl (hb hby d1_23) ?_
      show own_Go p e below s C S Q T (mkF m 24 #[.val (.ref t), .val (.ref r), .val (.int i), .val (.int b)] [(.int (f ii))])
      refine own_go (T' := T) (g' := (mkF m 26 #[.val (.ref t), .val (.ref r), .val (.int i), .val (.int b)] [(.int b), (.ref t), (.int (f ii))])) (fun t_ k_ => ?_) ?_
      · refine XS.aloadN X0.here hx rfl (hb hby d1_24) rfl rfl ?_
        show Steps p.tables e below (T.setTop (mkF m 25 #[.val (.ref t), .val (.ref r), .val (.int i), .val (.int b)] [(.ref t), (.int (f ii))])) _
        refine XS.iloadN X0.here hx rfl (hb hby d1_25) rfl ?_
        show Steps p.tables e below (T.setTop (mkF m 26 #[.val (.ref t), .val (.ref r), .val (.int i), .val (.int b)] [(.int b), (.ref t), (.int (f ii))])) _
        exact k_
      refine own_iaload X0 hx hZ e0 At bb hbn (by omega) rfl rfl (hb hby d1_26) ?_
      show own_Go p e below s C S Q T (mkF m 27 #[.val (.ref t), .val (.ref r), .val (.int i), .val (.int b)] [(.int (f bb)), (.int (f ii))])
      by_cases c27 : (f ii) = (f bb)
      · refine own_go (T' := T) (g' := (mkF m 37 #[.val (.ref t), .val (.ref r), .val (.int i), .val (.int b)] [])) (fun t_ k_ => ?_) ?_
        · refine XS.icmpYes X0.here hx rfl (pc0 := 27) (pc' := 37) rfl (hb hby d1_27) rfl (teq c27).1 (by decide) (by decide) ?_
          show Steps p.tables e below (T.setTop (mkF m 37 #[.val (.ref t), .val (.ref r), .val (.int i), .val (.int b)] [])) _
          exact k_
        exact cont b bb hbn h1 h2 h3 (Or.inr c27)
      · refine own_go (T' := T) (g' := (mkF m 30 #[.val (.ref t), .val (.ref r), .val (.int i), .val (.int b)] [])) (fun t_ k_ => ?_) ?_
        · refine XS.icmpNo X0.here hx rfl (hb hby d1_27) rfl (feq c27).1 ?_
          show Steps p.tables e below (T.setTop (mkF m 30 #[.val (.ref t), .val (.ref r), .val (.int i), .val (.int b)] [])) _
          exact k_
        have p0 : 0 < bb := by rw [Int32.lt_iff_toInt_lt] at c18; omega
        obtain ⟨b', hbn', B⟩ := gB bb p0 (by omega)
        refine own_go (T' := T) (g' := (mkF m 32 #[.val (.ref t), .val (.ref r), .val (.int i), .val (.int b)] [(.int b), (.ref r)])) (fun t_ k_ => ?_) ?_
        · refine XS.aloadN X0.here hx rfl (hb hby d1_30) rfl rfl ?_
          show Steps p.tables e below (T.setTop (mkF m 31 #[.val (.ref t), .val (.ref r), .val (.int i), .val (.int b)] [(.ref r)])) _
          refine XS.iloadN X0.here hx rfl (hb hby d1_31) rfl ?_
          show Steps p.tables e below (T.setTop (mkF m 32 #[.val (.ref t), .val (.ref r), .val (.int i), .val (.int b)] [(.int b), (.ref r)])) _
          exact k_
        refine own_iaload X0 hx hZ e0 Ag bb hbn (by omega) rfl rfl (hb hby d1_32) ?_
        show own_Go p e below s C S Q T (mkF m 33 #[.val (.ref t), .val (.ref r), .val (.int i), .val (.int b)] [(.int (g bb))])
        refine own_go (T' := T) (g' := (mkF m 17 #[.val (.ref t), .val (.ref r), .val (.int i), .val (.int (g bb))] [])) (fun t_ k_ => ?_) ?_
        · refine XS.istoreN X0.here hx rfl (hb hby d1_33) rfl (l' := #[.val (.ref t), .val (.ref r), .val (.int i), .val (.int (g bb))]) rfl ?_
          show Steps p.tables e below (T.setTop (mkF m 34 #[.val (.ref t), .val (.ref r), .val (.int i), .val (.int (g bb))] [])) _
          refine XS.goto X0.here hx rfl (pc0 := 34) (pc' := 17) rfl (hb hby d1_34) (by decide) (by decide) ?_
          show Steps p.tables e below (T.setTop (mkF m 17 #[.val (.ref t), .val (.ref r), .val (.int i), .val (.int (g bb))] [])) _
          exact k_
        have y := own_fall h1 h2 B c27 h3
        exact ih (g bb) b' (by have := B.1; omega) hbn' (by have := B.1; omega) y.1 y.2
    · refine own_go (T' := T) (g' := (mkF m 37 #[.val (.ref t), .val (.ref r), .val (.int i), .val (.int b)] [])) (fun t_ k_ => ?_) ?_
      · refine XS.ifYes X0.here hx rfl (pc0 := 18) (pc' := 37) rfl (hb hby d1_18) rfl ((if0 _ _).trans (flt c18).2.2.2) (by decide) (by decide) ?_
        show Steps p.tables e below (T.setTop (mkF m 37 #[.val (.ref t), .val (.ref r), .val (.int i), .val (.int b)] [])) _
        exact k_
      exact cont b bb hbn h1 h2 h3 (Or.inl (by rw [Int32.lt_iff_toInt_lt] at c18; omega))
set_option maxRecDepth 65536 in
set_option maxHeartbeats 40000000 in
theorem own_outer {p : Program} {l : Launch} {e : Env} {R : Room} {s : State} {m : MethodId} {args : Array Value} {below : List Frame} {meth : Method} {c : Code} {cells slots C S : Nat} {Q : Option Value → Heap → List Loc → Prop} {Z : State} {t r : Addr} {n : Nat} {f : Nat → Int32} {n0 : Nat} {h0 : Heap} {z : Int32} (hx : p.tables.exec = Jvm.exec) (hZ : Z.Warmed39 s.vm) (hby : c.code = prog_29_method_22_code) (hret : meth.sig.returnType = some (.array .int)) (hk : meth.locks = false) (hC : cells ≤ C) (hS : slots ≤ S) (hz : z.toInt = n) (hn : n ≤ 6) (ne : t ≠ r) (gr : n0 ≤ r) (sr : h0.size ≤ r)
    (fin : ∀ (T : State) (K : List Loc) (h : Heap) (g : Nat → Int32), T.heap = h → Fr n0 K → Keep h0 h [] → own_Ar Z h r (n + 1) g → g 0 = 0 → (∀ L, 1 ≤ L → L ≤ n → own_PB f L (g L)) → Q (some (.ref r)) T.heap K) :
    ∀ (d : Nat) (T : State) (K : List Loc) (h : Heap) (i b : Int32) (ii bb : Nat) (g : Nat → Int32), Stand p l e R s m args below meth c T K cells slots → T.heap = h → Fr n0 K → Keep h0 h [] → own_Ar Z h t n f → own_Ar Z h r (n + 1) g → i.toInt = ii → b.toInt = bb → 1 ≤ ii → n ≤ ii + d → ii ≤ 7 → own_isB f ii bb → g 0 = 0 → (∀ L, 1 ≤ L → L ≤ ii → own_PB f L (g L)) → own_Go p e below s C S Q T (mkF m 11 #[.val (.ref t), .val (.ref r), .val (.int i), .val (.int b)] []) := by
  have leave : ∀ (T : State) (K : List Loc) (h : Heap) (i b : Int32) (ii : Nat) (g : Nat → Int32), Stand p l e R s m args below meth c T K cells slots → T.heap = h → Fr n0 K → Keep h0 h [] → own_Ar Z h t n f → own_Ar Z h r (n + 1) g → g 0 = 0 → (∀ L, 1 ≤ L → L ≤ ii → own_PB f L (g L)) → n ≤ ii → ¬ i < z → own_Go p e below s C S Q T (mkF m 11 #[.val (.ref t), .val (.ref r), .val (.int i), .val (.int b)] []) := by
    intro T K h i b ii g X0 e0 N KK At Ag g0 gB hd hlt
    refine own_go (T' := T) (g' := (mkF m 13 #[.val (.ref t), .val (.ref r), .val (.int i), .val (.int b)] [(.ref t), (.int i)])) (fun t_ k_ => ?_) ?_
    · refine XS.iloadN X0.here hx rfl (hb hby d1_11) rfl ?_
      show Steps p.tables e below (T.setTop (mkF m 12 #[.val (.ref t), .val (.ref r), .val (.int i), .val (.int b)] [(.int i)])) _
      refine XS.aloadN X0.here hx rfl (hb hby d1_12) rfl rfl ?_
      show Steps p.tables e below (T.setTop (mkF m 13 #[.val (.ref t), .val (.ref r), .val (.int i), .val (.int b)] [(.ref t), (.int i)])) _
      exact k_
    refine own_alen X0 hx hZ e0 At z hz rfl rfl (hb hby d1_13) ?_
    show own_Go p e below s C S Q T (mkF m 14 #[.val (.ref t), .val (.ref r), .val (.int i), .val (.int b)] [(.int z), (.int i)])
    refine own_go (T' := T) (g' := (mkF m 62 #[.val (.ref t), .val (.ref r), .val (.int i), .val (.int b)] [(.ref r)])) (fun t_ k_ => ?_) ?_
    · refine XS.icmpYes X0.here hx rfl (pc0 := 14) (pc' := 61) rfl (hb hby d1_14) rfl (flt hlt).2.1 (by decide) (by decide) ?_
      show Steps p.tables e below (T.setTop (mkF m 61 #[.val (.ref t), .val (.ref r), .val (.int i), .val (.int b)] [])) _
      refine XS.aloadN X0.here hx rfl (hb hby d1_61) rfl rfl ?_
      show Steps p.tables e below (T.setTop (mkF m 62 #[.val (.ref t), .val (.ref r), .val (.int i), .val (.int b)] [(.ref r)])) _
      exact k_
    exact own_retA (t := .array .int) X0 hx rfl hret hk (hb hby d1_62) hC hS (fin T K h g e0 N KK Ag g0 (fun L q q' => gB L q (by omega)))
  intro d
  induction d with
  | zero =>
    intro T K h i b ii bb g X0 e0 N KK At Ag hi hbn h1 hd h7 B g0 gB
    exact leave T K h i b ii g X0 e0 N KK At Ag g0 gB (by omega) (by rw [Int32.lt_iff_toInt_lt]; omega)
  | succ d ih =>
    intro T K h i b ii bb g X0 e0 N KK At Ag hi hbn h1 hd h7 B g0 gB
    by_cases hlt : i < z
    case neg => exact leave T K h i b ii g X0 e0 N KK At Ag g0 gB (by rw [Int32.lt_iff_toInt_lt] at hlt; omega) hlt
    have hin : ii < n := by rw [Int32.lt_iff_toInt_lt] at hlt; omega
    have e1 : (1 : Int32).toInt = 1 := by decide
    have hi1 : (i + (1 : Int32)).toInt = ((ii + 1 : Nat) : Int) := own_inc hi (by omega)
    have J49 : ∀ (b : Int32) (bb : Nat), b.toInt = bb → own_isB f (ii + 1) bb → own_Go p e below s C S Q T (mkF m 49 #[.val (.ref t), .val (.ref r), .val (.int i), .val (.int b)] []) := by
      intro b bb hbn B
      refine own_go (T' := T) (g' := (mkF m 54 #[.val (.ref t), .val (.ref r), .val (.int i), .val (.int b)] [(.int b), (.int (i + (1 : Int32))), (.ref r)])) (fun t_ k_ => ?_) ?_
      · refine XS.aloadN X0.here hx rfl (hb hby d1_49) rfl rfl ?_
        show Steps p.tables e below (T.setTop (mkF m 50 #[.val (.ref t), .val (.ref r), .val (.int i), .val (.int b)] [(.ref r)])) _
        refine XS.iloadN X0.here hx rfl (hb hby d1_50) rfl ?_
        show Steps p.tables e below (T.setTop (mkF m 51 #[.val (.ref t), .val (.ref r), .val (.int i), .val (.int b)] [(.int i), (.ref r)])) _
        refine XS.iconst X0.here hx rfl (hb hby d1_51) ?_
        show Steps p.tables e below (T.setTop (mkF m 52 #[.val (.ref t), .val (.ref r), .val (.int i), .val (.int b)] [(.int (1 : Int32)), (.int i), (.ref r)])) _
        refine XS.iadd X0.here hx rfl (hb hby d1_52) rfl ?_
        show Steps p.tables e below (T.setTop (mkF m 53 #[.val (.ref t), .val (.ref r), .val (.int i), .val (.int b)] [(.int (i + (1 : Int32))), (.ref r)])) _
        refine XS.iloadN X0.here hx rfl (hb hby d1_53) rfl ?_
        show Steps p.tables e below (T.setTop (mkF m 54 #[.val (.ref t), .val (.ref r), .val (.int i), .val (.int b)] [(.int b), (.int (i + (1 : Int32))), (.ref r)])) _
        exact k_
      refine own_iastore X0 hx hZ e0 Ag (ii + 1) hi1 (by omega) rfl rfl (hb hby d1_54) ?_
      intro T2 h2 X2 e2 W2 A2
      show own_Go p e below s C S Q T2 (mkF m 55 #[.val (.ref t), .val (.ref r), .val (.int i), .val (.int b)] [])
      refine own_go (T' := T2) (g' := (mkF m 11 #[.val (.ref t), .val (.ref r), .val (.int (i + (1 : Int32))), .val (.int b)] [])) (fun t_ k_ => ?_) ?_
      · refine XS.iinc X2.here hx rfl (hb hby d1_55) rfl (l' := #[.val (.ref t), .val (.ref r), .val (.int (i + (1 : Int32))), .val (.int b)]) rfl ?_
        show Steps p.tables e below (T2.setTop (mkF m 58 #[.val (.ref t), .val (.ref r), .val (.int (i + (1 : Int32))), .val (.int b)] [])) _
        refine XS.goto X2.here hx rfl (pc0 := 58) (pc' := 11) rfl (hb hby d1_58) (by decide) (by decide) ?_
        show Steps p.tables e below (T2.setTop (mkF m 11 #[.val (.ref t), .val (.ref r), .val (.int (i + (1 : Int32))), .val (.int b)] [])) _
        exact k_
      refine ih T2 _ _ (i + 1) b (ii + 1) bb (own_upd g (ii + 1) b) X2 e2 (Fr.snoc X2 N gr) (KK.wr W2 (Or.inr sr)) (At.other W2 ne) A2 hi1 hbn (by omega) (by omega) (by omega) B ?_ ?_
      · show (if 0 = ii + 1 then b else g 0) = 0
        rw [if_neg (by omega)]; exact g0
      · intro L q q'
        show own_PB f L (if L = ii + 1 then b else g L)
        by_cases y : L = ii + 1
        · rw [if_pos y, y]; exact ⟨bb, hbn, B⟩
        · rw [if_neg y]; exact gB L q (by omega)
    refine own_go (T' := T) (g' := (mkF m 13 #[.val (.ref t), .val (.ref r), .val (.int i), .val (.int b)] [(.ref t), (.int i)])) (fun t_ k_ => ?_) ?_
    · refine XS.iloadN X0.here hx rfl (hb hby d1_11) rfl ?_
      show Steps p.tables e below (T.setTop (mkF m 12 #[.val (.ref t), .val (.ref r), .val (.int i), .val (.int b)] [(.int i)])) _
      refine XS.aloadN X0.here hx rfl (hb hby d1_12) rfl rfl ?_
      show Steps p.tables e below (T.setTop (mkF m 13 #[.val (.ref t), .val (.ref r), .val (.int i), .val (.int b)] [(.ref t), (.int i)])) _
      exact k_
    refine own_alen X0 hx hZ e0 At z hz rfl rfl (hb hby d1_13) ?_
    show own_Go p e below s C S Q T (mkF m 14 #[.val (.ref t), .val (.ref r), .val (.int i), .val (.int b)] [(.int z), (.int i)])
    refine own_go (T' := T) (g' := (mkF m 17 #[.val (.ref t), .val (.ref r), .val (.int i), .val (.int b)] [])) (fun t_ k_ => ?_) ?_
    · refine XS.icmpNo X0.here hx rfl (hb hby d1_14) rfl (tlt hlt).2.1 ?_
      show Steps p.tables e below (T.setTop (mkF m 17 #[.val (.ref t), .val (.ref r), .val (.int i), .val (.int b)] [])) _
      exact k_
    refine own_inner hx hZ hby X0 e0 At Ag hi hin gB ?_ bb b bb (Nat.le_refl _) hbn B.1 B.2.1 (fun k q q' y => absurd y (B.2.2 k q q'))
    intro b bb hbn h1 h2 h3 h4
    show own_Go p e below s C S Q T (mkF m 37 #[.val (.ref t), .val (.ref r), .val (.int i), .val (.int b)] [])
    refine own_go (T' := T) (g' := (mkF m 39 #[.val (.ref t), .val (.ref r), .val (.int i), .val (.int b)] [(.int i), (.ref t)])) (fun t_ k_ => ?_) ?_
    · refine XS.aloadN X0.here hx rfl (hb hby d1_37) rfl rfl ?_
      show Steps p.tables e below (T.setTop (mkF m 38 #[.val (.ref t), .val (.ref r), .val (.int i), .val (.int b)] [(.ref t)])) _
      refine XS.iloadN X0.here hx rfl (hb hby d1_38) rfl ?_
      show Steps p.tables e below (T.setTop (mkF m 39 #[.val (.ref t), .val (.ref r), .val (.int i), .val (.int b)] [(.int i), (.ref t)])) _
      exact k_
    refine own_iaload X0 hx hZ e0 At ii hi hin rfl rfl (hb hby d1_39) ?_
    show own_Go p e below s C S Q T (mkF m 40 #[.val (.ref t), .val (.ref r), .val (.int i), .val (.int b)] [(.int (f ii))])
    refine own_go (T' := T) (g' := (mkF m 42 #[.val (.ref t), .val (.ref r), .val (.int i), .val (.int b)] [(.int b), (.ref t), (.int (f ii))])) (fun t_ k_ => ?_) ?_
    · refine XS.aloadN X0.here hx rfl (hb hby d1_40) rfl rfl ?_
      show Steps p.tables e below (T.setTop (mkF m 41 #[.val (.ref t), .val (.ref r), .val (.int i), .val (.int b)] [(.ref t), (.int (f ii))])) _
      refine XS.iloadN X0.here hx rfl (hb hby d1_41) rfl ?_
      show Steps p.tables e below (T.setTop (mkF m 42 #[.val (.ref t), .val (.ref r), .val (.int i), .val (.int b)] [(.int b), (.ref t), (.int (f ii))])) _
      exact k_
    refine own_iaload X0 hx hZ e0 At bb hbn (by omega) rfl rfl (hb hby d1_42) ?_
    show own_Go p e below s C S Q T (mkF m 43 #[.val (.ref t), .val (.ref r), .val (.int i), .val (.int b)] [(.int (f bb)), (.int (f ii))])
    by_cases c43 : (f ii) = (f bb)
    · refine own_go (T' := T) (g' := (mkF m 49 #[.val (.ref t), .val (.ref r), .val (.int i), .val (.int (b + (1 : Int32)))] [])) (fun t_ k_ => ?_) ?_
      · refine XS.icmpNo X0.here hx rfl (hb hby d1_43) rfl (teq c43).2 ?_
        show Steps p.tables e below (T.setTop (mkF m 46 #[.val (.ref t), .val (.ref r), .val (.int i), .val (.int b)] [])) _
        refine XS.iinc X0.here hx rfl (hb hby d1_46) rfl (l' := #[.val (.ref t), .val (.ref r), .val (.int i), .val (.int (b + (1 : Int32)))]) rfl ?_
        show Steps p.tables e below (T.setTop (mkF m 49 #[.val (.ref t), .val (.ref r), .val (.int i), .val (.int (b + (1 : Int32)))] [])) _
        exact k_
      exact J49 _ (bb + 1) (own_inc hbn (by omega)) (own_up h1 h2 c43 h3)
    · refine own_go (T' := T) (g' := (mkF m 49 #[.val (.ref t), .val (.ref r), .val (.int i), .val (.int b)] [])) (fun t_ k_ => ?_) ?_
      · refine XS.icmpYes X0.here hx rfl (pc0 := 43) (pc' := 49) rfl (hb hby d1_43) rfl (feq c43).2 (by decide) (by decide) ?_
        show Steps p.tables e below (T.setTop (mkF m 49 #[.val (.ref t), .val (.ref r), .val (.int i), .val (.int b)] [])) _
        exact k_
      rcases h4 with rfl | h4
      · exact J49 _ 0 hbn (own_zero c43 h3)
      · exact absurd h4 c43
set_option maxRecDepth 65536 in
set_option maxHeartbeats 40000000 in
theorem rm1 (l : Launch) (Z : State) (a0 : Array Value) (hw : ∀ d ∈ tables_1, d.before a0 Z = true) (ws : List Jvm.Cond) (t : Addr) (h0 : Heap) (n0 : Nat) (Z0 : n0 ≤ h0.size) (n : Nat) (f : Nat → Int32) (z : Int32) (A : own_Ar Z h0 t n f) (hz : z.toInt = n) (hn : n ≤ 6) :
    own_Con l Z (⟨"com/example/ioconic/ioconic/expr/Language", "borders", "([I)[I"⟩ : MethodName) prog_29_method_22_code 4 (some (.array .int)) ws ({ frames := 0, cells := 1, slots := 7, locals := 0 } : Room) #[(.ref t)] h0 (fun v h K => ∃ (r : Addr) (g : Nat → Int32), v = some (.ref r) ∧ Fr n0 K ∧ Keep h0 h [] ∧ own_Ar Z h r (n + 1) g ∧ g 0 = 0 ∧ ∀ L, 1 ≤ L → L ≤ n → own_PB f L (g L)) := by
  refine own_body (plainFor_of_name pn1) ?_
  intro p e s m below meth c s₁ hx hby hml0 hZ hown0 hnm0 hret0 hk e0 X0
  have hown : s.vm.findClass "com/example/ioconic/ioconic/expr/Language" = some m.cls := hown0
  have hnm : meth.name = "borders" := hnm0
  have hret : meth.sig.returnType = (some (.array .int)) := hret0
  have hml : c.maxLocals = 4 := hml0
  have N0 := Fr.nil n0
  refine own_cast (ef1 m t) ?_
  refine own_go (T' := s₁) (g' := (mkF m 1 #[.val (.ref t), .unset, .unset, .unset] [(.ref t)])) (fun t_ k_ => ?_) ?_
  · refine XS.aloadN X0.here hx rfl (hb hby d1_0) rfl rfl ?_
    show Steps p.tables e below (s₁.setTop (mkF m 1 #[.val (.ref t), .unset, .unset, .unset] [(.ref t)])) _
    exact k_
  refine own_alen X0 hx hZ e0 A z hz rfl rfl (hb hby d1_1) ?_
  show own_Go p e below s ({ frames := 0, cells := 1, slots := 7, locals := 0 } : Room).cells ({ frames := 0, cells := 1, slots := 7, locals := 0 } : Room).slots (fun v h K => ∃ (r : Addr) (g : Nat → Int32), v = some (.ref r) ∧ Fr n0 K ∧ Keep h0 h [] ∧ own_Ar Z h r (n + 1) g ∧ g 0 = 0 ∧ ∀ L, 1 ≤ L → L ≤ n → own_PB f L (g L)) s₁ (mkF m 2 #[.val (.ref t), .unset, .unset, .unset] [(.int z)])
  refine own_go (T' := s₁) (g' := (mkF m 4 #[.val (.ref t), .unset, .unset, .unset] [(.int (z + (1 : Int32)))])) (fun t_ k_ => ?_) ?_
  · refine XS.iconst X0.here hx rfl (hb hby d1_2) ?_
    show Steps p.tables e below (s₁.setTop (mkF m 3 #[.val (.ref t), .unset, .unset, .unset] [(.int (1 : Int32)), (.int z)])) _
    refine XS.iadd X0.here hx rfl (hb hby d1_3) rfl ?_
    show Steps p.tables e below (s₁.setTop (mkF m 4 #[.val (.ref t), .unset, .unset, .unset] [(.int (z + (1 : Int32)))])) _
    exact k_
  refine own_newI (n := (n + 1)) X0 hx hZ (hw _ (List.mem_of_getElem? (i := 1) rfl)) e0 (own_inc hz (by omega)) 7 (by omega) (by decide) (by decide) (by decide) rfl rfl (hb hby d1_4) ?_
  intro T1 h1 r g1 X1 e1 E1 A1
  show own_Go p e below s ({ frames := 0, cells := 1, slots := 7, locals := 0 } : Room).cells ({ frames := 0, cells := 1, slots := 7, locals := 0 } : Room).slots (fun v h K => ∃ (r : Addr) (g : Nat → Int32), v = some (.ref r) ∧ Fr n0 K ∧ Keep h0 h [] ∧ own_Ar Z h r (n + 1) g ∧ g 0 = 0 ∧ ∀ L, 1 ≤ L → L ≤ n → own_PB f L (g L)) T1 (mkF m 6 #[.val (.ref t), .unset, .unset, .unset] [(.ref r)])
  refine own_go (T' := T1) (g' := (mkF m 11 #[.val (.ref t), .val (.ref r), .val (.int (1 : Int32)), .val (.int (0 : Int32))] [])) (fun t_ k_ => ?_) ?_
  · refine XS.astoreN X1.here hx rfl (hb hby d1_6) rfl rfl (l' := #[.val (.ref t), .val (.ref r), .unset, .unset]) rfl ?_
    show Steps p.tables e below (T1.setTop (mkF m 7 #[.val (.ref t), .val (.ref r), .unset, .unset] [])) _
    refine XS.iconst X1.here hx rfl (hb hby d1_7) ?_
    show Steps p.tables e below (T1.setTop (mkF m 8 #[.val (.ref t), .val (.ref r), .unset, .unset] [(.int (1 : Int32))])) _
    refine XS.istoreN X1.here hx rfl (hb hby d1_8) rfl (l' := #[.val (.ref t), .val (.ref r), .val (.int (1 : Int32)), .unset]) rfl ?_
    show Steps p.tables e below (T1.setTop (mkF m 9 #[.val (.ref t), .val (.ref r), .val (.int (1 : Int32)), .unset] [])) _
    refine XS.iconst X1.here hx rfl (hb hby d1_9) ?_
    show Steps p.tables e below (T1.setTop (mkF m 10 #[.val (.ref t), .val (.ref r), .val (.int (1 : Int32)), .unset] [(.int (0 : Int32))])) _
    refine XS.istoreN X1.here hx rfl (hb hby d1_10) rfl (l' := #[.val (.ref t), .val (.ref r), .val (.int (1 : Int32)), .val (.int (0 : Int32))]) rfl ?_
    show Steps p.tables e below (T1.setTop (mkF m 11 #[.val (.ref t), .val (.ref r), .val (.int (1 : Int32)), .val (.int (0 : Int32))] [])) _
    exact k_
  have z0 : (0 : Int32).toInt = 0 := by decide
  refine own_outer hx hZ hby hret hk (by decide) (by decide) hz hn (Nat.ne_of_lt (by rw [g1]; exact A.lt)) (Nat.le_trans Z0 (Nat.le_of_eq g1.symm)) (Nat.le_of_eq g1.symm) (fun T K h g e0 N KK Ag g0 gB => ?_) n T1 _ _ 1 0 1 0 (fun _ => 0) X1 e1 N0 ((Keep.refl _ _).ext E1) (A.ext E1) A1 (by decide) (by decide) (Nat.le_refl _) (by omega) (by omega) (own_first f) rfl ?_
  · rw [e0]; exact ⟨r, g, rfl, N, KK, Ag, g0, gB⟩
  · intro L q q'
    obtain rfl : L = 1 := by omega
    exact ⟨0, z0, own_first f⟩
/-! the law -/
theorem pn0 : plainName "com/example/ioconic/ioconic/expr/LanguageBordersPinLaw" = true := by first | (simp [plainName, overriddenIn]; done) | decide +kernel
theorem ef0 (m : MethodId) (x0 : Int32) (x1 : Int32) (x2 : Int32) (x3 : Int32) (x4 : Int32) : entryFrame m #[(.int x0), (.int x1), (.int x2), (.int x3), (.int x4)] maxLocals = mkF m 0 #[.val (.int x0), .val (.int x1), .val (.int x2), .val (.int x3), .val (.int x4), .unset, .unset, .unset, .unset] [] := by first | (simp [entryFrame, mkF, argsToLocals, Value.category, maxLocals]; done) | rfl
set_option maxRecDepth 65536 in
set_option maxHeartbeats 40000000 in
theorem rm0 (l : Launch) (Z : State) (a0 : Array Value) (hw : ∀ d ∈ tables_1, d.before a0 Z = true) (ws : List Jvm.Cond) (p1 : Int32) (p2 : Int32) (p3 : Int32) (p4 : Int32) (p5 : Int32) (h0 : Heap) (n0 : Nat) (Z0 : n0 ≤ h0.size) :
    own_Con l Z x code maxLocals ret ws room_1 #[(.int p1), (.int p2), (.int p3), (.int p4), (.int p5)] h0 (fun v _ L => v = some (.int (1 : Int32)) ∧ Fr n0 L) := by
  refine own_body (plainFor_of_name pn0) ?_
  intro p e s m below meth c s₁ hx hby hml0 hZ hown0 hnm0 hret0 hk e0 X0
  have hown : s.vm.findClass "com/example/ioconic/ioconic/expr/LanguageBordersPinLaw" = some m.cls := hown0
  have hnm : meth.name = "law" := hnm0
  have hret : meth.sig.returnType = (some .boolean) := hret0
  have hml : c.maxLocals = 9 := hml0
  have N0 := Fr.nil n0
  refine own_cast (ef0 m p1 p2 p3 p4 p5) ?_
  refine own_go (T' := s₁) (g' := (mkF m 9 #[.val (.int p1), .val (.int p2), .val (.int p3), .val (.int p4), .val (.int p5), .val (.int ((p1 &&& (2147483647 : Int32)) % (7 : Int32))), .unset, .unset, .unset] [])) (fun t_ k_ => ?_) ?_
  · refine XS.iloadN X0.here hx rfl (hb hby at_0) rfl ?_
    show Steps p.tables e below (s₁.setTop (mkF m 1 #[.val (.int p1), .val (.int p2), .val (.int p3), .val (.int p4), .val (.int p5), .unset, .unset, .unset, .unset] [(.int p1)])) _
    refine X0.ldcInt hx hown (mvT hZ (hw _ (List.mem_of_getElem? (i := 0) rfl))) (g := (mkF m 1 #[.val (.int p1), .val (.int p2), .val (.int p3), .val (.int p4), .val (.int p5), .unset, .unset, .unset, .unset] [(.int p1)])) rfl (hb hby at_1) _ ?_
    show Steps p.tables e below (s₁.setTop (mkF m 3 #[.val (.int p1), .val (.int p2), .val (.int p3), .val (.int p4), .val (.int p5), .unset, .unset, .unset, .unset] [(.int (2147483647 : Int32)), (.int p1)])) _
    refine XS.iand X0.here hx rfl (hb hby at_3) rfl ?_
    show Steps p.tables e below (s₁.setTop (mkF m 4 #[.val (.int p1), .val (.int p2), .val (.int p3), .val (.int p4), .val (.int p5), .unset, .unset, .unset, .unset] [(.int (p1 &&& (2147483647 : Int32)))])) _
    refine XS.bipush X0.here hx rfl (hb hby at_4) ?_
    show Steps p.tables e below (s₁.setTop (mkF m 6 #[.val (.int p1), .val (.int p2), .val (.int p3), .val (.int p4), .val (.int p5), .unset, .unset, .unset, .unset] [(.int (7 : Int32)), (.int (p1 &&& (2147483647 : Int32)))])) _
    refine iremM X0 hx rfl (hb hby at_6) rfl (by decide) ?_
    show Steps p.tables e below (s₁.setTop (mkF m 7 #[.val (.int p1), .val (.int p2), .val (.int p3), .val (.int p4), .val (.int p5), .unset, .unset, .unset, .unset] [(.int ((p1 &&& (2147483647 : Int32)) % (7 : Int32)))])) _
    refine XS.istore X0.here hx rfl (hb hby at_7) rfl (l' := #[.val (.int p1), .val (.int p2), .val (.int p3), .val (.int p4), .val (.int p5), .val (.int ((p1 &&& (2147483647 : Int32)) % (7 : Int32))), .unset, .unset, .unset]) rfl ?_
    show Steps p.tables e below (s₁.setTop (mkF m 9 #[.val (.int p1), .val (.int p2), .val (.int p3), .val (.int p4), .val (.int p5), .val (.int ((p1 &&& (2147483647 : Int32)) % (7 : Int32))), .unset, .unset, .unset] [])) _
    exact k_
  obtain ⟨len, hlen⟩ : ∃ z : Int32, z = ((p1 &&& (2147483647 : Int32)) % (7 : Int32)) := ⟨_, rfl⟩
  rw [← hlen]
  have hc := own_cnt p1
  rw [← hlen] at hc
  obtain ⟨n, hn⟩ : ∃ n : Nat, len.toInt = n := ⟨len.toInt.toNat, by omega⟩
  have z0 : (0 : Int32).toInt = 0 := by decide
  have z1 : (1 : Int32).toInt = 1 := by decide
  have z2 : (2 : Int32).toInt = 2 := by decide
  have z3 : (3 : Int32).toInt = 3 := by decide
  have z4 : (4 : Int32).toInt = 4 := by decide
  have z5 : (5 : Int32).toInt = 5 := by decide
  have z6 : (6 : Int32).toInt = 6 := by decide
  refine own_go (T' := s₁) (g' := (mkF m 11 #[.val (.int p1), .val (.int p2), .val (.int p3), .val (.int p4), .val (.int p5), .val (.int len), .unset, .unset, .unset] [(.int len)])) (fun t_ k_ => ?_) ?_
  · refine XS.iload X0.here hx rfl (hb hby at_9) rfl ?_
    show Steps p.tables e below (s₁.setTop (mkF m 11 #[.val (.int p1), .val (.int p2), .val (.int p3), .val (.int p4), .val (.int p5), .val (.int len), .unset, .unset, .unset] [(.int len)])) _
    exact k_
  refine own_newI (n := n) X0 hx hZ (hw _ (List.mem_of_getElem? (i := 1) rfl)) e0 hn 6 (by omega) (by decide) (by decide) (by decide) rfl rfl (hb hby at_11) ?_
  intro T1 h1 t g1 X1 e1 E1 A1
  show own_Go p e below s room_1.cells room_1.slots (fun v _ L => v = some (.int (1 : Int32)) ∧ Fr n0 L) T1 (mkF m 13 #[.val (.int p1), .val (.int p2), .val (.int p3), .val (.int p4), .val (.int p5), .val (.int len), .unset, .unset, .unset] [(.ref t)])
  have gt : n0 ≤ t := Nat.le_trans Z0 (Nat.le_of_eq g1.symm)
  have Zh := Nat.le_trans Z0 E1.1
  refine own_go (T' := T1) (g' := (mkF m 15 #[.val (.int p1), .val (.int p2), .val (.int p3), .val (.int p4), .val (.int p5), .val (.int len), .val (.ref t), .unset, .unset] [])) (fun t_ k_ => ?_) ?_
  · refine XS.astore X1.here hx rfl (hb hby at_13) rfl rfl (l' := #[.val (.int p1), .val (.int p2), .val (.int p3), .val (.int p4), .val (.int p5), .val (.int len), .val (.ref t), .unset, .unset]) rfl ?_
    show Steps p.tables e below (T1.setTop (mkF m 15 #[.val (.int p1), .val (.int p2), .val (.int p3), .val (.int p4), .val (.int p5), .val (.int len), .val (.ref t), .unset, .unset] [])) _
    exact k_
  have J6 : ∀ (T : State) (K : List Loc) (h : Heap) (f : Nat → Int32), Stand p l e room_1 s m #[(.int p1), (.int p2), (.int p3), (.int p4), (.int p5)] below meth c T K 1 6 → T.heap = h → Fr n0 K → n0 ≤ h.size → own_Ar Z h t n f → own_Go p e below s room_1.cells room_1.slots (fun v _ L => v = some (.int (1 : Int32)) ∧ Fr n0 L) T (mkF m 147 #[.val (.int p1), .val (.int p2), .val (.int p3), .val (.int p4), .val (.int p5), .val (.int len), .val (.ref t), .unset, .unset] []) := by
    intro T K h f X eT N Zh A
    refine own_go (T' := T) (g' := (mkF m 149 #[.val (.int p1), .val (.int p2), .val (.int p3), .val (.int p4), .val (.int p5), .val (.int len), .val (.ref t), .unset, .unset] [(.ref t)])) (fun t_ k_ => ?_) ?_
    · refine XS.aload X.here hx rfl (hb hby at_147) rfl rfl ?_
      show Steps p.tables e below (T.setTop (mkF m 149 #[.val (.int p1), .val (.int p2), .val (.int p3), .val (.int p4), .val (.int p5), .val (.int len), .val (.ref t), .unset, .unset] [(.ref t)])) _
      exact k_
    refine own_callS (y := (⟨"com/example/ioconic/ioconic/expr/Language", "borders", "([I)[I"⟩ : MethodName)) (W := 0) (rm := ({ frames := 0, cells := 1, slots := 7, locals := 0 } : Room)) (argsL := [(.ref t)]) (rest := []) X hx hZ hown (hw _ (List.mem_of_getElem? (i := 2) rfl)) (hw _ (List.mem_of_getElem? (i := 3) rfl)) (hw _ (List.mem_of_getElem? (i := 4) rfl)) (hw _ (List.mem_of_getElem? (i := 5) rfl)) (by decide) (rm1 l Z a0 hw [] t h n0 Zh n f len A hn (by omega)) (by decide) (by decide) eT (by decide) (by decide) rfl (by rw [hml]; rfl) (lenOf pd1 rfl) rfl (by show 2 * 0 + _ ≤ _; exact Nat.le_of_eq rfl) (hb hby at_149) ?_
    rintro _ T2 L2 X2 ⟨r2, g2, rfl, N2, K2, AR2, g02, gB2⟩
    show own_Go p e below s room_1.cells room_1.slots (fun v _ L => v = some (.int (1 : Int32)) ∧ Fr n0 L) T2 (mkF m 152 #[.val (.int p1), .val (.int p2), .val (.int p3), .val (.int p4), .val (.int p5), .val (.int len), .val (.ref t), .unset, .unset] [(.ref r2)])
    have At := A.keep K2 nin0
    have ZB : n0 ≤ T2.heap.size := Nat.le_trans Zh K2.1
    refine own_go (T' := T2) (g' := (mkF m 161 #[.val (.int p1), .val (.int p2), .val (.int p3), .val (.int p4), .val (.int p5), .val (.int len), .val (.ref t), .val (.ref r2), .unset] [(.ref r2)])) (fun t_ k_ => ?_) ?_
    · refine XS.astore X2.here hx rfl (hb hby at_152) rfl rfl (l' := #[.val (.int p1), .val (.int p2), .val (.int p3), .val (.int p4), .val (.int p5), .val (.int len), .val (.ref t), .val (.ref r2), .unset]) rfl ?_
      show Steps p.tables e below (T2.setTop (mkF m 154 #[.val (.int p1), .val (.int p2), .val (.int p3), .val (.int p4), .val (.int p5), .val (.int len), .val (.ref t), .val (.ref r2), .unset] [])) _
      refine XS.aload X2.here hx rfl (hb hby at_154) rfl rfl ?_
      show Steps p.tables e below (T2.setTop (mkF m 156 #[.val (.int p1), .val (.int p2), .val (.int p3), .val (.int p4), .val (.int p5), .val (.int len), .val (.ref t), .val (.ref r2), .unset] [(.ref r2)])) _
      refine XS.ifnullNo X2.here hx rfl (hb hby at_156) rfl ?_
      show Steps p.tables e below (T2.setTop (mkF m 159 #[.val (.int p1), .val (.int p2), .val (.int p3), .val (.int p4), .val (.int p5), .val (.int len), .val (.ref t), .val (.ref r2), .unset] [])) _
      refine XS.aload X2.here hx rfl (hb hby at_159) rfl rfl ?_
      show Steps p.tables e below (T2.setTop (mkF m 161 #[.val (.int p1), .val (.int p2), .val (.int p3), .val (.int p4), .val (.int p5), .val (.int len), .val (.ref t), .val (.ref r2), .unset] [(.ref r2)])) _
      exact k_
    refine own_alen X2 hx hZ rfl AR2 (len + (1 : Int32)) (own_inc hn (by omega)) rfl rfl (hb hby at_161) ?_
    show own_Go p e below s room_1.cells room_1.slots (fun v _ L => v = some (.int (1 : Int32)) ∧ Fr n0 L) T2 (mkF m 162 #[.val (.int p1), .val (.int p2), .val (.int p3), .val (.int p4), .val (.int p5), .val (.int len), .val (.ref t), .val (.ref r2), .unset] [(.int (len + (1 : Int32)))])
    refine own_go (T' := T2) (g' := (mkF m 166 #[.val (.int p1), .val (.int p2), .val (.int p3), .val (.int p4), .val (.int p5), .val (.int len), .val (.ref t), .val (.ref r2), .unset] [(.int (len + (1 : Int32))), (.int (len + (1 : Int32)))])) (fun t_ k_ => ?_) ?_
    · refine XS.iload X2.here hx rfl (hb hby at_162) rfl ?_
      show Steps p.tables e below (T2.setTop (mkF m 164 #[.val (.int p1), .val (.int p2), .val (.int p3), .val (.int p4), .val (.int p5), .val (.int len), .val (.ref t), .val (.ref r2), .unset] [(.int len), (.int (len + (1 : Int32)))])) _
      refine XS.iconst X2.here hx rfl (hb hby at_164) ?_
      show Steps p.tables e below (T2.setTop (mkF m 165 #[.val (.int p1), .val (.int p2), .val (.int p3), .val (.int p4), .val (.int p5), .val (.int len), .val (.ref t), .val (.ref r2), .unset] [(.int (1 : Int32)), (.int len), (.int (len + (1 : Int32)))])) _
      refine XS.iadd X2.here hx rfl (hb hby at_165) rfl ?_
      show Steps p.tables e below (T2.setTop (mkF m 166 #[.val (.int p1), .val (.int p2), .val (.int p3), .val (.int p4), .val (.int p5), .val (.int len), .val (.ref t), .val (.ref r2), .unset] [(.int (len + (1 : Int32))), (.int (len + (1 : Int32)))])) _
      exact k_
    have hf3 : (len + (1 : Int32)) = (len + (1 : Int32)) := rfl
    refine own_go (T' := T2) (g' := (mkF m 174 #[.val (.int p1), .val (.int p2), .val (.int p3), .val (.int p4), .val (.int p5), .val (.int len), .val (.ref t), .val (.ref r2), .unset] [(.int (0 : Int32)), (.ref r2)])) (fun t_ k_ => ?_) ?_
    · refine XS.icmpYes X2.here hx rfl (pc0 := 166) (pc' := 171) rfl (hb hby at_166) rfl (teq hf3).1 (by decide) (by decide) ?_
      show Steps p.tables e below (T2.setTop (mkF m 171 #[.val (.int p1), .val (.int p2), .val (.int p3), .val (.int p4), .val (.int p5), .val (.int len), .val (.ref t), .val (.ref r2), .unset] [])) _
      refine XS.aload X2.here hx rfl (hb hby at_171) rfl rfl ?_
      show Steps p.tables e below (T2.setTop (mkF m 173 #[.val (.int p1), .val (.int p2), .val (.int p3), .val (.int p4), .val (.int p5), .val (.int len), .val (.ref t), .val (.ref r2), .unset] [(.ref r2)])) _
      refine XS.iconst X2.here hx rfl (hb hby at_173) ?_
      show Steps p.tables e below (T2.setTop (mkF m 174 #[.val (.int p1), .val (.int p2), .val (.int p3), .val (.int p4), .val (.int p5), .val (.int len), .val (.ref t), .val (.ref r2), .unset] [(.int (0 : Int32)), (.ref r2)])) _
      exact k_
    refine own_iaload X2 hx hZ rfl AR2 0 z0 (by omega) rfl rfl (hb hby at_174) ?_
    show own_Go p e below s room_1.cells room_1.slots (fun v _ L => v = some (.int (1 : Int32)) ∧ Fr n0 L) T2 (mkF m 175 #[.val (.int p1), .val (.int p2), .val (.int p3), .val (.int p4), .val (.int p5), .val (.int len), .val (.ref t), .val (.ref r2), .unset] [(.int (g2 0))])
    have hf4 : (g2 0) = (0 : Int32) := g02
    refine own_go (T' := T2) (g' := (mkF m 185 #[.val (.int p1), .val (.int p2), .val (.int p3), .val (.int p4), .val (.int p5), .val (.int len), .val (.ref t), .val (.ref r2), .val (.int (1 : Int32))] [])) (fun t_ k_ => ?_) ?_
    · refine XS.ifNo X2.here hx rfl (hb hby at_175) rfl ((if0 _ _).trans (teq hf4).2) ?_
      show Steps p.tables e below (T2.setTop (mkF m 178 #[.val (.int p1), .val (.int p2), .val (.int p3), .val (.int p4), .val (.int p5), .val (.int len), .val (.ref t), .val (.ref r2), .unset] [])) _
      refine XS.iconst X2.here hx rfl (hb hby at_178) ?_
      show Steps p.tables e below (T2.setTop (mkF m 179 #[.val (.int p1), .val (.int p2), .val (.int p3), .val (.int p4), .val (.int p5), .val (.int len), .val (.ref t), .val (.ref r2), .unset] [(.int (1 : Int32))])) _
      refine XS.goto X2.here hx rfl (pc0 := 179) (pc' := 183) rfl (hb hby at_179) (by decide) (by decide) ?_
      show Steps p.tables e below (T2.setTop (mkF m 183 #[.val (.int p1), .val (.int p2), .val (.int p3), .val (.int p4), .val (.int p5), .val (.int len), .val (.ref t), .val (.ref r2), .unset] [(.int (1 : Int32))])) _
      refine XS.istore X2.here hx rfl (hb hby at_183) rfl (l' := #[.val (.int p1), .val (.int p2), .val (.int p3), .val (.int p4), .val (.int p5), .val (.int len), .val (.ref t), .val (.ref r2), .val (.int (1 : Int32))]) rfl ?_
      show Steps p.tables e below (T2.setTop (mkF m 185 #[.val (.int p1), .val (.int p2), .val (.int p3), .val (.int p4), .val (.int p5), .val (.int len), .val (.ref t), .val (.ref r2), .val (.int (1 : Int32))] [])) _
      exact k_
    have K7' : ∀ (T : State) (K : List Loc), Stand p l e room_1 s m #[(.int p1), (.int p2), (.int p3), (.int p4), (.int p5)] below meth c T K 2 13 → T.heap = T2.heap → Fr n0 K → own_Go p e below s room_1.cells room_1.slots (fun v _ L => v = some (.int (1 : Int32)) ∧ Fr n0 L) T (mkF m 374 #[.val (.int p1), .val (.int p2), .val (.int p3), .val (.int p4), .val (.int p5), .val (.int len), .val (.ref t), .val (.ref r2), .val (.int (1 : Int32))] []) := by
      intro T K X eT N
      refine own_go (T' := T) (g' := (mkF m 376 #[.val (.int p1), .val (.int p2), .val (.int p3), .val (.int p4), .val (.int p5), .val (.int len), .val (.ref t), .val (.ref r2), .val (.int (1 : Int32))] [(.int (1 : Int32))])) (fun t_ k_ => ?_) ?_
      · refine XS.iload X.here hx rfl (hb hby at_374) rfl ?_
        show Steps p.tables e below (T.setTop (mkF m 376 #[.val (.int p1), .val (.int p2), .val (.int p3), .val (.int p4), .val (.int p5), .val (.int len), .val (.ref t), .val (.ref r2), .val (.int (1 : Int32))] [(.int (1 : Int32))])) _
        exact k_
      exact own_retZ X hx hret hk rfl (hb hby at_376) (by decide) (by decide) ⟨rfl, N⟩
    have K6' : ∀ (T : State) (K : List Loc), Stand p l e room_1 s m #[(.int p1), (.int p2), (.int p3), (.int p4), (.int p5)] below meth c T K 2 13 → T.heap = T2.heap → Fr n0 K → own_Go p e below s room_1.cells room_1.slots (fun v _ L => v = some (.int (1 : Int32)) ∧ Fr n0 L) T (mkF m 340 #[.val (.int p1), .val (.int p2), .val (.int p3), .val (.int p4), .val (.int p5), .val (.int len), .val (.ref t), .val (.ref r2), .val (.int (1 : Int32))] []) := by
      intro T K X eT N
      refine own_go (T' := T) (g' := (mkF m 344 #[.val (.int p1), .val (.int p2), .val (.int p3), .val (.int p4), .val (.int p5), .val (.int len), .val (.ref t), .val (.ref r2), .val (.int (1 : Int32))] [(.int (6 : Int32)), (.int len)])) (fun t_ k_ => ?_) ?_
      · refine XS.iload X.here hx rfl (hb hby at_340) rfl ?_
        show Steps p.tables e below (T.setTop (mkF m 342 #[.val (.int p1), .val (.int p2), .val (.int p3), .val (.int p4), .val (.int p5), .val (.int len), .val (.ref t), .val (.ref r2), .val (.int (1 : Int32))] [(.int len)])) _
        refine XS.bipush X.here hx rfl (hb hby at_342) ?_
        show Steps p.tables e below (T.setTop (mkF m 344 #[.val (.int p1), .val (.int p2), .val (.int p3), .val (.int p4), .val (.int p5), .val (.int len), .val (.ref t), .val (.ref r2), .val (.int (1 : Int32))] [(.int (6 : Int32)), (.int len)])) _
        exact k_
      by_cases c1 : len < (6 : Int32)
      · refine own_go (T' := T) (g' := (mkF m 374 #[.val (.int p1), .val (.int p2), .val (.int p3), .val (.int p4), .val (.int p5), .val (.int len), .val (.ref t), .val (.ref r2), .val (.int (1 : Int32))] [])) (fun t_ k_ => ?_) ?_
        · refine XS.icmpYes X.here hx rfl (pc0 := 344) (pc' := 374) rfl (hb hby at_344) rfl (tlt c1).1 (by decide) (by decide) ?_
          show Steps p.tables e below (T.setTop (mkF m 374 #[.val (.int p1), .val (.int p2), .val (.int p3), .val (.int p4), .val (.int p5), .val (.int len), .val (.ref t), .val (.ref r2), .val (.int (1 : Int32))] [])) _
          exact k_
        exact K7' _ _ X eT N
      · refine own_go (T' := T) (g' := (mkF m 347 #[.val (.int p1), .val (.int p2), .val (.int p3), .val (.int p4), .val (.int p5), .val (.int len), .val (.ref t), .val (.ref r2), .val (.int (1 : Int32))] [])) (fun t_ k_ => ?_) ?_
        · refine XS.icmpNo X.here hx rfl (hb hby at_344) rfl (flt c1).1 ?_
          show Steps p.tables e below (T.setTop (mkF m 347 #[.val (.int p1), .val (.int p2), .val (.int p3), .val (.int p4), .val (.int p5), .val (.int len), .val (.ref t), .val (.ref r2), .val (.int (1 : Int32))] [])) _
          exact k_
        have c1' : 6 ≤ n := by rw [Int32.lt_iff_toInt_lt] at c1; omega
        refine own_go (T' := T) (g' := (mkF m 349 #[.val (.int p1), .val (.int p2), .val (.int p3), .val (.int p4), .val (.int p5), .val (.int len), .val (.ref t), .val (.ref r2), .val (.int (1 : Int32))] [(.int (1 : Int32))])) (fun t_ k_ => ?_) ?_
        · refine XS.iload X.here hx rfl (hb hby at_347) rfl ?_
          show Steps p.tables e below (T.setTop (mkF m 349 #[.val (.int p1), .val (.int p2), .val (.int p3), .val (.int p4), .val (.int p5), .val (.int len), .val (.ref t), .val (.ref r2), .val (.int (1 : Int32))] [(.int (1 : Int32))])) _
          exact k_
        have hf5 : ¬ ((1 : Int32) = (0 : Int32)) := by decide
        refine own_go (T' := T) (g' := (mkF m 356 #[.val (.int p1), .val (.int p2), .val (.int p3), .val (.int p4), .val (.int p5), .val (.int len), .val (.ref t), .val (.ref r2), .val (.int (1 : Int32))] [(.int (6 : Int32)), (.ref r2)])) (fun t_ k_ => ?_) ?_
        · refine XS.ifNo X.here hx rfl (hb hby at_349) rfl ((if0 _ _).trans (feq hf5).1) ?_
          show Steps p.tables e below (T.setTop (mkF m 352 #[.val (.int p1), .val (.int p2), .val (.int p3), .val (.int p4), .val (.int p5), .val (.int len), .val (.ref t), .val (.ref r2), .val (.int (1 : Int32))] [])) _
          refine XS.aload X.here hx rfl (hb hby at_352) rfl rfl ?_
          show Steps p.tables e below (T.setTop (mkF m 354 #[.val (.int p1), .val (.int p2), .val (.int p3), .val (.int p4), .val (.int p5), .val (.int len), .val (.ref t), .val (.ref r2), .val (.int (1 : Int32))] [(.ref r2)])) _
          refine XS.bipush X.here hx rfl (hb hby at_354) ?_
          show Steps p.tables e below (T.setTop (mkF m 356 #[.val (.int p1), .val (.int p2), .val (.int p3), .val (.int p4), .val (.int p5), .val (.int len), .val (.ref t), .val (.ref r2), .val (.int (1 : Int32))] [(.int (6 : Int32)), (.ref r2)])) _
          exact k_
        refine own_iaload X hx hZ eT AR2 6 z6 (by omega) rfl rfl (hb hby at_356) ?_
        show own_Go p e below s room_1.cells room_1.slots (fun v _ L => v = some (.int (1 : Int32)) ∧ Fr n0 L) T (mkF m 357 #[.val (.int p1), .val (.int p2), .val (.int p3), .val (.int p4), .val (.int p5), .val (.int len), .val (.ref t), .val (.ref r2), .val (.int (1 : Int32))] [(.int (g2 6))])
        refine own_go (T' := T) (g' := (mkF m 361 #[.val (.int p1), .val (.int p2), .val (.int p3), .val (.int p4), .val (.int p5), .val (.int len), .val (.ref t), .val (.ref r2), .val (.int (1 : Int32))] [(.int (6 : Int32)), (.ref t), (.int (g2 6))])) (fun t_ k_ => ?_) ?_
        · refine XS.aload X.here hx rfl (hb hby at_357) rfl rfl ?_
          show Steps p.tables e below (T.setTop (mkF m 359 #[.val (.int p1), .val (.int p2), .val (.int p3), .val (.int p4), .val (.int p5), .val (.int len), .val (.ref t), .val (.ref r2), .val (.int (1 : Int32))] [(.ref t), (.int (g2 6))])) _
          refine XS.bipush X.here hx rfl (hb hby at_359) ?_
          show Steps p.tables e below (T.setTop (mkF m 361 #[.val (.int p1), .val (.int p2), .val (.int p3), .val (.int p4), .val (.int p5), .val (.int len), .val (.ref t), .val (.ref r2), .val (.int (1 : Int32))] [(.int (6 : Int32)), (.ref t), (.int (g2 6))])) _
          exact k_
        refine own_callS (y := (⟨"com/example/ioconic/ioconic/expr/LanguageBordersPinLaw", "border", "([II)I"⟩ : MethodName)) (W := 1) (rm := ({ frames := 1, cells := 0, slots := 0, locals := 14 } : Room)) (argsL := [(.ref t), (.int (6 : Int32))]) (rest := [(.int (g2 6))]) X hx hZ hown (hw _ (List.mem_of_getElem? (i := 10) rfl)) (hw _ (List.mem_of_getElem? (i := 11) rfl)) (hw _ (List.mem_of_getElem? (i := 8) rfl)) (hw _ (List.mem_of_getElem? (i := 12) rfl)) (by decide) (rm3 l Z a0 hw [] t (6 : Int32) T2.heap n0 ZB n f 6 At z6 (by decide) c1' (by decide)) (by decide) (by decide) eT (by decide) (by decide) rfl (by rw [hml]; rfl) (lenOf pd3 rfl) rfl (by show 2 * 0 + _ ≤ _; exact Nat.le_of_eq rfl) (hb hby at_361) ?_
        rintro _ T6 L6 X6 ⟨r6, rfl, hr6, N6, e6⟩
        show own_Go p e below s room_1.cells room_1.slots (fun v _ L => v = some (.int (1 : Int32)) ∧ Fr n0 L) T6 (mkF m 364 #[.val (.int p1), .val (.int p2), .val (.int p3), .val (.int p4), .val (.int p5), .val (.int len), .val (.ref t), .val (.ref r2), .val (.int (1 : Int32))] [(.int r6), (.int (g2 6))])
        have hf7 : (g2 6) = r6 := own_PB_one (gB2 6 (by decide) c1') hr6
        refine own_go (T' := T6) (g' := (mkF m 374 #[.val (.int p1), .val (.int p2), .val (.int p3), .val (.int p4), .val (.int p5), .val (.int len), .val (.ref t), .val (.ref r2), .val (.int (1 : Int32))] [])) (fun t_ k_ => ?_) ?_
        · refine XS.icmpNo X6.here hx rfl (hb hby at_364) rfl (teq hf7).2 ?_
          show Steps p.tables e below (T6.setTop (mkF m 367 #[.val (.int p1), .val (.int p2), .val (.int p3), .val (.int p4), .val (.int p5), .val (.int len), .val (.ref t), .val (.ref r2), .val (.int (1 : Int32))] [])) _
          refine XS.iconst X6.here hx rfl (hb hby at_367) ?_
          show Steps p.tables e below (T6.setTop (mkF m 368 #[.val (.int p1), .val (.int p2), .val (.int p3), .val (.int p4), .val (.int p5), .val (.int len), .val (.ref t), .val (.ref r2), .val (.int (1 : Int32))] [(.int (1 : Int32))])) _
          refine XS.goto X6.here hx rfl (pc0 := 368) (pc' := 372) rfl (hb hby at_368) (by decide) (by decide) ?_
          show Steps p.tables e below (T6.setTop (mkF m 372 #[.val (.int p1), .val (.int p2), .val (.int p3), .val (.int p4), .val (.int p5), .val (.int len), .val (.ref t), .val (.ref r2), .val (.int (1 : Int32))] [(.int (1 : Int32))])) _
          refine XS.istore X6.here hx rfl (hb hby at_372) rfl (l' := #[.val (.int p1), .val (.int p2), .val (.int p3), .val (.int p4), .val (.int p5), .val (.int len), .val (.ref t), .val (.ref r2), .val (.int (1 : Int32))]) rfl ?_
          show Steps p.tables e below (T6.setTop (mkF m 374 #[.val (.int p1), .val (.int p2), .val (.int p3), .val (.int p4), .val (.int p5), .val (.int len), .val (.ref t), .val (.ref r2), .val (.int (1 : Int32))] [])) _
          exact k_
        exact K7' _ _ X6 e6 (Fr.app N N6)
    have K5' : ∀ (T : State) (K : List Loc), Stand p l e room_1 s m #[(.int p1), (.int p2), (.int p3), (.int p4), (.int p5)] below meth c T K 2 13 → T.heap = T2.heap → Fr n0 K → own_Go p e below s room_1.cells room_1.slots (fun v _ L => v = some (.int (1 : Int32)) ∧ Fr n0 L) T (mkF m 309 #[.val (.int p1), .val (.int p2), .val (.int p3), .val (.int p4), .val (.int p5), .val (.int len), .val (.ref t), .val (.ref r2), .val (.int (1 : Int32))] []) := by
      intro T K X eT N
      refine own_go (T' := T) (g' := (mkF m 312 #[.val (.int p1), .val (.int p2), .val (.int p3), .val (.int p4), .val (.int p5), .val (.int len), .val (.ref t), .val (.ref r2), .val (.int (1 : Int32))] [(.int (5 : Int32)), (.int len)])) (fun t_ k_ => ?_) ?_
      · refine XS.iload X.here hx rfl (hb hby at_309) rfl ?_
        show Steps p.tables e below (T.setTop (mkF m 311 #[.val (.int p1), .val (.int p2), .val (.int p3), .val (.int p4), .val (.int p5), .val (.int len), .val (.ref t), .val (.ref r2), .val (.int (1 : Int32))] [(.int len)])) _
        refine XS.iconst X.here hx rfl (hb hby at_311) ?_
        show Steps p.tables e below (T.setTop (mkF m 312 #[.val (.int p1), .val (.int p2), .val (.int p3), .val (.int p4), .val (.int p5), .val (.int len), .val (.ref t), .val (.ref r2), .val (.int (1 : Int32))] [(.int (5 : Int32)), (.int len)])) _
        exact k_
      by_cases c1 : len < (5 : Int32)
      · refine own_go (T' := T) (g' := (mkF m 340 #[.val (.int p1), .val (.int p2), .val (.int p3), .val (.int p4), .val (.int p5), .val (.int len), .val (.ref t), .val (.ref r2), .val (.int (1 : Int32))] [])) (fun t_ k_ => ?_) ?_
        · refine XS.icmpYes X.here hx rfl (pc0 := 312) (pc' := 340) rfl (hb hby at_312) rfl (tlt c1).1 (by decide) (by decide) ?_
          show Steps p.tables e below (T.setTop (mkF m 340 #[.val (.int p1), .val (.int p2), .val (.int p3), .val (.int p4), .val (.int p5), .val (.int len), .val (.ref t), .val (.ref r2), .val (.int (1 : Int32))] [])) _
          exact k_
        exact K6' _ _ X eT N
      · refine own_go (T' := T) (g' := (mkF m 315 #[.val (.int p1), .val (.int p2), .val (.int p3), .val (.int p4), .val (.int p5), .val (.int len), .val (.ref t), .val (.ref r2), .val (.int (1 : Int32))] [])) (fun t_ k_ => ?_) ?_
        · refine XS.icmpNo X.here hx rfl (hb hby at_312) rfl (flt c1).1 ?_
          show Steps p.tables e below (T.setTop (mkF m 315 #[.val (.int p1), .val (.int p2), .val (.int p3), .val (.int p4), .val (.int p5), .val (.int len), .val (.ref t), .val (.ref r2), .val (.int (1 : Int32))] [])) _
          exact k_
        have c1' : 5 ≤ n := by rw [Int32.lt_iff_toInt_lt] at c1; omega
        refine own_go (T' := T) (g' := (mkF m 317 #[.val (.int p1), .val (.int p2), .val (.int p3), .val (.int p4), .val (.int p5), .val (.int len), .val (.ref t), .val (.ref r2), .val (.int (1 : Int32))] [(.int (1 : Int32))])) (fun t_ k_ => ?_) ?_
        · refine XS.iload X.here hx rfl (hb hby at_315) rfl ?_
          show Steps p.tables e below (T.setTop (mkF m 317 #[.val (.int p1), .val (.int p2), .val (.int p3), .val (.int p4), .val (.int p5), .val (.int len), .val (.ref t), .val (.ref r2), .val (.int (1 : Int32))] [(.int (1 : Int32))])) _
          exact k_
        have hf8 : ¬ ((1 : Int32) = (0 : Int32)) := by decide
        refine own_go (T' := T) (g' := (mkF m 323 #[.val (.int p1), .val (.int p2), .val (.int p3), .val (.int p4), .val (.int p5), .val (.int len), .val (.ref t), .val (.ref r2), .val (.int (1 : Int32))] [(.int (5 : Int32)), (.ref r2)])) (fun t_ k_ => ?_) ?_
        · refine XS.ifNo X.here hx rfl (hb hby at_317) rfl ((if0 _ _).trans (feq hf8).1) ?_
          show Steps p.tables e below (T.setTop (mkF m 320 #[.val (.int p1), .val (.int p2), .val (.int p3), .val (.int p4), .val (.int p5), .val (.int len), .val (.ref t), .val (.ref r2), .val (.int (1 : Int32))] [])) _
          refine XS.aload X.here hx rfl (hb hby at_320) rfl rfl ?_
          show Steps p.tables e below (T.setTop (mkF m 322 #[.val (.int p1), .val (.int p2), .val (.int p3), .val (.int p4), .val (.int p5), .val (.int len), .val (.ref t), .val (.ref r2), .val (.int (1 : Int32))] [(.ref r2)])) _
          refine XS.iconst X.here hx rfl (hb hby at_322) ?_
          show Steps p.tables e below (T.setTop (mkF m 323 #[.val (.int p1), .val (.int p2), .val (.int p3), .val (.int p4), .val (.int p5), .val (.int len), .val (.ref t), .val (.ref r2), .val (.int (1 : Int32))] [(.int (5 : Int32)), (.ref r2)])) _
          exact k_
        refine own_iaload X hx hZ eT AR2 5 z5 (by omega) rfl rfl (hb hby at_323) ?_
        show own_Go p e below s room_1.cells room_1.slots (fun v _ L => v = some (.int (1 : Int32)) ∧ Fr n0 L) T (mkF m 324 #[.val (.int p1), .val (.int p2), .val (.int p3), .val (.int p4), .val (.int p5), .val (.int len), .val (.ref t), .val (.ref r2), .val (.int (1 : Int32))] [(.int (g2 5))])
        refine own_go (T' := T) (g' := (mkF m 327 #[.val (.int p1), .val (.int p2), .val (.int p3), .val (.int p4), .val (.int p5), .val (.int len), .val (.ref t), .val (.ref r2), .val (.int (1 : Int32))] [(.int (5 : Int32)), (.ref t), (.int (g2 5))])) (fun t_ k_ => ?_) ?_
        · refine XS.aload X.here hx rfl (hb hby at_324) rfl rfl ?_
          show Steps p.tables e below (T.setTop (mkF m 326 #[.val (.int p1), .val (.int p2), .val (.int p3), .val (.int p4), .val (.int p5), .val (.int len), .val (.ref t), .val (.ref r2), .val (.int (1 : Int32))] [(.ref t), (.int (g2 5))])) _
          refine XS.iconst X.here hx rfl (hb hby at_326) ?_
          show Steps p.tables e below (T.setTop (mkF m 327 #[.val (.int p1), .val (.int p2), .val (.int p3), .val (.int p4), .val (.int p5), .val (.int len), .val (.ref t), .val (.ref r2), .val (.int (1 : Int32))] [(.int (5 : Int32)), (.ref t), (.int (g2 5))])) _
          exact k_
        refine own_callS (y := (⟨"com/example/ioconic/ioconic/expr/LanguageBordersPinLaw", "border", "([II)I"⟩ : MethodName)) (W := 1) (rm := ({ frames := 1, cells := 0, slots := 0, locals := 14 } : Room)) (argsL := [(.ref t), (.int (5 : Int32))]) (rest := [(.int (g2 5))]) X hx hZ hown (hw _ (List.mem_of_getElem? (i := 10) rfl)) (hw _ (List.mem_of_getElem? (i := 11) rfl)) (hw _ (List.mem_of_getElem? (i := 8) rfl)) (hw _ (List.mem_of_getElem? (i := 12) rfl)) (by decide) (rm3 l Z a0 hw [] t (5 : Int32) T2.heap n0 ZB n f 5 At z5 (by decide) c1' (by decide)) (by decide) (by decide) eT (by decide) (by decide) rfl (by rw [hml]; rfl) (lenOf pd3 rfl) rfl (by show 2 * 0 + _ ≤ _; exact Nat.le_of_eq rfl) (hb hby at_327) ?_
        rintro _ T9 L9 X9 ⟨r9, rfl, hr9, N9, e9⟩
        show own_Go p e below s room_1.cells room_1.slots (fun v _ L => v = some (.int (1 : Int32)) ∧ Fr n0 L) T9 (mkF m 330 #[.val (.int p1), .val (.int p2), .val (.int p3), .val (.int p4), .val (.int p5), .val (.int len), .val (.ref t), .val (.ref r2), .val (.int (1 : Int32))] [(.int r9), (.int (g2 5))])
        have hf10 : (g2 5) = r9 := own_PB_one (gB2 5 (by decide) c1') hr9
        refine own_go (T' := T9) (g' := (mkF m 340 #[.val (.int p1), .val (.int p2), .val (.int p3), .val (.int p4), .val (.int p5), .val (.int len), .val (.ref t), .val (.ref r2), .val (.int (1 : Int32))] [])) (fun t_ k_ => ?_) ?_
        · refine XS.icmpNo X9.here hx rfl (hb hby at_330) rfl (teq hf10).2 ?_
          show Steps p.tables e below (T9.setTop (mkF m 333 #[.val (.int p1), .val (.int p2), .val (.int p3), .val (.int p4), .val (.int p5), .val (.int len), .val (.ref t), .val (.ref r2), .val (.int (1 : Int32))] [])) _
          refine XS.iconst X9.here hx rfl (hb hby at_333) ?_
          show Steps p.tables e below (T9.setTop (mkF m 334 #[.val (.int p1), .val (.int p2), .val (.int p3), .val (.int p4), .val (.int p5), .val (.int len), .val (.ref t), .val (.ref r2), .val (.int (1 : Int32))] [(.int (1 : Int32))])) _
          refine XS.goto X9.here hx rfl (pc0 := 334) (pc' := 338) rfl (hb hby at_334) (by decide) (by decide) ?_
          show Steps p.tables e below (T9.setTop (mkF m 338 #[.val (.int p1), .val (.int p2), .val (.int p3), .val (.int p4), .val (.int p5), .val (.int len), .val (.ref t), .val (.ref r2), .val (.int (1 : Int32))] [(.int (1 : Int32))])) _
          refine XS.istore X9.here hx rfl (hb hby at_338) rfl (l' := #[.val (.int p1), .val (.int p2), .val (.int p3), .val (.int p4), .val (.int p5), .val (.int len), .val (.ref t), .val (.ref r2), .val (.int (1 : Int32))]) rfl ?_
          show Steps p.tables e below (T9.setTop (mkF m 340 #[.val (.int p1), .val (.int p2), .val (.int p3), .val (.int p4), .val (.int p5), .val (.int len), .val (.ref t), .val (.ref r2), .val (.int (1 : Int32))] [])) _
          exact k_
        exact K6' _ _ X9 e9 (Fr.app N N9)
    have K4' : ∀ (T : State) (K : List Loc), Stand p l e room_1 s m #[(.int p1), (.int p2), (.int p3), (.int p4), (.int p5)] below meth c T K 2 13 → T.heap = T2.heap → Fr n0 K → own_Go p e below s room_1.cells room_1.slots (fun v _ L => v = some (.int (1 : Int32)) ∧ Fr n0 L) T (mkF m 278 #[.val (.int p1), .val (.int p2), .val (.int p3), .val (.int p4), .val (.int p5), .val (.int len), .val (.ref t), .val (.ref r2), .val (.int (1 : Int32))] []) := by
      intro T K X eT N
      refine own_go (T' := T) (g' := (mkF m 281 #[.val (.int p1), .val (.int p2), .val (.int p3), .val (.int p4), .val (.int p5), .val (.int len), .val (.ref t), .val (.ref r2), .val (.int (1 : Int32))] [(.int (4 : Int32)), (.int len)])) (fun t_ k_ => ?_) ?_
      · refine XS.iload X.here hx rfl (hb hby at_278) rfl ?_
        show Steps p.tables e below (T.setTop (mkF m 280 #[.val (.int p1), .val (.int p2), .val (.int p3), .val (.int p4), .val (.int p5), .val (.int len), .val (.ref t), .val (.ref r2), .val (.int (1 : Int32))] [(.int len)])) _
        refine XS.iconst X.here hx rfl (hb hby at_280) ?_
        show Steps p.tables e below (T.setTop (mkF m 281 #[.val (.int p1), .val (.int p2), .val (.int p3), .val (.int p4), .val (.int p5), .val (.int len), .val (.ref t), .val (.ref r2), .val (.int (1 : Int32))] [(.int (4 : Int32)), (.int len)])) _
        exact k_
      by_cases c1 : len < (4 : Int32)
      · refine own_go (T' := T) (g' := (mkF m 309 #[.val (.int p1), .val (.int p2), .val (.int p3), .val (.int p4), .val (.int p5), .val (.int len), .val (.ref t), .val (.ref r2), .val (.int (1 : Int32))] [])) (fun t_ k_ => ?_) ?_
        · refine XS.icmpYes X.here hx rfl (pc0 := 281) (pc' := 309) rfl (hb hby at_281) rfl (tlt c1).1 (by decide) (by decide) ?_
          show Steps p.tables e below (T.setTop (mkF m 309 #[.val (.int p1), .val (.int p2), .val (.int p3), .val (.int p4), .val (.int p5), .val (.int len), .val (.ref t), .val (.ref r2), .val (.int (1 : Int32))] [])) _
          exact k_
        exact K5' _ _ X eT N
      · refine own_go (T' := T) (g' := (mkF m 284 #[.val (.int p1), .val (.int p2), .val (.int p3), .val (.int p4), .val (.int p5), .val (.int len), .val (.ref t), .val (.ref r2), .val (.int (1 : Int32))] [])) (fun t_ k_ => ?_) ?_
        · refine XS.icmpNo X.here hx rfl (hb hby at_281) rfl (flt c1).1 ?_
          show Steps p.tables e below (T.setTop (mkF m 284 #[.val (.int p1), .val (.int p2), .val (.int p3), .val (.int p4), .val (.int p5), .val (.int len), .val (.ref t), .val (.ref r2), .val (.int (1 : Int32))] [])) _
          exact k_
        have c1' : 4 ≤ n := by rw [Int32.lt_iff_toInt_lt] at c1; omega
        refine own_go (T' := T) (g' := (mkF m 286 #[.val (.int p1), .val (.int p2), .val (.int p3), .val (.int p4), .val (.int p5), .val (.int len), .val (.ref t), .val (.ref r2), .val (.int (1 : Int32))] [(.int (1 : Int32))])) (fun t_ k_ => ?_) ?_
        · refine XS.iload X.here hx rfl (hb hby at_284) rfl ?_
          show Steps p.tables e below (T.setTop (mkF m 286 #[.val (.int p1), .val (.int p2), .val (.int p3), .val (.int p4), .val (.int p5), .val (.int len), .val (.ref t), .val (.ref r2), .val (.int (1 : Int32))] [(.int (1 : Int32))])) _
          exact k_
        have hf11 : ¬ ((1 : Int32) = (0 : Int32)) := by decide
        refine own_go (T' := T) (g' := (mkF m 292 #[.val (.int p1), .val (.int p2), .val (.int p3), .val (.int p4), .val (.int p5), .val (.int len), .val (.ref t), .val (.ref r2), .val (.int (1 : Int32))] [(.int (4 : Int32)), (.ref r2)])) (fun t_ k_ => ?_) ?_
        · refine XS.ifNo X.here hx rfl (hb hby at_286) rfl ((if0 _ _).trans (feq hf11).1) ?_
          show Steps p.tables e below (T.setTop (mkF m 289 #[.val (.int p1), .val (.int p2), .val (.int p3), .val (.int p4), .val (.int p5), .val (.int len), .val (.ref t), .val (.ref r2), .val (.int (1 : Int32))] [])) _
          refine XS.aload X.here hx rfl (hb hby at_289) rfl rfl ?_
          show Steps p.tables e below (T.setTop (mkF m 291 #[.val (.int p1), .val (.int p2), .val (.int p3), .val (.int p4), .val (.int p5), .val (.int len), .val (.ref t), .val (.ref r2), .val (.int (1 : Int32))] [(.ref r2)])) _
          refine XS.iconst X.here hx rfl (hb hby at_291) ?_
          show Steps p.tables e below (T.setTop (mkF m 292 #[.val (.int p1), .val (.int p2), .val (.int p3), .val (.int p4), .val (.int p5), .val (.int len), .val (.ref t), .val (.ref r2), .val (.int (1 : Int32))] [(.int (4 : Int32)), (.ref r2)])) _
          exact k_
        refine own_iaload X hx hZ eT AR2 4 z4 (by omega) rfl rfl (hb hby at_292) ?_
        show own_Go p e below s room_1.cells room_1.slots (fun v _ L => v = some (.int (1 : Int32)) ∧ Fr n0 L) T (mkF m 293 #[.val (.int p1), .val (.int p2), .val (.int p3), .val (.int p4), .val (.int p5), .val (.int len), .val (.ref t), .val (.ref r2), .val (.int (1 : Int32))] [(.int (g2 4))])
        refine own_go (T' := T) (g' := (mkF m 296 #[.val (.int p1), .val (.int p2), .val (.int p3), .val (.int p4), .val (.int p5), .val (.int len), .val (.ref t), .val (.ref r2), .val (.int (1 : Int32))] [(.int (4 : Int32)), (.ref t), (.int (g2 4))])) (fun t_ k_ => ?_) ?_
        · refine XS.aload X.here hx rfl (hb hby at_293) rfl rfl ?_
          show Steps p.tables e below (T.setTop (mkF m 295 #[.val (.int p1), .val (.int p2), .val (.int p3), .val (.int p4), .val (.int p5), .val (.int len), .val (.ref t), .val (.ref r2), .val (.int (1 : Int32))] [(.ref t), (.int (g2 4))])) _
          refine XS.iconst X.here hx rfl (hb hby at_295) ?_
          show Steps p.tables e below (T.setTop (mkF m 296 #[.val (.int p1), .val (.int p2), .val (.int p3), .val (.int p4), .val (.int p5), .val (.int len), .val (.ref t), .val (.ref r2), .val (.int (1 : Int32))] [(.int (4 : Int32)), (.ref t), (.int (g2 4))])) _
          exact k_
        refine own_callS (y := (⟨"com/example/ioconic/ioconic/expr/LanguageBordersPinLaw", "border", "([II)I"⟩ : MethodName)) (W := 1) (rm := ({ frames := 1, cells := 0, slots := 0, locals := 14 } : Room)) (argsL := [(.ref t), (.int (4 : Int32))]) (rest := [(.int (g2 4))]) X hx hZ hown (hw _ (List.mem_of_getElem? (i := 10) rfl)) (hw _ (List.mem_of_getElem? (i := 11) rfl)) (hw _ (List.mem_of_getElem? (i := 8) rfl)) (hw _ (List.mem_of_getElem? (i := 12) rfl)) (by decide) (rm3 l Z a0 hw [] t (4 : Int32) T2.heap n0 ZB n f 4 At z4 (by decide) c1' (by decide)) (by decide) (by decide) eT (by decide) (by decide) rfl (by rw [hml]; rfl) (lenOf pd3 rfl) rfl (by show 2 * 0 + _ ≤ _; exact Nat.le_of_eq rfl) (hb hby at_296) ?_
        rintro _ T12 L12 X12 ⟨r12, rfl, hr12, N12, e12⟩
        show own_Go p e below s room_1.cells room_1.slots (fun v _ L => v = some (.int (1 : Int32)) ∧ Fr n0 L) T12 (mkF m 299 #[.val (.int p1), .val (.int p2), .val (.int p3), .val (.int p4), .val (.int p5), .val (.int len), .val (.ref t), .val (.ref r2), .val (.int (1 : Int32))] [(.int r12), (.int (g2 4))])
        have hf13 : (g2 4) = r12 := own_PB_one (gB2 4 (by decide) c1') hr12
        refine own_go (T' := T12) (g' := (mkF m 309 #[.val (.int p1), .val (.int p2), .val (.int p3), .val (.int p4), .val (.int p5), .val (.int len), .val (.ref t), .val (.ref r2), .val (.int (1 : Int32))] [])) (fun t_ k_ => ?_) ?_
        · refine XS.icmpNo X12.here hx rfl (hb hby at_299) rfl (teq hf13).2 ?_
          show Steps p.tables e below (T12.setTop (mkF m 302 #[.val (.int p1), .val (.int p2), .val (.int p3), .val (.int p4), .val (.int p5), .val (.int len), .val (.ref t), .val (.ref r2), .val (.int (1 : Int32))] [])) _
          refine XS.iconst X12.here hx rfl (hb hby at_302) ?_
          show Steps p.tables e below (T12.setTop (mkF m 303 #[.val (.int p1), .val (.int p2), .val (.int p3), .val (.int p4), .val (.int p5), .val (.int len), .val (.ref t), .val (.ref r2), .val (.int (1 : Int32))] [(.int (1 : Int32))])) _
          refine XS.goto X12.here hx rfl (pc0 := 303) (pc' := 307) rfl (hb hby at_303) (by decide) (by decide) ?_
          show Steps p.tables e below (T12.setTop (mkF m 307 #[.val (.int p1), .val (.int p2), .val (.int p3), .val (.int p4), .val (.int p5), .val (.int len), .val (.ref t), .val (.ref r2), .val (.int (1 : Int32))] [(.int (1 : Int32))])) _
          refine XS.istore X12.here hx rfl (hb hby at_307) rfl (l' := #[.val (.int p1), .val (.int p2), .val (.int p3), .val (.int p4), .val (.int p5), .val (.int len), .val (.ref t), .val (.ref r2), .val (.int (1 : Int32))]) rfl ?_
          show Steps p.tables e below (T12.setTop (mkF m 309 #[.val (.int p1), .val (.int p2), .val (.int p3), .val (.int p4), .val (.int p5), .val (.int len), .val (.ref t), .val (.ref r2), .val (.int (1 : Int32))] [])) _
          exact k_
        exact K5' _ _ X12 e12 (Fr.app N N12)
    have K3' : ∀ (T : State) (K : List Loc), Stand p l e room_1 s m #[(.int p1), (.int p2), (.int p3), (.int p4), (.int p5)] below meth c T K 2 13 → T.heap = T2.heap → Fr n0 K → own_Go p e below s room_1.cells room_1.slots (fun v _ L => v = some (.int (1 : Int32)) ∧ Fr n0 L) T (mkF m 247 #[.val (.int p1), .val (.int p2), .val (.int p3), .val (.int p4), .val (.int p5), .val (.int len), .val (.ref t), .val (.ref r2), .val (.int (1 : Int32))] []) := by
      intro T K X eT N
      refine own_go (T' := T) (g' := (mkF m 250 #[.val (.int p1), .val (.int p2), .val (.int p3), .val (.int p4), .val (.int p5), .val (.int len), .val (.ref t), .val (.ref r2), .val (.int (1 : Int32))] [(.int (3 : Int32)), (.int len)])) (fun t_ k_ => ?_) ?_
      · refine XS.iload X.here hx rfl (hb hby at_247) rfl ?_
        show Steps p.tables e below (T.setTop (mkF m 249 #[.val (.int p1), .val (.int p2), .val (.int p3), .val (.int p4), .val (.int p5), .val (.int len), .val (.ref t), .val (.ref r2), .val (.int (1 : Int32))] [(.int len)])) _
        refine XS.iconst X.here hx rfl (hb hby at_249) ?_
        show Steps p.tables e below (T.setTop (mkF m 250 #[.val (.int p1), .val (.int p2), .val (.int p3), .val (.int p4), .val (.int p5), .val (.int len), .val (.ref t), .val (.ref r2), .val (.int (1 : Int32))] [(.int (3 : Int32)), (.int len)])) _
        exact k_
      by_cases c1 : len < (3 : Int32)
      · refine own_go (T' := T) (g' := (mkF m 278 #[.val (.int p1), .val (.int p2), .val (.int p3), .val (.int p4), .val (.int p5), .val (.int len), .val (.ref t), .val (.ref r2), .val (.int (1 : Int32))] [])) (fun t_ k_ => ?_) ?_
        · refine XS.icmpYes X.here hx rfl (pc0 := 250) (pc' := 278) rfl (hb hby at_250) rfl (tlt c1).1 (by decide) (by decide) ?_
          show Steps p.tables e below (T.setTop (mkF m 278 #[.val (.int p1), .val (.int p2), .val (.int p3), .val (.int p4), .val (.int p5), .val (.int len), .val (.ref t), .val (.ref r2), .val (.int (1 : Int32))] [])) _
          exact k_
        exact K4' _ _ X eT N
      · refine own_go (T' := T) (g' := (mkF m 253 #[.val (.int p1), .val (.int p2), .val (.int p3), .val (.int p4), .val (.int p5), .val (.int len), .val (.ref t), .val (.ref r2), .val (.int (1 : Int32))] [])) (fun t_ k_ => ?_) ?_
        · refine XS.icmpNo X.here hx rfl (hb hby at_250) rfl (flt c1).1 ?_
          show Steps p.tables e below (T.setTop (mkF m 253 #[.val (.int p1), .val (.int p2), .val (.int p3), .val (.int p4), .val (.int p5), .val (.int len), .val (.ref t), .val (.ref r2), .val (.int (1 : Int32))] [])) _
          exact k_
        have c1' : 3 ≤ n := by rw [Int32.lt_iff_toInt_lt] at c1; omega
        refine own_go (T' := T) (g' := (mkF m 255 #[.val (.int p1), .val (.int p2), .val (.int p3), .val (.int p4), .val (.int p5), .val (.int len), .val (.ref t), .val (.ref r2), .val (.int (1 : Int32))] [(.int (1 : Int32))])) (fun t_ k_ => ?_) ?_
        · refine XS.iload X.here hx rfl (hb hby at_253) rfl ?_
          show Steps p.tables e below (T.setTop (mkF m 255 #[.val (.int p1), .val (.int p2), .val (.int p3), .val (.int p4), .val (.int p5), .val (.int len), .val (.ref t), .val (.ref r2), .val (.int (1 : Int32))] [(.int (1 : Int32))])) _
          exact k_
        have hf14 : ¬ ((1 : Int32) = (0 : Int32)) := by decide
        refine own_go (T' := T) (g' := (mkF m 261 #[.val (.int p1), .val (.int p2), .val (.int p3), .val (.int p4), .val (.int p5), .val (.int len), .val (.ref t), .val (.ref r2), .val (.int (1 : Int32))] [(.int (3 : Int32)), (.ref r2)])) (fun t_ k_ => ?_) ?_
        · refine XS.ifNo X.here hx rfl (hb hby at_255) rfl ((if0 _ _).trans (feq hf14).1) ?_
          show Steps p.tables e below (T.setTop (mkF m 258 #[.val (.int p1), .val (.int p2), .val (.int p3), .val (.int p4), .val (.int p5), .val (.int len), .val (.ref t), .val (.ref r2), .val (.int (1 : Int32))] [])) _
          refine XS.aload X.here hx rfl (hb hby at_258) rfl rfl ?_
          show Steps p.tables e below (T.setTop (mkF m 260 #[.val (.int p1), .val (.int p2), .val (.int p3), .val (.int p4), .val (.int p5), .val (.int len), .val (.ref t), .val (.ref r2), .val (.int (1 : Int32))] [(.ref r2)])) _
          refine XS.iconst X.here hx rfl (hb hby at_260) ?_
          show Steps p.tables e below (T.setTop (mkF m 261 #[.val (.int p1), .val (.int p2), .val (.int p3), .val (.int p4), .val (.int p5), .val (.int len), .val (.ref t), .val (.ref r2), .val (.int (1 : Int32))] [(.int (3 : Int32)), (.ref r2)])) _
          exact k_
        refine own_iaload X hx hZ eT AR2 3 z3 (by omega) rfl rfl (hb hby at_261) ?_
        show own_Go p e below s room_1.cells room_1.slots (fun v _ L => v = some (.int (1 : Int32)) ∧ Fr n0 L) T (mkF m 262 #[.val (.int p1), .val (.int p2), .val (.int p3), .val (.int p4), .val (.int p5), .val (.int len), .val (.ref t), .val (.ref r2), .val (.int (1 : Int32))] [(.int (g2 3))])
        refine own_go (T' := T) (g' := (mkF m 265 #[.val (.int p1), .val (.int p2), .val (.int p3), .val (.int p4), .val (.int p5), .val (.int len), .val (.ref t), .val (.ref r2), .val (.int (1 : Int32))] [(.int (3 : Int32)), (.ref t), (.int (g2 3))])) (fun t_ k_ => ?_) ?_
        · refine XS.aload X.here hx rfl (hb hby at_262) rfl rfl ?_
          show Steps p.tables e below (T.setTop (mkF m 264 #[.val (.int p1), .val (.int p2), .val (.int p3), .val (.int p4), .val (.int p5), .val (.int len), .val (.ref t), .val (.ref r2), .val (.int (1 : Int32))] [(.ref t), (.int (g2 3))])) _
          refine XS.iconst X.here hx rfl (hb hby at_264) ?_
          show Steps p.tables e below (T.setTop (mkF m 265 #[.val (.int p1), .val (.int p2), .val (.int p3), .val (.int p4), .val (.int p5), .val (.int len), .val (.ref t), .val (.ref r2), .val (.int (1 : Int32))] [(.int (3 : Int32)), (.ref t), (.int (g2 3))])) _
          exact k_
        refine own_callS (y := (⟨"com/example/ioconic/ioconic/expr/LanguageBordersPinLaw", "border", "([II)I"⟩ : MethodName)) (W := 1) (rm := ({ frames := 1, cells := 0, slots := 0, locals := 14 } : Room)) (argsL := [(.ref t), (.int (3 : Int32))]) (rest := [(.int (g2 3))]) X hx hZ hown (hw _ (List.mem_of_getElem? (i := 10) rfl)) (hw _ (List.mem_of_getElem? (i := 11) rfl)) (hw _ (List.mem_of_getElem? (i := 8) rfl)) (hw _ (List.mem_of_getElem? (i := 12) rfl)) (by decide) (rm3 l Z a0 hw [] t (3 : Int32) T2.heap n0 ZB n f 3 At z3 (by decide) c1' (by decide)) (by decide) (by decide) eT (by decide) (by decide) rfl (by rw [hml]; rfl) (lenOf pd3 rfl) rfl (by show 2 * 0 + _ ≤ _; exact Nat.le_of_eq rfl) (hb hby at_265) ?_
        rintro _ T15 L15 X15 ⟨r15, rfl, hr15, N15, e15⟩
        show own_Go p e below s room_1.cells room_1.slots (fun v _ L => v = some (.int (1 : Int32)) ∧ Fr n0 L) T15 (mkF m 268 #[.val (.int p1), .val (.int p2), .val (.int p3), .val (.int p4), .val (.int p5), .val (.int len), .val (.ref t), .val (.ref r2), .val (.int (1 : Int32))] [(.int r15), (.int (g2 3))])
        have hf16 : (g2 3) = r15 := own_PB_one (gB2 3 (by decide) c1') hr15
        refine own_go (T' := T15) (g' := (mkF m 278 #[.val (.int p1), .val (.int p2), .val (.int p3), .val (.int p4), .val (.int p5), .val (.int len), .val (.ref t), .val (.ref r2), .val (.int (1 : Int32))] [])) (fun t_ k_ => ?_) ?_
        · refine XS.icmpNo X15.here hx rfl (hb hby at_268) rfl (teq hf16).2 ?_
          show Steps p.tables e below (T15.setTop (mkF m 271 #[.val (.int p1), .val (.int p2), .val (.int p3), .val (.int p4), .val (.int p5), .val (.int len), .val (.ref t), .val (.ref r2), .val (.int (1 : Int32))] [])) _
          refine XS.iconst X15.here hx rfl (hb hby at_271) ?_
          show Steps p.tables e below (T15.setTop (mkF m 272 #[.val (.int p1), .val (.int p2), .val (.int p3), .val (.int p4), .val (.int p5), .val (.int len), .val (.ref t), .val (.ref r2), .val (.int (1 : Int32))] [(.int (1 : Int32))])) _
          refine XS.goto X15.here hx rfl (pc0 := 272) (pc' := 276) rfl (hb hby at_272) (by decide) (by decide) ?_
          show Steps p.tables e below (T15.setTop (mkF m 276 #[.val (.int p1), .val (.int p2), .val (.int p3), .val (.int p4), .val (.int p5), .val (.int len), .val (.ref t), .val (.ref r2), .val (.int (1 : Int32))] [(.int (1 : Int32))])) _
          refine XS.istore X15.here hx rfl (hb hby at_276) rfl (l' := #[.val (.int p1), .val (.int p2), .val (.int p3), .val (.int p4), .val (.int p5), .val (.int len), .val (.ref t), .val (.ref r2), .val (.int (1 : Int32))]) rfl ?_
          show Steps p.tables e below (T15.setTop (mkF m 278 #[.val (.int p1), .val (.int p2), .val (.int p3), .val (.int p4), .val (.int p5), .val (.int len), .val (.ref t), .val (.ref r2), .val (.int (1 : Int32))] [])) _
          exact k_
        exact K4' _ _ X15 e15 (Fr.app N N15)
    have K2' : ∀ (T : State) (K : List Loc), Stand p l e room_1 s m #[(.int p1), (.int p2), (.int p3), (.int p4), (.int p5)] below meth c T K 2 13 → T.heap = T2.heap → Fr n0 K → own_Go p e below s room_1.cells room_1.slots (fun v _ L => v = some (.int (1 : Int32)) ∧ Fr n0 L) T (mkF m 216 #[.val (.int p1), .val (.int p2), .val (.int p3), .val (.int p4), .val (.int p5), .val (.int len), .val (.ref t), .val (.ref r2), .val (.int (1 : Int32))] []) := by
      intro T K X eT N
      refine own_go (T' := T) (g' := (mkF m 219 #[.val (.int p1), .val (.int p2), .val (.int p3), .val (.int p4), .val (.int p5), .val (.int len), .val (.ref t), .val (.ref r2), .val (.int (1 : Int32))] [(.int (2 : Int32)), (.int len)])) (fun t_ k_ => ?_) ?_
      · refine XS.iload X.here hx rfl (hb hby at_216) rfl ?_
        show Steps p.tables e below (T.setTop (mkF m 218 #[.val (.int p1), .val (.int p2), .val (.int p3), .val (.int p4), .val (.int p5), .val (.int len), .val (.ref t), .val (.ref r2), .val (.int (1 : Int32))] [(.int len)])) _
        refine XS.iconst X.here hx rfl (hb hby at_218) ?_
        show Steps p.tables e below (T.setTop (mkF m 219 #[.val (.int p1), .val (.int p2), .val (.int p3), .val (.int p4), .val (.int p5), .val (.int len), .val (.ref t), .val (.ref r2), .val (.int (1 : Int32))] [(.int (2 : Int32)), (.int len)])) _
        exact k_
      by_cases c1 : len < (2 : Int32)
      · refine own_go (T' := T) (g' := (mkF m 247 #[.val (.int p1), .val (.int p2), .val (.int p3), .val (.int p4), .val (.int p5), .val (.int len), .val (.ref t), .val (.ref r2), .val (.int (1 : Int32))] [])) (fun t_ k_ => ?_) ?_
        · refine XS.icmpYes X.here hx rfl (pc0 := 219) (pc' := 247) rfl (hb hby at_219) rfl (tlt c1).1 (by decide) (by decide) ?_
          show Steps p.tables e below (T.setTop (mkF m 247 #[.val (.int p1), .val (.int p2), .val (.int p3), .val (.int p4), .val (.int p5), .val (.int len), .val (.ref t), .val (.ref r2), .val (.int (1 : Int32))] [])) _
          exact k_
        exact K3' _ _ X eT N
      · refine own_go (T' := T) (g' := (mkF m 222 #[.val (.int p1), .val (.int p2), .val (.int p3), .val (.int p4), .val (.int p5), .val (.int len), .val (.ref t), .val (.ref r2), .val (.int (1 : Int32))] [])) (fun t_ k_ => ?_) ?_
        · refine XS.icmpNo X.here hx rfl (hb hby at_219) rfl (flt c1).1 ?_
          show Steps p.tables e below (T.setTop (mkF m 222 #[.val (.int p1), .val (.int p2), .val (.int p3), .val (.int p4), .val (.int p5), .val (.int len), .val (.ref t), .val (.ref r2), .val (.int (1 : Int32))] [])) _
          exact k_
        have c1' : 2 ≤ n := by rw [Int32.lt_iff_toInt_lt] at c1; omega
        refine own_go (T' := T) (g' := (mkF m 224 #[.val (.int p1), .val (.int p2), .val (.int p3), .val (.int p4), .val (.int p5), .val (.int len), .val (.ref t), .val (.ref r2), .val (.int (1 : Int32))] [(.int (1 : Int32))])) (fun t_ k_ => ?_) ?_
        · refine XS.iload X.here hx rfl (hb hby at_222) rfl ?_
          show Steps p.tables e below (T.setTop (mkF m 224 #[.val (.int p1), .val (.int p2), .val (.int p3), .val (.int p4), .val (.int p5), .val (.int len), .val (.ref t), .val (.ref r2), .val (.int (1 : Int32))] [(.int (1 : Int32))])) _
          exact k_
        have hf17 : ¬ ((1 : Int32) = (0 : Int32)) := by decide
        refine own_go (T' := T) (g' := (mkF m 230 #[.val (.int p1), .val (.int p2), .val (.int p3), .val (.int p4), .val (.int p5), .val (.int len), .val (.ref t), .val (.ref r2), .val (.int (1 : Int32))] [(.int (2 : Int32)), (.ref r2)])) (fun t_ k_ => ?_) ?_
        · refine XS.ifNo X.here hx rfl (hb hby at_224) rfl ((if0 _ _).trans (feq hf17).1) ?_
          show Steps p.tables e below (T.setTop (mkF m 227 #[.val (.int p1), .val (.int p2), .val (.int p3), .val (.int p4), .val (.int p5), .val (.int len), .val (.ref t), .val (.ref r2), .val (.int (1 : Int32))] [])) _
          refine XS.aload X.here hx rfl (hb hby at_227) rfl rfl ?_
          show Steps p.tables e below (T.setTop (mkF m 229 #[.val (.int p1), .val (.int p2), .val (.int p3), .val (.int p4), .val (.int p5), .val (.int len), .val (.ref t), .val (.ref r2), .val (.int (1 : Int32))] [(.ref r2)])) _
          refine XS.iconst X.here hx rfl (hb hby at_229) ?_
          show Steps p.tables e below (T.setTop (mkF m 230 #[.val (.int p1), .val (.int p2), .val (.int p3), .val (.int p4), .val (.int p5), .val (.int len), .val (.ref t), .val (.ref r2), .val (.int (1 : Int32))] [(.int (2 : Int32)), (.ref r2)])) _
          exact k_
        refine own_iaload X hx hZ eT AR2 2 z2 (by omega) rfl rfl (hb hby at_230) ?_
        show own_Go p e below s room_1.cells room_1.slots (fun v _ L => v = some (.int (1 : Int32)) ∧ Fr n0 L) T (mkF m 231 #[.val (.int p1), .val (.int p2), .val (.int p3), .val (.int p4), .val (.int p5), .val (.int len), .val (.ref t), .val (.ref r2), .val (.int (1 : Int32))] [(.int (g2 2))])
        refine own_go (T' := T) (g' := (mkF m 234 #[.val (.int p1), .val (.int p2), .val (.int p3), .val (.int p4), .val (.int p5), .val (.int len), .val (.ref t), .val (.ref r2), .val (.int (1 : Int32))] [(.int (2 : Int32)), (.ref t), (.int (g2 2))])) (fun t_ k_ => ?_) ?_
        · refine XS.aload X.here hx rfl (hb hby at_231) rfl rfl ?_
          show Steps p.tables e below (T.setTop (mkF m 233 #[.val (.int p1), .val (.int p2), .val (.int p3), .val (.int p4), .val (.int p5), .val (.int len), .val (.ref t), .val (.ref r2), .val (.int (1 : Int32))] [(.ref t), (.int (g2 2))])) _
          refine XS.iconst X.here hx rfl (hb hby at_233) ?_
          show Steps p.tables e below (T.setTop (mkF m 234 #[.val (.int p1), .val (.int p2), .val (.int p3), .val (.int p4), .val (.int p5), .val (.int len), .val (.ref t), .val (.ref r2), .val (.int (1 : Int32))] [(.int (2 : Int32)), (.ref t), (.int (g2 2))])) _
          exact k_
        refine own_callS (y := (⟨"com/example/ioconic/ioconic/expr/LanguageBordersPinLaw", "border", "([II)I"⟩ : MethodName)) (W := 1) (rm := ({ frames := 1, cells := 0, slots := 0, locals := 14 } : Room)) (argsL := [(.ref t), (.int (2 : Int32))]) (rest := [(.int (g2 2))]) X hx hZ hown (hw _ (List.mem_of_getElem? (i := 10) rfl)) (hw _ (List.mem_of_getElem? (i := 11) rfl)) (hw _ (List.mem_of_getElem? (i := 8) rfl)) (hw _ (List.mem_of_getElem? (i := 12) rfl)) (by decide) (rm3 l Z a0 hw [] t (2 : Int32) T2.heap n0 ZB n f 2 At z2 (by decide) c1' (by decide)) (by decide) (by decide) eT (by decide) (by decide) rfl (by rw [hml]; rfl) (lenOf pd3 rfl) rfl (by show 2 * 0 + _ ≤ _; exact Nat.le_of_eq rfl) (hb hby at_234) ?_
        rintro _ T18 L18 X18 ⟨r18, rfl, hr18, N18, e18⟩
        show own_Go p e below s room_1.cells room_1.slots (fun v _ L => v = some (.int (1 : Int32)) ∧ Fr n0 L) T18 (mkF m 237 #[.val (.int p1), .val (.int p2), .val (.int p3), .val (.int p4), .val (.int p5), .val (.int len), .val (.ref t), .val (.ref r2), .val (.int (1 : Int32))] [(.int r18), (.int (g2 2))])
        have hf19 : (g2 2) = r18 := own_PB_one (gB2 2 (by decide) c1') hr18
        refine own_go (T' := T18) (g' := (mkF m 247 #[.val (.int p1), .val (.int p2), .val (.int p3), .val (.int p4), .val (.int p5), .val (.int len), .val (.ref t), .val (.ref r2), .val (.int (1 : Int32))] [])) (fun t_ k_ => ?_) ?_
        · refine XS.icmpNo X18.here hx rfl (hb hby at_237) rfl (teq hf19).2 ?_
          show Steps p.tables e below (T18.setTop (mkF m 240 #[.val (.int p1), .val (.int p2), .val (.int p3), .val (.int p4), .val (.int p5), .val (.int len), .val (.ref t), .val (.ref r2), .val (.int (1 : Int32))] [])) _
          refine XS.iconst X18.here hx rfl (hb hby at_240) ?_
          show Steps p.tables e below (T18.setTop (mkF m 241 #[.val (.int p1), .val (.int p2), .val (.int p3), .val (.int p4), .val (.int p5), .val (.int len), .val (.ref t), .val (.ref r2), .val (.int (1 : Int32))] [(.int (1 : Int32))])) _
          refine XS.goto X18.here hx rfl (pc0 := 241) (pc' := 245) rfl (hb hby at_241) (by decide) (by decide) ?_
          show Steps p.tables e below (T18.setTop (mkF m 245 #[.val (.int p1), .val (.int p2), .val (.int p3), .val (.int p4), .val (.int p5), .val (.int len), .val (.ref t), .val (.ref r2), .val (.int (1 : Int32))] [(.int (1 : Int32))])) _
          refine XS.istore X18.here hx rfl (hb hby at_245) rfl (l' := #[.val (.int p1), .val (.int p2), .val (.int p3), .val (.int p4), .val (.int p5), .val (.int len), .val (.ref t), .val (.ref r2), .val (.int (1 : Int32))]) rfl ?_
          show Steps p.tables e below (T18.setTop (mkF m 247 #[.val (.int p1), .val (.int p2), .val (.int p3), .val (.int p4), .val (.int p5), .val (.int len), .val (.ref t), .val (.ref r2), .val (.int (1 : Int32))] [])) _
          exact k_
        exact K3' _ _ X18 e18 (Fr.app N N18)
    have K1' : ∀ (T : State) (K : List Loc), Stand p l e room_1 s m #[(.int p1), (.int p2), (.int p3), (.int p4), (.int p5)] below meth c T K 2 13 → T.heap = T2.heap → Fr n0 K → own_Go p e below s room_1.cells room_1.slots (fun v _ L => v = some (.int (1 : Int32)) ∧ Fr n0 L) T (mkF m 185 #[.val (.int p1), .val (.int p2), .val (.int p3), .val (.int p4), .val (.int p5), .val (.int len), .val (.ref t), .val (.ref r2), .val (.int (1 : Int32))] []) := by
      intro T K X eT N
      refine own_go (T' := T) (g' := (mkF m 188 #[.val (.int p1), .val (.int p2), .val (.int p3), .val (.int p4), .val (.int p5), .val (.int len), .val (.ref t), .val (.ref r2), .val (.int (1 : Int32))] [(.int (1 : Int32)), (.int len)])) (fun t_ k_ => ?_) ?_
      · refine XS.iload X.here hx rfl (hb hby at_185) rfl ?_
        show Steps p.tables e below (T.setTop (mkF m 187 #[.val (.int p1), .val (.int p2), .val (.int p3), .val (.int p4), .val (.int p5), .val (.int len), .val (.ref t), .val (.ref r2), .val (.int (1 : Int32))] [(.int len)])) _
        refine XS.iconst X.here hx rfl (hb hby at_187) ?_
        show Steps p.tables e below (T.setTop (mkF m 188 #[.val (.int p1), .val (.int p2), .val (.int p3), .val (.int p4), .val (.int p5), .val (.int len), .val (.ref t), .val (.ref r2), .val (.int (1 : Int32))] [(.int (1 : Int32)), (.int len)])) _
        exact k_
      by_cases c1 : len < (1 : Int32)
      · refine own_go (T' := T) (g' := (mkF m 216 #[.val (.int p1), .val (.int p2), .val (.int p3), .val (.int p4), .val (.int p5), .val (.int len), .val (.ref t), .val (.ref r2), .val (.int (1 : Int32))] [])) (fun t_ k_ => ?_) ?_
        · refine XS.icmpYes X.here hx rfl (pc0 := 188) (pc' := 216) rfl (hb hby at_188) rfl (tlt c1).1 (by decide) (by decide) ?_
          show Steps p.tables e below (T.setTop (mkF m 216 #[.val (.int p1), .val (.int p2), .val (.int p3), .val (.int p4), .val (.int p5), .val (.int len), .val (.ref t), .val (.ref r2), .val (.int (1 : Int32))] [])) _
          exact k_
        exact K2' _ _ X eT N
      · refine own_go (T' := T) (g' := (mkF m 191 #[.val (.int p1), .val (.int p2), .val (.int p3), .val (.int p4), .val (.int p5), .val (.int len), .val (.ref t), .val (.ref r2), .val (.int (1 : Int32))] [])) (fun t_ k_ => ?_) ?_
        · refine XS.icmpNo X.here hx rfl (hb hby at_188) rfl (flt c1).1 ?_
          show Steps p.tables e below (T.setTop (mkF m 191 #[.val (.int p1), .val (.int p2), .val (.int p3), .val (.int p4), .val (.int p5), .val (.int len), .val (.ref t), .val (.ref r2), .val (.int (1 : Int32))] [])) _
          exact k_
        have c1' : 1 ≤ n := by rw [Int32.lt_iff_toInt_lt] at c1; omega
        refine own_go (T' := T) (g' := (mkF m 193 #[.val (.int p1), .val (.int p2), .val (.int p3), .val (.int p4), .val (.int p5), .val (.int len), .val (.ref t), .val (.ref r2), .val (.int (1 : Int32))] [(.int (1 : Int32))])) (fun t_ k_ => ?_) ?_
        · refine XS.iload X.here hx rfl (hb hby at_191) rfl ?_
          show Steps p.tables e below (T.setTop (mkF m 193 #[.val (.int p1), .val (.int p2), .val (.int p3), .val (.int p4), .val (.int p5), .val (.int len), .val (.ref t), .val (.ref r2), .val (.int (1 : Int32))] [(.int (1 : Int32))])) _
          exact k_
        have hf20 : ¬ ((1 : Int32) = (0 : Int32)) := by decide
        refine own_go (T' := T) (g' := (mkF m 199 #[.val (.int p1), .val (.int p2), .val (.int p3), .val (.int p4), .val (.int p5), .val (.int len), .val (.ref t), .val (.ref r2), .val (.int (1 : Int32))] [(.int (1 : Int32)), (.ref r2)])) (fun t_ k_ => ?_) ?_
        · refine XS.ifNo X.here hx rfl (hb hby at_193) rfl ((if0 _ _).trans (feq hf20).1) ?_
          show Steps p.tables e below (T.setTop (mkF m 196 #[.val (.int p1), .val (.int p2), .val (.int p3), .val (.int p4), .val (.int p5), .val (.int len), .val (.ref t), .val (.ref r2), .val (.int (1 : Int32))] [])) _
          refine XS.aload X.here hx rfl (hb hby at_196) rfl rfl ?_
          show Steps p.tables e below (T.setTop (mkF m 198 #[.val (.int p1), .val (.int p2), .val (.int p3), .val (.int p4), .val (.int p5), .val (.int len), .val (.ref t), .val (.ref r2), .val (.int (1 : Int32))] [(.ref r2)])) _
          refine XS.iconst X.here hx rfl (hb hby at_198) ?_
          show Steps p.tables e below (T.setTop (mkF m 199 #[.val (.int p1), .val (.int p2), .val (.int p3), .val (.int p4), .val (.int p5), .val (.int len), .val (.ref t), .val (.ref r2), .val (.int (1 : Int32))] [(.int (1 : Int32)), (.ref r2)])) _
          exact k_
        refine own_iaload X hx hZ eT AR2 1 z1 (by omega) rfl rfl (hb hby at_199) ?_
        show own_Go p e below s room_1.cells room_1.slots (fun v _ L => v = some (.int (1 : Int32)) ∧ Fr n0 L) T (mkF m 200 #[.val (.int p1), .val (.int p2), .val (.int p3), .val (.int p4), .val (.int p5), .val (.int len), .val (.ref t), .val (.ref r2), .val (.int (1 : Int32))] [(.int (g2 1))])
        refine own_go (T' := T) (g' := (mkF m 203 #[.val (.int p1), .val (.int p2), .val (.int p3), .val (.int p4), .val (.int p5), .val (.int len), .val (.ref t), .val (.ref r2), .val (.int (1 : Int32))] [(.int (1 : Int32)), (.ref t), (.int (g2 1))])) (fun t_ k_ => ?_) ?_
        · refine XS.aload X.here hx rfl (hb hby at_200) rfl rfl ?_
          show Steps p.tables e below (T.setTop (mkF m 202 #[.val (.int p1), .val (.int p2), .val (.int p3), .val (.int p4), .val (.int p5), .val (.int len), .val (.ref t), .val (.ref r2), .val (.int (1 : Int32))] [(.ref t), (.int (g2 1))])) _
          refine XS.iconst X.here hx rfl (hb hby at_202) ?_
          show Steps p.tables e below (T.setTop (mkF m 203 #[.val (.int p1), .val (.int p2), .val (.int p3), .val (.int p4), .val (.int p5), .val (.int len), .val (.ref t), .val (.ref r2), .val (.int (1 : Int32))] [(.int (1 : Int32)), (.ref t), (.int (g2 1))])) _
          exact k_
        refine own_callS (y := (⟨"com/example/ioconic/ioconic/expr/LanguageBordersPinLaw", "border", "([II)I"⟩ : MethodName)) (W := 1) (rm := ({ frames := 1, cells := 0, slots := 0, locals := 14 } : Room)) (argsL := [(.ref t), (.int (1 : Int32))]) (rest := [(.int (g2 1))]) X hx hZ hown (hw _ (List.mem_of_getElem? (i := 10) rfl)) (hw _ (List.mem_of_getElem? (i := 11) rfl)) (hw _ (List.mem_of_getElem? (i := 8) rfl)) (hw _ (List.mem_of_getElem? (i := 12) rfl)) (by decide) (rm3 l Z a0 hw [] t (1 : Int32) T2.heap n0 ZB n f 1 At z1 (by decide) c1' (by decide)) (by decide) (by decide) eT (by decide) (by decide) rfl (by rw [hml]; rfl) (lenOf pd3 rfl) rfl (by show 2 * 0 + _ ≤ _; exact Nat.le_of_eq rfl) (hb hby at_203) ?_
        rintro _ T21 L21 X21 ⟨r21, rfl, hr21, N21, e21⟩
        show own_Go p e below s room_1.cells room_1.slots (fun v _ L => v = some (.int (1 : Int32)) ∧ Fr n0 L) T21 (mkF m 206 #[.val (.int p1), .val (.int p2), .val (.int p3), .val (.int p4), .val (.int p5), .val (.int len), .val (.ref t), .val (.ref r2), .val (.int (1 : Int32))] [(.int r21), (.int (g2 1))])
        have hf22 : (g2 1) = r21 := own_PB_one (gB2 1 (by decide) c1') hr21
        refine own_go (T' := T21) (g' := (mkF m 216 #[.val (.int p1), .val (.int p2), .val (.int p3), .val (.int p4), .val (.int p5), .val (.int len), .val (.ref t), .val (.ref r2), .val (.int (1 : Int32))] [])) (fun t_ k_ => ?_) ?_
        · refine XS.icmpNo X21.here hx rfl (hb hby at_206) rfl (teq hf22).2 ?_
          show Steps p.tables e below (T21.setTop (mkF m 209 #[.val (.int p1), .val (.int p2), .val (.int p3), .val (.int p4), .val (.int p5), .val (.int len), .val (.ref t), .val (.ref r2), .val (.int (1 : Int32))] [])) _
          refine XS.iconst X21.here hx rfl (hb hby at_209) ?_
          show Steps p.tables e below (T21.setTop (mkF m 210 #[.val (.int p1), .val (.int p2), .val (.int p3), .val (.int p4), .val (.int p5), .val (.int len), .val (.ref t), .val (.ref r2), .val (.int (1 : Int32))] [(.int (1 : Int32))])) _
          refine XS.goto X21.here hx rfl (pc0 := 210) (pc' := 214) rfl (hb hby at_210) (by decide) (by decide) ?_
          show Steps p.tables e below (T21.setTop (mkF m 214 #[.val (.int p1), .val (.int p2), .val (.int p3), .val (.int p4), .val (.int p5), .val (.int len), .val (.ref t), .val (.ref r2), .val (.int (1 : Int32))] [(.int (1 : Int32))])) _
          refine XS.istore X21.here hx rfl (hb hby at_214) rfl (l' := #[.val (.int p1), .val (.int p2), .val (.int p3), .val (.int p4), .val (.int p5), .val (.int len), .val (.ref t), .val (.ref r2), .val (.int (1 : Int32))]) rfl ?_
          show Steps p.tables e below (T21.setTop (mkF m 216 #[.val (.int p1), .val (.int p2), .val (.int p3), .val (.int p4), .val (.int p5), .val (.int len), .val (.ref t), .val (.ref r2), .val (.int (1 : Int32))] [])) _
          exact k_
        exact K2' _ _ X21 e21 (Fr.app N N21)
    exact K1' _ _ X2 rfl (Fr.app N N2)
  have J5 : ∀ (T : State) (K : List Loc) (h : Heap) (f : Nat → Int32), Stand p l e room_1 s m #[(.int p1), (.int p2), (.int p3), (.int p4), (.int p5)] below meth c T K 1 6 → T.heap = h → Fr n0 K → n0 ≤ h.size → own_Ar Z h t n f → own_Go p e below s room_1.cells room_1.slots (fun v _ L => v = some (.int (1 : Int32)) ∧ Fr n0 L) T (mkF m 124 #[.val (.int p1), .val (.int p2), .val (.int p3), .val (.int p4), .val (.int p5), .val (.int len), .val (.ref t), .unset, .unset] []) := by
    intro T K h f X eT N Zh A
    refine own_go (T' := T) (g' := (mkF m 127 #[.val (.int p1), .val (.int p2), .val (.int p3), .val (.int p4), .val (.int p5), .val (.int len), .val (.ref t), .unset, .unset] [(.int (5 : Int32)), (.int len)])) (fun t_ k_ => ?_) ?_
    · refine XS.iload X.here hx rfl (hb hby at_124) rfl ?_
      show Steps p.tables e below (T.setTop (mkF m 126 #[.val (.int p1), .val (.int p2), .val (.int p3), .val (.int p4), .val (.int p5), .val (.int len), .val (.ref t), .unset, .unset] [(.int len)])) _
      refine XS.iconst X.here hx rfl (hb hby at_126) ?_
      show Steps p.tables e below (T.setTop (mkF m 127 #[.val (.int p1), .val (.int p2), .val (.int p3), .val (.int p4), .val (.int p5), .val (.int len), .val (.ref t), .unset, .unset] [(.int (5 : Int32)), (.int len)])) _
      exact k_
    by_cases c1 : (5 : Int32) < len
    · refine own_go (T' := T) (g' := (mkF m 130 #[.val (.int p1), .val (.int p2), .val (.int p3), .val (.int p4), .val (.int p5), .val (.int len), .val (.ref t), .unset, .unset] [])) (fun t_ k_ => ?_) ?_
      · refine XS.icmpNo X.here hx rfl (hb hby at_127) rfl (tlt c1).2.2.2 ?_
        show Steps p.tables e below (T.setTop (mkF m 130 #[.val (.int p1), .val (.int p2), .val (.int p3), .val (.int p4), .val (.int p5), .val (.int len), .val (.ref t), .unset, .unset] [])) _
        exact k_
      have c1' : 5 < n := by rw [Int32.lt_iff_toInt_lt] at c1; omega
      refine own_go (T' := T) (g' := (mkF m 143 #[.val (.int p1), .val (.int p2), .val (.int p3), .val (.int p4), .val (.int p5), .val (.int len), .val (.ref t), .unset, .unset] [(.int p5), (.int p4), (.int p3), (.int ((((p2).toUInt32 >>> ((10 : Int32) &&& 31).toUInt32).toInt32) &&& (3 : Int32))), (.int (5 : Int32)), (.ref t)])) (fun t_ k_ => ?_) ?_
      · refine XS.aload X.here hx rfl (hb hby at_130) rfl rfl ?_
        show Steps p.tables e below (T.setTop (mkF m 132 #[.val (.int p1), .val (.int p2), .val (.int p3), .val (.int p4), .val (.int p5), .val (.int len), .val (.ref t), .unset, .unset] [(.ref t)])) _
        refine XS.iconst X.here hx rfl (hb hby at_132) ?_
        show Steps p.tables e below (T.setTop (mkF m 133 #[.val (.int p1), .val (.int p2), .val (.int p3), .val (.int p4), .val (.int p5), .val (.int len), .val (.ref t), .unset, .unset] [(.int (5 : Int32)), (.ref t)])) _
        refine XS.iloadN X.here hx rfl (hb hby at_133) rfl ?_
        show Steps p.tables e below (T.setTop (mkF m 134 #[.val (.int p1), .val (.int p2), .val (.int p3), .val (.int p4), .val (.int p5), .val (.int len), .val (.ref t), .unset, .unset] [(.int p2), (.int (5 : Int32)), (.ref t)])) _
        refine XS.bipush X.here hx rfl (hb hby at_134) ?_
        show Steps p.tables e below (T.setTop (mkF m 136 #[.val (.int p1), .val (.int p2), .val (.int p3), .val (.int p4), .val (.int p5), .val (.int len), .val (.ref t), .unset, .unset] [(.int (10 : Int32)), (.int p2), (.int (5 : Int32)), (.ref t)])) _
        refine XS.iushr X.here hx rfl (hb hby at_136) rfl ?_
        show Steps p.tables e below (T.setTop (mkF m 137 #[.val (.int p1), .val (.int p2), .val (.int p3), .val (.int p4), .val (.int p5), .val (.int len), .val (.ref t), .unset, .unset] [(.int (((p2).toUInt32 >>> ((10 : Int32) &&& 31).toUInt32).toInt32)), (.int (5 : Int32)), (.ref t)])) _
        refine XS.iconst X.here hx rfl (hb hby at_137) ?_
        show Steps p.tables e below (T.setTop (mkF m 138 #[.val (.int p1), .val (.int p2), .val (.int p3), .val (.int p4), .val (.int p5), .val (.int len), .val (.ref t), .unset, .unset] [(.int (3 : Int32)), (.int (((p2).toUInt32 >>> ((10 : Int32) &&& 31).toUInt32).toInt32)), (.int (5 : Int32)), (.ref t)])) _
        refine XS.iand X.here hx rfl (hb hby at_138) rfl ?_
        show Steps p.tables e below (T.setTop (mkF m 139 #[.val (.int p1), .val (.int p2), .val (.int p3), .val (.int p4), .val (.int p5), .val (.int len), .val (.ref t), .unset, .unset] [(.int ((((p2).toUInt32 >>> ((10 : Int32) &&& 31).toUInt32).toInt32) &&& (3 : Int32))), (.int (5 : Int32)), (.ref t)])) _
        refine XS.iloadN X.here hx rfl (hb hby at_139) rfl ?_
        show Steps p.tables e below (T.setTop (mkF m 140 #[.val (.int p1), .val (.int p2), .val (.int p3), .val (.int p4), .val (.int p5), .val (.int len), .val (.ref t), .unset, .unset] [(.int p3), (.int ((((p2).toUInt32 >>> ((10 : Int32) &&& 31).toUInt32).toInt32) &&& (3 : Int32))), (.int (5 : Int32)), (.ref t)])) _
        refine XS.iloadN X.here hx rfl (hb hby at_140) rfl ?_
        show Steps p.tables e below (T.setTop (mkF m 141 #[.val (.int p1), .val (.int p2), .val (.int p3), .val (.int p4), .val (.int p5), .val (.int len), .val (.ref t), .unset, .unset] [(.int p4), (.int p3), (.int ((((p2).toUInt32 >>> ((10 : Int32) &&& 31).toUInt32).toInt32) &&& (3 : Int32))), (.int (5 : Int32)), (.ref t)])) _
        refine XS.iload X.here hx rfl (hb hby at_141) rfl ?_
        show Steps p.tables e below (T.setTop (mkF m 143 #[.val (.int p1), .val (.int p2), .val (.int p3), .val (.int p4), .val (.int p5), .val (.int len), .val (.ref t), .unset, .unset] [(.int p5), (.int p4), (.int p3), (.int ((((p2).toUInt32 >>> ((10 : Int32) &&& 31).toUInt32).toInt32) &&& (3 : Int32))), (.int (5 : Int32)), (.ref t)])) _
        exact k_
      refine own_callS (y := (⟨"com/example/ioconic/ioconic/expr/LanguageBordersPinLaw", "pick", "(IIII)I"⟩ : MethodName)) (W := 2) (rm := ({ frames := 0, cells := 0, slots := 0, locals := 0 } : Room)) (argsL := [(.int ((((p2).toUInt32 >>> ((10 : Int32) &&& 31).toUInt32).toInt32) &&& (3 : Int32))), (.int p3), (.int p4), (.int p5)]) (rest := [(.int (5 : Int32)), (.ref t)]) X hx hZ hown (hw _ (List.mem_of_getElem? (i := 6) rfl)) (hw _ (List.mem_of_getElem? (i := 7) rfl)) (hw _ (List.mem_of_getElem? (i := 8) rfl)) (hw _ (List.mem_of_getElem? (i := 9) rfl)) (by decide) (rm2 l Z a0 hw [] ((((p2).toUInt32 >>> ((10 : Int32) &&& 31).toUInt32).toInt32) &&& (3 : Int32)) p3 p4 p5 h n0 Zh) (by decide) (by decide) eT (by decide) (by decide) rfl (by rw [hml]; rfl) (lenOf pd2 rfl) rfl (by show 2 * 0 + _ ≤ _; exact Nat.le_of_eq rfl) (hb hby at_143) ?_
      rintro _ T23 L23 X23 ⟨r23, rfl, -, N23, e23⟩
      show own_Go p e below s room_1.cells room_1.slots (fun v _ L => v = some (.int (1 : Int32)) ∧ Fr n0 L) T23 (mkF m 146 #[.val (.int p1), .val (.int p2), .val (.int p3), .val (.int p4), .val (.int p5), .val (.int len), .val (.ref t), .unset, .unset] [(.int r23), (.int (5 : Int32)), (.ref t)])
      refine own_iastore X23 hx hZ e23 A 5 z5 c1' rfl rfl (hb hby at_146) ?_
      intro T24 h24 X24 e24 W24 A24
      show own_Go p e below s room_1.cells room_1.slots (fun v _ L => v = some (.int (1 : Int32)) ∧ Fr n0 L) T24 (mkF m 147 #[.val (.int p1), .val (.int p2), .val (.int p3), .val (.int p4), .val (.int p5), .val (.int len), .val (.ref t), .unset, .unset] [])
      exact J6 _ _ _ _ X24 e24 (Fr.snoc X24 (Fr.app N N23) gt) (by rw [W24.size]; exact Zh) A24
    · refine own_go (T' := T) (g' := (mkF m 147 #[.val (.int p1), .val (.int p2), .val (.int p3), .val (.int p4), .val (.int p5), .val (.int len), .val (.ref t), .unset, .unset] [])) (fun t_ k_ => ?_) ?_
      · refine XS.icmpYes X.here hx rfl (pc0 := 127) (pc' := 147) rfl (hb hby at_127) rfl (flt c1).2.2.2 (by decide) (by decide) ?_
        show Steps p.tables e below (T.setTop (mkF m 147 #[.val (.int p1), .val (.int p2), .val (.int p3), .val (.int p4), .val (.int p5), .val (.int len), .val (.ref t), .unset, .unset] [])) _
        exact k_
      exact J6 _ _ _ _ X eT N Zh A
  have J4 : ∀ (T : State) (K : List Loc) (h : Heap) (f : Nat → Int32), Stand p l e room_1 s m #[(.int p1), (.int p2), (.int p3), (.int p4), (.int p5)] below meth c T K 1 6 → T.heap = h → Fr n0 K → n0 ≤ h.size → own_Ar Z h t n f → own_Go p e below s room_1.cells room_1.slots (fun v _ L => v = some (.int (1 : Int32)) ∧ Fr n0 L) T (mkF m 101 #[.val (.int p1), .val (.int p2), .val (.int p3), .val (.int p4), .val (.int p5), .val (.int len), .val (.ref t), .unset, .unset] []) := by
    intro T K h f X eT N Zh A
    refine own_go (T' := T) (g' := (mkF m 104 #[.val (.int p1), .val (.int p2), .val (.int p3), .val (.int p4), .val (.int p5), .val (.int len), .val (.ref t), .unset, .unset] [(.int (4 : Int32)), (.int len)])) (fun t_ k_ => ?_) ?_
    · refine XS.iload X.here hx rfl (hb hby at_101) rfl ?_
      show Steps p.tables e below (T.setTop (mkF m 103 #[.val (.int p1), .val (.int p2), .val (.int p3), .val (.int p4), .val (.int p5), .val (.int len), .val (.ref t), .unset, .unset] [(.int len)])) _
      refine XS.iconst X.here hx rfl (hb hby at_103) ?_
      show Steps p.tables e below (T.setTop (mkF m 104 #[.val (.int p1), .val (.int p2), .val (.int p3), .val (.int p4), .val (.int p5), .val (.int len), .val (.ref t), .unset, .unset] [(.int (4 : Int32)), (.int len)])) _
      exact k_
    by_cases c1 : (4 : Int32) < len
    · refine own_go (T' := T) (g' := (mkF m 107 #[.val (.int p1), .val (.int p2), .val (.int p3), .val (.int p4), .val (.int p5), .val (.int len), .val (.ref t), .unset, .unset] [])) (fun t_ k_ => ?_) ?_
      · refine XS.icmpNo X.here hx rfl (hb hby at_104) rfl (tlt c1).2.2.2 ?_
        show Steps p.tables e below (T.setTop (mkF m 107 #[.val (.int p1), .val (.int p2), .val (.int p3), .val (.int p4), .val (.int p5), .val (.int len), .val (.ref t), .unset, .unset] [])) _
        exact k_
      have c1' : 4 < n := by rw [Int32.lt_iff_toInt_lt] at c1; omega
      refine own_go (T' := T) (g' := (mkF m 120 #[.val (.int p1), .val (.int p2), .val (.int p3), .val (.int p4), .val (.int p5), .val (.int len), .val (.ref t), .unset, .unset] [(.int p5), (.int p4), (.int p3), (.int ((((p2).toUInt32 >>> ((8 : Int32) &&& 31).toUInt32).toInt32) &&& (3 : Int32))), (.int (4 : Int32)), (.ref t)])) (fun t_ k_ => ?_) ?_
      · refine XS.aload X.here hx rfl (hb hby at_107) rfl rfl ?_
        show Steps p.tables e below (T.setTop (mkF m 109 #[.val (.int p1), .val (.int p2), .val (.int p3), .val (.int p4), .val (.int p5), .val (.int len), .val (.ref t), .unset, .unset] [(.ref t)])) _
        refine XS.iconst X.here hx rfl (hb hby at_109) ?_
        show Steps p.tables e below (T.setTop (mkF m 110 #[.val (.int p1), .val (.int p2), .val (.int p3), .val (.int p4), .val (.int p5), .val (.int len), .val (.ref t), .unset, .unset] [(.int (4 : Int32)), (.ref t)])) _
        refine XS.iloadN X.here hx rfl (hb hby at_110) rfl ?_
        show Steps p.tables e below (T.setTop (mkF m 111 #[.val (.int p1), .val (.int p2), .val (.int p3), .val (.int p4), .val (.int p5), .val (.int len), .val (.ref t), .unset, .unset] [(.int p2), (.int (4 : Int32)), (.ref t)])) _
        refine XS.bipush X.here hx rfl (hb hby at_111) ?_
        show Steps p.tables e below (T.setTop (mkF m 113 #[.val (.int p1), .val (.int p2), .val (.int p3), .val (.int p4), .val (.int p5), .val (.int len), .val (.ref t), .unset, .unset] [(.int (8 : Int32)), (.int p2), (.int (4 : Int32)), (.ref t)])) _
        refine XS.iushr X.here hx rfl (hb hby at_113) rfl ?_
        show Steps p.tables e below (T.setTop (mkF m 114 #[.val (.int p1), .val (.int p2), .val (.int p3), .val (.int p4), .val (.int p5), .val (.int len), .val (.ref t), .unset, .unset] [(.int (((p2).toUInt32 >>> ((8 : Int32) &&& 31).toUInt32).toInt32)), (.int (4 : Int32)), (.ref t)])) _
        refine XS.iconst X.here hx rfl (hb hby at_114) ?_
        show Steps p.tables e below (T.setTop (mkF m 115 #[.val (.int p1), .val (.int p2), .val (.int p3), .val (.int p4), .val (.int p5), .val (.int len), .val (.ref t), .unset, .unset] [(.int (3 : Int32)), (.int (((p2).toUInt32 >>> ((8 : Int32) &&& 31).toUInt32).toInt32)), (.int (4 : Int32)), (.ref t)])) _
        refine XS.iand X.here hx rfl (hb hby at_115) rfl ?_
        show Steps p.tables e below (T.setTop (mkF m 116 #[.val (.int p1), .val (.int p2), .val (.int p3), .val (.int p4), .val (.int p5), .val (.int len), .val (.ref t), .unset, .unset] [(.int ((((p2).toUInt32 >>> ((8 : Int32) &&& 31).toUInt32).toInt32) &&& (3 : Int32))), (.int (4 : Int32)), (.ref t)])) _
        refine XS.iloadN X.here hx rfl (hb hby at_116) rfl ?_
        show Steps p.tables e below (T.setTop (mkF m 117 #[.val (.int p1), .val (.int p2), .val (.int p3), .val (.int p4), .val (.int p5), .val (.int len), .val (.ref t), .unset, .unset] [(.int p3), (.int ((((p2).toUInt32 >>> ((8 : Int32) &&& 31).toUInt32).toInt32) &&& (3 : Int32))), (.int (4 : Int32)), (.ref t)])) _
        refine XS.iloadN X.here hx rfl (hb hby at_117) rfl ?_
        show Steps p.tables e below (T.setTop (mkF m 118 #[.val (.int p1), .val (.int p2), .val (.int p3), .val (.int p4), .val (.int p5), .val (.int len), .val (.ref t), .unset, .unset] [(.int p4), (.int p3), (.int ((((p2).toUInt32 >>> ((8 : Int32) &&& 31).toUInt32).toInt32) &&& (3 : Int32))), (.int (4 : Int32)), (.ref t)])) _
        refine XS.iload X.here hx rfl (hb hby at_118) rfl ?_
        show Steps p.tables e below (T.setTop (mkF m 120 #[.val (.int p1), .val (.int p2), .val (.int p3), .val (.int p4), .val (.int p5), .val (.int len), .val (.ref t), .unset, .unset] [(.int p5), (.int p4), (.int p3), (.int ((((p2).toUInt32 >>> ((8 : Int32) &&& 31).toUInt32).toInt32) &&& (3 : Int32))), (.int (4 : Int32)), (.ref t)])) _
        exact k_
      refine own_callS (y := (⟨"com/example/ioconic/ioconic/expr/LanguageBordersPinLaw", "pick", "(IIII)I"⟩ : MethodName)) (W := 2) (rm := ({ frames := 0, cells := 0, slots := 0, locals := 0 } : Room)) (argsL := [(.int ((((p2).toUInt32 >>> ((8 : Int32) &&& 31).toUInt32).toInt32) &&& (3 : Int32))), (.int p3), (.int p4), (.int p5)]) (rest := [(.int (4 : Int32)), (.ref t)]) X hx hZ hown (hw _ (List.mem_of_getElem? (i := 6) rfl)) (hw _ (List.mem_of_getElem? (i := 7) rfl)) (hw _ (List.mem_of_getElem? (i := 8) rfl)) (hw _ (List.mem_of_getElem? (i := 9) rfl)) (by decide) (rm2 l Z a0 hw [] ((((p2).toUInt32 >>> ((8 : Int32) &&& 31).toUInt32).toInt32) &&& (3 : Int32)) p3 p4 p5 h n0 Zh) (by decide) (by decide) eT (by decide) (by decide) rfl (by rw [hml]; rfl) (lenOf pd2 rfl) rfl (by show 2 * 0 + _ ≤ _; exact Nat.le_of_eq rfl) (hb hby at_120) ?_
      rintro _ T25 L25 X25 ⟨r25, rfl, -, N25, e25⟩
      show own_Go p e below s room_1.cells room_1.slots (fun v _ L => v = some (.int (1 : Int32)) ∧ Fr n0 L) T25 (mkF m 123 #[.val (.int p1), .val (.int p2), .val (.int p3), .val (.int p4), .val (.int p5), .val (.int len), .val (.ref t), .unset, .unset] [(.int r25), (.int (4 : Int32)), (.ref t)])
      refine own_iastore X25 hx hZ e25 A 4 z4 c1' rfl rfl (hb hby at_123) ?_
      intro T26 h26 X26 e26 W26 A26
      show own_Go p e below s room_1.cells room_1.slots (fun v _ L => v = some (.int (1 : Int32)) ∧ Fr n0 L) T26 (mkF m 124 #[.val (.int p1), .val (.int p2), .val (.int p3), .val (.int p4), .val (.int p5), .val (.int len), .val (.ref t), .unset, .unset] [])
      exact J5 _ _ _ _ X26 e26 (Fr.snoc X26 (Fr.app N N25) gt) (by rw [W26.size]; exact Zh) A26
    · refine own_go (T' := T) (g' := (mkF m 124 #[.val (.int p1), .val (.int p2), .val (.int p3), .val (.int p4), .val (.int p5), .val (.int len), .val (.ref t), .unset, .unset] [])) (fun t_ k_ => ?_) ?_
      · refine XS.icmpYes X.here hx rfl (pc0 := 104) (pc' := 124) rfl (hb hby at_104) rfl (flt c1).2.2.2 (by decide) (by decide) ?_
        show Steps p.tables e below (T.setTop (mkF m 124 #[.val (.int p1), .val (.int p2), .val (.int p3), .val (.int p4), .val (.int p5), .val (.int len), .val (.ref t), .unset, .unset] [])) _
        exact k_
      exact J5 _ _ _ _ X eT N Zh A
  have J3 : ∀ (T : State) (K : List Loc) (h : Heap) (f : Nat → Int32), Stand p l e room_1 s m #[(.int p1), (.int p2), (.int p3), (.int p4), (.int p5)] below meth c T K 1 6 → T.heap = h → Fr n0 K → n0 ≤ h.size → own_Ar Z h t n f → own_Go p e below s room_1.cells room_1.slots (fun v _ L => v = some (.int (1 : Int32)) ∧ Fr n0 L) T (mkF m 78 #[.val (.int p1), .val (.int p2), .val (.int p3), .val (.int p4), .val (.int p5), .val (.int len), .val (.ref t), .unset, .unset] []) := by
    intro T K h f X eT N Zh A
    refine own_go (T' := T) (g' := (mkF m 81 #[.val (.int p1), .val (.int p2), .val (.int p3), .val (.int p4), .val (.int p5), .val (.int len), .val (.ref t), .unset, .unset] [(.int (3 : Int32)), (.int len)])) (fun t_ k_ => ?_) ?_
    · refine XS.iload X.here hx rfl (hb hby at_78) rfl ?_
      show Steps p.tables e below (T.setTop (mkF m 80 #[.val (.int p1), .val (.int p2), .val (.int p3), .val (.int p4), .val (.int p5), .val (.int len), .val (.ref t), .unset, .unset] [(.int len)])) _
      refine XS.iconst X.here hx rfl (hb hby at_80) ?_
      show Steps p.tables e below (T.setTop (mkF m 81 #[.val (.int p1), .val (.int p2), .val (.int p3), .val (.int p4), .val (.int p5), .val (.int len), .val (.ref t), .unset, .unset] [(.int (3 : Int32)), (.int len)])) _
      exact k_
    by_cases c1 : (3 : Int32) < len
    · refine own_go (T' := T) (g' := (mkF m 84 #[.val (.int p1), .val (.int p2), .val (.int p3), .val (.int p4), .val (.int p5), .val (.int len), .val (.ref t), .unset, .unset] [])) (fun t_ k_ => ?_) ?_
      · refine XS.icmpNo X.here hx rfl (hb hby at_81) rfl (tlt c1).2.2.2 ?_
        show Steps p.tables e below (T.setTop (mkF m 84 #[.val (.int p1), .val (.int p2), .val (.int p3), .val (.int p4), .val (.int p5), .val (.int len), .val (.ref t), .unset, .unset] [])) _
        exact k_
      have c1' : 3 < n := by rw [Int32.lt_iff_toInt_lt] at c1; omega
      refine own_go (T' := T) (g' := (mkF m 97 #[.val (.int p1), .val (.int p2), .val (.int p3), .val (.int p4), .val (.int p5), .val (.int len), .val (.ref t), .unset, .unset] [(.int p5), (.int p4), (.int p3), (.int ((((p2).toUInt32 >>> ((6 : Int32) &&& 31).toUInt32).toInt32) &&& (3 : Int32))), (.int (3 : Int32)), (.ref t)])) (fun t_ k_ => ?_) ?_
      · refine XS.aload X.here hx rfl (hb hby at_84) rfl rfl ?_
        show Steps p.tables e below (T.setTop (mkF m 86 #[.val (.int p1), .val (.int p2), .val (.int p3), .val (.int p4), .val (.int p5), .val (.int len), .val (.ref t), .unset, .unset] [(.ref t)])) _
        refine XS.iconst X.here hx rfl (hb hby at_86) ?_
        show Steps p.tables e below (T.setTop (mkF m 87 #[.val (.int p1), .val (.int p2), .val (.int p3), .val (.int p4), .val (.int p5), .val (.int len), .val (.ref t), .unset, .unset] [(.int (3 : Int32)), (.ref t)])) _
        refine XS.iloadN X.here hx rfl (hb hby at_87) rfl ?_
        show Steps p.tables e below (T.setTop (mkF m 88 #[.val (.int p1), .val (.int p2), .val (.int p3), .val (.int p4), .val (.int p5), .val (.int len), .val (.ref t), .unset, .unset] [(.int p2), (.int (3 : Int32)), (.ref t)])) _
        refine XS.bipush X.here hx rfl (hb hby at_88) ?_
        show Steps p.tables e below (T.setTop (mkF m 90 #[.val (.int p1), .val (.int p2), .val (.int p3), .val (.int p4), .val (.int p5), .val (.int len), .val (.ref t), .unset, .unset] [(.int (6 : Int32)), (.int p2), (.int (3 : Int32)), (.ref t)])) _
        refine XS.iushr X.here hx rfl (hb hby at_90) rfl ?_
        show Steps p.tables e below (T.setTop (mkF m 91 #[.val (.int p1), .val (.int p2), .val (.int p3), .val (.int p4), .val (.int p5), .val (.int len), .val (.ref t), .unset, .unset] [(.int (((p2).toUInt32 >>> ((6 : Int32) &&& 31).toUInt32).toInt32)), (.int (3 : Int32)), (.ref t)])) _
        refine XS.iconst X.here hx rfl (hb hby at_91) ?_
        show Steps p.tables e below (T.setTop (mkF m 92 #[.val (.int p1), .val (.int p2), .val (.int p3), .val (.int p4), .val (.int p5), .val (.int len), .val (.ref t), .unset, .unset] [(.int (3 : Int32)), (.int (((p2).toUInt32 >>> ((6 : Int32) &&& 31).toUInt32).toInt32)), (.int (3 : Int32)), (.ref t)])) _
        refine XS.iand X.here hx rfl (hb hby at_92) rfl ?_
        show Steps p.tables e below (T.setTop (mkF m 93 #[.val (.int p1), .val (.int p2), .val (.int p3), .val (.int p4), .val (.int p5), .val (.int len), .val (.ref t), .unset, .unset] [(.int ((((p2).toUInt32 >>> ((6 : Int32) &&& 31).toUInt32).toInt32) &&& (3 : Int32))), (.int (3 : Int32)), (.ref t)])) _
        refine XS.iloadN X.here hx rfl (hb hby at_93) rfl ?_
        show Steps p.tables e below (T.setTop (mkF m 94 #[.val (.int p1), .val (.int p2), .val (.int p3), .val (.int p4), .val (.int p5), .val (.int len), .val (.ref t), .unset, .unset] [(.int p3), (.int ((((p2).toUInt32 >>> ((6 : Int32) &&& 31).toUInt32).toInt32) &&& (3 : Int32))), (.int (3 : Int32)), (.ref t)])) _
        refine XS.iloadN X.here hx rfl (hb hby at_94) rfl ?_
        show Steps p.tables e below (T.setTop (mkF m 95 #[.val (.int p1), .val (.int p2), .val (.int p3), .val (.int p4), .val (.int p5), .val (.int len), .val (.ref t), .unset, .unset] [(.int p4), (.int p3), (.int ((((p2).toUInt32 >>> ((6 : Int32) &&& 31).toUInt32).toInt32) &&& (3 : Int32))), (.int (3 : Int32)), (.ref t)])) _
        refine XS.iload X.here hx rfl (hb hby at_95) rfl ?_
        show Steps p.tables e below (T.setTop (mkF m 97 #[.val (.int p1), .val (.int p2), .val (.int p3), .val (.int p4), .val (.int p5), .val (.int len), .val (.ref t), .unset, .unset] [(.int p5), (.int p4), (.int p3), (.int ((((p2).toUInt32 >>> ((6 : Int32) &&& 31).toUInt32).toInt32) &&& (3 : Int32))), (.int (3 : Int32)), (.ref t)])) _
        exact k_
      refine own_callS (y := (⟨"com/example/ioconic/ioconic/expr/LanguageBordersPinLaw", "pick", "(IIII)I"⟩ : MethodName)) (W := 2) (rm := ({ frames := 0, cells := 0, slots := 0, locals := 0 } : Room)) (argsL := [(.int ((((p2).toUInt32 >>> ((6 : Int32) &&& 31).toUInt32).toInt32) &&& (3 : Int32))), (.int p3), (.int p4), (.int p5)]) (rest := [(.int (3 : Int32)), (.ref t)]) X hx hZ hown (hw _ (List.mem_of_getElem? (i := 6) rfl)) (hw _ (List.mem_of_getElem? (i := 7) rfl)) (hw _ (List.mem_of_getElem? (i := 8) rfl)) (hw _ (List.mem_of_getElem? (i := 9) rfl)) (by decide) (rm2 l Z a0 hw [] ((((p2).toUInt32 >>> ((6 : Int32) &&& 31).toUInt32).toInt32) &&& (3 : Int32)) p3 p4 p5 h n0 Zh) (by decide) (by decide) eT (by decide) (by decide) rfl (by rw [hml]; rfl) (lenOf pd2 rfl) rfl (by show 2 * 0 + _ ≤ _; exact Nat.le_of_eq rfl) (hb hby at_97) ?_
      rintro _ T27 L27 X27 ⟨r27, rfl, -, N27, e27⟩
      show own_Go p e below s room_1.cells room_1.slots (fun v _ L => v = some (.int (1 : Int32)) ∧ Fr n0 L) T27 (mkF m 100 #[.val (.int p1), .val (.int p2), .val (.int p3), .val (.int p4), .val (.int p5), .val (.int len), .val (.ref t), .unset, .unset] [(.int r27), (.int (3 : Int32)), (.ref t)])
      refine own_iastore X27 hx hZ e27 A 3 z3 c1' rfl rfl (hb hby at_100) ?_
      intro T28 h28 X28 e28 W28 A28
      show own_Go p e below s room_1.cells room_1.slots (fun v _ L => v = some (.int (1 : Int32)) ∧ Fr n0 L) T28 (mkF m 101 #[.val (.int p1), .val (.int p2), .val (.int p3), .val (.int p4), .val (.int p5), .val (.int len), .val (.ref t), .unset, .unset] [])
      exact J4 _ _ _ _ X28 e28 (Fr.snoc X28 (Fr.app N N27) gt) (by rw [W28.size]; exact Zh) A28
    · refine own_go (T' := T) (g' := (mkF m 101 #[.val (.int p1), .val (.int p2), .val (.int p3), .val (.int p4), .val (.int p5), .val (.int len), .val (.ref t), .unset, .unset] [])) (fun t_ k_ => ?_) ?_
      · refine XS.icmpYes X.here hx rfl (pc0 := 81) (pc' := 101) rfl (hb hby at_81) rfl (flt c1).2.2.2 (by decide) (by decide) ?_
        show Steps p.tables e below (T.setTop (mkF m 101 #[.val (.int p1), .val (.int p2), .val (.int p3), .val (.int p4), .val (.int p5), .val (.int len), .val (.ref t), .unset, .unset] [])) _
        exact k_
      exact J4 _ _ _ _ X eT N Zh A
  have J2 : ∀ (T : State) (K : List Loc) (h : Heap) (f : Nat → Int32), Stand p l e room_1 s m #[(.int p1), (.int p2), (.int p3), (.int p4), (.int p5)] below meth c T K 1 6 → T.heap = h → Fr n0 K → n0 ≤ h.size → own_Ar Z h t n f → own_Go p e below s room_1.cells room_1.slots (fun v _ L => v = some (.int (1 : Int32)) ∧ Fr n0 L) T (mkF m 56 #[.val (.int p1), .val (.int p2), .val (.int p3), .val (.int p4), .val (.int p5), .val (.int len), .val (.ref t), .unset, .unset] []) := by
    intro T K h f X eT N Zh A
    refine own_go (T' := T) (g' := (mkF m 59 #[.val (.int p1), .val (.int p2), .val (.int p3), .val (.int p4), .val (.int p5), .val (.int len), .val (.ref t), .unset, .unset] [(.int (2 : Int32)), (.int len)])) (fun t_ k_ => ?_) ?_
    · refine XS.iload X.here hx rfl (hb hby at_56) rfl ?_
      show Steps p.tables e below (T.setTop (mkF m 58 #[.val (.int p1), .val (.int p2), .val (.int p3), .val (.int p4), .val (.int p5), .val (.int len), .val (.ref t), .unset, .unset] [(.int len)])) _
      refine XS.iconst X.here hx rfl (hb hby at_58) ?_
      show Steps p.tables e below (T.setTop (mkF m 59 #[.val (.int p1), .val (.int p2), .val (.int p3), .val (.int p4), .val (.int p5), .val (.int len), .val (.ref t), .unset, .unset] [(.int (2 : Int32)), (.int len)])) _
      exact k_
    by_cases c1 : (2 : Int32) < len
    · refine own_go (T' := T) (g' := (mkF m 62 #[.val (.int p1), .val (.int p2), .val (.int p3), .val (.int p4), .val (.int p5), .val (.int len), .val (.ref t), .unset, .unset] [])) (fun t_ k_ => ?_) ?_
      · refine XS.icmpNo X.here hx rfl (hb hby at_59) rfl (tlt c1).2.2.2 ?_
        show Steps p.tables e below (T.setTop (mkF m 62 #[.val (.int p1), .val (.int p2), .val (.int p3), .val (.int p4), .val (.int p5), .val (.int len), .val (.ref t), .unset, .unset] [])) _
        exact k_
      have c1' : 2 < n := by rw [Int32.lt_iff_toInt_lt] at c1; omega
      refine own_go (T' := T) (g' := (mkF m 74 #[.val (.int p1), .val (.int p2), .val (.int p3), .val (.int p4), .val (.int p5), .val (.int len), .val (.ref t), .unset, .unset] [(.int p5), (.int p4), (.int p3), (.int ((((p2).toUInt32 >>> ((4 : Int32) &&& 31).toUInt32).toInt32) &&& (3 : Int32))), (.int (2 : Int32)), (.ref t)])) (fun t_ k_ => ?_) ?_
      · refine XS.aload X.here hx rfl (hb hby at_62) rfl rfl ?_
        show Steps p.tables e below (T.setTop (mkF m 64 #[.val (.int p1), .val (.int p2), .val (.int p3), .val (.int p4), .val (.int p5), .val (.int len), .val (.ref t), .unset, .unset] [(.ref t)])) _
        refine XS.iconst X.here hx rfl (hb hby at_64) ?_
        show Steps p.tables e below (T.setTop (mkF m 65 #[.val (.int p1), .val (.int p2), .val (.int p3), .val (.int p4), .val (.int p5), .val (.int len), .val (.ref t), .unset, .unset] [(.int (2 : Int32)), (.ref t)])) _
        refine XS.iloadN X.here hx rfl (hb hby at_65) rfl ?_
        show Steps p.tables e below (T.setTop (mkF m 66 #[.val (.int p1), .val (.int p2), .val (.int p3), .val (.int p4), .val (.int p5), .val (.int len), .val (.ref t), .unset, .unset] [(.int p2), (.int (2 : Int32)), (.ref t)])) _
        refine XS.iconst X.here hx rfl (hb hby at_66) ?_
        show Steps p.tables e below (T.setTop (mkF m 67 #[.val (.int p1), .val (.int p2), .val (.int p3), .val (.int p4), .val (.int p5), .val (.int len), .val (.ref t), .unset, .unset] [(.int (4 : Int32)), (.int p2), (.int (2 : Int32)), (.ref t)])) _
        refine XS.iushr X.here hx rfl (hb hby at_67) rfl ?_
        show Steps p.tables e below (T.setTop (mkF m 68 #[.val (.int p1), .val (.int p2), .val (.int p3), .val (.int p4), .val (.int p5), .val (.int len), .val (.ref t), .unset, .unset] [(.int (((p2).toUInt32 >>> ((4 : Int32) &&& 31).toUInt32).toInt32)), (.int (2 : Int32)), (.ref t)])) _
        refine XS.iconst X.here hx rfl (hb hby at_68) ?_
        show Steps p.tables e below (T.setTop (mkF m 69 #[.val (.int p1), .val (.int p2), .val (.int p3), .val (.int p4), .val (.int p5), .val (.int len), .val (.ref t), .unset, .unset] [(.int (3 : Int32)), (.int (((p2).toUInt32 >>> ((4 : Int32) &&& 31).toUInt32).toInt32)), (.int (2 : Int32)), (.ref t)])) _
        refine XS.iand X.here hx rfl (hb hby at_69) rfl ?_
        show Steps p.tables e below (T.setTop (mkF m 70 #[.val (.int p1), .val (.int p2), .val (.int p3), .val (.int p4), .val (.int p5), .val (.int len), .val (.ref t), .unset, .unset] [(.int ((((p2).toUInt32 >>> ((4 : Int32) &&& 31).toUInt32).toInt32) &&& (3 : Int32))), (.int (2 : Int32)), (.ref t)])) _
        refine XS.iloadN X.here hx rfl (hb hby at_70) rfl ?_
        show Steps p.tables e below (T.setTop (mkF m 71 #[.val (.int p1), .val (.int p2), .val (.int p3), .val (.int p4), .val (.int p5), .val (.int len), .val (.ref t), .unset, .unset] [(.int p3), (.int ((((p2).toUInt32 >>> ((4 : Int32) &&& 31).toUInt32).toInt32) &&& (3 : Int32))), (.int (2 : Int32)), (.ref t)])) _
        refine XS.iloadN X.here hx rfl (hb hby at_71) rfl ?_
        show Steps p.tables e below (T.setTop (mkF m 72 #[.val (.int p1), .val (.int p2), .val (.int p3), .val (.int p4), .val (.int p5), .val (.int len), .val (.ref t), .unset, .unset] [(.int p4), (.int p3), (.int ((((p2).toUInt32 >>> ((4 : Int32) &&& 31).toUInt32).toInt32) &&& (3 : Int32))), (.int (2 : Int32)), (.ref t)])) _
        refine XS.iload X.here hx rfl (hb hby at_72) rfl ?_
        show Steps p.tables e below (T.setTop (mkF m 74 #[.val (.int p1), .val (.int p2), .val (.int p3), .val (.int p4), .val (.int p5), .val (.int len), .val (.ref t), .unset, .unset] [(.int p5), (.int p4), (.int p3), (.int ((((p2).toUInt32 >>> ((4 : Int32) &&& 31).toUInt32).toInt32) &&& (3 : Int32))), (.int (2 : Int32)), (.ref t)])) _
        exact k_
      refine own_callS (y := (⟨"com/example/ioconic/ioconic/expr/LanguageBordersPinLaw", "pick", "(IIII)I"⟩ : MethodName)) (W := 2) (rm := ({ frames := 0, cells := 0, slots := 0, locals := 0 } : Room)) (argsL := [(.int ((((p2).toUInt32 >>> ((4 : Int32) &&& 31).toUInt32).toInt32) &&& (3 : Int32))), (.int p3), (.int p4), (.int p5)]) (rest := [(.int (2 : Int32)), (.ref t)]) X hx hZ hown (hw _ (List.mem_of_getElem? (i := 6) rfl)) (hw _ (List.mem_of_getElem? (i := 7) rfl)) (hw _ (List.mem_of_getElem? (i := 8) rfl)) (hw _ (List.mem_of_getElem? (i := 9) rfl)) (by decide) (rm2 l Z a0 hw [] ((((p2).toUInt32 >>> ((4 : Int32) &&& 31).toUInt32).toInt32) &&& (3 : Int32)) p3 p4 p5 h n0 Zh) (by decide) (by decide) eT (by decide) (by decide) rfl (by rw [hml]; rfl) (lenOf pd2 rfl) rfl (by show 2 * 0 + _ ≤ _; exact Nat.le_of_eq rfl) (hb hby at_74) ?_
      rintro _ T29 L29 X29 ⟨r29, rfl, -, N29, e29⟩
      show own_Go p e below s room_1.cells room_1.slots (fun v _ L => v = some (.int (1 : Int32)) ∧ Fr n0 L) T29 (mkF m 77 #[.val (.int p1), .val (.int p2), .val (.int p3), .val (.int p4), .val (.int p5), .val (.int len), .val (.ref t), .unset, .unset] [(.int r29), (.int (2 : Int32)), (.ref t)])
      refine own_iastore X29 hx hZ e29 A 2 z2 c1' rfl rfl (hb hby at_77) ?_
      intro T30 h30 X30 e30 W30 A30
      show own_Go p e below s room_1.cells room_1.slots (fun v _ L => v = some (.int (1 : Int32)) ∧ Fr n0 L) T30 (mkF m 78 #[.val (.int p1), .val (.int p2), .val (.int p3), .val (.int p4), .val (.int p5), .val (.int len), .val (.ref t), .unset, .unset] [])
      exact J3 _ _ _ _ X30 e30 (Fr.snoc X30 (Fr.app N N29) gt) (by rw [W30.size]; exact Zh) A30
    · refine own_go (T' := T) (g' := (mkF m 78 #[.val (.int p1), .val (.int p2), .val (.int p3), .val (.int p4), .val (.int p5), .val (.int len), .val (.ref t), .unset, .unset] [])) (fun t_ k_ => ?_) ?_
      · refine XS.icmpYes X.here hx rfl (pc0 := 59) (pc' := 78) rfl (hb hby at_59) rfl (flt c1).2.2.2 (by decide) (by decide) ?_
        show Steps p.tables e below (T.setTop (mkF m 78 #[.val (.int p1), .val (.int p2), .val (.int p3), .val (.int p4), .val (.int p5), .val (.int len), .val (.ref t), .unset, .unset] [])) _
        exact k_
      exact J3 _ _ _ _ X eT N Zh A
  have J1 : ∀ (T : State) (K : List Loc) (h : Heap) (f : Nat → Int32), Stand p l e room_1 s m #[(.int p1), (.int p2), (.int p3), (.int p4), (.int p5)] below meth c T K 1 6 → T.heap = h → Fr n0 K → n0 ≤ h.size → own_Ar Z h t n f → own_Go p e below s room_1.cells room_1.slots (fun v _ L => v = some (.int (1 : Int32)) ∧ Fr n0 L) T (mkF m 34 #[.val (.int p1), .val (.int p2), .val (.int p3), .val (.int p4), .val (.int p5), .val (.int len), .val (.ref t), .unset, .unset] []) := by
    intro T K h f X eT N Zh A
    refine own_go (T' := T) (g' := (mkF m 37 #[.val (.int p1), .val (.int p2), .val (.int p3), .val (.int p4), .val (.int p5), .val (.int len), .val (.ref t), .unset, .unset] [(.int (1 : Int32)), (.int len)])) (fun t_ k_ => ?_) ?_
    · refine XS.iload X.here hx rfl (hb hby at_34) rfl ?_
      show Steps p.tables e below (T.setTop (mkF m 36 #[.val (.int p1), .val (.int p2), .val (.int p3), .val (.int p4), .val (.int p5), .val (.int len), .val (.ref t), .unset, .unset] [(.int len)])) _
      refine XS.iconst X.here hx rfl (hb hby at_36) ?_
      show Steps p.tables e below (T.setTop (mkF m 37 #[.val (.int p1), .val (.int p2), .val (.int p3), .val (.int p4), .val (.int p5), .val (.int len), .val (.ref t), .unset, .unset] [(.int (1 : Int32)), (.int len)])) _
      exact k_
    by_cases c1 : (1 : Int32) < len
    · refine own_go (T' := T) (g' := (mkF m 40 #[.val (.int p1), .val (.int p2), .val (.int p3), .val (.int p4), .val (.int p5), .val (.int len), .val (.ref t), .unset, .unset] [])) (fun t_ k_ => ?_) ?_
      · refine XS.icmpNo X.here hx rfl (hb hby at_37) rfl (tlt c1).2.2.2 ?_
        show Steps p.tables e below (T.setTop (mkF m 40 #[.val (.int p1), .val (.int p2), .val (.int p3), .val (.int p4), .val (.int p5), .val (.int len), .val (.ref t), .unset, .unset] [])) _
        exact k_
      have c1' : 1 < n := by rw [Int32.lt_iff_toInt_lt] at c1; omega
      refine own_go (T' := T) (g' := (mkF m 52 #[.val (.int p1), .val (.int p2), .val (.int p3), .val (.int p4), .val (.int p5), .val (.int len), .val (.ref t), .unset, .unset] [(.int p5), (.int p4), (.int p3), (.int ((((p2).toUInt32 >>> ((2 : Int32) &&& 31).toUInt32).toInt32) &&& (3 : Int32))), (.int (1 : Int32)), (.ref t)])) (fun t_ k_ => ?_) ?_
      · refine XS.aload X.here hx rfl (hb hby at_40) rfl rfl ?_
        show Steps p.tables e below (T.setTop (mkF m 42 #[.val (.int p1), .val (.int p2), .val (.int p3), .val (.int p4), .val (.int p5), .val (.int len), .val (.ref t), .unset, .unset] [(.ref t)])) _
        refine XS.iconst X.here hx rfl (hb hby at_42) ?_
        show Steps p.tables e below (T.setTop (mkF m 43 #[.val (.int p1), .val (.int p2), .val (.int p3), .val (.int p4), .val (.int p5), .val (.int len), .val (.ref t), .unset, .unset] [(.int (1 : Int32)), (.ref t)])) _
        refine XS.iloadN X.here hx rfl (hb hby at_43) rfl ?_
        show Steps p.tables e below (T.setTop (mkF m 44 #[.val (.int p1), .val (.int p2), .val (.int p3), .val (.int p4), .val (.int p5), .val (.int len), .val (.ref t), .unset, .unset] [(.int p2), (.int (1 : Int32)), (.ref t)])) _
        refine XS.iconst X.here hx rfl (hb hby at_44) ?_
        show Steps p.tables e below (T.setTop (mkF m 45 #[.val (.int p1), .val (.int p2), .val (.int p3), .val (.int p4), .val (.int p5), .val (.int len), .val (.ref t), .unset, .unset] [(.int (2 : Int32)), (.int p2), (.int (1 : Int32)), (.ref t)])) _
        refine XS.iushr X.here hx rfl (hb hby at_45) rfl ?_
        show Steps p.tables e below (T.setTop (mkF m 46 #[.val (.int p1), .val (.int p2), .val (.int p3), .val (.int p4), .val (.int p5), .val (.int len), .val (.ref t), .unset, .unset] [(.int (((p2).toUInt32 >>> ((2 : Int32) &&& 31).toUInt32).toInt32)), (.int (1 : Int32)), (.ref t)])) _
        refine XS.iconst X.here hx rfl (hb hby at_46) ?_
        show Steps p.tables e below (T.setTop (mkF m 47 #[.val (.int p1), .val (.int p2), .val (.int p3), .val (.int p4), .val (.int p5), .val (.int len), .val (.ref t), .unset, .unset] [(.int (3 : Int32)), (.int (((p2).toUInt32 >>> ((2 : Int32) &&& 31).toUInt32).toInt32)), (.int (1 : Int32)), (.ref t)])) _
        refine XS.iand X.here hx rfl (hb hby at_47) rfl ?_
        show Steps p.tables e below (T.setTop (mkF m 48 #[.val (.int p1), .val (.int p2), .val (.int p3), .val (.int p4), .val (.int p5), .val (.int len), .val (.ref t), .unset, .unset] [(.int ((((p2).toUInt32 >>> ((2 : Int32) &&& 31).toUInt32).toInt32) &&& (3 : Int32))), (.int (1 : Int32)), (.ref t)])) _
        refine XS.iloadN X.here hx rfl (hb hby at_48) rfl ?_
        show Steps p.tables e below (T.setTop (mkF m 49 #[.val (.int p1), .val (.int p2), .val (.int p3), .val (.int p4), .val (.int p5), .val (.int len), .val (.ref t), .unset, .unset] [(.int p3), (.int ((((p2).toUInt32 >>> ((2 : Int32) &&& 31).toUInt32).toInt32) &&& (3 : Int32))), (.int (1 : Int32)), (.ref t)])) _
        refine XS.iloadN X.here hx rfl (hb hby at_49) rfl ?_
        show Steps p.tables e below (T.setTop (mkF m 50 #[.val (.int p1), .val (.int p2), .val (.int p3), .val (.int p4), .val (.int p5), .val (.int len), .val (.ref t), .unset, .unset] [(.int p4), (.int p3), (.int ((((p2).toUInt32 >>> ((2 : Int32) &&& 31).toUInt32).toInt32) &&& (3 : Int32))), (.int (1 : Int32)), (.ref t)])) _
        refine XS.iload X.here hx rfl (hb hby at_50) rfl ?_
        show Steps p.tables e below (T.setTop (mkF m 52 #[.val (.int p1), .val (.int p2), .val (.int p3), .val (.int p4), .val (.int p5), .val (.int len), .val (.ref t), .unset, .unset] [(.int p5), (.int p4), (.int p3), (.int ((((p2).toUInt32 >>> ((2 : Int32) &&& 31).toUInt32).toInt32) &&& (3 : Int32))), (.int (1 : Int32)), (.ref t)])) _
        exact k_
      refine own_callS (y := (⟨"com/example/ioconic/ioconic/expr/LanguageBordersPinLaw", "pick", "(IIII)I"⟩ : MethodName)) (W := 2) (rm := ({ frames := 0, cells := 0, slots := 0, locals := 0 } : Room)) (argsL := [(.int ((((p2).toUInt32 >>> ((2 : Int32) &&& 31).toUInt32).toInt32) &&& (3 : Int32))), (.int p3), (.int p4), (.int p5)]) (rest := [(.int (1 : Int32)), (.ref t)]) X hx hZ hown (hw _ (List.mem_of_getElem? (i := 6) rfl)) (hw _ (List.mem_of_getElem? (i := 7) rfl)) (hw _ (List.mem_of_getElem? (i := 8) rfl)) (hw _ (List.mem_of_getElem? (i := 9) rfl)) (by decide) (rm2 l Z a0 hw [] ((((p2).toUInt32 >>> ((2 : Int32) &&& 31).toUInt32).toInt32) &&& (3 : Int32)) p3 p4 p5 h n0 Zh) (by decide) (by decide) eT (by decide) (by decide) rfl (by rw [hml]; rfl) (lenOf pd2 rfl) rfl (by show 2 * 0 + _ ≤ _; exact Nat.le_of_eq rfl) (hb hby at_52) ?_
      rintro _ T31 L31 X31 ⟨r31, rfl, -, N31, e31⟩
      show own_Go p e below s room_1.cells room_1.slots (fun v _ L => v = some (.int (1 : Int32)) ∧ Fr n0 L) T31 (mkF m 55 #[.val (.int p1), .val (.int p2), .val (.int p3), .val (.int p4), .val (.int p5), .val (.int len), .val (.ref t), .unset, .unset] [(.int r31), (.int (1 : Int32)), (.ref t)])
      refine own_iastore X31 hx hZ e31 A 1 z1 c1' rfl rfl (hb hby at_55) ?_
      intro T32 h32 X32 e32 W32 A32
      show own_Go p e below s room_1.cells room_1.slots (fun v _ L => v = some (.int (1 : Int32)) ∧ Fr n0 L) T32 (mkF m 56 #[.val (.int p1), .val (.int p2), .val (.int p3), .val (.int p4), .val (.int p5), .val (.int len), .val (.ref t), .unset, .unset] [])
      exact J2 _ _ _ _ X32 e32 (Fr.snoc X32 (Fr.app N N31) gt) (by rw [W32.size]; exact Zh) A32
    · refine own_go (T' := T) (g' := (mkF m 56 #[.val (.int p1), .val (.int p2), .val (.int p3), .val (.int p4), .val (.int p5), .val (.int len), .val (.ref t), .unset, .unset] [])) (fun t_ k_ => ?_) ?_
      · refine XS.icmpYes X.here hx rfl (pc0 := 37) (pc' := 56) rfl (hb hby at_37) rfl (flt c1).2.2.2 (by decide) (by decide) ?_
        show Steps p.tables e below (T.setTop (mkF m 56 #[.val (.int p1), .val (.int p2), .val (.int p3), .val (.int p4), .val (.int p5), .val (.int len), .val (.ref t), .unset, .unset] [])) _
        exact k_
      exact J2 _ _ _ _ X eT N Zh A
  have J0 : ∀ (T : State) (K : List Loc) (h : Heap) (f : Nat → Int32), Stand p l e room_1 s m #[(.int p1), (.int p2), (.int p3), (.int p4), (.int p5)] below meth c T K 1 6 → T.heap = h → Fr n0 K → n0 ≤ h.size → own_Ar Z h t n f → own_Go p e below s room_1.cells room_1.slots (fun v _ L => v = some (.int (1 : Int32)) ∧ Fr n0 L) T (mkF m 15 #[.val (.int p1), .val (.int p2), .val (.int p3), .val (.int p4), .val (.int p5), .val (.int len), .val (.ref t), .unset, .unset] []) := by
    intro T K h f X eT N Zh A
    refine own_go (T' := T) (g' := (mkF m 17 #[.val (.int p1), .val (.int p2), .val (.int p3), .val (.int p4), .val (.int p5), .val (.int len), .val (.ref t), .unset, .unset] [(.int len)])) (fun t_ k_ => ?_) ?_
    · refine XS.iload X.here hx rfl (hb hby at_15) rfl ?_
      show Steps p.tables e below (T.setTop (mkF m 17 #[.val (.int p1), .val (.int p2), .val (.int p3), .val (.int p4), .val (.int p5), .val (.int len), .val (.ref t), .unset, .unset] [(.int len)])) _
      exact k_
    by_cases c1 : (0 : Int32) < len
    · refine own_go (T' := T) (g' := (mkF m 20 #[.val (.int p1), .val (.int p2), .val (.int p3), .val (.int p4), .val (.int p5), .val (.int len), .val (.ref t), .unset, .unset] [])) (fun t_ k_ => ?_) ?_
      · refine XS.ifNo X.here hx rfl (hb hby at_17) rfl ((if0 _ _).trans (tlt c1).2.2.2) ?_
        show Steps p.tables e below (T.setTop (mkF m 20 #[.val (.int p1), .val (.int p2), .val (.int p3), .val (.int p4), .val (.int p5), .val (.int len), .val (.ref t), .unset, .unset] [])) _
        exact k_
      have c1' : 0 < n := by rw [Int32.lt_iff_toInt_lt] at c1; omega
      refine own_go (T' := T) (g' := (mkF m 30 #[.val (.int p1), .val (.int p2), .val (.int p3), .val (.int p4), .val (.int p5), .val (.int len), .val (.ref t), .unset, .unset] [(.int p5), (.int p4), (.int p3), (.int (p2 &&& (3 : Int32))), (.int (0 : Int32)), (.ref t)])) (fun t_ k_ => ?_) ?_
      · refine XS.aload X.here hx rfl (hb hby at_20) rfl rfl ?_
        show Steps p.tables e below (T.setTop (mkF m 22 #[.val (.int p1), .val (.int p2), .val (.int p3), .val (.int p4), .val (.int p5), .val (.int len), .val (.ref t), .unset, .unset] [(.ref t)])) _
        refine XS.iconst X.here hx rfl (hb hby at_22) ?_
        show Steps p.tables e below (T.setTop (mkF m 23 #[.val (.int p1), .val (.int p2), .val (.int p3), .val (.int p4), .val (.int p5), .val (.int len), .val (.ref t), .unset, .unset] [(.int (0 : Int32)), (.ref t)])) _
        refine XS.iloadN X.here hx rfl (hb hby at_23) rfl ?_
        show Steps p.tables e below (T.setTop (mkF m 24 #[.val (.int p1), .val (.int p2), .val (.int p3), .val (.int p4), .val (.int p5), .val (.int len), .val (.ref t), .unset, .unset] [(.int p2), (.int (0 : Int32)), (.ref t)])) _
        refine XS.iconst X.here hx rfl (hb hby at_24) ?_
        show Steps p.tables e below (T.setTop (mkF m 25 #[.val (.int p1), .val (.int p2), .val (.int p3), .val (.int p4), .val (.int p5), .val (.int len), .val (.ref t), .unset, .unset] [(.int (3 : Int32)), (.int p2), (.int (0 : Int32)), (.ref t)])) _
        refine XS.iand X.here hx rfl (hb hby at_25) rfl ?_
        show Steps p.tables e below (T.setTop (mkF m 26 #[.val (.int p1), .val (.int p2), .val (.int p3), .val (.int p4), .val (.int p5), .val (.int len), .val (.ref t), .unset, .unset] [(.int (p2 &&& (3 : Int32))), (.int (0 : Int32)), (.ref t)])) _
        refine XS.iloadN X.here hx rfl (hb hby at_26) rfl ?_
        show Steps p.tables e below (T.setTop (mkF m 27 #[.val (.int p1), .val (.int p2), .val (.int p3), .val (.int p4), .val (.int p5), .val (.int len), .val (.ref t), .unset, .unset] [(.int p3), (.int (p2 &&& (3 : Int32))), (.int (0 : Int32)), (.ref t)])) _
        refine XS.iloadN X.here hx rfl (hb hby at_27) rfl ?_
        show Steps p.tables e below (T.setTop (mkF m 28 #[.val (.int p1), .val (.int p2), .val (.int p3), .val (.int p4), .val (.int p5), .val (.int len), .val (.ref t), .unset, .unset] [(.int p4), (.int p3), (.int (p2 &&& (3 : Int32))), (.int (0 : Int32)), (.ref t)])) _
        refine XS.iload X.here hx rfl (hb hby at_28) rfl ?_
        show Steps p.tables e below (T.setTop (mkF m 30 #[.val (.int p1), .val (.int p2), .val (.int p3), .val (.int p4), .val (.int p5), .val (.int len), .val (.ref t), .unset, .unset] [(.int p5), (.int p4), (.int p3), (.int (p2 &&& (3 : Int32))), (.int (0 : Int32)), (.ref t)])) _
        exact k_
      refine own_callS (y := (⟨"com/example/ioconic/ioconic/expr/LanguageBordersPinLaw", "pick", "(IIII)I"⟩ : MethodName)) (W := 2) (rm := ({ frames := 0, cells := 0, slots := 0, locals := 0 } : Room)) (argsL := [(.int (p2 &&& (3 : Int32))), (.int p3), (.int p4), (.int p5)]) (rest := [(.int (0 : Int32)), (.ref t)]) X hx hZ hown (hw _ (List.mem_of_getElem? (i := 6) rfl)) (hw _ (List.mem_of_getElem? (i := 7) rfl)) (hw _ (List.mem_of_getElem? (i := 8) rfl)) (hw _ (List.mem_of_getElem? (i := 9) rfl)) (by decide) (rm2 l Z a0 hw [] (p2 &&& (3 : Int32)) p3 p4 p5 h n0 Zh) (by decide) (by decide) eT (by decide) (by decide) rfl (by rw [hml]; rfl) (lenOf pd2 rfl) rfl (by show 2 * 0 + _ ≤ _; exact Nat.le_of_eq rfl) (hb hby at_30) ?_
      rintro _ T33 L33 X33 ⟨r33, rfl, -, N33, e33⟩
      show own_Go p e below s room_1.cells room_1.slots (fun v _ L => v = some (.int (1 : Int32)) ∧ Fr n0 L) T33 (mkF m 33 #[.val (.int p1), .val (.int p2), .val (.int p3), .val (.int p4), .val (.int p5), .val (.int len), .val (.ref t), .unset, .unset] [(.int r33), (.int (0 : Int32)), (.ref t)])
      refine own_iastore X33 hx hZ e33 A 0 z0 c1' rfl rfl (hb hby at_33) ?_
      intro T34 h34 X34 e34 W34 A34
      show own_Go p e below s room_1.cells room_1.slots (fun v _ L => v = some (.int (1 : Int32)) ∧ Fr n0 L) T34 (mkF m 34 #[.val (.int p1), .val (.int p2), .val (.int p3), .val (.int p4), .val (.int p5), .val (.int len), .val (.ref t), .unset, .unset] [])
      exact J1 _ _ _ _ X34 e34 (Fr.snoc X34 (Fr.app N N33) gt) (by rw [W34.size]; exact Zh) A34
    · refine own_go (T' := T) (g' := (mkF m 34 #[.val (.int p1), .val (.int p2), .val (.int p3), .val (.int p4), .val (.int p5), .val (.int len), .val (.ref t), .unset, .unset] [])) (fun t_ k_ => ?_) ?_
      · refine XS.ifYes X.here hx rfl (pc0 := 17) (pc' := 34) rfl (hb hby at_17) rfl ((if0 _ _).trans (flt c1).2.2.2) (by decide) (by decide) ?_
        show Steps p.tables e below (T.setTop (mkF m 34 #[.val (.int p1), .val (.int p2), .val (.int p3), .val (.int p4), .val (.int p5), .val (.int len), .val (.ref t), .unset, .unset] [])) _
        exact k_
      exact J1 _ _ _ _ X eT N Zh A
  exact J0 _ _ _ _ X1 e1 N0 Zh A1
set_option maxRecDepth 65536 in
set_option maxHeartbeats 40000000 in
theorem comes_1 {Post : Tables → Env → Array Value → State → Outcome → State → Prop} (hpost : ∀ tb e args s v u, (limb_1_1.after args s (.returned v) u = true ∧ limb_1_2.after args s (.returned v) u = true ∧ True) → FrameEnd s (.returned v) u (Jvm.fieldLocs frame_1_writes args s ++ Jvm.arrayLocs frame_1_arrays args s ++ Jvm.staticLocs frame_1_statics s) 16 128 → Post tb e args s (.returned v) u) :
    ArmFor flags0 classFile x code maxLocals ret World_1 tables_1 room_1 Calls_1 rest_1 Pre_1 Post := by
  intro l hfl _ _ p e ha hc hk s m args below hf hA hF happ hP
  obtain ⟨hcalls, hrest, hpre⟩ := hP
  obtain ⟨-, -, -, hnamed, -, -, -, hat⟩ := (Spec.applies_iff hf).mp happ
  obtain ⟨hg, hn⟩ := and_e (Cond.before_iff.mp (show (Jvm.Cond.and given_1 narrow_1).before args s = true from hpre))
  obtain ⟨gc, gr0⟩ := and_e hg
  obtain ⟨gk0, gr1⟩ := and_e gr0
  obtain ⟨gk1, gr2⟩ := and_e gr1
  obtain ⟨gk2, gr3⟩ := and_e gr2
  obtain ⟨gk3, gr4⟩ := and_e gr3
  have gk4 := gr4
  obtain ⟨w0, w1, w2, w3, w4, rfl⟩ : ∃ w0 w1 w2 w3 w4 : Value, args = #[w0, w1, w2, w3, w4] := by
    have hs : args.size = 5 := by simpa [Cond.value, given_1] using gc
    obtain ⟨L⟩ := args
    match L, hs with
    | [w0, w1, w2, w3, w4], _ => exact ⟨w0, w1, w2, w3, w4, rfl⟩
  have hw := fun d (hd : d ∈ tables_1) => atoms_spec (ws := Jvm.Cond.code x code maxLocals ret :: tables_1) hat d (List.mem_cons_of_mem _ hd)
  have hfit : Fit s := fun {y c} hc i hi => by
    obtain ⟨ha, rfl⟩ := Array.getElem?_eq_some_iff.mp hc
    have q := List.all_eq_true.mp ((Array.all_eq_true_iff_forall_mem.mp hF) _ (Array.getElem_mem ha)) i (List.mem_range.mpr hi)
    simpa [Array.getElem?_eq_getElem hi] using q
  obtain ⟨i0, ei0⟩ := is_v gk0
  obtain rfl : w0 = (.int i0) := Option.some.inj ei0
  obtain ⟨i1, ei1⟩ := is_v gk1
  obtain rfl : w1 = (.int i1) := Option.some.inj ei1
  obtain ⟨i2, ei2⟩ := is_v gk2
  obtain rfl : w2 = (.int i2) := Option.some.inj ei2
  obtain ⟨i3, ei3⟩ := is_v gk3
  obtain rfl : w3 = (.int i3) := Option.some.inj ei3
  obtain ⟨i4, ei4⟩ := is_v gk4
  obtain rfl : w4 = (.int i4) := Option.some.inj ei4
  obtain ⟨n, o, h1, h2, h3, _, L, rfl, ⟨rfl, N⟩, hq⟩ := rm0 l s _ hw tables_1 i0 i1 i2 i3 i4 s.heap s.heap.size (Nat.le_refl _) p e ha hc hk s m _ below hf ((Spec.applies_iff_loose hf).mp happ).1 ⟨rfl, State.Warmed39.refl s, rfl⟩ trivial
  refine ⟨n, _, h1, h2, h3, hpost _ _ _ _ _ _ ⟨Cond.after_iff.mpr rfl, Cond.after_iff.mpr (eq_i res_at (Term.int_eval (1)) rfl), trivial⟩ ⟨hq.1, hq.2.1, (hq.2.2.sift fun y hy => Or.inr (N y hy)).mono (by decide) (by decide)⟩⟩
theorem main_1_1 : Claimed_1_1 := comes_1 fun _ _ _ _ _ _ h hF => ⟨h.1, hF⟩
theorem main_1_2 : Claimed_1_2 := comes_1 fun _ _ _ _ _ _ h hF => ⟨h.2.1, hF⟩
end Jvm.Pilot.@@N@@
namespace Jvm.Pilot.@@N@@
open Jvm Jvm.ClassFile Sem Op Lib Jvm.Free Jvm.Stand Jvm.Pilot.@@N@@.Jvm.D
/-! MADE BY PROGRAM (witnessworld.py) out of the Statement's table words and the real class files: 9 classes; the members and pool entries that the words name. The judged class is class 1, her method 4. -/
namespace start1
open Jvm.ClassFile
def u (s : String) : CpInfo := .utf8 (stringToUtf16 s)
/-- a pool by its gaps: so many unusable entries, then the entry; so many at the end -/
def gap : Nat → List CpInfo → List CpInfo
  | 0, r => r
  | n + 1, r => .unusable :: gap n r
def poolList (es : List (Nat × CpInfo)) (last : Nat) : List CpInfo := es.foldr (fun e r => gap e.1 (e.2 :: r)) (gap last [])
def pool (es : List (Nat × CpInfo)) (last : Nat) : Array CpInfo := ⟨poolList es last⟩
def fileOf (pool : Array CpInfo) (this : Nat) (attrs : Array Attribute := #[]) (ms : Array MethodInfo := #[]) (fl : Nat := 33) (sup : Nat := 0) (ifs : Array Nat := #[]) (fds : Array FieldInfo := #[]) : ClassFile where
  minorVersion := 0
  majorVersion := 65
  constantPool := pool
  accessFlags := fl
  thisClass := this
  superClass := sup
  interfaces := ifs
  fields := fds
  methods := ms
  attributes := attrs
def plain (name : String) (sup : Option ClassId) : Class where
  name := name
  kind := .ordinary
  loader := none
  accessFlags := 33
  super := sup
  interfaces := #[]
  cf := none
  fields := #[]
  methods := #[]
  instanceTypes := #[]
  staticTypes := #[]
  resolved := #[]
  callSites := []
  init := .initialized
  statics := none
  mirror := none

def pool0 : Array CpInfo := pool [(5, u "<init>"), (0, u "()V"), (1, .class_ 10), (1, u "java/lang/Object")] 113

def k0m0 : Method := { name := "<init>", desc := "()V", sig := { parameters := [], returnType := none }, accessFlags := 1, code := none }
/-- java/lang/Object -/
def k0 : Class := { plain "java/lang/Object" none with
  accessFlags := 33
  interfaces := #[]
  cf := some (fileOf pool0 8 #[] #[{ accessFlags := 1, nameIndex := 5, descriptorIndex := 6, attributes := #[] }] 33 0 #[] #[])
  fields := #[]
  methods := #[k0m0]
  instanceTypes := #[]
  staticTypes := #[]
  resolved := Array.replicate 124 none
  statics := none }

def pool1 : Array CpInfo := pool [(2, .class_ 4), (1, u "java/lang/Object"), (0, u "<init>"), (0, u "()V"), (0, .methodref 8 9), (0, .class_ 10), (0, .nameAndType 11 12), (0, u "com/example/ioconic/ioconic/expr/LanguageBordersPinLaw"), (0, u "eq"), (0, u "([III)Z"), (0, .integer 2147483647), (0, .methodref 8 15), (0, .nameAndType 16 17), (0, u "pick"), (0, u "(IIII)I"), (0, .methodref 19 20), (0, .class_ 21), (0, .nameAndType 22 23), (0, u "com/example/ioconic/ioconic/expr/Language"), (0, u "borders"), (0, u "([I)[I"), (0, .methodref 8 25), (0, .nameAndType 26 27), (0, u "border"), (0, u "([II)I"), (3, u "law"), (0, u "(IIIII)Z")] 4

def k1m0 : Method := { name := "<init>", desc := "()V", sig := { parameters := [], returnType := none }, accessFlags := 1, code := none }
def k1c1 : Code := { maxStack := 2, maxLocals := 4, code := method_2_code, exceptionTable := #[], attributes := #[] }
def k1m1 : Method := { name := "pick", desc := "(IIII)I", sig := { parameters := [.int, .int, .int, .int], returnType := some .int }, accessFlags := 10, code := some k1c1 }
def k1c2 : Code := { maxStack := 4, maxLocals := 3, code := method_3_code, exceptionTable := #[], attributes := #[] }
def k1m2 : Method := { name := "eq", desc := "([III)Z", sig := { parameters := [(.array .int), .int, .int], returnType := some .boolean }, accessFlags := 10, code := some k1c2 }
def k1c3 : Code := { maxStack := 3, maxLocals := 2, code := method_4_code, exceptionTable := #[], attributes := #[] }
def k1m3 : Method := { name := "border", desc := "([II)I", sig := { parameters := [(.array .int), .int], returnType := some .int }, accessFlags := 10, code := some k1c3 }
def k1c4 : Code := { maxStack := 6, maxLocals := 9, code := code, exceptionTable := #[], attributes := #[] }
def k1m4 : Method := { name := "law", desc := "(IIIII)Z", sig := { parameters := [.int, .int, .int, .int, .int], returnType := some .boolean }, accessFlags := 9, code := some k1c4 }
/-- com/example/ioconic/ioconic/expr/LanguageBordersPinLaw -/
def k1 : Class := { plain "com/example/ioconic/ioconic/expr/LanguageBordersPinLaw" (some 0) with
  accessFlags := 49
  interfaces := #[]
  cf := some (fileOf pool1 8 #[] #[{ accessFlags := 1, nameIndex := 5, descriptorIndex := 6, attributes := #[] }, { accessFlags := 10, nameIndex := 16, descriptorIndex := 17, attributes := #[] }, { accessFlags := 10, nameIndex := 11, descriptorIndex := 12, attributes := #[] }, { accessFlags := 10, nameIndex := 26, descriptorIndex := 27, attributes := #[] }, { accessFlags := 9, nameIndex := 31, descriptorIndex := 32, attributes := #[] }] 49 2 #[] #[])
  fields := #[]
  methods := #[k1m0, k1m1, k1m2, k1m3, k1m4]
  instanceTypes := #[]
  staticTypes := #[]
  resolved := Array.replicate 37 none
  statics := none }

def pool2 : Array CpInfo := pool [(2, .class_ 4), (1, u "java/lang/Object"), (6, .class_ 13), (1, u "com/example/ioconic/ioconic/expr/Language"), (0, u "counted"), (0, u "Ljava/util/Map;"), (6, u "tooFar"), (0, u "J"), (7, u "walked"), (0, u "Ljava/lang/ref/SoftReference;"), (2, u "automaton"), (0, u "Lcom/example/ioconic/ioconic/expr/Automaton;"), (2, u "fewest"), (2, u "limit"), (2, u "shape"), (0, u "Lcom/example/ioconic/ioconic/expr/Shape;"), (2, u "operands"), (0, u "Lcom/example/ioconic/ioconic/expr/Language$Operands;"), (82, .class_ 134), (0, u "com/example/ioconic/ioconic/expr/Language$Operands"), (17, u "lengths"), (0, u "Lcom/example/ioconic/ioconic/expr/Lengths;"), (12, u "exact"), (0, u "Z"), (45, .class_ 214), (0, u "com/example/ioconic/ioconic/expr/Language$Reach"), (12, .class_ 229), (1, u "com/example/ioconic/ioconic/expr/Language$Feasible"), (120, .class_ 351), (0, u "com/example/ioconic/ioconic/expr/Language$Step"), (22, u "I"), (45, .class_ 421), (0, u "com/example/ioconic/ioconic/expr/Language$Matcher"), (6, .class_ 429), (0, u "com/example/ioconic/ioconic/expr/Language$Progress"), (59, u "WALKING"), (1, u "STANDING_IN"), (23, u "borders"), (0, u "([I)[I"), (5, .class_ 523), (0, u "com/example/ioconic/ioconic/expr/Language$Reach$Tally")] 39

def k2c0 : Code := { maxStack := 3, maxLocals := 4, code := prog_29_method_22_code, exceptionTable := #[], attributes := #[] }
def k2m0 : Method := { name := "borders", desc := "([I)[I", sig := { parameters := [(.array .int)], returnType := some (.array .int) }, accessFlags := 8, code := some k2c0 }
/-- com/example/ioconic/ioconic/expr/Language -/
def k2 : Class := { plain "com/example/ioconic/ioconic/expr/Language" (some 0) with
  accessFlags := 49
  interfaces := #[]
  cf := some (fileOf pool2 11 #[.nestMembers #[350, 227, 213, 522, 133, 420, 428]] #[{ accessFlags := 8, nameIndex := 515, descriptorIndex := 516, attributes := #[] }] 49 2 #[] #[{ accessFlags := 26, nameIndex := 489, descriptorIndex := 23, attributes := #[] }, { accessFlags := 26, nameIndex := 491, descriptorIndex := 374, attributes := #[] }, { accessFlags := 18, nameIndex := 35, descriptorIndex := 36, attributes := #[] }, { accessFlags := 18, nameIndex := 39, descriptorIndex := 23, attributes := #[] }, { accessFlags := 18, nameIndex := 42, descriptorIndex := 23, attributes := #[] }, { accessFlags := 18, nameIndex := 45, descriptorIndex := 46, attributes := #[] }, { accessFlags := 18, nameIndex := 49, descriptorIndex := 50, attributes := #[] }, { accessFlags := 2, nameIndex := 152, descriptorIndex := 153, attributes := #[] }, { accessFlags := 2, nameIndex := 166, descriptorIndex := 167, attributes := #[] }, { accessFlags := 18, nameIndex := 14, descriptorIndex := 15, attributes := #[] }, { accessFlags := 2, nameIndex := 22, descriptorIndex := 23, attributes := #[] }, { accessFlags := 2, nameIndex := 31, descriptorIndex := 32, attributes := #[] }])
  fields := #[{ name := "WALKING", type := .long, accessFlags := 26, slot := 0, constantValue := 0 }, { name := "STANDING_IN", type := .int, accessFlags := 26, slot := 1, constantValue := 0 }, { name := "automaton", type := (.object "com/example/ioconic/ioconic/expr/Automaton"), accessFlags := 18, slot := 0, constantValue := 0 }, { name := "fewest", type := .long, accessFlags := 18, slot := 1, constantValue := 0 }, { name := "limit", type := .long, accessFlags := 18, slot := 2, constantValue := 0 }, { name := "shape", type := (.object "com/example/ioconic/ioconic/expr/Shape"), accessFlags := 18, slot := 3, constantValue := 0 }, { name := "operands", type := (.object "com/example/ioconic/ioconic/expr/Language$Operands"), accessFlags := 18, slot := 4, constantValue := 0 }, { name := "lengths", type := (.object "com/example/ioconic/ioconic/expr/Lengths"), accessFlags := 2, slot := 5, constantValue := 0 }, { name := "exact", type := .boolean, accessFlags := 2, slot := 6, constantValue := 0 }, { name := "counted", type := (.object "java/util/Map"), accessFlags := 18, slot := 7, constantValue := 0 }, { name := "tooFar", type := .long, accessFlags := 2, slot := 8, constantValue := 0 }, { name := "walked", type := (.object "java/lang/ref/SoftReference"), accessFlags := 2, slot := 9, constantValue := 0 }]
  methods := #[k2m0]
  instanceTypes := #[(.object "com/example/ioconic/ioconic/expr/Automaton"), .long, .long, (.object "com/example/ioconic/ioconic/expr/Shape"), (.object "com/example/ioconic/ioconic/expr/Language$Operands"), (.object "com/example/ioconic/ioconic/expr/Lengths"), .boolean, (.object "java/util/Map"), .long, (.object "java/lang/ref/SoftReference")]
  staticTypes := #[.long, .int]
  resolved := Array.replicate 563 none
  statics := none }

def pool3 : Array CpInfo := pool [(1, u "java/lang/Cloneable"), (0, .class_ 1), (0, u "java/lang/Object"), (0, .class_ 3)] 3

/-- java/lang/Cloneable -/
def k3 : Class := { plain "java/lang/Cloneable" (some 0) with
  accessFlags := 1537
  interfaces := #[]
  cf := some (fileOf pool3 2 #[] #[] 1537 4 #[] #[])
  fields := #[]
  methods := #[]
  instanceTypes := #[]
  staticTypes := #[]
  resolved := Array.replicate 8 none
  statics := none }

def pool4 : Array CpInfo := pool [(1, u "java/io/Serializable"), (0, .class_ 1), (0, u "java/lang/Object"), (0, .class_ 3)] 3

/-- java/io/Serializable -/
def k4 : Class := { plain "java/io/Serializable" (some 0) with
  accessFlags := 1537
  interfaces := #[]
  cf := some (fileOf pool4 2 #[] #[] 1537 4 #[] #[])
  fields := #[]
  methods := #[]
  instanceTypes := #[]
  staticTypes := #[]
  resolved := Array.replicate 8 none
  statics := none }

/-- the primitive byte -/
def k5 : Class := { plain "byte" none with kind := .primitive 'B', accessFlags := 0x411 }
/-- [B -/
def k6 : Class := { plain "[B" (some 0) with kind := .array 5 .byte, interfaces := #[3, 4], accessFlags := 1041 }

/-- the primitive int -/
def k7 : Class := { plain "int" none with kind := .primitive 'I', accessFlags := 0x411 }
/-- [I -/
def k8 : Class := { plain "[I" (some 0) with kind := .array 7 .int, interfaces := #[3, 4], accessFlags := 1041 }

def heap : Heap := #[]
def classes : Array Class := #[k0, k1, k2, k3, k4, k5, k6, k7, k8]
def interned : List (Array UInt16 × Addr) := []
def slotsUsed : Nat := 0
def theMethod : MethodId := ⟨1, 4⟩
def args0 : Array Value := #[.int 1, .int 2, .int 3, .int 4, .int 5]
def aboutOver (below : List Frame) : State where
  vm := { classes := classes, interned := interned.toArray }
  heap := heap
  slotsUsed := slotsUsed
  threads := #[{ frames := .invoking theMethod args0 :: below }]
def below0 : List Frame := [.native { method := ⟨0, 0⟩, args := #[] }]
def about1 : State := aboutOver below0
def p0 : Program := .bare "" "" ""
def e0 : Env := launch0.env 0 0 0
theorem w_frames : about1.frames = Frame.invoking theMethod args0 :: below0 := rfl
set_option maxRecDepth 65536 in
theorem w_args : argsFit about1.vm theMethod args0 = true := by decide +kernel
set_option maxRecDepth 65536 in
theorem w_heap : heapFits about1 = true := by decide +kernel
set_option maxRecDepth 65536 in
theorem w_runnable : about1.curStatus? = some .runnable := by decide +kernel
set_option maxRecDepth 65536 in
theorem w_alone : about1.alone = true := by decide +kernel
set_option maxRecDepth 65536 in
theorem w_named : about1.methodNamed? x = some theMethod := by decide +kernel
set_option maxRecDepth 65536 in
theorem w_hears : about1.hears theMethod below0 = true := by decide +kernel
set_option maxRecDepth 65536 in
theorem w_ripe : about1.ripe theMethod args0 below0 = true := by decide +kernel
theorem w_running : about1.status = .running := rfl
set_option maxRecDepth 65536 in
theorem w_room : about1.hasRoom e0.platform room_1 = true :=
  launch0.hasRoom_least _ room_1 (by decide +kernel) (by decide +kernel) (by decide +kernel) (by decide +kernel) (by decide +kernel) (by decide +kernel)
theorem allAtoms_all (ts : List Jvm.Cond) (a : Array Jvm.Value) (st : Jvm.State) : (allAtoms ts).before a st = ts.all (fun c => c.before a st) := by
  induction ts with
  | nil => rfl
  | cons c t ih =>
    show (Jvm.Cond.and c (allAtoms t)).before a st = _
    rw [Jvm.Cond.before_and, ih, List.all_cons]
def words1 : List Jvm.Cond := Jvm.Cond.code x code maxLocals ret :: tables_1
/-- a 'code' word, met by the world's own term for the bytes: nothing is compared byte by byte -/
theorem code_word {y : MethodName} {bytes : ByteArray} {mx : Nat} {rt : Option FieldType} {a : Array Value} {s : State} {m : MethodId} {meth : Method} {c : Code} (h1 : s.methodNamed? y = some m) (h2 : s.vm.method? m = some meth) (h3 : meth.code = some c) (h4 : c.code = bytes)
    (h5 : (c.maxLocals == mx && c.exceptionTable.isEmpty && decide (c.maxStack ≤ mostOperands) && decide (meth.sig.returnType = rt) && !meth.locks && decide (parseMethodDescriptor y.desc = some meth.sig)) = true) : (Jvm.Cond.code y bytes mx rt).before a s = true := by
  simp only [Bool.and_eq_true, beq_iff_eq, Bool.not_eq_true', decide_eq_true_eq] at h5
  obtain ⟨⟨⟨⟨⟨g1, g2⟩, g3⟩, g4⟩, g5⟩, g6⟩ := h5
  simp [Cond.before, Cond.holds, Cond.value, h1, h2, h3, h4, g1, g2, g3, g4, g5, g6]
def isCode : Jvm.Cond → Bool
  | .code _ _ _ _ => true
  | _ => false
theorem all_split {L : List Jvm.Cond} {P : Jvm.Cond → Bool} (h1 : L.all (fun c => isCode c || P c) = true) (h2 : ∀ c ∈ L.filter isCode, P c = true) : L.all P = true := by
  refine List.all_eq_true.mpr fun c hc => ?_
  have h := List.all_eq_true.mp h1 c hc
  rcases Bool.eq_false_or_eq_true (isCode c) with hi | hi
  · exact h2 c (List.mem_filter.mpr ⟨hc, hi⟩)
  · simpa [hi] using h
set_option maxRecDepth 65536 in
theorem w_c0 : (Jvm.Cond.code x code maxLocals ret).before args0 about1 = true := code_word (m := ⟨1, 4⟩) (meth := k1m4) (c := k1c4) (by decide +kernel) rfl rfl rfl (by decide +kernel)
set_option maxRecDepth 65536 in
theorem w_c1 : (Jvm.Cond.code ({ cls := "com/example/ioconic/ioconic/expr/Language", name := "borders", desc := "([I)[I" } : Jvm.MethodName) prog_29_method_22_code (4 : Nat) (Option.some (Jvm.ClassFile.FieldType.array Jvm.ClassFile.FieldType.int))).before args0 about1 = true := code_word (m := ⟨2, 0⟩) (meth := k2m0) (c := k2c0) (by decide +kernel) rfl rfl rfl (by decide +kernel)
set_option maxRecDepth 65536 in
theorem w_c2 : (Jvm.Cond.code ({ cls := "com/example/ioconic/ioconic/expr/LanguageBordersPinLaw", name := "pick", desc := "(IIII)I" } : Jvm.MethodName) method_2_code (4 : Nat) (Option.some Jvm.ClassFile.FieldType.int)).before args0 about1 = true := code_word (m := ⟨1, 1⟩) (meth := k1m1) (c := k1c1) (by decide +kernel) rfl rfl rfl (by decide +kernel)
set_option maxRecDepth 65536 in
theorem w_c3 : (Jvm.Cond.code ({ cls := "com/example/ioconic/ioconic/expr/LanguageBordersPinLaw", name := "border", desc := "([II)I" } : Jvm.MethodName) method_4_code (2 : Nat) (Option.some Jvm.ClassFile.FieldType.int)).before args0 about1 = true := code_word (m := ⟨1, 3⟩) (meth := k1m3) (c := k1c3) (by decide +kernel) rfl rfl rfl (by decide +kernel)
set_option maxRecDepth 65536 in
theorem w_c4 : (Jvm.Cond.code ({ cls := "com/example/ioconic/ioconic/expr/LanguageBordersPinLaw", name := "eq", desc := "([III)Z" } : Jvm.MethodName) method_3_code (3 : Nat) (Option.some Jvm.ClassFile.FieldType.boolean)).before args0 about1 = true := code_word (m := ⟨1, 2⟩) (meth := k1m2) (c := k1c2) (by decide +kernel) rfl rfl rfl (by decide +kernel)
def codes1 : List Jvm.Cond := [Jvm.Cond.code x code maxLocals ret, Jvm.Cond.code ({ cls := "com/example/ioconic/ioconic/expr/Language", name := "borders", desc := "([I)[I" } : Jvm.MethodName) prog_29_method_22_code (4 : Nat) (Option.some (Jvm.ClassFile.FieldType.array Jvm.ClassFile.FieldType.int)), Jvm.Cond.code ({ cls := "com/example/ioconic/ioconic/expr/LanguageBordersPinLaw", name := "pick", desc := "(IIII)I" } : Jvm.MethodName) method_2_code (4 : Nat) (Option.some Jvm.ClassFile.FieldType.int), Jvm.Cond.code ({ cls := "com/example/ioconic/ioconic/expr/LanguageBordersPinLaw", name := "border", desc := "([II)I" } : Jvm.MethodName) method_4_code (2 : Nat) (Option.some Jvm.ClassFile.FieldType.int), Jvm.Cond.code ({ cls := "com/example/ioconic/ioconic/expr/LanguageBordersPinLaw", name := "eq", desc := "([III)Z" } : Jvm.MethodName) method_3_code (3 : Nat) (Option.some Jvm.ClassFile.FieldType.boolean)]
set_option maxRecDepth 65536 in
theorem codes_eq : words1.filter isCode = codes1 := rfl
theorem w_codes : ∀ c ∈ words1.filter isCode, c.before args0 about1 = true := by
  rw [codes_eq]
  intro c hc
  simp only [codes1, List.mem_cons, List.not_mem_nil, or_false] at hc
  rcases hc with rfl | rfl | rfl | rfl | rfl
  · exact w_c0
  · exact w_c1
  · exact w_c2
  · exact w_c3
  · exact w_c4
set_option maxRecDepth 65536 in
theorem w_t1 : words1.all (fun c => isCode c || c.before args0 about1) = true := by decide +kernel
theorem w_tables : (allAtoms (Jvm.Cond.code x code maxLocals ret :: tables_1)).before args0 about1 = true := by
  rw [allAtoms_all]
  show words1.all (fun c => c.before args0 about1) = true
  refine all_split ?_ w_codes
  rw [w_t1]
set_option maxRecDepth 65536 in
theorem w_case : (Jvm.Cond.and given_1 narrow_1).before args0 about1 = true := by decide +kernel
theorem w_applies : (headSpec (Jvm.Cond.code x code maxLocals ret :: tables_1) room_1).applies x e0.platform about1 = true :=
  (Spec.applies_iff w_frames).mpr ⟨w_running, w_runnable, w_alone, w_named, w_hears, w_ripe, w_room, w_tables⟩
theorem atStart : AtStart classFile x code maxLocals ret World_1 tables_1 room_1 Calls_1 rest_1 Pre_1 launch0 p0 e0 about1 theMethod args0 below0 :=
  ⟨lists_1, trivial, launch0.admits_env _ _ _, launch0.least_env, fairChoices_fair.cas, fairChoices_fair.clock, w_frames, w_args, w_heap, w_applies, trivial, trivial, w_case⟩
end start1
theorem witness_1 : WitnessClaimed_1 := ⟨start1.p0, start1.e0, start1.about1, start1.theMethod, start1.args0, start1.below0, start1.atStart⟩
end Jvm.Pilot.@@N@@
