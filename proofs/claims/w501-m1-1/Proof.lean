import JvmDerived
import JvmDerived.Pilot.@@N@@Statement
import JvmDerived.Pilot.@@N@@Code
set_option linter.unusedVariables false
set_option linter.unusedSimpArgs false
namespace Jvm.Pilot.@@N@@
open Jvm Jvm.ClassFile Sem Op Lib Jvm.Free Jvm.Stand Jvm.LawKit Jvm.RoadKit Bundle Jvm.Pilot.@@N@@.Jvm.D
section Own
variable {p : Program} {l : Launch} {e : Env} {R : Room} {s : State} {m : MethodId} {args : Array Value} {below : List Frame} {meth : Method} {c : Code} {T T' : State} {locs : List Loc} {cells slots : Nat} {C S : Nat} {Q : Option Value → Heap → List Loc → Prop} {g g' : JFrame} {Z : State} {a0 : Array Value}
/-- from T with the frame g on top the method runs to its end, and ends as Q says -/
def own_Go (p : Program) (e : Env) (below : List Frame) (s : State) (C S : Nat) (Q : Option Value → Heap → List Loc → Prop) (T : State) (g : JFrame) : Prop :=
  ∃ s₂ o, Steps p.tables e below (T.setTop g) s₂ ∧ s₂.status = .running ∧ Ended s₂ below o ∧ ∃ v L, o = .returned v ∧ Q v s₂.heap L ∧ FrameEnd s o s₂ L C S
theorem own_go (k : ∀ t, Steps p.tables e below (T'.setTop g') t → Steps p.tables e below (T.setTop g) t) (h : own_Go p e below s C S Q T' g') : own_Go p e below s C S Q T g := by
  obtain ⟨s₂, o, h1, r⟩ := h
  exact ⟨s₂, o, k _ h1, r⟩
theorem own_end (X : Stand p l e R s m args below meth c T locs cells slots) (hk : meth.locks = false) (v : Option Value) (hv : meth.sig.returnType = none → v = none) (hC : cells ≤ C) (hS : slots ≤ S) (hq : Q v T.heap locs)
    (hst : ∀ fs, (∀ (f : JFrame) (acts : List Action), f.method = m → f.locked = none → f.entered = [] → (doReturn e (T.setTop f) acts v).1 = T.setFrames fs) → Steps p.tables e below (T.setTop g) (T.setFrames fs)) : own_Go p e below s C S Q T g := by
  obtain ⟨fs, hr, hrun, hended, hW, hsame⟩ := X.leave (v := v) hv hk
  exact ⟨_, _, hst fs hr, hrun, hended, v, locs, rfl, hq, ⟨_, rfl⟩, hW, hsame.mono hC hS⟩
theorem own_retI (X : Stand p l e R s m args below meth c T locs cells slots) (hx : p.tables.exec = Jvm.exec) (hret : meth.sig.returnType = some .int) (hk : meth.locks = false) {pc : Nat} {Ls : Array Slot} {z : Int32} {rest : List Value} (hd : decode c.code pc = .ok (.ireturn, 1)) (hC : cells ≤ C) (hS : slots ≤ S) (hq : Q (some (.int z)) T.heap locs) :
    own_Go p e below s C S Q T (mkF m pc Ls (.int z :: rest)) :=
  own_end X hk _ (fun h => by rw [hret] at h; cases h) hC hS hq fun fs hr => retOut X hx hret rfl (Or.inl ⟨rfl, Or.inl rfl, _, rfl⟩) hd hr
theorem own_retZ (X : Stand p l e R s m args below meth c T locs cells slots) (hx : p.tables.exec = Jvm.exec) (hret : meth.sig.returnType = some .boolean) (hk : meth.locks = false) {pc : Nat} {Ls : Array Slot} {z : Int32} {rest : List Value} (hz : nar .boolean z = z) (hd : decode c.code pc = .ok (.ireturn, 1)) (hC : cells ≤ C) (hS : slots ≤ S) (hq : Q (some (.int z)) T.heap locs) :
    own_Go p e below s C S Q T (mkF m pc Ls (.int z :: rest)) :=
  own_end X hk _ (fun h => by rw [hret] at h; cases h) hC hS hq fun fs hr => retN X hx (t := .boolean) hret (Or.inl rfl) hd (by rw [hz]; exact hr)
theorem own_retL (X : Stand p l e R s m args below meth c T locs cells slots) (hx : p.tables.exec = Jvm.exec) (hret : meth.sig.returnType = some .long) (hk : meth.locks = false) {pc : Nat} {Ls : Array Slot} {z : Int64} {rest : List Value} (hd : decode c.code pc = .ok (.lreturn, 1)) (hC : cells ≤ C) (hS : slots ≤ S) (hq : Q (some (.long z)) T.heap locs) :
    own_Go p e below s C S Q T (mkF m pc Ls (.long z :: rest)) :=
  own_end X hk _ (fun h => by rw [hret] at h; cases h) hC hS hq fun fs hr => retOut X hx hret rfl (Or.inr (Or.inl ⟨rfl, rfl, _, rfl⟩)) hd hr
theorem own_retA (X : Stand p l e R s m args below meth c T locs cells slots) (hx : p.tables.exec = Jvm.exec) {t : FieldType} (ht : t.isReference = true) (hret : meth.sig.returnType = some t) (hk : meth.locks = false) {pc : Nat} {Ls : Array Slot} {a : Addr} (hd : decode c.code pc = .ok (.areturn, 1)) (hC : cells ≤ C) (hS : slots ≤ S) (hq : Q (some (.ref a)) T.heap locs) :
    own_Go p e below s C S Q T (mkF m pc Ls [.ref a]) :=
  own_end X hk _ (fun h => by rw [hret] at h; cases h) hC hS hq fun fs hr => X.areturnOut hx rfl hret ht hd hr
theorem own_retV (X : Stand p l e R s m args below meth c T locs cells slots) (hx : p.tables.exec = Jvm.exec) (hret : meth.sig.returnType = none) (hk : meth.locks = false) {pc : Nat} {Ls : Array Slot} (hd : decode c.code pc = .ok (.return_, 1)) (hC : cells ≤ C) (hS : slots ≤ S) (hq : Q none T.heap locs) :
    own_Go p e below s C S Q T (mkF m pc Ls []) :=
  own_end X hk _ (fun _ => rfl) hC hS hq fun fs hr => X.returnOut hx hret hd hr
/-- the contract of one body: entered with the values as' and the heap h, it returns as Q says -/
abbrev own_Con (l : Launch) (Z : State) (y : MethodName) (bytes : ByteArray) (maxL : Nat) (ret : Option FieldType) (ws : List Jvm.Cond) (rm : Room) (as' : Array Value) (h : Heap) (Q : Option Value → Heap → List Loc → Prop) : Prop :=
  MetFree l y (head1 (Jvm.Cond.code y bytes maxL ret :: ws) rm) (fun a U => a = as' ∧ Z.Warmed39 U.vm ∧ U.heap = h) (fun _ _ _ _ _ => True) (fun _ U o U' => ∃ v L, o = .returned v ∧ Q v U'.heap L ∧ FrameEnd U o U' L rm.cells rm.slots)
theorem own_body {y : MethodName} {bytes : ByteArray} {maxL : Nat} {ret : Option FieldType} {ws : List Jvm.Cond} {rm : Room} {as' : Array Value} {h : Heap} (hp : plainFor y = true)
    (body : ∀ (p : Program) (e : Env) (s : State) (m : MethodId) (below : List Frame) (meth : Method) (c : Code) (s₁ : State), p.tables.exec = Jvm.exec → c.code = bytes → c.maxLocals = maxL → Z.Warmed39 s.vm → s.vm.findClass y.cls = some m.cls → meth.name = y.name → meth.sig.returnType = ret → meth.locks = false → s₁.heap = h →
      Stand p l e rm s m as' below meth c s₁ [] 0 0 → own_Go p e below s rm.cells rm.slots Q s₁ (entryFrame m as' maxL)) : own_Con l Z y bytes maxL ret ws rm as' h Q := by
  refine MetFree.of_bodySF hp hisR ?_
  intro p e s m args below meth c s₁ Bd hml hP hK
  obtain ⟨rfl, hZ, hh⟩ := hP
  exact body p e s m below meth c s₁ Bd.exec Bd.bytes hml hZ (findClass_of_methodNamed Bd.named) (name_of_methodNamed Bd.named Bd.method).1 Bd.returns Bd.notSynchronized (by rw [← hh, Bd.state]; rfl) (Stand.of_body Bd)
theorem own_cast {g₀ : JFrame} (q : g₀ = g) (h : own_Go p e below s C S Q T g) : own_Go p e below s C S Q T g₀ := q ▸ h
/-- a static call by its callee's contract -/
theorem own_callS (X : Stand p l e R s m args below meth c T locs cells slots) (hx : p.tables.exec = Jvm.exec) (hZ : Z.Warmed39 s.vm) {own : String} {index : Nat} {y : MethodName} {bytes : ByteArray} {maxL : Nat} {ret : Option FieldType} {rm : Room} {W : Nat} {h : Heap} {Q' : Option Value → Heap → List Loc → Prop} {argsL rest : List Value}
    (hown : s.vm.findClass own = some m.cls) (w1 : (Jvm.Cond.methodLink own index y).before a0 Z = true) (w2 : (Jvm.Cond.static y).before a0 Z = true) (w3 : (Jvm.Cond.initialized y.cls).before a0 Z = true) (w4 : (Jvm.Cond.code y bytes maxL ret).before a0 Z = true) (hy : y.cls ≠ "java/lang/invoke/MethodHandle" ∧ y.cls ≠ "java/lang/invoke/VarHandle")
    (hM : own_Con l Z y bytes maxL ret [] rm argsL.toArray h Q') (hf : rm.frames + 1 ≤ R.frames) (hl : W + (maxL + 11) + rm.locals ≤ R.locals) (eT : T.heap = h) (hc : cells + rm.cells ≤ R.cells) (hs : slots + rm.slots ≤ R.slots)
    (hg : g.method = m) (hsize : g.locals.size = c.maxLocals) (hlen : ∀ sig, parseMethodDescriptor y.desc = some sig → argsL.length = sig.parameters.length) (hstack : g.stack = argsL.reverse ++ rest) (hW : 2 * g.monitorRoom + (rest.map fun v => v.category).sum ≤ W) (hdg : decode c.code g.pc = .ok (.invokestatic index, 3))
    (k : ∀ (v : Option Value) (T' : State) (L' : List Loc), Stand p l e R s m args below meth c T' (locs ++ L') (cells + rm.cells) (slots + rm.slots) → Q' v T'.heap L' → own_Go p e below s C S Q T' { g with pc := g.pc + 3, stack := v.toList ++ rest }) :
    own_Go p e below s C S Q T g := by
  obtain ⟨v, _, ⟨T2, L2, k2, n2⟩, -, X2, ⟨Lc2, hQ2, l2, y2, z2⟩, st2⟩ := Jvm.LawKit.callS X hx (y := y) hown (mvT hZ w1) (mvT hZ w2) (mvT hZ w3) (mvT hZ w4) hy (backOf (W := W) hM hZ w4 w3 hf hl) hg hsize hlen hstack hW hdg (fun _ _ => ⟨rfl, eT, hc, hs⟩)
  dsimp only [Pt.U, Pt.locs, Pt.cells, Pt.slots] at X2 l2 y2 z2 st2 hQ2
  subst l2 y2 z2
  exact own_go st2 (k v T2 Lc2 X2 hQ2)
end Own
section OwnA
variable {p : Program} {l : Launch} {e : Env} {R : Room} {s : State} {m : MethodId} {args : Array Value} {below : List Frame} {meth : Method} {c : Code} {T T' : State} {locs : List Loc} {cells slots : Nat} {C S : Nat} {Q : Option Value → Heap → List Loc → Prop} {g g' : JFrame} {Z : State} {a0 : Array Value} {h h' : Heap} {a b : Addr} {n : Nat} {f f' : Nat → Int32}
def own_upd (f : Nat → Int32) (i : Nat) (x : Int32) : Nat → Int32 := fun j => if j = i then x else f j
/-- at a lies an int[] of n places; place j holds f j -/
def own_Ar (Z : State) (h : Heap) (a : Addr) (n : Nat) (f : Nat → Int32) : Prop := ∃ c : Cell, Arr Z h a c .int ∧ c.slots.size = n ∧ ∀ j, j < n → c.slots[j]? = some (.int (f j))
theorem own_Ar.ext (A : own_Ar Z h a n f) (E : Ext h h') : own_Ar Z h' a n f := by obtain ⟨c, A, r⟩ := A; exact ⟨c, A.ext E, r⟩
theorem own_Ar.other {sl : Nat} {v : Value} (A : own_Ar Z h a n f) (W : Wr h h' b sl v) (q : a ≠ b) : own_Ar Z h' a n f := by obtain ⟨c, A, r⟩ := A; exact ⟨c, A.other W q, r⟩
theorem own_Ar.keep {ws : List Addr} (A : own_Ar Z h a n f) (K : Keep h h' ws) (q : a ∉ ws) : own_Ar Z h' a n f := by obtain ⟨c, A, r⟩ := A; exact ⟨c, ⟨K.2.1 a c A.1 q, A.2⟩, r⟩
theorem own_Ar.congr (A : own_Ar Z h a n f) (q : ∀ j, j < n → f j = f' j) : own_Ar Z h a n f' := by obtain ⟨c, A, r1, r2⟩ := A; exact ⟨c, A, r1, fun j hj => by rw [← q j hj]; exact r2 j hj⟩
theorem own_Ar.lt (A : own_Ar Z h a n f) : a < h.size := by obtain ⟨c, A, r⟩ := A; exact A.lt
theorem own_nat {j : Int32} {i : Nat} (hj : j.toInt = i) : j.toNatClampNeg = i := by
  show j.toInt.toNat = i
  omega
theorem own_ns {j : Int32} {i k : Nat} (hj : j.toInt = i) (hi : i < k) : ¬ (j < 0 ∨ k ≤ j.toNatClampNeg) := by
  rw [own_nat hj, Int32.lt_iff_toInt_lt]
  have e0 : (0 : Int32).toInt = 0 := by decide
  omega
theorem own_iaload (X : Stand p l e R s m args below meth c T locs cells slots) (hx : p.tables.exec = Jvm.exec) (hZ : Z.Warmed39 s.vm) (eT : T.heap = h) (A : own_Ar Z h a n f) (i : Nat) {j : Int32} (hj : j.toInt = i) (hi : i < n) (hg : g.method = m) {rest : List Value} (hs : g.stack = .int j :: .ref a :: rest) (hd : decode c.code g.pc = .ok (.iaload, 1))
    (k : own_Go p e below s C S Q T { g with pc := g.pc + 1, stack := .int (f i) :: rest }) : own_Go p e below s C S Q T g := by
  obtain ⟨cl, Ar, hsz, hv⟩ := A
  exact own_go (fun t kt => X.iaload hx (by rw [eT]; exact Ar.1) (State.isArrayOf_alike hZ.alike Ar.2.1) Ar.2.2 (own_ns hj (by rw [hsz]; exact hi)) (by rw [own_nat hj]; exact hv i hi) hg hs hd t kt) k
theorem own_alen (X : Stand p l e R s m args below meth c T locs cells slots) (hx : p.tables.exec = Jvm.exec) (hZ : Z.Warmed39 s.vm) (eT : T.heap = h) (A : own_Ar Z h a n f) (z : Int32) (hz : z.toInt = n) (hg : g.method = m) {rest : List Value} (hs : g.stack = .ref a :: rest) (hd : decode c.code g.pc = .ok (.arraylength, 1))
    (k : own_Go p e below s C S Q T { g with pc := g.pc + 1, stack := .int z :: rest }) : own_Go p e below s C S Q T g := by
  obtain ⟨cl, Ar, hsz, hv⟩ := A
  have q : cl.slots.size.toInt32 = z := len_of (by rw [hsz, own_nat hz]) (by rw [Int32.lt_iff_toInt_lt, show (0 : Int32).toInt = 0 from by decide]; omega)
  refine own_go (fun t kt => X.arraylength hx (by rw [eT]; exact Ar.1) (State.isArrayOf_alike hZ.alike Ar.2.1) hg hs hd t ?_) k
  rw [q]; exact kt
theorem own_iastore (X : Stand p l e R s m args below meth c T locs cells slots) (hx : p.tables.exec = Jvm.exec) (hZ : Z.Warmed39 s.vm) (eT : T.heap = h) (A : own_Ar Z h a n f) (i : Nat) {j x : Int32} (hj : j.toInt = i) (hi : i < n) (hg : g.method = m) {rest : List Value} (hs : g.stack = .int x :: .int j :: .ref a :: rest) (hd : decode c.code g.pc = .ok (.iastore, 1))
    (k : ∀ (T' : State) (h' : Heap), Stand p l e R s m args below meth c T' (locs ++ [⟨a, i⟩]) cells slots → T'.heap = h' → Wr h h' a i (.int x) → own_Ar Z h' a n (own_upd f i x) → own_Go p e below s C S Q T' { g with pc := g.pc + 1, stack := rest }) : own_Go p e below s C S Q T g := by
  obtain ⟨cl, Ar, hsz, hv⟩ := A
  obtain ⟨T', h', X', e', W, st⟩ := stI X hx hZ eT Ar (j := j) (x := x) (own_ns hj (by rw [hsz]; exact hi)) hg hs hd
  rw [own_nat hj] at X' W
  refine own_go st (k T' h' X' e' W ⟨_, Ar.same W, by simp [Cell.setSlot, hsz], fun q hq => ?_⟩)
  show (cl.slots.setIfInBounds i (.int x))[q]? = _
  rw [Array.getElem?_setIfInBounds, hsz]
  unfold own_upd
  by_cases e1 : i = q
  · subst e1; simp [hq]
  · rw [if_neg e1, if_neg (Ne.symm e1)]; exact hv q hq
theorem own_newI (X : Stand p l e R s m args below meth c T locs cells slots) (hx : p.tables.exec = Jvm.exec) (hZ : Z.Warmed39 s.vm) (w : (Jvm.Cond.arrayClass .int).before a0 Z = true) (eT : T.heap = h) {z : Int32} (hz : z.toInt = n) (cap : Nat) (hcap : n ≤ cap) (hb : cap * 8 ≤ 536870912) (hc : cells + 1 ≤ R.cells) (hl : slots + cap ≤ R.slots) (hg : g.method = m) {rest : List Value} (hs : g.stack = .int z :: rest) (hd : decode c.code g.pc = .ok (.newarray .int, 2))
    (k : ∀ (T' : State) (h' : Heap) (b : Addr), b = h.size → Stand p l e R s m args below meth c T' locs (cells + 1) (slots + cap) → T'.heap = h' → Ext h h' → own_Ar Z h' b n (fun _ => 0) → own_Go p e below s C S Q T' { g with pc := g.pc + 2, stack := .ref b :: rest }) : own_Go p e below s C S Q T g := by
  have hn : ¬ z < 0 := by rw [Int32.lt_iff_toInt_lt, show (0 : Int32).toInt = 0 from by decide]; omega
  obtain ⟨T', h', cA, X', e', E, Ar, st⟩ := newP X hx hZ (aty := .int) w eT hg hd hs hn (cap := cap) (by rw [own_nat hz]; exact hcap) hb hc hl
  refine own_go st (k T' h' _ rfl X' e' E ⟨_, Ar, by rw [sz_new, own_nat hz], fun q hq => ?_⟩)
  show (Array.replicate z.toNatClampNeg (Value.int 0))[q]? = _
  rw [own_nat hz]
  simp [hq]
end OwnA
section OwnO
variable {p : Program} {l : Launch} {e : Env} {R : Room} {s : State} {m : MethodId} {args : Array Value} {below : List Frame} {meth : Method} {c : Code} {T T' : State} {locs : List Loc} {cells slots : Nat} {C S : Nat} {Q : Option Value → Heap → List Loc → Prop} {g g' : JFrame} {Z : State} {a0 : Array Value} {h h' : Heap}
/-- a constructor by its contract -/
theorem own_callC (X : Stand p l e R s m args below meth c T locs cells slots) (hx : p.tables.exec = Jvm.exec) (hZ : Z.Warmed39 s.vm) {own : String} {index : Nat} {y : MethodName} {bytes : ByteArray} {maxL : Nat} {rm : Room} {W : Nat} {Q' : Option Value → Heap → List Loc → Prop} {a : Addr} {argsL rest : List Value}
    (hy1 : y.name = "<init>") (hown : s.vm.findClass own = some m.cls) (w1 : (Jvm.Cond.methodLink own index y).before a0 Z = true) (w2 : (Jvm.Cond.instanceMethod y).before a0 Z = true) (w3 : (Jvm.Cond.initialized y.cls).before a0 Z = true) (w4 : (Jvm.Cond.code y bytes maxL none).before a0 Z = true) (hy : y.cls ≠ "java/lang/invoke/MethodHandle" ∧ y.cls ≠ "java/lang/invoke/VarHandle")
    (hM : own_Con l Z y bytes maxL none [] rm (.ref a :: argsL).toArray h Q') (hf : rm.frames + 1 ≤ R.frames) (hl : W + (maxL + 11) + rm.locals ≤ R.locals) (eT : T.heap = h) (hc : cells + rm.cells ≤ R.cells) (hs : slots + rm.slots ≤ R.slots)
    (hg : g.method = m) (hsize : g.locals.size = c.maxLocals) (hlen : ∀ sig, parseMethodDescriptor y.desc = some sig → argsL.length = sig.parameters.length) (hstack : g.stack = argsL.reverse ++ .ref a :: rest) (hW : 2 * g.monitorRoom + (rest.map fun v => v.category).sum ≤ W) (hdg : decode c.code g.pc = .ok (.invokespecial index, 3))
    (k : ∀ (v : Option Value) (T' : State) (L' : List Loc), Stand p l e R s m args below meth c T' (locs ++ L') (cells + rm.cells) (slots + rm.slots) → Q' v T'.heap L' → own_Go p e below s C S Q T' { g with pc := g.pc + 3, stack := v.toList ++ rest }) :
    own_Go p e below s C S Q T g := by
  obtain ⟨v, _, ⟨T2, L2, k2, n2⟩, -, X2, ⟨Lc2, hQ2, l2, y2, z2⟩, st2⟩ := X.specialBack hx (y := y) hy1 hown (mvT hZ w1) (mvT hZ w2) (mvT hZ w4) hy (backOf (W := W) hM hZ w4 w3 hf hl) hg hsize (Steps.refl _) hlen hstack hW hdg (fun _ _ => ⟨rfl, eT, hc, hs⟩)
  dsimp only [Pt.U, Pt.locs, Pt.cells, Pt.slots] at X2 l2 y2 z2 st2 hQ2
  subst l2 y2 z2
  exact own_go (fun t kt => st2.trans kt) (k v T2 Lc2 X2 hQ2)
/-- an instance method by its contract -/
theorem own_callV (X : Stand p l e R s m args below meth c T locs cells slots) (hx : p.tables.exec = Jvm.exec) (hZ : Z.Warmed39 s.vm) {own C₀ : String} {index : Nat} {y : MethodName} {bytes : ByteArray} {maxL : Nat} {ret : Option FieldType} {rm : Room} {W : Nat} {Q' : Option Value → Heap → List Loc → Prop} {b : Addr} {argsL rest : List Value}
    (E : Exa Z h b C₀) (hown : s.vm.findClass own = some m.cls) (w1 : (Jvm.Cond.methodLink own index y).before a0 Z = true) (w2 : (Jvm.Cond.declares y).before a0 Z = true) (w5 : (Jvm.Cond.selects C₀ y y).before a0 Z = true) (w6 : (Jvm.Cond.instanceMethod y).before a0 Z = true) (w3 : (Jvm.Cond.initialized y.cls).before a0 Z = true) (w4 : (Jvm.Cond.code y bytes maxL ret).before a0 Z = true) (hy : y.cls ≠ "java/lang/invoke/MethodHandle" ∧ y.cls ≠ "java/lang/invoke/VarHandle")
    (hM : own_Con l Z y bytes maxL ret [] rm (.ref b :: argsL).toArray h Q') (hf : rm.frames + 1 ≤ R.frames) (hl : W + (maxL + 11) + rm.locals ≤ R.locals) (eT : T.heap = h) (hc : cells + rm.cells ≤ R.cells) (hs : slots + rm.slots ≤ R.slots)
    (hg : g.method = m) (hsize : g.locals.size = c.maxLocals) (hlen : ∀ sig, parseMethodDescriptor y.desc = some sig → argsL.length = sig.parameters.length) (hstack : g.stack = argsL.reverse ++ .ref b :: rest) (hW : 2 * g.monitorRoom + (rest.map fun v => v.category).sum ≤ W) (hdg : decode c.code g.pc = .ok (.invokevirtual index, 3))
    (k : ∀ (v : Option Value) (T' : State) (L' : List Loc), Stand p l e R s m args below meth c T' (locs ++ L') (cells + rm.cells) (slots + rm.slots) → Q' v T'.heap L' → own_Go p e below s C S Q T' { g with pc := g.pc + 3, stack := v.toList ++ rest }) :
    own_Go p e below s C S Q T g := by
  obtain ⟨cq, kq, qa, qb, qc⟩ := isOf hZ eT E
  obtain ⟨v, _, ⟨T2, L2, k2, n2⟩, -, X2, ⟨Lc2, hQ2, l2, y2, z2⟩, st2⟩ := X.virtualBack hx (y := y) (z := y) hown (mvT hZ w1) (mvT hZ w2) (notFace_of_selects (args := #[]) (mvT hZ w5)) (mvT hZ w5) (mvT hZ w6) hy (backOf (W := W) hM hZ w4 w3 hf hl) qa qc hg hsize (Steps.refl _) hlen hstack hW hdg (fun _ _ => ⟨rfl, eT, hc, hs⟩)
  dsimp only [Pt.U, Pt.locs, Pt.cells, Pt.slots] at X2 l2 y2 z2 st2 hQ2
  subst l2 y2 z2
  exact own_go (fun t kt => st2.trans kt) (k v T2 Lc2 X2 hQ2)
end OwnO

def own_PI (P : Int32 → Prop) (h0 : Heap) (n0 : Nat) (v : Option Value) (h : Heap) (L : List Loc) : Prop := ∃ r, v = some (.int r) ∧ P r ∧ Fr n0 L ∧ h = h0
/-! the plain law -/
def own_isRank (f : Nat → Int32) (n : Nat) (r : Int32) : Prop := (r.toInt = 0 ∧ ∀ j, j < n → (f j).toInt ≤ 0) ∨ ∃ k : Nat, k < n ∧ r.toInt = k + 1 ∧ 0 < (f k).toInt ∧ ∀ j, j < k → (f j).toInt ≤ 0
def own_f (v0 v1 v2 v3 v4 : Int32) : Nat → Int32 := fun j => if j = 0 then v0 else if j = 1 then v1 else if j = 2 then v2 else if j = 3 then v3 else v4
theorem own_cnt (x : Int32) : 0 ≤ ((x &&& 2147483647) % 6).toInt ∧ ((x &&& 2147483647) % 6).toInt ≤ 5 := by
  have a := (c_and x 2147483647 (by decide)).1
  have e6 : (6 : Int32).toInt = 6 := by decide
  have r := (c_irem (x &&& 2147483647) 6 6 e6).1 a
  omega
theorem own_same {v0 v1 v2 v3 v4 n r x1 x2 x3 x4 x5 : Int32} (hc : 0 ≤ n.toInt ∧ n.toInt ≤ 5) (hr : own_isRank (own_f v0 v1 v2 v3 v4) n.toInt.toNat r)
    (h5 : x5 = if ¬ n < (5 : Int32) ∧ (0 : Int32) < v4 then (5 : Int32) else (0 : Int32)) (h4 : x4 = if ¬ n < (4 : Int32) ∧ (0 : Int32) < v3 then (4 : Int32) else x5) (h3 : x3 = if ¬ n < (3 : Int32) ∧ (0 : Int32) < v2 then (3 : Int32) else x4) (h2 : x2 = if ¬ n < (2 : Int32) ∧ (0 : Int32) < v1 then (2 : Int32) else x3) (h1 : x1 = if ¬ n < (1 : Int32) ∧ (0 : Int32) < v0 then (1 : Int32) else x2) : r = x1 := by
  have e0 : (0 : Int32).toInt = 0 := by decide
  have e1 : (1 : Int32).toInt = 1 := by decide
  have e2 : (2 : Int32).toInt = 2 := by decide
  have e3 : (3 : Int32).toInt = 3 := by decide
  have e4 : (4 : Int32).toInt = 4 := by decide
  have e5 : (5 : Int32).toInt = 5 := by decide
  simp only [Int32.lt_iff_toInt_lt, e0, e1, e2, e3, e4, e5] at h1 h2 h3 h4 h5
  have f0 : own_f v0 v1 v2 v3 v4 0 = v0 := rfl
  have f1 : own_f v0 v1 v2 v3 v4 1 = v1 := rfl
  have f2 : own_f v0 v1 v2 v3 v4 2 = v2 := rfl
  have f3 : own_f v0 v1 v2 v3 v4 3 = v3 := rfl
  have f4 : own_f v0 v1 v2 v3 v4 4 = v4 := rfl
  have key : ∀ (k : Nat), k ≤ 5 → (∀ j, j < k → j < n.toInt.toNat → (own_f v0 v1 v2 v3 v4 j).toInt ≤ 0) → (k = n.toInt.toNat ∧ r.toInt = 0 ∨ k < n.toInt.toNat ∧ r.toInt = k + 1 ∧ 0 < (own_f v0 v1 v2 v3 v4 k).toInt) → x1.toInt = r.toInt := by
    intro k hk hl hk2
    have l0 := hl 0; have l1 := hl 1; have l2 := hl 2; have l3 := hl 3; have l4 := hl 4
    rw [f0] at l0; rw [f1] at l1; rw [f2] at l2; rw [f3] at l3; rw [f4] at l4
    have ck : k = 0 ∨ k = 1 ∨ k = 2 ∨ k = 3 ∨ k = 4 ∨ k = 5 := by omega
    by_cases c1 : ¬ n.toInt < 1 ∧ 0 < v0.toInt
    · rw [if_pos c1] at h1; subst h1
      rcases ck with rfl | rfl | rfl | rfl | rfl | rfl <;> (try simp only [f0, f1, f2, f3, f4] at hk2) <;> omega
    rw [if_neg c1] at h1; subst h1
    by_cases c2 : ¬ n.toInt < 2 ∧ 0 < v1.toInt
    · rw [if_pos c2] at h2; subst h2
      rcases ck with rfl | rfl | rfl | rfl | rfl | rfl <;> (try simp only [f0, f1, f2, f3, f4] at hk2) <;> omega
    rw [if_neg c2] at h2; subst h2
    by_cases c3 : ¬ n.toInt < 3 ∧ 0 < v2.toInt
    · rw [if_pos c3] at h3; subst h3
      rcases ck with rfl | rfl | rfl | rfl | rfl | rfl <;> (try simp only [f0, f1, f2, f3, f4] at hk2) <;> omega
    rw [if_neg c3] at h3; subst h3
    by_cases c4 : ¬ n.toInt < 4 ∧ 0 < v3.toInt
    · rw [if_pos c4] at h4; subst h4
      rcases ck with rfl | rfl | rfl | rfl | rfl | rfl <;> (try simp only [f0, f1, f2, f3, f4] at hk2) <;> omega
    rw [if_neg c4] at h4; subst h4
    by_cases c5 : ¬ n.toInt < 5 ∧ 0 < v4.toInt
    · rw [if_pos c5] at h5; subst h5
      rcases ck with rfl | rfl | rfl | rfl | rfl | rfl <;> (try simp only [f0, f1, f2, f3, f4] at hk2) <;> omega
    rw [if_neg c5] at h5; subst h5
    rcases ck with rfl | rfl | rfl | rfl | rfl | rfl <;> (try simp only [f0, f1, f2, f3, f4] at hk2) <;> omega
  apply Int32.toInt_inj.mp
  rcases hr with ⟨z, q⟩ | ⟨k, k1, k2, k3, k4⟩
  · exact (key n.toInt.toNat (by omega) (fun j _ h => q j h) (Or.inl ⟨rfl, z⟩)).symm
  · exact (key k (by omega) (fun j h _ => k4 j h) (Or.inr ⟨k1, k2, k3⟩)).symm
/-! the callees -/
theorem d1_0 : decode method_2_code 0 = .ok (.iload_n 0, 1) := by decide +kernel
theorem d1_1 : decode method_2_code 1 = .ok (.iconst 1, 1) := by decide +kernel
theorem d1_2 : decode method_2_code 2 = .ok (.iand, 1) := by decide +kernel
theorem d1_3 : decode method_2_code 3 = .ok (.ifCond .ne 7, 3) := by decide +kernel
theorem d1_6 : decode method_2_code 6 = .ok (.iconst 0, 1) := by decide +kernel
theorem d1_7 : decode method_2_code 7 = .ok (.goto 6, 3) := by decide +kernel
theorem d1_10 : decode method_2_code 10 = .ok (.iload_n 0, 1) := by decide +kernel
theorem d1_11 : decode method_2_code 11 = .ok (.iconst 1, 1) := by decide +kernel
theorem d1_12 : decode method_2_code 12 = .ok (.iushr, 1) := by decide +kernel
theorem d1_13 : decode method_2_code 13 = .ok (.ireturn, 1) := by decide +kernel
theorem pd1 : parseMethodDescriptor "(I)I" = some ⟨[.int], some .int⟩ := by decide +kernel
theorem pn1 : plainName "com/example/implied_anchor/impliedanchor/evaluation/JudgedRankingFirstRelevantRankPinLaw" = true := by first | (simp [plainName, overriddenIn]; done) | decide +kernel
theorem ef1 (m : MethodId) (x0 : Int32) : entryFrame m #[(.int x0)] 1 = mkF m 0 #[.val (.int x0)] [] := by first | (simp [entryFrame, mkF, argsToLocals, Value.category]; done) | rfl
set_option maxRecDepth 65536 in
set_option maxHeartbeats 40000000 in
theorem rm1 (l : Launch) (Z : State) (a0 : Array Value) (hw : ∀ d ∈ tables_1, d.before a0 Z = true) (ws : List Jvm.Cond) (p1 : Int32) (h0 : Heap) (n0 : Nat) (Z0 : n0 ≤ h0.size) :
    own_Con l Z (⟨"com/example/implied_anchor/impliedanchor/evaluation/JudgedRankingFirstRelevantRankPinLaw", "gain", "(I)I"⟩ : MethodName) method_2_code 1 (some .int) ws ({ frames := 0, cells := 0, slots := 0, locals := 0 } : Room) #[(.int p1)] h0 (own_PI (fun _ => True) h0 n0) := by
  refine own_body (plainFor_of_name pn1) ?_
  intro p e s m below meth c s₁ hx hby hml0 hZ hown0 hnm0 hret0 hk e0 X0
  have hown : s.vm.findClass "com/example/implied_anchor/impliedanchor/evaluation/JudgedRankingFirstRelevantRankPinLaw" = some m.cls := hown0
  have hnm : meth.name = "gain" := hnm0
  have hret : meth.sig.returnType = (some .int) := hret0
  have hml : c.maxLocals = 1 := hml0
  have N0 := Fr.nil n0
  refine own_cast (ef1 m p1) ?_
  refine own_go (T' := s₁) (g' := (mkF m 3 #[.val (.int p1)] [(.int (p1 &&& (1 : Int32)))])) (fun t_ k_ => ?_) ?_
  · refine XS.iloadN X0.here hx rfl (hb hby d1_0) rfl ?_
    show Steps p.tables e below (s₁.setTop (mkF m 1 #[.val (.int p1)] [(.int p1)])) _
    refine XS.iconst X0.here hx rfl (hb hby d1_1) ?_
    show Steps p.tables e below (s₁.setTop (mkF m 2 #[.val (.int p1)] [(.int (1 : Int32)), (.int p1)])) _
    refine XS.iand X0.here hx rfl (hb hby d1_2) rfl ?_
    show Steps p.tables e below (s₁.setTop (mkF m 3 #[.val (.int p1)] [(.int (p1 &&& (1 : Int32)))])) _
    exact k_
  by_cases c1 : (p1 &&& (1 : Int32)) = (0 : Int32)
  · refine own_go (T' := s₁) (g' := (mkF m 13 #[.val (.int p1)] [(.int (0 : Int32))])) (fun t_ k_ => ?_) ?_
    · refine XS.ifNo X0.here hx rfl (hb hby d1_3) rfl ((if0 _ _).trans (teq c1).2) ?_
      show Steps p.tables e below (s₁.setTop (mkF m 6 #[.val (.int p1)] [])) _
      refine XS.iconst X0.here hx rfl (hb hby d1_6) ?_
      show Steps p.tables e below (s₁.setTop (mkF m 7 #[.val (.int p1)] [(.int (0 : Int32))])) _
      refine XS.goto X0.here hx rfl (pc0 := 7) (pc' := 13) rfl (hb hby d1_7) (by decide) (by decide) ?_
      show Steps p.tables e below (s₁.setTop (mkF m 13 #[.val (.int p1)] [(.int (0 : Int32))])) _
      exact k_
    exact own_retI X0 hx hret hk (hb hby d1_13) (by decide) (by decide) ⟨_, rfl, trivial, N0, e0⟩
  · refine own_go (T' := s₁) (g' := (mkF m 13 #[.val (.int p1)] [(.int (((p1).toUInt32 >>> ((1 : Int32) &&& 31).toUInt32).toInt32))])) (fun t_ k_ => ?_) ?_
    · refine XS.ifYes X0.here hx rfl (pc0 := 3) (pc' := 10) rfl (hb hby d1_3) rfl ((if0 _ _).trans (feq c1).2) (by decide) (by decide) ?_
      show Steps p.tables e below (s₁.setTop (mkF m 10 #[.val (.int p1)] [])) _
      refine XS.iloadN X0.here hx rfl (hb hby d1_10) rfl ?_
      show Steps p.tables e below (s₁.setTop (mkF m 11 #[.val (.int p1)] [(.int p1)])) _
      refine XS.iconst X0.here hx rfl (hb hby d1_11) ?_
      show Steps p.tables e below (s₁.setTop (mkF m 12 #[.val (.int p1)] [(.int (1 : Int32)), (.int p1)])) _
      refine XS.iushr X0.here hx rfl (hb hby d1_12) rfl ?_
      show Steps p.tables e below (s₁.setTop (mkF m 13 #[.val (.int p1)] [(.int (((p1).toUInt32 >>> ((1 : Int32) &&& 31).toUInt32).toInt32))])) _
      exact k_
    exact own_retI X0 hx hret hk (hb hby d1_13) (by decide) (by decide) ⟨_, rfl, trivial, N0, e0⟩
theorem d3_0 : decode jdk_30_method_1_code 0 = .ok (.aload_n 0, 1) := by decide +kernel
theorem d3_1 : decode jdk_30_method_1_code 1 = .ok (.invokespecial 1, 3) := by decide +kernel
theorem d3_4 : decode jdk_30_method_1_code 4 = .ok (.return_, 1) := by decide +kernel
theorem pd3 : parseMethodDescriptor "()V" = some ⟨[], none⟩ := by decide +kernel
theorem pn3 : plainName "java/lang/Record" = true := by first | (simp [plainName, overriddenIn]; done) | decide +kernel
theorem ef3 (m : MethodId) (x0 : Addr) : entryFrame m #[(.ref x0)] 1 = mkF m 0 #[.val (.ref x0)] [] := by first | (simp [entryFrame, mkF, argsToLocals, Value.category]; done) | rfl
set_option maxRecDepth 65536 in
set_option maxHeartbeats 40000000 in
theorem rm3 (l : Launch) (Z : State) (a0 : Array Value) (hw : ∀ d ∈ tables_1, d.before a0 Z = true) (ws : List Jvm.Cond) (a1 : Addr) (h0 : Heap) (n0 : Nat) (Z0 : n0 ≤ h0.size) :
    own_Con l Z (⟨"java/lang/Record", "<init>", "()V"⟩ : MethodName) jdk_30_method_1_code 1 none ws ({ frames := 1, cells := 0, slots := 0, locals := 12 } : Room) #[(.ref a1)] h0 (fun v h L => v = none ∧ Fr n0 L ∧ h = h0) := by
  refine own_body (plainFor_of_name pn3) ?_
  intro p e s m below meth c s₁ hx hby hml0 hZ hown0 hnm0 hret0 hk e0 X0
  have hown : s.vm.findClass "java/lang/Record" = some m.cls := hown0
  have hnm : meth.name = "<init>" := hnm0
  have hret : meth.sig.returnType = none := hret0
  have hml : c.maxLocals = 1 := hml0
  have N0 := Fr.nil n0
  refine own_cast (ef3 m a1) ?_
  refine own_go (T' := s₁) (g' := (mkF m 1 #[.val (.ref a1)] [(.ref a1)])) (fun t_ k_ => ?_) ?_
  · refine XS.aloadN X0.here hx rfl (hb hby d3_0) rfl rfl ?_
    show Steps p.tables e below (s₁.setTop (mkF m 1 #[.val (.ref a1)] [(.ref a1)])) _
    exact k_
  obtain ⟨T2, X2, e2, st2⟩ := initO X0 hx hZ hown (hw _ (List.mem_of_getElem? (i := 17) rfl)) (hw _ (List.mem_of_getElem? (i := 18) rfl)) (hw _ (List.mem_of_getElem? (i := 19) rfl)) e0 (g := (mkF m 1 #[.val (.ref a1)] [(.ref a1)])) rfl (by rw [hml]; rfl) rfl (hb hby d3_1) (by decide) (W := 0) (by show 2 * 0 + _ ≤ _; exact Nat.le_of_eq rfl) (by decide)
  refine own_go st2 ?_
  show own_Go p e below s ({ frames := 1, cells := 0, slots := 0, locals := 12 } : Room).cells ({ frames := 1, cells := 0, slots := 0, locals := 12 } : Room).slots (fun v h L => v = none ∧ Fr n0 L ∧ h = h0) T2 (mkF m 4 #[.val (.ref a1)] [])
  exact own_retV X2 hx hret hk (hb hby d3_4) (by decide) (by decide) ⟨rfl, N0, e2⟩
theorem d2_0 : decode prog_28_method_1_code 0 = .ok (.aload_n 0, 1) := by decide +kernel
theorem d2_1 : decode prog_28_method_1_code 1 = .ok (.invokespecial 1, 3) := by decide +kernel
theorem d2_4 : decode prog_28_method_1_code 4 = .ok (.aload_n 0, 1) := by decide +kernel
theorem d2_5 : decode prog_28_method_1_code 5 = .ok (.aload_n 1, 1) := by decide +kernel
theorem d2_6 : decode prog_28_method_1_code 6 = .ok (.putfield 7, 3) := by decide +kernel
theorem d2_9 : decode prog_28_method_1_code 9 = .ok (.aload_n 0, 1) := by decide +kernel
theorem d2_10 : decode prog_28_method_1_code 10 = .ok (.aload_n 2, 1) := by decide +kernel
theorem d2_11 : decode prog_28_method_1_code 11 = .ok (.putfield 13, 3) := by decide +kernel
theorem d2_14 : decode prog_28_method_1_code 14 = .ok (.return_, 1) := by decide +kernel
theorem pd2 : parseMethodDescriptor "([I[I)V" = some ⟨[(.array .int), (.array .int)], none⟩ := by decide +kernel
theorem pn2 : plainName "com/example/implied_anchor/impliedanchor/evaluation/JudgedRanking" = true := by first | (simp [plainName, overriddenIn]; done) | decide +kernel
theorem ef2 (m : MethodId) (x0 : Addr) (x1 : Addr) (x2 : Addr) : entryFrame m #[(.ref x0), (.ref x1), (.ref x2)] 3 = mkF m 0 #[.val (.ref x0), .val (.ref x1), .val (.ref x2)] [] := by first | (simp [entryFrame, mkF, argsToLocals, Value.category]; done) | rfl
set_option maxRecDepth 65536 in
set_option maxHeartbeats 40000000 in
theorem rm2 (l : Launch) (Z : State) (a0 : Array Value) (hw : ∀ d ∈ tables_1, d.before a0 Z = true) (ws : List Jvm.Cond) (a1 : Addr) (a2 : Addr) (a3 : Addr) (h0 : Heap) (n0 : Nat) (Z0 : n0 ≤ h0.size) (E0 : Exa Z h0 a1 "com/example/implied_anchor/impliedanchor/evaluation/JudgedRanking") (Fg : Fld Z h0 a1 "com/example/implied_anchor/impliedanchor/evaluation/JudgedRanking" "gains" "[I" .null) (Fi : Fld Z h0 a1 "com/example/implied_anchor/impliedanchor/evaluation/JudgedRanking" "idealGains" "[I" .null) (ga : n0 ≤ a1) :
    own_Con l Z (⟨"com/example/implied_anchor/impliedanchor/evaluation/JudgedRanking", "<init>", "([I[I)V"⟩ : MethodName) prog_28_method_1_code 3 none ws ({ frames := 2, cells := 0, slots := 0, locals := 24 } : Room) #[(.ref a1), (.ref a2), (.ref a3)] h0 (fun v h L => v = none ∧ Fr n0 L ∧ Keep h0 h [a1] ∧ Exa Z h a1 "com/example/implied_anchor/impliedanchor/evaluation/JudgedRanking" ∧ Fld Z h a1 "com/example/implied_anchor/impliedanchor/evaluation/JudgedRanking" "gains" "[I" (.ref a2)) := by
  refine own_body (plainFor_of_name pn2) ?_
  intro p e s m below meth c s₁ hx hby hml0 hZ hown0 hnm0 hret0 hk e0 X0
  have hown : s.vm.findClass "com/example/implied_anchor/impliedanchor/evaluation/JudgedRanking" = some m.cls := hown0
  have hnm : meth.name = "<init>" := hnm0
  have hret : meth.sig.returnType = none := hret0
  have hml : c.maxLocals = 3 := hml0
  have N0 := Fr.nil n0
  refine own_cast (ef2 m a1 a2 a3) ?_
  refine own_go (T' := s₁) (g' := (mkF m 1 #[.val (.ref a1), .val (.ref a2), .val (.ref a3)] [(.ref a1)])) (fun t_ k_ => ?_) ?_
  · refine XS.aloadN X0.here hx rfl (hb hby d2_0) rfl rfl ?_
    show Steps p.tables e below (s₁.setTop (mkF m 1 #[.val (.ref a1), .val (.ref a2), .val (.ref a3)] [(.ref a1)])) _
    exact k_
  refine own_callC (y := (⟨"java/lang/Record", "<init>", "()V"⟩ : MethodName)) (W := 0) (rm := ({ frames := 1, cells := 0, slots := 0, locals := 12 } : Room)) (argsL := []) (rest := []) X0 hx hZ rfl hown (hw _ (List.mem_of_getElem? (i := 12) rfl)) (hw _ (List.mem_of_getElem? (i := 13) rfl)) (hw _ (List.mem_of_getElem? (i := 15) rfl)) (hw _ (List.mem_of_getElem? (i := 16) rfl)) (by decide) (rm3 l Z a0 hw [] a1 h0 n0 Z0) (by decide) (by decide) e0 (by decide) (by decide) rfl (by rw [hml]; rfl) (lenOf pd3 rfl) rfl (by show 2 * 0 + _ ≤ _; exact Nat.le_of_eq rfl) (hb hby d2_1) ?_
  rintro _ T1 L1 X1 ⟨rfl, N1, e1⟩
  show own_Go p e below s ({ frames := 2, cells := 0, slots := 0, locals := 24 } : Room).cells ({ frames := 2, cells := 0, slots := 0, locals := 24 } : Room).slots (fun v h L => v = none ∧ Fr n0 L ∧ Keep h0 h [a1] ∧ Exa Z h a1 "com/example/implied_anchor/impliedanchor/evaluation/JudgedRanking" ∧ Fld Z h a1 "com/example/implied_anchor/impliedanchor/evaluation/JudgedRanking" "gains" "[I" (.ref a2)) T1 (mkF m 4 #[.val (.ref a1), .val (.ref a2), .val (.ref a3)] [])
  refine own_go (T' := T1) (g' := (mkF m 6 #[.val (.ref a1), .val (.ref a2), .val (.ref a3)] [(.ref a2), (.ref a1)])) (fun t_ k_ => ?_) ?_
  · refine XS.aloadN X1.here hx rfl (hb hby d2_4) rfl rfl ?_
    show Steps p.tables e below (T1.setTop (mkF m 5 #[.val (.ref a1), .val (.ref a2), .val (.ref a3)] [(.ref a1)])) _
    refine XS.aloadN X1.here hx rfl (hb hby d2_5) rfl rfl ?_
    show Steps p.tables e below (T1.setTop (mkF m 6 #[.val (.ref a1), .val (.ref a2), .val (.ref a3)] [(.ref a2), (.ref a1)])) _
    exact k_
  obtain ⟨T2, h2, X2, e2, W2, st2⟩ := putF X1 hx hZ hown (host := "") (Or.inl (hw _ (List.mem_of_getElem? (i := 20) rfl))) Via.refl e1 Fg E0 (Or.inr ⟨(hw _ (List.mem_of_getElem? (i := 21) rfl)), rfl, hnm⟩) (hw _ (List.mem_of_getElem? (i := 7) rfl)) (ty := (.array .int)) (by decide) rfl rfl (g := (mkF m 6 #[.val (.ref a1), .val (.ref a2), .val (.ref a3)] [(.ref a2), (.ref a1)])) rfl rfl (hb hby d2_6)
  refine own_go st2 ?_
  show own_Go p e below s ({ frames := 2, cells := 0, slots := 0, locals := 24 } : Room).cells ({ frames := 2, cells := 0, slots := 0, locals := 24 } : Room).slots (fun v h L => v = none ∧ Fr n0 L ∧ Keep h0 h [a1] ∧ Exa Z h a1 "com/example/implied_anchor/impliedanchor/evaluation/JudgedRanking" ∧ Fld Z h a1 "com/example/implied_anchor/impliedanchor/evaluation/JudgedRanking" "gains" "[I" (.ref a2)) T2 (mkF m 9 #[.val (.ref a1), .val (.ref a2), .val (.ref a3)] [])
  have N2 := Fr.snoc X2 (Fr.app N0 N1) ga
  have Fg1 := Fg.same W2
  have E1 := E0.wr W2
  have Fi1 := Fi.other W2 (Or.inr (slot_ne (Or.inr (hw _ (List.mem_of_getElem? (i := 23) rfl))) (Or.inr (hw _ (List.mem_of_getElem? (i := 21) rfl))) (by decide) (t := (.array .int)) (t' := (.array .int)) (by decide) (by decide)))
  refine own_go (T' := T2) (g' := (mkF m 11 #[.val (.ref a1), .val (.ref a2), .val (.ref a3)] [(.ref a3), (.ref a1)])) (fun t_ k_ => ?_) ?_
  · refine XS.aloadN X2.here hx rfl (hb hby d2_9) rfl rfl ?_
    show Steps p.tables e below (T2.setTop (mkF m 10 #[.val (.ref a1), .val (.ref a2), .val (.ref a3)] [(.ref a1)])) _
    refine XS.aloadN X2.here hx rfl (hb hby d2_10) rfl rfl ?_
    show Steps p.tables e below (T2.setTop (mkF m 11 #[.val (.ref a1), .val (.ref a2), .val (.ref a3)] [(.ref a3), (.ref a1)])) _
    exact k_
  obtain ⟨T3, h3, X3, e3, W3, st3⟩ := putF X2 hx hZ hown (host := "") (Or.inl (hw _ (List.mem_of_getElem? (i := 22) rfl))) Via.refl e2 Fi1 E1 (Or.inr ⟨(hw _ (List.mem_of_getElem? (i := 23) rfl)), rfl, hnm⟩) (hw _ (List.mem_of_getElem? (i := 7) rfl)) (ty := (.array .int)) (by decide) rfl rfl (g := (mkF m 11 #[.val (.ref a1), .val (.ref a2), .val (.ref a3)] [(.ref a3), (.ref a1)])) rfl rfl (hb hby d2_11)
  refine own_go st3 ?_
  show own_Go p e below s ({ frames := 2, cells := 0, slots := 0, locals := 24 } : Room).cells ({ frames := 2, cells := 0, slots := 0, locals := 24 } : Room).slots (fun v h L => v = none ∧ Fr n0 L ∧ Keep h0 h [a1] ∧ Exa Z h a1 "com/example/implied_anchor/impliedanchor/evaluation/JudgedRanking" ∧ Fld Z h a1 "com/example/implied_anchor/impliedanchor/evaluation/JudgedRanking" "gains" "[I" (.ref a2)) T3 (mkF m 14 #[.val (.ref a1), .val (.ref a2), .val (.ref a3)] [])
  have N3 := Fr.snoc X3 N2 ga
  have Fg2 := Fg1.other W3 (Or.inr (slot_ne (Or.inr (hw _ (List.mem_of_getElem? (i := 21) rfl))) (Or.inr (hw _ (List.mem_of_getElem? (i := 23) rfl))) (by decide) (t := (.array .int)) (t' := (.array .int)) (by decide) (by decide)))
  have K2 : Keep h0 h3 [a1] := ((Keep.refl _ _).wr W2 (Or.inl (List.mem_of_getElem? (i := 0) rfl))).wr W3 (Or.inl (List.mem_of_getElem? (i := 0) rfl))
  exact own_retV X3 hx hret hk (hb hby d2_14) (by decide) (by decide) (by rw [e3]; exact ⟨rfl, N3, K2, E1.wr W3, Fg2⟩)
theorem d5_0 : decode prog_28_method_3_code 0 = .ok (.iconst 0, 1) := by decide +kernel
theorem d5_1 : decode prog_28_method_3_code 1 = .ok (.istore_n 1, 1) := by decide +kernel
theorem d5_2 : decode prog_28_method_3_code 2 = .ok (.iload_n 1, 1) := by decide +kernel
theorem d5_3 : decode prog_28_method_3_code 3 = .ok (.aload_n 0, 1) := by decide +kernel
theorem d5_4 : decode prog_28_method_3_code 4 = .ok (.getfield 7, 3) := by decide +kernel
theorem d5_7 : decode prog_28_method_3_code 7 = .ok (.arraylength, 1) := by decide +kernel
theorem d5_8 : decode prog_28_method_3_code 8 = .ok (.if_icmp .ge 22, 3) := by decide +kernel
theorem d5_11 : decode prog_28_method_3_code 11 = .ok (.aload_n 0, 1) := by decide +kernel
theorem d5_12 : decode prog_28_method_3_code 12 = .ok (.getfield 7, 3) := by decide +kernel
theorem d5_15 : decode prog_28_method_3_code 15 = .ok (.iload_n 1, 1) := by decide +kernel
theorem d5_16 : decode prog_28_method_3_code 16 = .ok (.iaload, 1) := by decide +kernel
theorem d5_17 : decode prog_28_method_3_code 17 = .ok (.ifCond .le 7, 3) := by decide +kernel
theorem d5_20 : decode prog_28_method_3_code 20 = .ok (.iload_n 1, 1) := by decide +kernel
theorem d5_21 : decode prog_28_method_3_code 21 = .ok (.iconst 1, 1) := by decide +kernel
theorem d5_22 : decode prog_28_method_3_code 22 = .ok (.iadd, 1) := by decide +kernel
theorem d5_23 : decode prog_28_method_3_code 23 = .ok (.ireturn, 1) := by decide +kernel
theorem d5_24 : decode prog_28_method_3_code 24 = .ok (.iinc 1 1, 3) := by decide +kernel
theorem d5_27 : decode prog_28_method_3_code 27 = .ok (.goto (-25), 3) := by decide +kernel
theorem d5_30 : decode prog_28_method_3_code 30 = .ok (.iconst 0, 1) := by decide +kernel
theorem d5_31 : decode prog_28_method_3_code 31 = .ok (.ireturn, 1) := by decide +kernel
theorem pd5 : parseMethodDescriptor "()I" = some ⟨[], some .int⟩ := by decide +kernel
theorem pn5 : plainName "com/example/implied_anchor/impliedanchor/evaluation/JudgedRanking" = true := by first | (simp [plainName, overriddenIn]; done) | decide +kernel
theorem ef5 (m : MethodId) (x0 : Addr) : entryFrame m #[(.ref x0)] 2 = mkF m 0 #[.val (.ref x0), .unset] [] := by first | (simp [entryFrame, mkF, argsToLocals, Value.category]; done) | rfl

set_option maxRecDepth 65536 in
set_option maxHeartbeats 40000000 in
theorem own_loop {p : Program} {l : Launch} {e : Env} {R : Room} {s : State} {m : MethodId} {args : Array Value} {below : List Frame} {meth : Method} {c : Code} {locs : List Loc} {cells slots C S : Nat} {Q : Option Value → Heap → List Loc → Prop} {Z : State} {a0 : Array Value} {h0 : Heap} {th ar : Addr} {n : Nat} {f : Nat → Int32} {z : Int32}
    (hx : p.tables.exec = Jvm.exec) (hZ : Z.Warmed39 s.vm) (hw : ∀ d ∈ tables_1, d.before a0 Z = true) (hby : c.code = prog_28_method_3_code) (hown : s.vm.findClass "com/example/implied_anchor/impliedanchor/evaluation/JudgedRanking" = some m.cls) (hret : meth.sig.returnType = some .int) (hk : meth.locks = false) (hC : cells ≤ C) (hS : slots ≤ S)
    (F : Fld Z h0 th "com/example/implied_anchor/impliedanchor/evaluation/JudgedRanking" "gains" "[I" (.ref ar)) (A : own_Ar Z h0 ar n f) (hz : z.toInt = n) (fin : ∀ r : Int32, own_isRank f n r → Q (some (.int r)) h0 locs) :
    ∀ (d : Nat) (T : State) (i : Int32) (k : Nat), Stand p l e R s m args below meth c T locs cells slots → T.heap = h0 → i.toInt = k → k + d = n → (∀ j, j < k → (f j).toInt ≤ 0) → own_Go p e below s C S Q T (mkF m 2 #[.val (.ref th), .val (.int i)] []) := by
  have z0 : (0 : Int32).toInt = 0 := by decide
  have z1 : (1 : Int32).toInt = 1 := by decide
  have rz := rng32 z
  intro d
  induction d with
  | zero =>
    intro T i k X0 e0 hi hn hj
    refine own_go (T' := T) (g' := (mkF m 4 #[.val (.ref th), .val (.int i)] [(.ref th), (.int i)])) (fun t_ k_ => ?_) ?_
    · refine XS.iloadN X0.here hx rfl (hb hby d5_2) rfl ?_
      show Steps p.tables e below (T.setTop (mkF m 3 #[.val (.ref th), .val (.int i)] [(.int i)])) _
      refine XS.aloadN X0.here hx rfl (hb hby d5_3) rfl rfl ?_
      show Steps p.tables e below (T.setTop (mkF m 4 #[.val (.ref th), .val (.int i)] [(.ref th), (.int i)])) _
      exact k_
    obtain ⟨T1, X1, e1, st1⟩ := getF X0 hx hZ hown (host := "") (Or.inl (hw _ (List.mem_of_getElem? (i := 20) rfl))) Via.refl e0 F (g := (mkF m 4 #[.val (.ref th), .val (.int i)] [(.ref th), (.int i)])) rfl rfl (hb hby d5_4)
    refine own_go st1 ?_
    show own_Go p e below s C S Q T1 (mkF m 7 #[.val (.ref th), .val (.int i)] [(.ref ar), (.int i)])
    refine own_alen X1 hx hZ e1 A z hz rfl rfl (hb hby d5_7) ?_
    show own_Go p e below s C S Q T1 (mkF m 8 #[.val (.ref th), .val (.int i)] [(.int z), (.int i)])
    have hf2 : ¬ (i < z) := by rw [Int32.lt_iff_toInt_lt]; omega
    refine own_go (T' := T1) (g' := (mkF m 31 #[.val (.ref th), .val (.int i)] [(.int (0 : Int32))])) (fun t_ k_ => ?_) ?_
    · refine XS.icmpYes X1.here hx rfl (pc0 := 8) (pc' := 30) rfl (hb hby d5_8) rfl (flt hf2).2.1 (by decide) (by decide) ?_
      show Steps p.tables e below (T1.setTop (mkF m 30 #[.val (.ref th), .val (.int i)] [])) _
      refine XS.iconst X1.here hx rfl (hb hby d5_30) ?_
      show Steps p.tables e below (T1.setTop (mkF m 31 #[.val (.ref th), .val (.int i)] [(.int (0 : Int32))])) _
      exact k_
    exact own_retI X1 hx hret hk (hb hby d5_31) hC hS (by rw [e1]; exact fin _ (Or.inl ⟨z0, fun j q => hj j (by omega)⟩))
  | succ d ih =>
    intro T i k X0 e0 hi hn hj
    refine own_go (T' := T) (g' := (mkF m 4 #[.val (.ref th), .val (.int i)] [(.ref th), (.int i)])) (fun t_ k_ => ?_) ?_
    · refine XS.iloadN X0.here hx rfl (hb hby d5_2) rfl ?_
      show Steps p.tables e below (T.setTop (mkF m 3 #[.val (.ref th), .val (.int i)] [(.int i)])) _
      refine XS.aloadN X0.here hx rfl (hb hby d5_3) rfl rfl ?_
      show Steps p.tables e below (T.setTop (mkF m 4 #[.val (.ref th), .val (.int i)] [(.ref th), (.int i)])) _
      exact k_
    obtain ⟨T3, X3, e3, st3⟩ := getF X0 hx hZ hown (host := "") (Or.inl (hw _ (List.mem_of_getElem? (i := 20) rfl))) Via.refl e0 F (g := (mkF m 4 #[.val (.ref th), .val (.int i)] [(.ref th), (.int i)])) rfl rfl (hb hby d5_4)
    refine own_go st3 ?_
    show own_Go p e below s C S Q T3 (mkF m 7 #[.val (.ref th), .val (.int i)] [(.ref ar), (.int i)])
    refine own_alen X3 hx hZ e3 A z hz rfl rfl (hb hby d5_7) ?_
    show own_Go p e below s C S Q T3 (mkF m 8 #[.val (.ref th), .val (.int i)] [(.int z), (.int i)])
    have hf4 : i < z := by rw [Int32.lt_iff_toInt_lt]; omega
    refine own_go (T' := T3) (g' := (mkF m 12 #[.val (.ref th), .val (.int i)] [(.ref th)])) (fun t_ k_ => ?_) ?_
    · refine XS.icmpNo X3.here hx rfl (hb hby d5_8) rfl (tlt hf4).2.1 ?_
      show Steps p.tables e below (T3.setTop (mkF m 11 #[.val (.ref th), .val (.int i)] [])) _
      refine XS.aloadN X3.here hx rfl (hb hby d5_11) rfl rfl ?_
      show Steps p.tables e below (T3.setTop (mkF m 12 #[.val (.ref th), .val (.int i)] [(.ref th)])) _
      exact k_
    obtain ⟨T5, X5, e5, st5⟩ := getF X3 hx hZ hown (host := "") (Or.inl (hw _ (List.mem_of_getElem? (i := 20) rfl))) Via.refl e3 F (g := (mkF m 12 #[.val (.ref th), .val (.int i)] [(.ref th)])) rfl rfl (hb hby d5_12)
    refine own_go st5 ?_
    show own_Go p e below s C S Q T5 (mkF m 15 #[.val (.ref th), .val (.int i)] [(.ref ar)])
    refine own_go (T' := T5) (g' := (mkF m 16 #[.val (.ref th), .val (.int i)] [(.int i), (.ref ar)])) (fun t_ k_ => ?_) ?_
    · refine XS.iloadN X5.here hx rfl (hb hby d5_15) rfl ?_
      show Steps p.tables e below (T5.setTop (mkF m 16 #[.val (.ref th), .val (.int i)] [(.int i), (.ref ar)])) _
      exact k_
    refine own_iaload X5 hx hZ e5 A k hi (by omega) rfl rfl (hb hby d5_16) ?_
    show own_Go p e below s C S Q T5 (mkF m 17 #[.val (.ref th), .val (.int i)] [(.int (f k))])
    have hp : (i + (1 : Int32)).toInt = i.toInt + 1 := by
      have q := c_iadd i 1
      have r := rng32 (i + 1)
      omega
    by_cases c17 : (0 : Int32) < (f k)
    · refine own_go (T' := T5) (g' := (mkF m 23 #[.val (.ref th), .val (.int i)] [(.int (i + (1 : Int32)))])) (fun t_ k_ => ?_) ?_
      · refine XS.ifNo X5.here hx rfl (hb hby d5_17) rfl ((if0 _ _).trans (tlt c17).2.2.2) ?_
        show Steps p.tables e below (T5.setTop (mkF m 20 #[.val (.ref th), .val (.int i)] [])) _
        refine XS.iloadN X5.here hx rfl (hb hby d5_20) rfl ?_
        show Steps p.tables e below (T5.setTop (mkF m 21 #[.val (.ref th), .val (.int i)] [(.int i)])) _
        refine XS.iconst X5.here hx rfl (hb hby d5_21) ?_
        show Steps p.tables e below (T5.setTop (mkF m 22 #[.val (.ref th), .val (.int i)] [(.int (1 : Int32)), (.int i)])) _
        refine XS.iadd X5.here hx rfl (hb hby d5_22) rfl ?_
        show Steps p.tables e below (T5.setTop (mkF m 23 #[.val (.ref th), .val (.int i)] [(.int (i + (1 : Int32)))])) _
        exact k_
      rw [Int32.lt_iff_toInt_lt] at c17
      exact own_retI X5 hx hret hk (hb hby d5_23) hC hS (by rw [e5]; exact fin _ (Or.inr ⟨k, by omega, by omega, by omega, hj⟩))
    · refine own_go (T' := T5) (g' := (mkF m 2 #[.val (.ref th), .val (.int (i + (1 : Int32)))] [])) (fun t_ k_ => ?_) ?_
      · refine XS.ifYes X5.here hx rfl (pc0 := 17) (pc' := 24) rfl (hb hby d5_17) rfl ((if0 _ _).trans (flt c17).2.2.2) (by decide) (by decide) ?_
        show Steps p.tables e below (T5.setTop (mkF m 24 #[.val (.ref th), .val (.int i)] [])) _
        refine XS.iinc X5.here hx rfl (hb hby d5_24) rfl (l' := #[.val (.ref th), .val (.int (i + (1 : Int32)))]) rfl ?_
        show Steps p.tables e below (T5.setTop (mkF m 27 #[.val (.ref th), .val (.int (i + (1 : Int32)))] [])) _
        refine XS.goto X5.here hx rfl (pc0 := 27) (pc' := 2) rfl (hb hby d5_27) (by decide) (by decide) ?_
        show Steps p.tables e below (T5.setTop (mkF m 2 #[.val (.ref th), .val (.int (i + (1 : Int32)))] [])) _
        exact k_
      rw [Int32.lt_iff_toInt_lt] at c17
      exact ih T5 (i + 1) (k + 1) X5 e5 (by omega) (by omega) (fun j q => by rcases Nat.lt_succ_iff_lt_or_eq.mp q with q | rfl; exact hj j q; omega)
set_option maxRecDepth 65536 in
set_option maxHeartbeats 40000000 in
theorem rm5 (l : Launch) (Z : State) (a0 : Array Value) (hw : ∀ d ∈ tables_1, d.before a0 Z = true) (ws : List Jvm.Cond) (th : Addr) (h0 : Heap) (n0 : Nat) (Z0 : n0 ≤ h0.size) (ar : Addr) (n : Nat) (f : Nat → Int32) (z : Int32) (F : Fld Z h0 th "com/example/implied_anchor/impliedanchor/evaluation/JudgedRanking" "gains" "[I" (.ref ar)) (A : own_Ar Z h0 ar n f) (hz : z.toInt = n) :
    own_Con l Z (⟨"com/example/implied_anchor/impliedanchor/evaluation/JudgedRanking", "firstRelevantRank", "()I"⟩ : MethodName) prog_28_method_3_code 2 (some .int) ws ({ frames := 0, cells := 0, slots := 0, locals := 0 } : Room) #[(.ref th)] h0 (own_PI (own_isRank f n) h0 n0) := by
  refine own_body (plainFor_of_name pn5) ?_
  intro p e s m below meth c s₁ hx hby hml0 hZ hown0 hnm0 hret0 hk e0 X0
  have hown : s.vm.findClass "com/example/implied_anchor/impliedanchor/evaluation/JudgedRanking" = some m.cls := hown0
  have hnm : meth.name = "firstRelevantRank" := hnm0
  have hret : meth.sig.returnType = (some .int) := hret0
  have hml : c.maxLocals = 2 := hml0
  have N0 := Fr.nil n0
  refine own_cast (ef5 m th) ?_
  refine own_go (T' := s₁) (g' := (mkF m 2 #[.val (.ref th), .val (.int (0 : Int32))] [])) (fun t_ k_ => ?_) ?_
  · refine XS.iconst X0.here hx rfl (hb hby d5_0) ?_
    show Steps p.tables e below (s₁.setTop (mkF m 1 #[.val (.ref th), .unset] [(.int (0 : Int32))])) _
    refine XS.istoreN X0.here hx rfl (hb hby d5_1) rfl (l' := #[.val (.ref th), .val (.int (0 : Int32))]) rfl ?_
    show Steps p.tables e below (s₁.setTop (mkF m 2 #[.val (.ref th), .val (.int (0 : Int32))] [])) _
    exact k_
  exact own_loop hx hZ hw hby hown hret hk (by decide) (by decide) F A hz (fun r hr => ⟨r, rfl, hr, N0, rfl⟩) n _ 0 0 X0 e0 (by decide) (Nat.zero_add _) (fun j q => absurd q (Nat.not_lt_zero _))
/-! the law -/
theorem pn0 : plainName "com/example/implied_anchor/impliedanchor/evaluation/JudgedRankingFirstRelevantRankPinLaw" = true := by first | (simp [plainName, overriddenIn]; done) | decide +kernel
theorem ef0 (m : MethodId) (x0 : Int32) (x1 : Int32) (x2 : Int32) (x3 : Int32) (x4 : Int32) (x5 : Int32) : entryFrame m #[(.int x0), (.int x1), (.int x2), (.int x3), (.int x4), (.int x5)] maxLocals = mkF m 0 #[.val (.int x0), .val (.int x1), .val (.int x2), .val (.int x3), .val (.int x4), .val (.int x5), .unset, .unset, .unset, .unset, .unset, .unset, .unset, .unset, .unset] [] := by first | (simp [entryFrame, mkF, argsToLocals, Value.category, maxLocals]; done) | rfl
set_option maxRecDepth 65536 in
set_option maxHeartbeats 40000000 in
theorem rm0 (l : Launch) (Z : State) (a0 : Array Value) (hw : ∀ d ∈ tables_1, d.before a0 Z = true) (ws : List Jvm.Cond) (p1 : Int32) (p2 : Int32) (p3 : Int32) (p4 : Int32) (p5 : Int32) (p6 : Int32) (h0 : Heap) (n0 : Nat) (Z0 : n0 ≤ h0.size) :
    own_Con l Z x code maxLocals ret ws room_1 #[(.int p1), (.int p2), (.int p3), (.int p4), (.int p5), (.int p6)] h0 (fun v _ L => v = some (.int (1 : Int32)) ∧ Fr n0 L) := by
  refine own_body (plainFor_of_name pn0) ?_
  intro p e s m below meth c s₁ hx hby hml0 hZ hown0 hnm0 hret0 hk e0 X0
  have hown : s.vm.findClass "com/example/implied_anchor/impliedanchor/evaluation/JudgedRankingFirstRelevantRankPinLaw" = some m.cls := hown0
  have hnm : meth.name = "law" := hnm0
  have hret : meth.sig.returnType = (some .boolean) := hret0
  have hml : c.maxLocals = 15 := hml0
  have N0 := Fr.nil n0
  refine own_cast (ef0 m p1 p2 p3 p4 p5 p6) ?_
  refine own_go (T' := s₁) (g' := (mkF m 9 #[.val (.int p1), .val (.int p2), .val (.int p3), .val (.int p4), .val (.int p5), .val (.int p6), .val (.int ((p1 &&& (2147483647 : Int32)) % (6 : Int32))), .unset, .unset, .unset, .unset, .unset, .unset, .unset, .unset] [])) (fun t_ k_ => ?_) ?_
  · refine XS.iloadN X0.here hx rfl (hb hby at_0) rfl ?_
    show Steps p.tables e below (s₁.setTop (mkF m 1 #[.val (.int p1), .val (.int p2), .val (.int p3), .val (.int p4), .val (.int p5), .val (.int p6), .unset, .unset, .unset, .unset, .unset, .unset, .unset, .unset, .unset] [(.int p1)])) _
    refine X0.ldcInt hx hown (mvT hZ (hw _ (List.mem_of_getElem? (i := 0) rfl))) (g := (mkF m 1 #[.val (.int p1), .val (.int p2), .val (.int p3), .val (.int p4), .val (.int p5), .val (.int p6), .unset, .unset, .unset, .unset, .unset, .unset, .unset, .unset, .unset] [(.int p1)])) rfl (hb hby at_1) _ ?_
    show Steps p.tables e below (s₁.setTop (mkF m 3 #[.val (.int p1), .val (.int p2), .val (.int p3), .val (.int p4), .val (.int p5), .val (.int p6), .unset, .unset, .unset, .unset, .unset, .unset, .unset, .unset, .unset] [(.int (2147483647 : Int32)), (.int p1)])) _
    refine XS.iand X0.here hx rfl (hb hby at_3) rfl ?_
    show Steps p.tables e below (s₁.setTop (mkF m 4 #[.val (.int p1), .val (.int p2), .val (.int p3), .val (.int p4), .val (.int p5), .val (.int p6), .unset, .unset, .unset, .unset, .unset, .unset, .unset, .unset, .unset] [(.int (p1 &&& (2147483647 : Int32)))])) _
    refine XS.bipush X0.here hx rfl (hb hby at_4) ?_
    show Steps p.tables e below (s₁.setTop (mkF m 6 #[.val (.int p1), .val (.int p2), .val (.int p3), .val (.int p4), .val (.int p5), .val (.int p6), .unset, .unset, .unset, .unset, .unset, .unset, .unset, .unset, .unset] [(.int (6 : Int32)), (.int (p1 &&& (2147483647 : Int32)))])) _
    refine iremM X0 hx rfl (hb hby at_6) rfl (by decide) ?_
    show Steps p.tables e below (s₁.setTop (mkF m 7 #[.val (.int p1), .val (.int p2), .val (.int p3), .val (.int p4), .val (.int p5), .val (.int p6), .unset, .unset, .unset, .unset, .unset, .unset, .unset, .unset, .unset] [(.int ((p1 &&& (2147483647 : Int32)) % (6 : Int32)))])) _
    refine XS.istore X0.here hx rfl (hb hby at_7) rfl (l' := #[.val (.int p1), .val (.int p2), .val (.int p3), .val (.int p4), .val (.int p5), .val (.int p6), .val (.int ((p1 &&& (2147483647 : Int32)) % (6 : Int32))), .unset, .unset, .unset, .unset, .unset, .unset, .unset, .unset]) rfl ?_
    show Steps p.tables e below (s₁.setTop (mkF m 9 #[.val (.int p1), .val (.int p2), .val (.int p3), .val (.int p4), .val (.int p5), .val (.int p6), .val (.int ((p1 &&& (2147483647 : Int32)) % (6 : Int32))), .unset, .unset, .unset, .unset, .unset, .unset, .unset, .unset] [])) _
    exact k_
  obtain ⟨nn, hnn⟩ : ∃ z : Int32, z = ((p1 &&& (2147483647 : Int32)) % (6 : Int32)) := ⟨_, rfl⟩
  rw [← hnn]
  have hc := own_cnt p1
  rw [← hnn] at hc
  refine own_go (T' := s₁) (g' := (mkF m 10 #[.val (.int p1), .val (.int p2), .val (.int p3), .val (.int p4), .val (.int p5), .val (.int p6), .val (.int nn), .unset, .unset, .unset, .unset, .unset, .unset, .unset, .unset] [(.int p2)])) (fun t_ k_ => ?_) ?_
  · refine XS.iloadN X0.here hx rfl (hb hby at_9) rfl ?_
    show Steps p.tables e below (s₁.setTop (mkF m 10 #[.val (.int p1), .val (.int p2), .val (.int p3), .val (.int p4), .val (.int p5), .val (.int p6), .val (.int nn), .unset, .unset, .unset, .unset, .unset, .unset, .unset, .unset] [(.int p2)])) _
    exact k_
  refine own_callS (y := (⟨"com/example/implied_anchor/impliedanchor/evaluation/JudgedRankingFirstRelevantRankPinLaw", "gain", "(I)I"⟩ : MethodName)) (W := 0) (rm := ({ frames := 0, cells := 0, slots := 0, locals := 0 } : Room)) (argsL := [(.int p2)]) (rest := []) X0 hx hZ hown (hw _ (List.mem_of_getElem? (i := 1) rfl)) (hw _ (List.mem_of_getElem? (i := 2) rfl)) (hw _ (List.mem_of_getElem? (i := 3) rfl)) (hw _ (List.mem_of_getElem? (i := 4) rfl)) (by decide) (rm1 l Z a0 hw [] p2 h0 n0 Z0) (by decide) (by decide) e0 (by decide) (by decide) rfl (by rw [hml]; rfl) (lenOf pd1 rfl) rfl (by show 2 * 0 + _ ≤ _; exact Nat.le_of_eq rfl) (hb hby at_10) ?_
  rintro _ T1 L1 X1 ⟨r1, rfl, -, N1, e1⟩
  show own_Go p e below s room_1.cells room_1.slots (fun v _ L => v = some (.int (1 : Int32)) ∧ Fr n0 L) T1 (mkF m 13 #[.val (.int p1), .val (.int p2), .val (.int p3), .val (.int p4), .val (.int p5), .val (.int p6), .val (.int nn), .unset, .unset, .unset, .unset, .unset, .unset, .unset, .unset] [(.int r1)])
  refine own_go (T' := T1) (g' := (mkF m 16 #[.val (.int p1), .val (.int p2), .val (.int p3), .val (.int p4), .val (.int p5), .val (.int p6), .val (.int nn), .val (.int r1), .unset, .unset, .unset, .unset, .unset, .unset, .unset] [(.int p3)])) (fun t_ k_ => ?_) ?_
  · refine XS.istore X1.here hx rfl (hb hby at_13) rfl (l' := #[.val (.int p1), .val (.int p2), .val (.int p3), .val (.int p4), .val (.int p5), .val (.int p6), .val (.int nn), .val (.int r1), .unset, .unset, .unset, .unset, .unset, .unset, .unset]) rfl ?_
    show Steps p.tables e below (T1.setTop (mkF m 15 #[.val (.int p1), .val (.int p2), .val (.int p3), .val (.int p4), .val (.int p5), .val (.int p6), .val (.int nn), .val (.int r1), .unset, .unset, .unset, .unset, .unset, .unset, .unset] [])) _
    refine XS.iloadN X1.here hx rfl (hb hby at_15) rfl ?_
    show Steps p.tables e below (T1.setTop (mkF m 16 #[.val (.int p1), .val (.int p2), .val (.int p3), .val (.int p4), .val (.int p5), .val (.int p6), .val (.int nn), .val (.int r1), .unset, .unset, .unset, .unset, .unset, .unset, .unset] [(.int p3)])) _
    exact k_
  refine own_callS (y := (⟨"com/example/implied_anchor/impliedanchor/evaluation/JudgedRankingFirstRelevantRankPinLaw", "gain", "(I)I"⟩ : MethodName)) (W := 0) (rm := ({ frames := 0, cells := 0, slots := 0, locals := 0 } : Room)) (argsL := [(.int p3)]) (rest := []) X1 hx hZ hown (hw _ (List.mem_of_getElem? (i := 1) rfl)) (hw _ (List.mem_of_getElem? (i := 2) rfl)) (hw _ (List.mem_of_getElem? (i := 3) rfl)) (hw _ (List.mem_of_getElem? (i := 4) rfl)) (by decide) (rm1 l Z a0 hw [] p3 h0 n0 Z0) (by decide) (by decide) e1 (by decide) (by decide) rfl (by rw [hml]; rfl) (lenOf pd1 rfl) rfl (by show 2 * 0 + _ ≤ _; exact Nat.le_of_eq rfl) (hb hby at_16) ?_
  rintro _ T2 L2 X2 ⟨r2, rfl, -, N2, e2⟩
  show own_Go p e below s room_1.cells room_1.slots (fun v _ L => v = some (.int (1 : Int32)) ∧ Fr n0 L) T2 (mkF m 19 #[.val (.int p1), .val (.int p2), .val (.int p3), .val (.int p4), .val (.int p5), .val (.int p6), .val (.int nn), .val (.int r1), .unset, .unset, .unset, .unset, .unset, .unset, .unset] [(.int r2)])
  refine own_go (T' := T2) (g' := (mkF m 22 #[.val (.int p1), .val (.int p2), .val (.int p3), .val (.int p4), .val (.int p5), .val (.int p6), .val (.int nn), .val (.int r1), .val (.int r2), .unset, .unset, .unset, .unset, .unset, .unset] [(.int p4)])) (fun t_ k_ => ?_) ?_
  · refine XS.istore X2.here hx rfl (hb hby at_19) rfl (l' := #[.val (.int p1), .val (.int p2), .val (.int p3), .val (.int p4), .val (.int p5), .val (.int p6), .val (.int nn), .val (.int r1), .val (.int r2), .unset, .unset, .unset, .unset, .unset, .unset]) rfl ?_
    show Steps p.tables e below (T2.setTop (mkF m 21 #[.val (.int p1), .val (.int p2), .val (.int p3), .val (.int p4), .val (.int p5), .val (.int p6), .val (.int nn), .val (.int r1), .val (.int r2), .unset, .unset, .unset, .unset, .unset, .unset] [])) _
    refine XS.iloadN X2.here hx rfl (hb hby at_21) rfl ?_
    show Steps p.tables e below (T2.setTop (mkF m 22 #[.val (.int p1), .val (.int p2), .val (.int p3), .val (.int p4), .val (.int p5), .val (.int p6), .val (.int nn), .val (.int r1), .val (.int r2), .unset, .unset, .unset, .unset, .unset, .unset] [(.int p4)])) _
    exact k_
  refine own_callS (y := (⟨"com/example/implied_anchor/impliedanchor/evaluation/JudgedRankingFirstRelevantRankPinLaw", "gain", "(I)I"⟩ : MethodName)) (W := 0) (rm := ({ frames := 0, cells := 0, slots := 0, locals := 0 } : Room)) (argsL := [(.int p4)]) (rest := []) X2 hx hZ hown (hw _ (List.mem_of_getElem? (i := 1) rfl)) (hw _ (List.mem_of_getElem? (i := 2) rfl)) (hw _ (List.mem_of_getElem? (i := 3) rfl)) (hw _ (List.mem_of_getElem? (i := 4) rfl)) (by decide) (rm1 l Z a0 hw [] p4 h0 n0 Z0) (by decide) (by decide) e2 (by decide) (by decide) rfl (by rw [hml]; rfl) (lenOf pd1 rfl) rfl (by show 2 * 0 + _ ≤ _; exact Nat.le_of_eq rfl) (hb hby at_22) ?_
  rintro _ T3 L3 X3 ⟨r3, rfl, -, N3, e3⟩
  show own_Go p e below s room_1.cells room_1.slots (fun v _ L => v = some (.int (1 : Int32)) ∧ Fr n0 L) T3 (mkF m 25 #[.val (.int p1), .val (.int p2), .val (.int p3), .val (.int p4), .val (.int p5), .val (.int p6), .val (.int nn), .val (.int r1), .val (.int r2), .unset, .unset, .unset, .unset, .unset, .unset] [(.int r3)])
  refine own_go (T' := T3) (g' := (mkF m 29 #[.val (.int p1), .val (.int p2), .val (.int p3), .val (.int p4), .val (.int p5), .val (.int p6), .val (.int nn), .val (.int r1), .val (.int r2), .val (.int r3), .unset, .unset, .unset, .unset, .unset] [(.int p5)])) (fun t_ k_ => ?_) ?_
  · refine XS.istore X3.here hx rfl (hb hby at_25) rfl (l' := #[.val (.int p1), .val (.int p2), .val (.int p3), .val (.int p4), .val (.int p5), .val (.int p6), .val (.int nn), .val (.int r1), .val (.int r2), .val (.int r3), .unset, .unset, .unset, .unset, .unset]) rfl ?_
    show Steps p.tables e below (T3.setTop (mkF m 27 #[.val (.int p1), .val (.int p2), .val (.int p3), .val (.int p4), .val (.int p5), .val (.int p6), .val (.int nn), .val (.int r1), .val (.int r2), .val (.int r3), .unset, .unset, .unset, .unset, .unset] [])) _
    refine XS.iload X3.here hx rfl (hb hby at_27) rfl ?_
    show Steps p.tables e below (T3.setTop (mkF m 29 #[.val (.int p1), .val (.int p2), .val (.int p3), .val (.int p4), .val (.int p5), .val (.int p6), .val (.int nn), .val (.int r1), .val (.int r2), .val (.int r3), .unset, .unset, .unset, .unset, .unset] [(.int p5)])) _
    exact k_
  refine own_callS (y := (⟨"com/example/implied_anchor/impliedanchor/evaluation/JudgedRankingFirstRelevantRankPinLaw", "gain", "(I)I"⟩ : MethodName)) (W := 0) (rm := ({ frames := 0, cells := 0, slots := 0, locals := 0 } : Room)) (argsL := [(.int p5)]) (rest := []) X3 hx hZ hown (hw _ (List.mem_of_getElem? (i := 1) rfl)) (hw _ (List.mem_of_getElem? (i := 2) rfl)) (hw _ (List.mem_of_getElem? (i := 3) rfl)) (hw _ (List.mem_of_getElem? (i := 4) rfl)) (by decide) (rm1 l Z a0 hw [] p5 h0 n0 Z0) (by decide) (by decide) e3 (by decide) (by decide) rfl (by rw [hml]; rfl) (lenOf pd1 rfl) rfl (by show 2 * 0 + _ ≤ _; exact Nat.le_of_eq rfl) (hb hby at_29) ?_
  rintro _ T4 L4 X4 ⟨r4, rfl, -, N4, e4⟩
  show own_Go p e below s room_1.cells room_1.slots (fun v _ L => v = some (.int (1 : Int32)) ∧ Fr n0 L) T4 (mkF m 32 #[.val (.int p1), .val (.int p2), .val (.int p3), .val (.int p4), .val (.int p5), .val (.int p6), .val (.int nn), .val (.int r1), .val (.int r2), .val (.int r3), .unset, .unset, .unset, .unset, .unset] [(.int r4)])
  refine own_go (T' := T4) (g' := (mkF m 36 #[.val (.int p1), .val (.int p2), .val (.int p3), .val (.int p4), .val (.int p5), .val (.int p6), .val (.int nn), .val (.int r1), .val (.int r2), .val (.int r3), .val (.int r4), .unset, .unset, .unset, .unset] [(.int p6)])) (fun t_ k_ => ?_) ?_
  · refine XS.istore X4.here hx rfl (hb hby at_32) rfl (l' := #[.val (.int p1), .val (.int p2), .val (.int p3), .val (.int p4), .val (.int p5), .val (.int p6), .val (.int nn), .val (.int r1), .val (.int r2), .val (.int r3), .val (.int r4), .unset, .unset, .unset, .unset]) rfl ?_
    show Steps p.tables e below (T4.setTop (mkF m 34 #[.val (.int p1), .val (.int p2), .val (.int p3), .val (.int p4), .val (.int p5), .val (.int p6), .val (.int nn), .val (.int r1), .val (.int r2), .val (.int r3), .val (.int r4), .unset, .unset, .unset, .unset] [])) _
    refine XS.iload X4.here hx rfl (hb hby at_34) rfl ?_
    show Steps p.tables e below (T4.setTop (mkF m 36 #[.val (.int p1), .val (.int p2), .val (.int p3), .val (.int p4), .val (.int p5), .val (.int p6), .val (.int nn), .val (.int r1), .val (.int r2), .val (.int r3), .val (.int r4), .unset, .unset, .unset, .unset] [(.int p6)])) _
    exact k_
  refine own_callS (y := (⟨"com/example/implied_anchor/impliedanchor/evaluation/JudgedRankingFirstRelevantRankPinLaw", "gain", "(I)I"⟩ : MethodName)) (W := 0) (rm := ({ frames := 0, cells := 0, slots := 0, locals := 0 } : Room)) (argsL := [(.int p6)]) (rest := []) X4 hx hZ hown (hw _ (List.mem_of_getElem? (i := 1) rfl)) (hw _ (List.mem_of_getElem? (i := 2) rfl)) (hw _ (List.mem_of_getElem? (i := 3) rfl)) (hw _ (List.mem_of_getElem? (i := 4) rfl)) (by decide) (rm1 l Z a0 hw [] p6 h0 n0 Z0) (by decide) (by decide) e4 (by decide) (by decide) rfl (by rw [hml]; rfl) (lenOf pd1 rfl) rfl (by show 2 * 0 + _ ≤ _; exact Nat.le_of_eq rfl) (hb hby at_36) ?_
  rintro _ T5 L5 X5 ⟨r5, rfl, -, N5, e5⟩
  show own_Go p e below s room_1.cells room_1.slots (fun v _ L => v = some (.int (1 : Int32)) ∧ Fr n0 L) T5 (mkF m 39 #[.val (.int p1), .val (.int p2), .val (.int p3), .val (.int p4), .val (.int p5), .val (.int p6), .val (.int nn), .val (.int r1), .val (.int r2), .val (.int r3), .val (.int r4), .unset, .unset, .unset, .unset] [(.int r5)])
  refine own_go (T' := T5) (g' := (mkF m 41 #[.val (.int p1), .val (.int p2), .val (.int p3), .val (.int p4), .val (.int p5), .val (.int p6), .val (.int nn), .val (.int r1), .val (.int r2), .val (.int r3), .val (.int r4), .val (.int r5), .unset, .unset, .unset] [])) (fun t_ k_ => ?_) ?_
  · refine XS.istore X5.here hx rfl (hb hby at_39) rfl (l' := #[.val (.int p1), .val (.int p2), .val (.int p3), .val (.int p4), .val (.int p5), .val (.int p6), .val (.int nn), .val (.int r1), .val (.int r2), .val (.int r3), .val (.int r4), .val (.int r5), .unset, .unset, .unset]) rfl ?_
    show Steps p.tables e below (T5.setTop (mkF m 41 #[.val (.int p1), .val (.int p2), .val (.int p3), .val (.int p4), .val (.int p5), .val (.int p6), .val (.int nn), .val (.int r1), .val (.int r2), .val (.int r3), .val (.int r4), .val (.int r5), .unset, .unset, .unset] [])) _
    exact k_
  have J : ∀ (T : State) (L : List Loc) (h : Heap) (arr : Addr), Stand p l e room_1 s m #[(.int p1), (.int p2), (.int p3), (.int p4), (.int p5), (.int p6)] below meth c T L 1 5 → T.heap = h → Fr n0 L → n0 ≤ h.size → own_Ar Z h arr nn.toInt.toNat (own_f r1 r2 r3 r4 r5) → own_Go p e below s room_1.cells room_1.slots (fun v _ L => v = some (.int (1 : Int32)) ∧ Fr n0 L) T (mkF m 190 #[.val (.int p1), .val (.int p2), .val (.int p3), .val (.int p4), .val (.int p5), .val (.int p6), .val (.int nn), .val (.int r1), .val (.int r2), .val (.int r3), .val (.int r4), .val (.int r5), .val (.ref arr), .unset, .unset] []) := by
    intro T L h arr X eT N Zh A
    refine own_go (T' := T) (g' := (mkF m 193 #[.val (.int p1), .val (.int p2), .val (.int p3), .val (.int p4), .val (.int p5), .val (.int p6), .val (.int nn), .val (.int r1), .val (.int r2), .val (.int r3), .val (.int r4), .val (.int r5), .val (.ref arr), .val (.int (0 : Int32)), .unset] [])) (fun t_ k_ => ?_) ?_
    · refine XS.iconst X.here hx rfl (hb hby at_190) ?_
      show Steps p.tables e below (T.setTop (mkF m 191 #[.val (.int p1), .val (.int p2), .val (.int p3), .val (.int p4), .val (.int p5), .val (.int p6), .val (.int nn), .val (.int r1), .val (.int r2), .val (.int r3), .val (.int r4), .val (.int r5), .val (.ref arr), .unset, .unset] [(.int (0 : Int32))])) _
      refine XS.istore X.here hx rfl (hb hby at_191) rfl (l' := #[.val (.int p1), .val (.int p2), .val (.int p3), .val (.int p4), .val (.int p5), .val (.int p6), .val (.int nn), .val (.int r1), .val (.int r2), .val (.int r3), .val (.int r4), .val (.int r5), .val (.ref arr), .val (.int (0 : Int32)), .unset]) rfl ?_
      show Steps p.tables e below (T.setTop (mkF m 193 #[.val (.int p1), .val (.int p2), .val (.int p3), .val (.int p4), .val (.int p5), .val (.int p6), .val (.int nn), .val (.int r1), .val (.int r2), .val (.int r3), .val (.int r4), .val (.int r5), .val (.ref arr), .val (.int (0 : Int32)), .unset] [])) _
      exact k_
    obtain ⟨x5, hx5⟩ : ∃ z : Int32, z = if ¬ nn < (5 : Int32) ∧ (0 : Int32) < r5 then (5 : Int32) else (0 : Int32) := ⟨_, rfl⟩
    refine own_go (T' := T) (g' := (mkF m 207 #[.val (.int p1), .val (.int p2), .val (.int p3), .val (.int p4), .val (.int p5), .val (.int p6), .val (.int nn), .val (.int r1), .val (.int r2), .val (.int r3), .val (.int r4), .val (.int r5), .val (.ref arr), .val (.int x5), .unset] [])) (fun t_ k_ => ?_) ?_
    · refine XS.iload X.here hx rfl (hb hby at_193) rfl ?_
      show Steps p.tables e below (T.setTop (mkF m 195 #[.val (.int p1), .val (.int p2), .val (.int p3), .val (.int p4), .val (.int p5), .val (.int p6), .val (.int nn), .val (.int r1), .val (.int r2), .val (.int r3), .val (.int r4), .val (.int r5), .val (.ref arr), .val (.int (0 : Int32)), .unset] [(.int nn)])) _
      refine XS.iconst X.here hx rfl (hb hby at_195) ?_
      show Steps p.tables e below (T.setTop (mkF m 196 #[.val (.int p1), .val (.int p2), .val (.int p3), .val (.int p4), .val (.int p5), .val (.int p6), .val (.int nn), .val (.int r1), .val (.int r2), .val (.int r3), .val (.int r4), .val (.int r5), .val (.ref arr), .val (.int (0 : Int32)), .unset] [(.int (5 : Int32)), (.int nn)])) _
      by_cases hm6 : nn < (5 : Int32)
      · refine XS.icmpYes X.here hx rfl (pc0 := 196) (pc' := 207) rfl (hb hby at_196) rfl (tlt hm6).1 (by decide) (by decide) ?_
        show Steps p.tables e below (T.setTop (mkF m 207 #[.val (.int p1), .val (.int p2), .val (.int p3), .val (.int p4), .val (.int p5), .val (.int p6), .val (.int nn), .val (.int r1), .val (.int r2), .val (.int r3), .val (.int r4), .val (.int r5), .val (.ref arr), .val (.int (0 : Int32)), .unset] [])) _
        rw [show x5 = (0 : Int32) from by rw [hx5]; simp [hm6]] at k_
        exact k_
      · refine XS.icmpNo X.here hx rfl (hb hby at_196) rfl (flt hm6).1 ?_
        show Steps p.tables e below (T.setTop (mkF m 199 #[.val (.int p1), .val (.int p2), .val (.int p3), .val (.int p4), .val (.int p5), .val (.int p6), .val (.int nn), .val (.int r1), .val (.int r2), .val (.int r3), .val (.int r4), .val (.int r5), .val (.ref arr), .val (.int (0 : Int32)), .unset] [])) _
        refine XS.iload X.here hx rfl (hb hby at_199) rfl ?_
        show Steps p.tables e below (T.setTop (mkF m 201 #[.val (.int p1), .val (.int p2), .val (.int p3), .val (.int p4), .val (.int p5), .val (.int p6), .val (.int nn), .val (.int r1), .val (.int r2), .val (.int r3), .val (.int r4), .val (.int r5), .val (.ref arr), .val (.int (0 : Int32)), .unset] [(.int r5)])) _
        by_cases hm7 : (0 : Int32) < r5
        · refine XS.ifNo X.here hx rfl (hb hby at_201) rfl ((if0 _ _).trans (tlt hm7).2.2.2) ?_
          show Steps p.tables e below (T.setTop (mkF m 204 #[.val (.int p1), .val (.int p2), .val (.int p3), .val (.int p4), .val (.int p5), .val (.int p6), .val (.int nn), .val (.int r1), .val (.int r2), .val (.int r3), .val (.int r4), .val (.int r5), .val (.ref arr), .val (.int (0 : Int32)), .unset] [])) _
          refine XS.iconst X.here hx rfl (hb hby at_204) ?_
          show Steps p.tables e below (T.setTop (mkF m 205 #[.val (.int p1), .val (.int p2), .val (.int p3), .val (.int p4), .val (.int p5), .val (.int p6), .val (.int nn), .val (.int r1), .val (.int r2), .val (.int r3), .val (.int r4), .val (.int r5), .val (.ref arr), .val (.int (0 : Int32)), .unset] [(.int (5 : Int32))])) _
          refine XS.istore X.here hx rfl (hb hby at_205) rfl (l' := #[.val (.int p1), .val (.int p2), .val (.int p3), .val (.int p4), .val (.int p5), .val (.int p6), .val (.int nn), .val (.int r1), .val (.int r2), .val (.int r3), .val (.int r4), .val (.int r5), .val (.ref arr), .val (.int (5 : Int32)), .unset]) rfl ?_
          show Steps p.tables e below (T.setTop (mkF m 207 #[.val (.int p1), .val (.int p2), .val (.int p3), .val (.int p4), .val (.int p5), .val (.int p6), .val (.int nn), .val (.int r1), .val (.int r2), .val (.int r3), .val (.int r4), .val (.int r5), .val (.ref arr), .val (.int (5 : Int32)), .unset] [])) _
          rw [show x5 = (5 : Int32) from by rw [hx5]; simp [hm6, hm7]] at k_
          exact k_
        · refine XS.ifYes X.here hx rfl (pc0 := 201) (pc' := 207) rfl (hb hby at_201) rfl ((if0 _ _).trans (flt hm7).2.2.2) (by decide) (by decide) ?_
          show Steps p.tables e below (T.setTop (mkF m 207 #[.val (.int p1), .val (.int p2), .val (.int p3), .val (.int p4), .val (.int p5), .val (.int p6), .val (.int nn), .val (.int r1), .val (.int r2), .val (.int r3), .val (.int r4), .val (.int r5), .val (.ref arr), .val (.int (0 : Int32)), .unset] [])) _
          rw [show x5 = (0 : Int32) from by rw [hx5]; simp [hm6, hm7]] at k_
          exact k_
    obtain ⟨x4, hx4⟩ : ∃ z : Int32, z = if ¬ nn < (4 : Int32) ∧ (0 : Int32) < r4 then (4 : Int32) else x5 := ⟨_, rfl⟩
    refine own_go (T' := T) (g' := (mkF m 221 #[.val (.int p1), .val (.int p2), .val (.int p3), .val (.int p4), .val (.int p5), .val (.int p6), .val (.int nn), .val (.int r1), .val (.int r2), .val (.int r3), .val (.int r4), .val (.int r5), .val (.ref arr), .val (.int x4), .unset] [])) (fun t_ k_ => ?_) ?_
    · refine XS.iload X.here hx rfl (hb hby at_207) rfl ?_
      show Steps p.tables e below (T.setTop (mkF m 209 #[.val (.int p1), .val (.int p2), .val (.int p3), .val (.int p4), .val (.int p5), .val (.int p6), .val (.int nn), .val (.int r1), .val (.int r2), .val (.int r3), .val (.int r4), .val (.int r5), .val (.ref arr), .val (.int x5), .unset] [(.int nn)])) _
      refine XS.iconst X.here hx rfl (hb hby at_209) ?_
      show Steps p.tables e below (T.setTop (mkF m 210 #[.val (.int p1), .val (.int p2), .val (.int p3), .val (.int p4), .val (.int p5), .val (.int p6), .val (.int nn), .val (.int r1), .val (.int r2), .val (.int r3), .val (.int r4), .val (.int r5), .val (.ref arr), .val (.int x5), .unset] [(.int (4 : Int32)), (.int nn)])) _
      by_cases hm8 : nn < (4 : Int32)
      · refine XS.icmpYes X.here hx rfl (pc0 := 210) (pc' := 221) rfl (hb hby at_210) rfl (tlt hm8).1 (by decide) (by decide) ?_
        show Steps p.tables e below (T.setTop (mkF m 221 #[.val (.int p1), .val (.int p2), .val (.int p3), .val (.int p4), .val (.int p5), .val (.int p6), .val (.int nn), .val (.int r1), .val (.int r2), .val (.int r3), .val (.int r4), .val (.int r5), .val (.ref arr), .val (.int x5), .unset] [])) _
        rw [show x4 = x5 from by rw [hx4]; simp [hm8]] at k_
        exact k_
      · refine XS.icmpNo X.here hx rfl (hb hby at_210) rfl (flt hm8).1 ?_
        show Steps p.tables e below (T.setTop (mkF m 213 #[.val (.int p1), .val (.int p2), .val (.int p3), .val (.int p4), .val (.int p5), .val (.int p6), .val (.int nn), .val (.int r1), .val (.int r2), .val (.int r3), .val (.int r4), .val (.int r5), .val (.ref arr), .val (.int x5), .unset] [])) _
        refine XS.iload X.here hx rfl (hb hby at_213) rfl ?_
        show Steps p.tables e below (T.setTop (mkF m 215 #[.val (.int p1), .val (.int p2), .val (.int p3), .val (.int p4), .val (.int p5), .val (.int p6), .val (.int nn), .val (.int r1), .val (.int r2), .val (.int r3), .val (.int r4), .val (.int r5), .val (.ref arr), .val (.int x5), .unset] [(.int r4)])) _
        by_cases hm9 : (0 : Int32) < r4
        · refine XS.ifNo X.here hx rfl (hb hby at_215) rfl ((if0 _ _).trans (tlt hm9).2.2.2) ?_
          show Steps p.tables e below (T.setTop (mkF m 218 #[.val (.int p1), .val (.int p2), .val (.int p3), .val (.int p4), .val (.int p5), .val (.int p6), .val (.int nn), .val (.int r1), .val (.int r2), .val (.int r3), .val (.int r4), .val (.int r5), .val (.ref arr), .val (.int x5), .unset] [])) _
          refine XS.iconst X.here hx rfl (hb hby at_218) ?_
          show Steps p.tables e below (T.setTop (mkF m 219 #[.val (.int p1), .val (.int p2), .val (.int p3), .val (.int p4), .val (.int p5), .val (.int p6), .val (.int nn), .val (.int r1), .val (.int r2), .val (.int r3), .val (.int r4), .val (.int r5), .val (.ref arr), .val (.int x5), .unset] [(.int (4 : Int32))])) _
          refine XS.istore X.here hx rfl (hb hby at_219) rfl (l' := #[.val (.int p1), .val (.int p2), .val (.int p3), .val (.int p4), .val (.int p5), .val (.int p6), .val (.int nn), .val (.int r1), .val (.int r2), .val (.int r3), .val (.int r4), .val (.int r5), .val (.ref arr), .val (.int (4 : Int32)), .unset]) rfl ?_
          show Steps p.tables e below (T.setTop (mkF m 221 #[.val (.int p1), .val (.int p2), .val (.int p3), .val (.int p4), .val (.int p5), .val (.int p6), .val (.int nn), .val (.int r1), .val (.int r2), .val (.int r3), .val (.int r4), .val (.int r5), .val (.ref arr), .val (.int (4 : Int32)), .unset] [])) _
          rw [show x4 = (4 : Int32) from by rw [hx4]; simp [hm8, hm9]] at k_
          exact k_
        · refine XS.ifYes X.here hx rfl (pc0 := 215) (pc' := 221) rfl (hb hby at_215) rfl ((if0 _ _).trans (flt hm9).2.2.2) (by decide) (by decide) ?_
          show Steps p.tables e below (T.setTop (mkF m 221 #[.val (.int p1), .val (.int p2), .val (.int p3), .val (.int p4), .val (.int p5), .val (.int p6), .val (.int nn), .val (.int r1), .val (.int r2), .val (.int r3), .val (.int r4), .val (.int r5), .val (.ref arr), .val (.int x5), .unset] [])) _
          rw [show x4 = x5 from by rw [hx4]; simp [hm8, hm9]] at k_
          exact k_
    obtain ⟨x3, hx3⟩ : ∃ z : Int32, z = if ¬ nn < (3 : Int32) ∧ (0 : Int32) < r3 then (3 : Int32) else x4 := ⟨_, rfl⟩
    refine own_go (T' := T) (g' := (mkF m 235 #[.val (.int p1), .val (.int p2), .val (.int p3), .val (.int p4), .val (.int p5), .val (.int p6), .val (.int nn), .val (.int r1), .val (.int r2), .val (.int r3), .val (.int r4), .val (.int r5), .val (.ref arr), .val (.int x3), .unset] [])) (fun t_ k_ => ?_) ?_
    · refine XS.iload X.here hx rfl (hb hby at_221) rfl ?_
      show Steps p.tables e below (T.setTop (mkF m 223 #[.val (.int p1), .val (.int p2), .val (.int p3), .val (.int p4), .val (.int p5), .val (.int p6), .val (.int nn), .val (.int r1), .val (.int r2), .val (.int r3), .val (.int r4), .val (.int r5), .val (.ref arr), .val (.int x4), .unset] [(.int nn)])) _
      refine XS.iconst X.here hx rfl (hb hby at_223) ?_
      show Steps p.tables e below (T.setTop (mkF m 224 #[.val (.int p1), .val (.int p2), .val (.int p3), .val (.int p4), .val (.int p5), .val (.int p6), .val (.int nn), .val (.int r1), .val (.int r2), .val (.int r3), .val (.int r4), .val (.int r5), .val (.ref arr), .val (.int x4), .unset] [(.int (3 : Int32)), (.int nn)])) _
      by_cases hm10 : nn < (3 : Int32)
      · refine XS.icmpYes X.here hx rfl (pc0 := 224) (pc' := 235) rfl (hb hby at_224) rfl (tlt hm10).1 (by decide) (by decide) ?_
        show Steps p.tables e below (T.setTop (mkF m 235 #[.val (.int p1), .val (.int p2), .val (.int p3), .val (.int p4), .val (.int p5), .val (.int p6), .val (.int nn), .val (.int r1), .val (.int r2), .val (.int r3), .val (.int r4), .val (.int r5), .val (.ref arr), .val (.int x4), .unset] [])) _
        rw [show x3 = x4 from by rw [hx3]; simp [hm10]] at k_
        exact k_
      · refine XS.icmpNo X.here hx rfl (hb hby at_224) rfl (flt hm10).1 ?_
        show Steps p.tables e below (T.setTop (mkF m 227 #[.val (.int p1), .val (.int p2), .val (.int p3), .val (.int p4), .val (.int p5), .val (.int p6), .val (.int nn), .val (.int r1), .val (.int r2), .val (.int r3), .val (.int r4), .val (.int r5), .val (.ref arr), .val (.int x4), .unset] [])) _
        refine XS.iload X.here hx rfl (hb hby at_227) rfl ?_
        show Steps p.tables e below (T.setTop (mkF m 229 #[.val (.int p1), .val (.int p2), .val (.int p3), .val (.int p4), .val (.int p5), .val (.int p6), .val (.int nn), .val (.int r1), .val (.int r2), .val (.int r3), .val (.int r4), .val (.int r5), .val (.ref arr), .val (.int x4), .unset] [(.int r3)])) _
        by_cases hm11 : (0 : Int32) < r3
        · refine XS.ifNo X.here hx rfl (hb hby at_229) rfl ((if0 _ _).trans (tlt hm11).2.2.2) ?_
          show Steps p.tables e below (T.setTop (mkF m 232 #[.val (.int p1), .val (.int p2), .val (.int p3), .val (.int p4), .val (.int p5), .val (.int p6), .val (.int nn), .val (.int r1), .val (.int r2), .val (.int r3), .val (.int r4), .val (.int r5), .val (.ref arr), .val (.int x4), .unset] [])) _
          refine XS.iconst X.here hx rfl (hb hby at_232) ?_
          show Steps p.tables e below (T.setTop (mkF m 233 #[.val (.int p1), .val (.int p2), .val (.int p3), .val (.int p4), .val (.int p5), .val (.int p6), .val (.int nn), .val (.int r1), .val (.int r2), .val (.int r3), .val (.int r4), .val (.int r5), .val (.ref arr), .val (.int x4), .unset] [(.int (3 : Int32))])) _
          refine XS.istore X.here hx rfl (hb hby at_233) rfl (l' := #[.val (.int p1), .val (.int p2), .val (.int p3), .val (.int p4), .val (.int p5), .val (.int p6), .val (.int nn), .val (.int r1), .val (.int r2), .val (.int r3), .val (.int r4), .val (.int r5), .val (.ref arr), .val (.int (3 : Int32)), .unset]) rfl ?_
          show Steps p.tables e below (T.setTop (mkF m 235 #[.val (.int p1), .val (.int p2), .val (.int p3), .val (.int p4), .val (.int p5), .val (.int p6), .val (.int nn), .val (.int r1), .val (.int r2), .val (.int r3), .val (.int r4), .val (.int r5), .val (.ref arr), .val (.int (3 : Int32)), .unset] [])) _
          rw [show x3 = (3 : Int32) from by rw [hx3]; simp [hm10, hm11]] at k_
          exact k_
        · refine XS.ifYes X.here hx rfl (pc0 := 229) (pc' := 235) rfl (hb hby at_229) rfl ((if0 _ _).trans (flt hm11).2.2.2) (by decide) (by decide) ?_
          show Steps p.tables e below (T.setTop (mkF m 235 #[.val (.int p1), .val (.int p2), .val (.int p3), .val (.int p4), .val (.int p5), .val (.int p6), .val (.int nn), .val (.int r1), .val (.int r2), .val (.int r3), .val (.int r4), .val (.int r5), .val (.ref arr), .val (.int x4), .unset] [])) _
          rw [show x3 = x4 from by rw [hx3]; simp [hm10, hm11]] at k_
          exact k_
    obtain ⟨x2, hx2⟩ : ∃ z : Int32, z = if ¬ nn < (2 : Int32) ∧ (0 : Int32) < r2 then (2 : Int32) else x3 := ⟨_, rfl⟩
    refine own_go (T' := T) (g' := (mkF m 249 #[.val (.int p1), .val (.int p2), .val (.int p3), .val (.int p4), .val (.int p5), .val (.int p6), .val (.int nn), .val (.int r1), .val (.int r2), .val (.int r3), .val (.int r4), .val (.int r5), .val (.ref arr), .val (.int x2), .unset] [])) (fun t_ k_ => ?_) ?_
    · refine XS.iload X.here hx rfl (hb hby at_235) rfl ?_
      show Steps p.tables e below (T.setTop (mkF m 237 #[.val (.int p1), .val (.int p2), .val (.int p3), .val (.int p4), .val (.int p5), .val (.int p6), .val (.int nn), .val (.int r1), .val (.int r2), .val (.int r3), .val (.int r4), .val (.int r5), .val (.ref arr), .val (.int x3), .unset] [(.int nn)])) _
      refine XS.iconst X.here hx rfl (hb hby at_237) ?_
      show Steps p.tables e below (T.setTop (mkF m 238 #[.val (.int p1), .val (.int p2), .val (.int p3), .val (.int p4), .val (.int p5), .val (.int p6), .val (.int nn), .val (.int r1), .val (.int r2), .val (.int r3), .val (.int r4), .val (.int r5), .val (.ref arr), .val (.int x3), .unset] [(.int (2 : Int32)), (.int nn)])) _
      by_cases hm12 : nn < (2 : Int32)
      · refine XS.icmpYes X.here hx rfl (pc0 := 238) (pc' := 249) rfl (hb hby at_238) rfl (tlt hm12).1 (by decide) (by decide) ?_
        show Steps p.tables e below (T.setTop (mkF m 249 #[.val (.int p1), .val (.int p2), .val (.int p3), .val (.int p4), .val (.int p5), .val (.int p6), .val (.int nn), .val (.int r1), .val (.int r2), .val (.int r3), .val (.int r4), .val (.int r5), .val (.ref arr), .val (.int x3), .unset] [])) _
        rw [show x2 = x3 from by rw [hx2]; simp [hm12]] at k_
        exact k_
      · refine XS.icmpNo X.here hx rfl (hb hby at_238) rfl (flt hm12).1 ?_
        show Steps p.tables e below (T.setTop (mkF m 241 #[.val (.int p1), .val (.int p2), .val (.int p3), .val (.int p4), .val (.int p5), .val (.int p6), .val (.int nn), .val (.int r1), .val (.int r2), .val (.int r3), .val (.int r4), .val (.int r5), .val (.ref arr), .val (.int x3), .unset] [])) _
        refine XS.iload X.here hx rfl (hb hby at_241) rfl ?_
        show Steps p.tables e below (T.setTop (mkF m 243 #[.val (.int p1), .val (.int p2), .val (.int p3), .val (.int p4), .val (.int p5), .val (.int p6), .val (.int nn), .val (.int r1), .val (.int r2), .val (.int r3), .val (.int r4), .val (.int r5), .val (.ref arr), .val (.int x3), .unset] [(.int r2)])) _
        by_cases hm13 : (0 : Int32) < r2
        · refine XS.ifNo X.here hx rfl (hb hby at_243) rfl ((if0 _ _).trans (tlt hm13).2.2.2) ?_
          show Steps p.tables e below (T.setTop (mkF m 246 #[.val (.int p1), .val (.int p2), .val (.int p3), .val (.int p4), .val (.int p5), .val (.int p6), .val (.int nn), .val (.int r1), .val (.int r2), .val (.int r3), .val (.int r4), .val (.int r5), .val (.ref arr), .val (.int x3), .unset] [])) _
          refine XS.iconst X.here hx rfl (hb hby at_246) ?_
          show Steps p.tables e below (T.setTop (mkF m 247 #[.val (.int p1), .val (.int p2), .val (.int p3), .val (.int p4), .val (.int p5), .val (.int p6), .val (.int nn), .val (.int r1), .val (.int r2), .val (.int r3), .val (.int r4), .val (.int r5), .val (.ref arr), .val (.int x3), .unset] [(.int (2 : Int32))])) _
          refine XS.istore X.here hx rfl (hb hby at_247) rfl (l' := #[.val (.int p1), .val (.int p2), .val (.int p3), .val (.int p4), .val (.int p5), .val (.int p6), .val (.int nn), .val (.int r1), .val (.int r2), .val (.int r3), .val (.int r4), .val (.int r5), .val (.ref arr), .val (.int (2 : Int32)), .unset]) rfl ?_
          show Steps p.tables e below (T.setTop (mkF m 249 #[.val (.int p1), .val (.int p2), .val (.int p3), .val (.int p4), .val (.int p5), .val (.int p6), .val (.int nn), .val (.int r1), .val (.int r2), .val (.int r3), .val (.int r4), .val (.int r5), .val (.ref arr), .val (.int (2 : Int32)), .unset] [])) _
          rw [show x2 = (2 : Int32) from by rw [hx2]; simp [hm12, hm13]] at k_
          exact k_
        · refine XS.ifYes X.here hx rfl (pc0 := 243) (pc' := 249) rfl (hb hby at_243) rfl ((if0 _ _).trans (flt hm13).2.2.2) (by decide) (by decide) ?_
          show Steps p.tables e below (T.setTop (mkF m 249 #[.val (.int p1), .val (.int p2), .val (.int p3), .val (.int p4), .val (.int p5), .val (.int p6), .val (.int nn), .val (.int r1), .val (.int r2), .val (.int r3), .val (.int r4), .val (.int r5), .val (.ref arr), .val (.int x3), .unset] [])) _
          rw [show x2 = x3 from by rw [hx2]; simp [hm12, hm13]] at k_
          exact k_
    obtain ⟨x1, hx1⟩ : ∃ z : Int32, z = if ¬ nn < (1 : Int32) ∧ (0 : Int32) < r1 then (1 : Int32) else x2 := ⟨_, rfl⟩
    refine own_go (T' := T) (g' := (mkF m 263 #[.val (.int p1), .val (.int p2), .val (.int p3), .val (.int p4), .val (.int p5), .val (.int p6), .val (.int nn), .val (.int r1), .val (.int r2), .val (.int r3), .val (.int r4), .val (.int r5), .val (.ref arr), .val (.int x1), .unset] [])) (fun t_ k_ => ?_) ?_
    · refine XS.iload X.here hx rfl (hb hby at_249) rfl ?_
      show Steps p.tables e below (T.setTop (mkF m 251 #[.val (.int p1), .val (.int p2), .val (.int p3), .val (.int p4), .val (.int p5), .val (.int p6), .val (.int nn), .val (.int r1), .val (.int r2), .val (.int r3), .val (.int r4), .val (.int r5), .val (.ref arr), .val (.int x2), .unset] [(.int nn)])) _
      refine XS.iconst X.here hx rfl (hb hby at_251) ?_
      show Steps p.tables e below (T.setTop (mkF m 252 #[.val (.int p1), .val (.int p2), .val (.int p3), .val (.int p4), .val (.int p5), .val (.int p6), .val (.int nn), .val (.int r1), .val (.int r2), .val (.int r3), .val (.int r4), .val (.int r5), .val (.ref arr), .val (.int x2), .unset] [(.int (1 : Int32)), (.int nn)])) _
      by_cases hm14 : nn < (1 : Int32)
      · refine XS.icmpYes X.here hx rfl (pc0 := 252) (pc' := 263) rfl (hb hby at_252) rfl (tlt hm14).1 (by decide) (by decide) ?_
        show Steps p.tables e below (T.setTop (mkF m 263 #[.val (.int p1), .val (.int p2), .val (.int p3), .val (.int p4), .val (.int p5), .val (.int p6), .val (.int nn), .val (.int r1), .val (.int r2), .val (.int r3), .val (.int r4), .val (.int r5), .val (.ref arr), .val (.int x2), .unset] [])) _
        rw [show x1 = x2 from by rw [hx1]; simp [hm14]] at k_
        exact k_
      · refine XS.icmpNo X.here hx rfl (hb hby at_252) rfl (flt hm14).1 ?_
        show Steps p.tables e below (T.setTop (mkF m 255 #[.val (.int p1), .val (.int p2), .val (.int p3), .val (.int p4), .val (.int p5), .val (.int p6), .val (.int nn), .val (.int r1), .val (.int r2), .val (.int r3), .val (.int r4), .val (.int r5), .val (.ref arr), .val (.int x2), .unset] [])) _
        refine XS.iload X.here hx rfl (hb hby at_255) rfl ?_
        show Steps p.tables e below (T.setTop (mkF m 257 #[.val (.int p1), .val (.int p2), .val (.int p3), .val (.int p4), .val (.int p5), .val (.int p6), .val (.int nn), .val (.int r1), .val (.int r2), .val (.int r3), .val (.int r4), .val (.int r5), .val (.ref arr), .val (.int x2), .unset] [(.int r1)])) _
        by_cases hm15 : (0 : Int32) < r1
        · refine XS.ifNo X.here hx rfl (hb hby at_257) rfl ((if0 _ _).trans (tlt hm15).2.2.2) ?_
          show Steps p.tables e below (T.setTop (mkF m 260 #[.val (.int p1), .val (.int p2), .val (.int p3), .val (.int p4), .val (.int p5), .val (.int p6), .val (.int nn), .val (.int r1), .val (.int r2), .val (.int r3), .val (.int r4), .val (.int r5), .val (.ref arr), .val (.int x2), .unset] [])) _
          refine XS.iconst X.here hx rfl (hb hby at_260) ?_
          show Steps p.tables e below (T.setTop (mkF m 261 #[.val (.int p1), .val (.int p2), .val (.int p3), .val (.int p4), .val (.int p5), .val (.int p6), .val (.int nn), .val (.int r1), .val (.int r2), .val (.int r3), .val (.int r4), .val (.int r5), .val (.ref arr), .val (.int x2), .unset] [(.int (1 : Int32))])) _
          refine XS.istore X.here hx rfl (hb hby at_261) rfl (l' := #[.val (.int p1), .val (.int p2), .val (.int p3), .val (.int p4), .val (.int p5), .val (.int p6), .val (.int nn), .val (.int r1), .val (.int r2), .val (.int r3), .val (.int r4), .val (.int r5), .val (.ref arr), .val (.int (1 : Int32)), .unset]) rfl ?_
          show Steps p.tables e below (T.setTop (mkF m 263 #[.val (.int p1), .val (.int p2), .val (.int p3), .val (.int p4), .val (.int p5), .val (.int p6), .val (.int nn), .val (.int r1), .val (.int r2), .val (.int r3), .val (.int r4), .val (.int r5), .val (.ref arr), .val (.int (1 : Int32)), .unset] [])) _
          rw [show x1 = (1 : Int32) from by rw [hx1]; simp [hm14, hm15]] at k_
          exact k_
        · refine XS.ifYes X.here hx rfl (pc0 := 257) (pc' := 263) rfl (hb hby at_257) rfl ((if0 _ _).trans (flt hm15).2.2.2) (by decide) (by decide) ?_
          show Steps p.tables e below (T.setTop (mkF m 263 #[.val (.int p1), .val (.int p2), .val (.int p3), .val (.int p4), .val (.int p5), .val (.int p6), .val (.int nn), .val (.int r1), .val (.int r2), .val (.int r3), .val (.int r4), .val (.int r5), .val (.ref arr), .val (.int x2), .unset] [])) _
          rw [show x1 = x2 from by rw [hx1]; simp [hm14, hm15]] at k_
          exact k_
    obtain ⟨T16, h16, X16, e16, E16, A16, D16, -, st16⟩ := newO X hx hZ hown (hw _ (List.mem_of_getElem? (i := 6) rfl)) (hw _ (List.mem_of_getElem? (i := 7) rfl)) (hw _ (List.mem_of_getElem? (i := 8) rfl)) eT (g := (mkF m 263 #[.val (.int p1), .val (.int p2), .val (.int p3), .val (.int p4), .val (.int p5), .val (.int p6), .val (.int nn), .val (.int r1), .val (.int r2), .val (.int r3), .val (.int r4), .val (.int r5), .val (.ref arr), .val (.int x1), .unset] [])) rfl (hb hby at_263) (by decide) (by decide)
    obtain ⟨b, g16⟩ : ∃ z, z = h.size := ⟨_, rfl⟩
    rw [← g16] at A16 D16 st16
    refine own_go st16 ?_
    show own_Go p e below s room_1.cells room_1.slots (fun v _ L => v = some (.int (1 : Int32)) ∧ Fr n0 L) T16 (mkF m 266 #[.val (.int p1), .val (.int p2), .val (.int p3), .val (.int p4), .val (.int p5), .val (.int p6), .val (.int nn), .val (.int r1), .val (.int r2), .val (.int r3), .val (.int r4), .val (.int r5), .val (.ref arr), .val (.int x1), .unset] [(.ref b)])
    refine own_go (T' := T16) (g' := (mkF m 270 #[.val (.int p1), .val (.int p2), .val (.int p3), .val (.int p4), .val (.int p5), .val (.int p6), .val (.int nn), .val (.int r1), .val (.int r2), .val (.int r3), .val (.int r4), .val (.int r5), .val (.ref arr), .val (.int x1), .unset] [(.int (0 : Int32)), (.ref arr), (.ref b), (.ref b)])) (fun t_ k_ => ?_) ?_
    · refine XS.dup X16.here hx rfl (hb hby at_266) rfl rfl ?_
      show Steps p.tables e below (T16.setTop (mkF m 267 #[.val (.int p1), .val (.int p2), .val (.int p3), .val (.int p4), .val (.int p5), .val (.int p6), .val (.int nn), .val (.int r1), .val (.int r2), .val (.int r3), .val (.int r4), .val (.int r5), .val (.ref arr), .val (.int x1), .unset] [(.ref b), (.ref b)])) _
      refine XS.aload X16.here hx rfl (hb hby at_267) rfl rfl ?_
      show Steps p.tables e below (T16.setTop (mkF m 269 #[.val (.int p1), .val (.int p2), .val (.int p3), .val (.int p4), .val (.int p5), .val (.int p6), .val (.int nn), .val (.int r1), .val (.int r2), .val (.int r3), .val (.int r4), .val (.int r5), .val (.ref arr), .val (.int x1), .unset] [(.ref arr), (.ref b), (.ref b)])) _
      refine XS.iconst X16.here hx rfl (hb hby at_269) ?_
      show Steps p.tables e below (T16.setTop (mkF m 270 #[.val (.int p1), .val (.int p2), .val (.int p3), .val (.int p4), .val (.int p5), .val (.int p6), .val (.int nn), .val (.int r1), .val (.int r2), .val (.int r3), .val (.int r4), .val (.int r5), .val (.ref arr), .val (.int x1), .unset] [(.int (0 : Int32)), (.ref arr), (.ref b), (.ref b)])) _
      exact k_
    refine own_newI (n := 0) X16 hx hZ (hw _ (List.mem_of_getElem? (i := 5) rfl)) e16 (by decide) 0 (Nat.le_refl _) (by decide) (by decide) (by decide) rfl rfl (hb hby at_270) ?_
    intro T17 h17 ideal g17 X17 e17 E17 A17
    show own_Go p e below s room_1.cells room_1.slots (fun v _ L => v = some (.int (1 : Int32)) ∧ Fr n0 L) T17 (mkF m 272 #[.val (.int p1), .val (.int p2), .val (.int p3), .val (.int p4), .val (.int p5), .val (.int p6), .val (.int nn), .val (.int r1), .val (.int r2), .val (.int r3), .val (.int r4), .val (.int r5), .val (.ref arr), .val (.int x1), .unset] [(.ref ideal), (.ref arr), (.ref b), (.ref b)])
    have Fg : Fld Z h17 b "com/example/implied_anchor/impliedanchor/evaluation/JudgedRanking" "gains" "[I" .null := (D16 (Or.inr (hw _ (List.mem_of_getElem? (i := 21) rfl))) (ty := (.array .int)) (by decide)).ext E17
    have Fi : Fld Z h17 b "com/example/implied_anchor/impliedanchor/evaluation/JudgedRanking" "idealGains" "[I" .null := (D16 (Or.inr (hw _ (List.mem_of_getElem? (i := 23) rfl))) (ty := (.array .int)) (by decide)).ext E17
    have gb : n0 ≤ b := Nat.le_trans Zh (Nat.le_of_eq g16.symm)
    have ne : arr ≠ b := Nat.ne_of_lt (by rw [g16]; exact A.lt)
    have Z2 : n0 ≤ h17.size := Nat.le_trans Zh (Nat.le_trans E16.1 E17.1)
    refine own_callC (y := (⟨"com/example/implied_anchor/impliedanchor/evaluation/JudgedRanking", "<init>", "([I[I)V"⟩ : MethodName)) (W := 1) (rm := ({ frames := 2, cells := 0, slots := 0, locals := 24 } : Room)) (argsL := [(.ref arr), (.ref ideal)]) (rest := [(.ref b)]) X17 hx hZ rfl hown (hw _ (List.mem_of_getElem? (i := 9) rfl)) (hw _ (List.mem_of_getElem? (i := 10) rfl)) (hw _ (List.mem_of_getElem? (i := 8) rfl)) (hw _ (List.mem_of_getElem? (i := 11) rfl)) (by decide) (rm2 l Z a0 hw [] b arr ideal h17 n0 Z2 (A16.ext E17) Fg Fi gb) (by decide) (by decide) e17 (by decide) (by decide) rfl (by rw [hml]; rfl) (lenOf pd2 rfl) rfl (by show 2 * 0 + _ ≤ _; exact Nat.le_of_eq rfl) (hb hby at_272) ?_
    rintro _ T18 L18 X18 ⟨rfl, N18, K18, EX18, FX18⟩
    show own_Go p e below s room_1.cells room_1.slots (fun v _ L => v = some (.int (1 : Int32)) ∧ Fr n0 L) T18 (mkF m 275 #[.val (.int p1), .val (.int p2), .val (.int p3), .val (.int p4), .val (.int p5), .val (.int p6), .val (.int nn), .val (.int r1), .val (.int r2), .val (.int r3), .val (.int r4), .val (.int r5), .val (.ref arr), .val (.int x1), .unset] [(.ref b)])
    have A9 := ((A.ext E16).ext E17).keep K18 (ninS ne nin0)
    refine own_go (T' := T18) (g' := (mkF m 279 #[.val (.int p1), .val (.int p2), .val (.int p3), .val (.int p4), .val (.int p5), .val (.int p6), .val (.int nn), .val (.int r1), .val (.int r2), .val (.int r3), .val (.int r4), .val (.int r5), .val (.ref arr), .val (.int x1), .val (.ref b)] [(.ref b)])) (fun t_ k_ => ?_) ?_
    · refine XS.astore X18.here hx rfl (hb hby at_275) rfl rfl (l' := #[.val (.int p1), .val (.int p2), .val (.int p3), .val (.int p4), .val (.int p5), .val (.int p6), .val (.int nn), .val (.int r1), .val (.int r2), .val (.int r3), .val (.int r4), .val (.int r5), .val (.ref arr), .val (.int x1), .val (.ref b)]) rfl ?_
      show Steps p.tables e below (T18.setTop (mkF m 277 #[.val (.int p1), .val (.int p2), .val (.int p3), .val (.int p4), .val (.int p5), .val (.int p6), .val (.int nn), .val (.int r1), .val (.int r2), .val (.int r3), .val (.int r4), .val (.int r5), .val (.ref arr), .val (.int x1), .val (.ref b)] [])) _
      refine XS.aload X18.here hx rfl (hb hby at_277) rfl rfl ?_
      show Steps p.tables e below (T18.setTop (mkF m 279 #[.val (.int p1), .val (.int p2), .val (.int p3), .val (.int p4), .val (.int p5), .val (.int p6), .val (.int nn), .val (.int r1), .val (.int r2), .val (.int r3), .val (.int r4), .val (.int r5), .val (.ref arr), .val (.int x1), .val (.ref b)] [(.ref b)])) _
      exact k_
    refine own_callV (y := (⟨"com/example/implied_anchor/impliedanchor/evaluation/JudgedRanking", "firstRelevantRank", "()I"⟩ : MethodName)) (W := 0) (rm := ({ frames := 0, cells := 0, slots := 0, locals := 0 } : Room)) (argsL := []) (rest := []) X18 hx hZ EX18 hown (hw _ (List.mem_of_getElem? (i := 24) rfl)) (hw _ (List.mem_of_getElem? (i := 25) rfl)) (hw _ (List.mem_of_getElem? (i := 27) rfl)) (hw _ (List.mem_of_getElem? (i := 26) rfl)) (hw _ (List.mem_of_getElem? (i := 8) rfl)) (hw _ (List.mem_of_getElem? (i := 28) rfl)) (by decide) (rm5 l Z a0 hw [] b T18.heap n0 (Nat.le_trans Z2 K18.1) arr nn.toInt.toNat (own_f r1 r2 r3 r4 r5) nn FX18 A9 (by omega)) (by decide) (by decide) rfl (by decide) (by decide) rfl (by rw [hml]; rfl) (lenOf pd5 rfl) rfl (by show 2 * 0 + _ ≤ _; exact Nat.le_of_eq rfl) (hb hby at_279) ?_
    rintro _ T19 L19 X19 ⟨r19, rfl, hr19, N19, e19⟩
    show own_Go p e below s room_1.cells room_1.slots (fun v _ L => v = some (.int (1 : Int32)) ∧ Fr n0 L) T19 (mkF m 282 #[.val (.int p1), .val (.int p2), .val (.int p3), .val (.int p4), .val (.int p5), .val (.int p6), .val (.int nn), .val (.int r1), .val (.int r2), .val (.int r3), .val (.int r4), .val (.int r5), .val (.ref arr), .val (.int x1), .val (.ref b)] [(.int r19)])
    refine own_go (T' := T19) (g' := (mkF m 284 #[.val (.int p1), .val (.int p2), .val (.int p3), .val (.int p4), .val (.int p5), .val (.int p6), .val (.int nn), .val (.int r1), .val (.int r2), .val (.int r3), .val (.int r4), .val (.int r5), .val (.ref arr), .val (.int x1), .val (.ref b)] [(.int x1), (.int r19)])) (fun t_ k_ => ?_) ?_
    · refine XS.iload X19.here hx rfl (hb hby at_282) rfl ?_
      show Steps p.tables e below (T19.setTop (mkF m 284 #[.val (.int p1), .val (.int p2), .val (.int p3), .val (.int p4), .val (.int p5), .val (.int p6), .val (.int nn), .val (.int r1), .val (.int r2), .val (.int r3), .val (.int r4), .val (.int r5), .val (.ref arr), .val (.int x1), .val (.ref b)] [(.int x1), (.int r19)])) _
      exact k_
    have hf20 : r19 = x1 := own_same hc hr19 hx5 hx4 hx3 hx2 hx1
    refine own_go (T' := T19) (g' := (mkF m 292 #[.val (.int p1), .val (.int p2), .val (.int p3), .val (.int p4), .val (.int p5), .val (.int p6), .val (.int nn), .val (.int r1), .val (.int r2), .val (.int r3), .val (.int r4), .val (.int r5), .val (.ref arr), .val (.int x1), .val (.ref b)] [(.int (1 : Int32))])) (fun t_ k_ => ?_) ?_
    · refine XS.icmpNo X19.here hx rfl (hb hby at_284) rfl (teq hf20).2 ?_
      show Steps p.tables e below (T19.setTop (mkF m 287 #[.val (.int p1), .val (.int p2), .val (.int p3), .val (.int p4), .val (.int p5), .val (.int p6), .val (.int nn), .val (.int r1), .val (.int r2), .val (.int r3), .val (.int r4), .val (.int r5), .val (.ref arr), .val (.int x1), .val (.ref b)] [])) _
      refine XS.iconst X19.here hx rfl (hb hby at_287) ?_
      show Steps p.tables e below (T19.setTop (mkF m 288 #[.val (.int p1), .val (.int p2), .val (.int p3), .val (.int p4), .val (.int p5), .val (.int p6), .val (.int nn), .val (.int r1), .val (.int r2), .val (.int r3), .val (.int r4), .val (.int r5), .val (.ref arr), .val (.int x1), .val (.ref b)] [(.int (1 : Int32))])) _
      refine XS.goto X19.here hx rfl (pc0 := 288) (pc' := 292) rfl (hb hby at_288) (by decide) (by decide) ?_
      show Steps p.tables e below (T19.setTop (mkF m 292 #[.val (.int p1), .val (.int p2), .val (.int p3), .val (.int p4), .val (.int p5), .val (.int p6), .val (.int nn), .val (.int r1), .val (.int r2), .val (.int r3), .val (.int r4), .val (.int r5), .val (.ref arr), .val (.int x1), .val (.ref b)] [(.int (1 : Int32))])) _
      exact k_
    exact own_retZ X19 hx hret hk rfl (hb hby at_292) (by decide) (by decide) ⟨rfl, Fr.app (Fr.app N N18) N19⟩
  have q0 : (0 : Int32).toInt = 0 := by decide
  have q1 : (1 : Int32).toInt = 1 := by decide
  have q2 : (2 : Int32).toInt = 2 := by decide
  have q3 : (3 : Int32).toInt = 3 := by decide
  have q4 : (4 : Int32).toInt = 4 := by decide
  refine own_go (T' := T5) (g' := (mkF m 43 #[.val (.int p1), .val (.int p2), .val (.int p3), .val (.int p4), .val (.int p5), .val (.int p6), .val (.int nn), .val (.int r1), .val (.int r2), .val (.int r3), .val (.int r4), .val (.int r5), .unset, .unset, .unset] [(.int nn)])) (fun t_ k_ => ?_) ?_
  · refine XS.iload X5.here hx rfl (hb hby at_41) rfl ?_
    show Steps p.tables e below (T5.setTop (mkF m 43 #[.val (.int p1), .val (.int p2), .val (.int p3), .val (.int p4), .val (.int p5), .val (.int p6), .val (.int nn), .val (.int r1), .val (.int r2), .val (.int r3), .val (.int r4), .val (.int r5), .unset, .unset, .unset] [(.int nn)])) _
    exact k_
  by_cases c0 : nn = (0 : Int32)
  · refine own_go (T' := T5) (g' := (mkF m 47 #[.val (.int p1), .val (.int p2), .val (.int p3), .val (.int p4), .val (.int p5), .val (.int p6), .val (.int nn), .val (.int r1), .val (.int r2), .val (.int r3), .val (.int r4), .val (.int r5), .unset, .unset, .unset] [(.int (0 : Int32))])) (fun t_ k_ => ?_) ?_
    · refine XS.ifNo X5.here hx rfl (hb hby at_43) rfl ((if0 _ _).trans (teq c0).2) ?_
      show Steps p.tables e below (T5.setTop (mkF m 46 #[.val (.int p1), .val (.int p2), .val (.int p3), .val (.int p4), .val (.int p5), .val (.int p6), .val (.int nn), .val (.int r1), .val (.int r2), .val (.int r3), .val (.int r4), .val (.int r5), .unset, .unset, .unset] [])) _
      refine XS.iconst X5.here hx rfl (hb hby at_46) ?_
      show Steps p.tables e below (T5.setTop (mkF m 47 #[.val (.int p1), .val (.int p2), .val (.int p3), .val (.int p4), .val (.int p5), .val (.int p6), .val (.int nn), .val (.int r1), .val (.int r2), .val (.int r3), .val (.int r4), .val (.int r5), .unset, .unset, .unset] [(.int (0 : Int32))])) _
      exact k_
    have hn : nn.toInt.toNat = 0 := by have q := congrArg Int32.toInt c0; omega
    refine own_newI (n := 0) X5 hx hZ (hw _ (List.mem_of_getElem? (i := 5) rfl)) e5 (by decide) 5 (by decide) (by decide) (by decide) (by decide) rfl rfl (hb hby at_47) ?_
    intro T21 h21 arr g21 X21 e21 E21 A21
    show own_Go p e below s room_1.cells room_1.slots (fun v _ L => v = some (.int (1 : Int32)) ∧ Fr n0 L) T21 (mkF m 49 #[.val (.int p1), .val (.int p2), .val (.int p3), .val (.int p4), .val (.int p5), .val (.int p6), .val (.int nn), .val (.int r1), .val (.int r2), .val (.int r3), .val (.int r4), .val (.int r5), .unset, .unset, .unset] [(.ref arr)])
    have ga : n0 ≤ arr := Nat.le_trans Z0 (Nat.le_of_eq g21.symm)
    have Zh := Nat.le_trans Z0 E21.1
    refine own_go (T' := T21) (g' := (mkF m 190 #[.val (.int p1), .val (.int p2), .val (.int p3), .val (.int p4), .val (.int p5), .val (.int p6), .val (.int nn), .val (.int r1), .val (.int r2), .val (.int r3), .val (.int r4), .val (.int r5), .val (.ref arr), .unset, .unset] [])) (fun t_ k_ => ?_) ?_
    · refine XS.astore X21.here hx rfl (hb hby at_49) rfl rfl (l' := #[.val (.int p1), .val (.int p2), .val (.int p3), .val (.int p4), .val (.int p5), .val (.int p6), .val (.int nn), .val (.int r1), .val (.int r2), .val (.int r3), .val (.int r4), .val (.int r5), .val (.ref arr), .unset, .unset]) rfl ?_
      show Steps p.tables e below (T21.setTop (mkF m 51 #[.val (.int p1), .val (.int p2), .val (.int p3), .val (.int p4), .val (.int p5), .val (.int p6), .val (.int nn), .val (.int r1), .val (.int r2), .val (.int r3), .val (.int r4), .val (.int r5), .val (.ref arr), .unset, .unset] [])) _
      refine XS.goto X21.here hx rfl (pc0 := 51) (pc' := 190) rfl (hb hby at_51) (by decide) (by decide) ?_
      show Steps p.tables e below (T21.setTop (mkF m 190 #[.val (.int p1), .val (.int p2), .val (.int p3), .val (.int p4), .val (.int p5), .val (.int p6), .val (.int nn), .val (.int r1), .val (.int r2), .val (.int r3), .val (.int r4), .val (.int r5), .val (.ref arr), .unset, .unset] [])) _
      exact k_
    refine J _ _ _ _ X21 e21 (Fr.app (Fr.app (Fr.app (Fr.app (Fr.app N0 N1) N2) N3) N4) N5) Zh ?_
    rw [hn]
    refine A21.congr fun j hj => ?_
    exact absurd hj (Nat.not_lt_zero _)
  · refine own_go (T' := T5) (g' := (mkF m 57 #[.val (.int p1), .val (.int p2), .val (.int p3), .val (.int p4), .val (.int p5), .val (.int p6), .val (.int nn), .val (.int r1), .val (.int r2), .val (.int r3), .val (.int r4), .val (.int r5), .unset, .unset, .unset] [(.int (1 : Int32)), (.int nn)])) (fun t_ k_ => ?_) ?_
    · refine XS.ifYes X5.here hx rfl (pc0 := 43) (pc' := 54) rfl (hb hby at_43) rfl ((if0 _ _).trans (feq c0).2) (by decide) (by decide) ?_
      show Steps p.tables e below (T5.setTop (mkF m 54 #[.val (.int p1), .val (.int p2), .val (.int p3), .val (.int p4), .val (.int p5), .val (.int p6), .val (.int nn), .val (.int r1), .val (.int r2), .val (.int r3), .val (.int r4), .val (.int r5), .unset, .unset, .unset] [])) _
      refine XS.iload X5.here hx rfl (hb hby at_54) rfl ?_
      show Steps p.tables e below (T5.setTop (mkF m 56 #[.val (.int p1), .val (.int p2), .val (.int p3), .val (.int p4), .val (.int p5), .val (.int p6), .val (.int nn), .val (.int r1), .val (.int r2), .val (.int r3), .val (.int r4), .val (.int r5), .unset, .unset, .unset] [(.int nn)])) _
      refine XS.iconst X5.here hx rfl (hb hby at_56) ?_
      show Steps p.tables e below (T5.setTop (mkF m 57 #[.val (.int p1), .val (.int p2), .val (.int p3), .val (.int p4), .val (.int p5), .val (.int p6), .val (.int nn), .val (.int r1), .val (.int r2), .val (.int r3), .val (.int r4), .val (.int r5), .unset, .unset, .unset] [(.int (1 : Int32)), (.int nn)])) _
      exact k_
    by_cases c1 : nn = (1 : Int32)
    · refine own_go (T' := T5) (g' := (mkF m 61 #[.val (.int p1), .val (.int p2), .val (.int p3), .val (.int p4), .val (.int p5), .val (.int p6), .val (.int nn), .val (.int r1), .val (.int r2), .val (.int r3), .val (.int r4), .val (.int r5), .unset, .unset, .unset] [(.int (1 : Int32))])) (fun t_ k_ => ?_) ?_
      · refine XS.icmpNo X5.here hx rfl (hb hby at_57) rfl (teq c1).2 ?_
        show Steps p.tables e below (T5.setTop (mkF m 60 #[.val (.int p1), .val (.int p2), .val (.int p3), .val (.int p4), .val (.int p5), .val (.int p6), .val (.int nn), .val (.int r1), .val (.int r2), .val (.int r3), .val (.int r4), .val (.int r5), .unset, .unset, .unset] [])) _
        refine XS.iconst X5.here hx rfl (hb hby at_60) ?_
        show Steps p.tables e below (T5.setTop (mkF m 61 #[.val (.int p1), .val (.int p2), .val (.int p3), .val (.int p4), .val (.int p5), .val (.int p6), .val (.int nn), .val (.int r1), .val (.int r2), .val (.int r3), .val (.int r4), .val (.int r5), .unset, .unset, .unset] [(.int (1 : Int32))])) _
        exact k_
      have hn : nn.toInt.toNat = 1 := by have q := congrArg Int32.toInt c1; omega
      refine own_newI (n := 1) X5 hx hZ (hw _ (List.mem_of_getElem? (i := 5) rfl)) e5 (by decide) 5 (by decide) (by decide) (by decide) (by decide) rfl rfl (hb hby at_61) ?_
      intro T22 h22 arr g22 X22 e22 E22 A22
      show own_Go p e below s room_1.cells room_1.slots (fun v _ L => v = some (.int (1 : Int32)) ∧ Fr n0 L) T22 (mkF m 63 #[.val (.int p1), .val (.int p2), .val (.int p3), .val (.int p4), .val (.int p5), .val (.int p6), .val (.int nn), .val (.int r1), .val (.int r2), .val (.int r3), .val (.int r4), .val (.int r5), .unset, .unset, .unset] [(.ref arr)])
      have ga : n0 ≤ arr := Nat.le_trans Z0 (Nat.le_of_eq g22.symm)
      have Zh := Nat.le_trans Z0 E22.1
      refine own_go (T' := T22) (g' := (mkF m 67 #[.val (.int p1), .val (.int p2), .val (.int p3), .val (.int p4), .val (.int p5), .val (.int p6), .val (.int nn), .val (.int r1), .val (.int r2), .val (.int r3), .val (.int r4), .val (.int r5), .unset, .unset, .unset] [(.int r1), (.int (0 : Int32)), (.ref arr), (.ref arr)])) (fun t_ k_ => ?_) ?_
      · refine XS.dup X22.here hx rfl (hb hby at_63) rfl rfl ?_
        show Steps p.tables e below (T22.setTop (mkF m 64 #[.val (.int p1), .val (.int p2), .val (.int p3), .val (.int p4), .val (.int p5), .val (.int p6), .val (.int nn), .val (.int r1), .val (.int r2), .val (.int r3), .val (.int r4), .val (.int r5), .unset, .unset, .unset] [(.ref arr), (.ref arr)])) _
        refine XS.iconst X22.here hx rfl (hb hby at_64) ?_
        show Steps p.tables e below (T22.setTop (mkF m 65 #[.val (.int p1), .val (.int p2), .val (.int p3), .val (.int p4), .val (.int p5), .val (.int p6), .val (.int nn), .val (.int r1), .val (.int r2), .val (.int r3), .val (.int r4), .val (.int r5), .unset, .unset, .unset] [(.int (0 : Int32)), (.ref arr), (.ref arr)])) _
        refine XS.iload X22.here hx rfl (hb hby at_65) rfl ?_
        show Steps p.tables e below (T22.setTop (mkF m 67 #[.val (.int p1), .val (.int p2), .val (.int p3), .val (.int p4), .val (.int p5), .val (.int p6), .val (.int nn), .val (.int r1), .val (.int r2), .val (.int r3), .val (.int r4), .val (.int r5), .unset, .unset, .unset] [(.int r1), (.int (0 : Int32)), (.ref arr), (.ref arr)])) _
        exact k_
      refine own_iastore X22 hx hZ e22 A22 0 (by decide) (by decide) rfl rfl (hb hby at_67) ?_
      intro T23 h23 X23 e23 W23 A23
      show own_Go p e below s room_1.cells room_1.slots (fun v _ L => v = some (.int (1 : Int32)) ∧ Fr n0 L) T23 (mkF m 68 #[.val (.int p1), .val (.int p2), .val (.int p3), .val (.int p4), .val (.int p5), .val (.int p6), .val (.int nn), .val (.int r1), .val (.int r2), .val (.int r3), .val (.int r4), .val (.int r5), .unset, .unset, .unset] [(.ref arr)])
      have N23 := Fr.snoc X23 (Fr.app (Fr.app (Fr.app (Fr.app (Fr.app N0 N1) N2) N3) N4) N5) ga
      have Zh : n0 ≤ h23.size := by rw [W23.size]; exact Zh
      refine own_go (T' := T23) (g' := (mkF m 190 #[.val (.int p1), .val (.int p2), .val (.int p3), .val (.int p4), .val (.int p5), .val (.int p6), .val (.int nn), .val (.int r1), .val (.int r2), .val (.int r3), .val (.int r4), .val (.int r5), .val (.ref arr), .unset, .unset] [])) (fun t_ k_ => ?_) ?_
      · refine XS.astore X23.here hx rfl (hb hby at_68) rfl rfl (l' := #[.val (.int p1), .val (.int p2), .val (.int p3), .val (.int p4), .val (.int p5), .val (.int p6), .val (.int nn), .val (.int r1), .val (.int r2), .val (.int r3), .val (.int r4), .val (.int r5), .val (.ref arr), .unset, .unset]) rfl ?_
        show Steps p.tables e below (T23.setTop (mkF m 70 #[.val (.int p1), .val (.int p2), .val (.int p3), .val (.int p4), .val (.int p5), .val (.int p6), .val (.int nn), .val (.int r1), .val (.int r2), .val (.int r3), .val (.int r4), .val (.int r5), .val (.ref arr), .unset, .unset] [])) _
        refine XS.goto X23.here hx rfl (pc0 := 70) (pc' := 190) rfl (hb hby at_70) (by decide) (by decide) ?_
        show Steps p.tables e below (T23.setTop (mkF m 190 #[.val (.int p1), .val (.int p2), .val (.int p3), .val (.int p4), .val (.int p5), .val (.int p6), .val (.int nn), .val (.int r1), .val (.int r2), .val (.int r3), .val (.int r4), .val (.int r5), .val (.ref arr), .unset, .unset] [])) _
        exact k_
      refine J _ _ _ _ X23 e23 N23 Zh ?_
      rw [hn]
      refine A23.congr fun j hj => ?_
      have cj : j = 0 := by omega
      subst cj; rfl
    · refine own_go (T' := T5) (g' := (mkF m 76 #[.val (.int p1), .val (.int p2), .val (.int p3), .val (.int p4), .val (.int p5), .val (.int p6), .val (.int nn), .val (.int r1), .val (.int r2), .val (.int r3), .val (.int r4), .val (.int r5), .unset, .unset, .unset] [(.int (2 : Int32)), (.int nn)])) (fun t_ k_ => ?_) ?_
      · refine XS.icmpYes X5.here hx rfl (pc0 := 57) (pc' := 73) rfl (hb hby at_57) rfl (feq c1).2 (by decide) (by decide) ?_
        show Steps p.tables e below (T5.setTop (mkF m 73 #[.val (.int p1), .val (.int p2), .val (.int p3), .val (.int p4), .val (.int p5), .val (.int p6), .val (.int nn), .val (.int r1), .val (.int r2), .val (.int r3), .val (.int r4), .val (.int r5), .unset, .unset, .unset] [])) _
        refine XS.iload X5.here hx rfl (hb hby at_73) rfl ?_
        show Steps p.tables e below (T5.setTop (mkF m 75 #[.val (.int p1), .val (.int p2), .val (.int p3), .val (.int p4), .val (.int p5), .val (.int p6), .val (.int nn), .val (.int r1), .val (.int r2), .val (.int r3), .val (.int r4), .val (.int r5), .unset, .unset, .unset] [(.int nn)])) _
        refine XS.iconst X5.here hx rfl (hb hby at_75) ?_
        show Steps p.tables e below (T5.setTop (mkF m 76 #[.val (.int p1), .val (.int p2), .val (.int p3), .val (.int p4), .val (.int p5), .val (.int p6), .val (.int nn), .val (.int r1), .val (.int r2), .val (.int r3), .val (.int r4), .val (.int r5), .unset, .unset, .unset] [(.int (2 : Int32)), (.int nn)])) _
        exact k_
      by_cases c2 : nn = (2 : Int32)
      · refine own_go (T' := T5) (g' := (mkF m 80 #[.val (.int p1), .val (.int p2), .val (.int p3), .val (.int p4), .val (.int p5), .val (.int p6), .val (.int nn), .val (.int r1), .val (.int r2), .val (.int r3), .val (.int r4), .val (.int r5), .unset, .unset, .unset] [(.int (2 : Int32))])) (fun t_ k_ => ?_) ?_
        · refine XS.icmpNo X5.here hx rfl (hb hby at_76) rfl (teq c2).2 ?_
          show Steps p.tables e below (T5.setTop (mkF m 79 #[.val (.int p1), .val (.int p2), .val (.int p3), .val (.int p4), .val (.int p5), .val (.int p6), .val (.int nn), .val (.int r1), .val (.int r2), .val (.int r3), .val (.int r4), .val (.int r5), .unset, .unset, .unset] [])) _
          refine XS.iconst X5.here hx rfl (hb hby at_79) ?_
          show Steps p.tables e below (T5.setTop (mkF m 80 #[.val (.int p1), .val (.int p2), .val (.int p3), .val (.int p4), .val (.int p5), .val (.int p6), .val (.int nn), .val (.int r1), .val (.int r2), .val (.int r3), .val (.int r4), .val (.int r5), .unset, .unset, .unset] [(.int (2 : Int32))])) _
          exact k_
        have hn : nn.toInt.toNat = 2 := by have q := congrArg Int32.toInt c2; omega
        refine own_newI (n := 2) X5 hx hZ (hw _ (List.mem_of_getElem? (i := 5) rfl)) e5 (by decide) 5 (by decide) (by decide) (by decide) (by decide) rfl rfl (hb hby at_80) ?_
        intro T24 h24 arr g24 X24 e24 E24 A24
        show own_Go p e below s room_1.cells room_1.slots (fun v _ L => v = some (.int (1 : Int32)) ∧ Fr n0 L) T24 (mkF m 82 #[.val (.int p1), .val (.int p2), .val (.int p3), .val (.int p4), .val (.int p5), .val (.int p6), .val (.int nn), .val (.int r1), .val (.int r2), .val (.int r3), .val (.int r4), .val (.int r5), .unset, .unset, .unset] [(.ref arr)])
        have ga : n0 ≤ arr := Nat.le_trans Z0 (Nat.le_of_eq g24.symm)
        have Zh := Nat.le_trans Z0 E24.1
        refine own_go (T' := T24) (g' := (mkF m 86 #[.val (.int p1), .val (.int p2), .val (.int p3), .val (.int p4), .val (.int p5), .val (.int p6), .val (.int nn), .val (.int r1), .val (.int r2), .val (.int r3), .val (.int r4), .val (.int r5), .unset, .unset, .unset] [(.int r1), (.int (0 : Int32)), (.ref arr), (.ref arr)])) (fun t_ k_ => ?_) ?_
        · refine XS.dup X24.here hx rfl (hb hby at_82) rfl rfl ?_
          show Steps p.tables e below (T24.setTop (mkF m 83 #[.val (.int p1), .val (.int p2), .val (.int p3), .val (.int p4), .val (.int p5), .val (.int p6), .val (.int nn), .val (.int r1), .val (.int r2), .val (.int r3), .val (.int r4), .val (.int r5), .unset, .unset, .unset] [(.ref arr), (.ref arr)])) _
          refine XS.iconst X24.here hx rfl (hb hby at_83) ?_
          show Steps p.tables e below (T24.setTop (mkF m 84 #[.val (.int p1), .val (.int p2), .val (.int p3), .val (.int p4), .val (.int p5), .val (.int p6), .val (.int nn), .val (.int r1), .val (.int r2), .val (.int r3), .val (.int r4), .val (.int r5), .unset, .unset, .unset] [(.int (0 : Int32)), (.ref arr), (.ref arr)])) _
          refine XS.iload X24.here hx rfl (hb hby at_84) rfl ?_
          show Steps p.tables e below (T24.setTop (mkF m 86 #[.val (.int p1), .val (.int p2), .val (.int p3), .val (.int p4), .val (.int p5), .val (.int p6), .val (.int nn), .val (.int r1), .val (.int r2), .val (.int r3), .val (.int r4), .val (.int r5), .unset, .unset, .unset] [(.int r1), (.int (0 : Int32)), (.ref arr), (.ref arr)])) _
          exact k_
        refine own_iastore X24 hx hZ e24 A24 0 (by decide) (by decide) rfl rfl (hb hby at_86) ?_
        intro T25 h25 X25 e25 W25 A25
        show own_Go p e below s room_1.cells room_1.slots (fun v _ L => v = some (.int (1 : Int32)) ∧ Fr n0 L) T25 (mkF m 87 #[.val (.int p1), .val (.int p2), .val (.int p3), .val (.int p4), .val (.int p5), .val (.int p6), .val (.int nn), .val (.int r1), .val (.int r2), .val (.int r3), .val (.int r4), .val (.int r5), .unset, .unset, .unset] [(.ref arr)])
        have N25 := Fr.snoc X25 (Fr.app (Fr.app (Fr.app (Fr.app (Fr.app N0 N1) N2) N3) N4) N5) ga
        have Zh : n0 ≤ h25.size := by rw [W25.size]; exact Zh
        refine own_go (T' := T25) (g' := (mkF m 91 #[.val (.int p1), .val (.int p2), .val (.int p3), .val (.int p4), .val (.int p5), .val (.int p6), .val (.int nn), .val (.int r1), .val (.int r2), .val (.int r3), .val (.int r4), .val (.int r5), .unset, .unset, .unset] [(.int r2), (.int (1 : Int32)), (.ref arr), (.ref arr)])) (fun t_ k_ => ?_) ?_
        · refine XS.dup X25.here hx rfl (hb hby at_87) rfl rfl ?_
          show Steps p.tables e below (T25.setTop (mkF m 88 #[.val (.int p1), .val (.int p2), .val (.int p3), .val (.int p4), .val (.int p5), .val (.int p6), .val (.int nn), .val (.int r1), .val (.int r2), .val (.int r3), .val (.int r4), .val (.int r5), .unset, .unset, .unset] [(.ref arr), (.ref arr)])) _
          refine XS.iconst X25.here hx rfl (hb hby at_88) ?_
          show Steps p.tables e below (T25.setTop (mkF m 89 #[.val (.int p1), .val (.int p2), .val (.int p3), .val (.int p4), .val (.int p5), .val (.int p6), .val (.int nn), .val (.int r1), .val (.int r2), .val (.int r3), .val (.int r4), .val (.int r5), .unset, .unset, .unset] [(.int (1 : Int32)), (.ref arr), (.ref arr)])) _
          refine XS.iload X25.here hx rfl (hb hby at_89) rfl ?_
          show Steps p.tables e below (T25.setTop (mkF m 91 #[.val (.int p1), .val (.int p2), .val (.int p3), .val (.int p4), .val (.int p5), .val (.int p6), .val (.int nn), .val (.int r1), .val (.int r2), .val (.int r3), .val (.int r4), .val (.int r5), .unset, .unset, .unset] [(.int r2), (.int (1 : Int32)), (.ref arr), (.ref arr)])) _
          exact k_
        refine own_iastore X25 hx hZ e25 A25 1 (by decide) (by decide) rfl rfl (hb hby at_91) ?_
        intro T26 h26 X26 e26 W26 A26
        show own_Go p e below s room_1.cells room_1.slots (fun v _ L => v = some (.int (1 : Int32)) ∧ Fr n0 L) T26 (mkF m 92 #[.val (.int p1), .val (.int p2), .val (.int p3), .val (.int p4), .val (.int p5), .val (.int p6), .val (.int nn), .val (.int r1), .val (.int r2), .val (.int r3), .val (.int r4), .val (.int r5), .unset, .unset, .unset] [(.ref arr)])
        have N26 := Fr.snoc X26 N25 ga
        have Zh : n0 ≤ h26.size := by rw [W26.size]; exact Zh
        refine own_go (T' := T26) (g' := (mkF m 190 #[.val (.int p1), .val (.int p2), .val (.int p3), .val (.int p4), .val (.int p5), .val (.int p6), .val (.int nn), .val (.int r1), .val (.int r2), .val (.int r3), .val (.int r4), .val (.int r5), .val (.ref arr), .unset, .unset] [])) (fun t_ k_ => ?_) ?_
        · refine XS.astore X26.here hx rfl (hb hby at_92) rfl rfl (l' := #[.val (.int p1), .val (.int p2), .val (.int p3), .val (.int p4), .val (.int p5), .val (.int p6), .val (.int nn), .val (.int r1), .val (.int r2), .val (.int r3), .val (.int r4), .val (.int r5), .val (.ref arr), .unset, .unset]) rfl ?_
          show Steps p.tables e below (T26.setTop (mkF m 94 #[.val (.int p1), .val (.int p2), .val (.int p3), .val (.int p4), .val (.int p5), .val (.int p6), .val (.int nn), .val (.int r1), .val (.int r2), .val (.int r3), .val (.int r4), .val (.int r5), .val (.ref arr), .unset, .unset] [])) _
          refine XS.goto X26.here hx rfl (pc0 := 94) (pc' := 190) rfl (hb hby at_94) (by decide) (by decide) ?_
          show Steps p.tables e below (T26.setTop (mkF m 190 #[.val (.int p1), .val (.int p2), .val (.int p3), .val (.int p4), .val (.int p5), .val (.int p6), .val (.int nn), .val (.int r1), .val (.int r2), .val (.int r3), .val (.int r4), .val (.int r5), .val (.ref arr), .unset, .unset] [])) _
          exact k_
        refine J _ _ _ _ X26 e26 N26 Zh ?_
        rw [hn]
        refine A26.congr fun j hj => ?_
        have cj : j = 0 ∨ j = 1 := by omega
        rcases cj with rfl | rfl <;> rfl
      · refine own_go (T' := T5) (g' := (mkF m 100 #[.val (.int p1), .val (.int p2), .val (.int p3), .val (.int p4), .val (.int p5), .val (.int p6), .val (.int nn), .val (.int r1), .val (.int r2), .val (.int r3), .val (.int r4), .val (.int r5), .unset, .unset, .unset] [(.int (3 : Int32)), (.int nn)])) (fun t_ k_ => ?_) ?_
        · refine XS.icmpYes X5.here hx rfl (pc0 := 76) (pc' := 97) rfl (hb hby at_76) rfl (feq c2).2 (by decide) (by decide) ?_
          show Steps p.tables e below (T5.setTop (mkF m 97 #[.val (.int p1), .val (.int p2), .val (.int p3), .val (.int p4), .val (.int p5), .val (.int p6), .val (.int nn), .val (.int r1), .val (.int r2), .val (.int r3), .val (.int r4), .val (.int r5), .unset, .unset, .unset] [])) _
          refine XS.iload X5.here hx rfl (hb hby at_97) rfl ?_
          show Steps p.tables e below (T5.setTop (mkF m 99 #[.val (.int p1), .val (.int p2), .val (.int p3), .val (.int p4), .val (.int p5), .val (.int p6), .val (.int nn), .val (.int r1), .val (.int r2), .val (.int r3), .val (.int r4), .val (.int r5), .unset, .unset, .unset] [(.int nn)])) _
          refine XS.iconst X5.here hx rfl (hb hby at_99) ?_
          show Steps p.tables e below (T5.setTop (mkF m 100 #[.val (.int p1), .val (.int p2), .val (.int p3), .val (.int p4), .val (.int p5), .val (.int p6), .val (.int nn), .val (.int r1), .val (.int r2), .val (.int r3), .val (.int r4), .val (.int r5), .unset, .unset, .unset] [(.int (3 : Int32)), (.int nn)])) _
          exact k_
        by_cases c3 : nn = (3 : Int32)
        · refine own_go (T' := T5) (g' := (mkF m 104 #[.val (.int p1), .val (.int p2), .val (.int p3), .val (.int p4), .val (.int p5), .val (.int p6), .val (.int nn), .val (.int r1), .val (.int r2), .val (.int r3), .val (.int r4), .val (.int r5), .unset, .unset, .unset] [(.int (3 : Int32))])) (fun t_ k_ => ?_) ?_
          · refine XS.icmpNo X5.here hx rfl (hb hby at_100) rfl (teq c3).2 ?_
            show Steps p.tables e below (T5.setTop (mkF m 103 #[.val (.int p1), .val (.int p2), .val (.int p3), .val (.int p4), .val (.int p5), .val (.int p6), .val (.int nn), .val (.int r1), .val (.int r2), .val (.int r3), .val (.int r4), .val (.int r5), .unset, .unset, .unset] [])) _
            refine XS.iconst X5.here hx rfl (hb hby at_103) ?_
            show Steps p.tables e below (T5.setTop (mkF m 104 #[.val (.int p1), .val (.int p2), .val (.int p3), .val (.int p4), .val (.int p5), .val (.int p6), .val (.int nn), .val (.int r1), .val (.int r2), .val (.int r3), .val (.int r4), .val (.int r5), .unset, .unset, .unset] [(.int (3 : Int32))])) _
            exact k_
          have hn : nn.toInt.toNat = 3 := by have q := congrArg Int32.toInt c3; omega
          refine own_newI (n := 3) X5 hx hZ (hw _ (List.mem_of_getElem? (i := 5) rfl)) e5 (by decide) 5 (by decide) (by decide) (by decide) (by decide) rfl rfl (hb hby at_104) ?_
          intro T27 h27 arr g27 X27 e27 E27 A27
          show own_Go p e below s room_1.cells room_1.slots (fun v _ L => v = some (.int (1 : Int32)) ∧ Fr n0 L) T27 (mkF m 106 #[.val (.int p1), .val (.int p2), .val (.int p3), .val (.int p4), .val (.int p5), .val (.int p6), .val (.int nn), .val (.int r1), .val (.int r2), .val (.int r3), .val (.int r4), .val (.int r5), .unset, .unset, .unset] [(.ref arr)])
          have ga : n0 ≤ arr := Nat.le_trans Z0 (Nat.le_of_eq g27.symm)
          have Zh := Nat.le_trans Z0 E27.1
          refine own_go (T' := T27) (g' := (mkF m 110 #[.val (.int p1), .val (.int p2), .val (.int p3), .val (.int p4), .val (.int p5), .val (.int p6), .val (.int nn), .val (.int r1), .val (.int r2), .val (.int r3), .val (.int r4), .val (.int r5), .unset, .unset, .unset] [(.int r1), (.int (0 : Int32)), (.ref arr), (.ref arr)])) (fun t_ k_ => ?_) ?_
          · refine XS.dup X27.here hx rfl (hb hby at_106) rfl rfl ?_
            show Steps p.tables e below (T27.setTop (mkF m 107 #[.val (.int p1), .val (.int p2), .val (.int p3), .val (.int p4), .val (.int p5), .val (.int p6), .val (.int nn), .val (.int r1), .val (.int r2), .val (.int r3), .val (.int r4), .val (.int r5), .unset, .unset, .unset] [(.ref arr), (.ref arr)])) _
            refine XS.iconst X27.here hx rfl (hb hby at_107) ?_
            show Steps p.tables e below (T27.setTop (mkF m 108 #[.val (.int p1), .val (.int p2), .val (.int p3), .val (.int p4), .val (.int p5), .val (.int p6), .val (.int nn), .val (.int r1), .val (.int r2), .val (.int r3), .val (.int r4), .val (.int r5), .unset, .unset, .unset] [(.int (0 : Int32)), (.ref arr), (.ref arr)])) _
            refine XS.iload X27.here hx rfl (hb hby at_108) rfl ?_
            show Steps p.tables e below (T27.setTop (mkF m 110 #[.val (.int p1), .val (.int p2), .val (.int p3), .val (.int p4), .val (.int p5), .val (.int p6), .val (.int nn), .val (.int r1), .val (.int r2), .val (.int r3), .val (.int r4), .val (.int r5), .unset, .unset, .unset] [(.int r1), (.int (0 : Int32)), (.ref arr), (.ref arr)])) _
            exact k_
          refine own_iastore X27 hx hZ e27 A27 0 (by decide) (by decide) rfl rfl (hb hby at_110) ?_
          intro T28 h28 X28 e28 W28 A28
          show own_Go p e below s room_1.cells room_1.slots (fun v _ L => v = some (.int (1 : Int32)) ∧ Fr n0 L) T28 (mkF m 111 #[.val (.int p1), .val (.int p2), .val (.int p3), .val (.int p4), .val (.int p5), .val (.int p6), .val (.int nn), .val (.int r1), .val (.int r2), .val (.int r3), .val (.int r4), .val (.int r5), .unset, .unset, .unset] [(.ref arr)])
          have N28 := Fr.snoc X28 (Fr.app (Fr.app (Fr.app (Fr.app (Fr.app N0 N1) N2) N3) N4) N5) ga
          have Zh : n0 ≤ h28.size := by rw [W28.size]; exact Zh
          refine own_go (T' := T28) (g' := (mkF m 115 #[.val (.int p1), .val (.int p2), .val (.int p3), .val (.int p4), .val (.int p5), .val (.int p6), .val (.int nn), .val (.int r1), .val (.int r2), .val (.int r3), .val (.int r4), .val (.int r5), .unset, .unset, .unset] [(.int r2), (.int (1 : Int32)), (.ref arr), (.ref arr)])) (fun t_ k_ => ?_) ?_
          · refine XS.dup X28.here hx rfl (hb hby at_111) rfl rfl ?_
            show Steps p.tables e below (T28.setTop (mkF m 112 #[.val (.int p1), .val (.int p2), .val (.int p3), .val (.int p4), .val (.int p5), .val (.int p6), .val (.int nn), .val (.int r1), .val (.int r2), .val (.int r3), .val (.int r4), .val (.int r5), .unset, .unset, .unset] [(.ref arr), (.ref arr)])) _
            refine XS.iconst X28.here hx rfl (hb hby at_112) ?_
            show Steps p.tables e below (T28.setTop (mkF m 113 #[.val (.int p1), .val (.int p2), .val (.int p3), .val (.int p4), .val (.int p5), .val (.int p6), .val (.int nn), .val (.int r1), .val (.int r2), .val (.int r3), .val (.int r4), .val (.int r5), .unset, .unset, .unset] [(.int (1 : Int32)), (.ref arr), (.ref arr)])) _
            refine XS.iload X28.here hx rfl (hb hby at_113) rfl ?_
            show Steps p.tables e below (T28.setTop (mkF m 115 #[.val (.int p1), .val (.int p2), .val (.int p3), .val (.int p4), .val (.int p5), .val (.int p6), .val (.int nn), .val (.int r1), .val (.int r2), .val (.int r3), .val (.int r4), .val (.int r5), .unset, .unset, .unset] [(.int r2), (.int (1 : Int32)), (.ref arr), (.ref arr)])) _
            exact k_
          refine own_iastore X28 hx hZ e28 A28 1 (by decide) (by decide) rfl rfl (hb hby at_115) ?_
          intro T29 h29 X29 e29 W29 A29
          show own_Go p e below s room_1.cells room_1.slots (fun v _ L => v = some (.int (1 : Int32)) ∧ Fr n0 L) T29 (mkF m 116 #[.val (.int p1), .val (.int p2), .val (.int p3), .val (.int p4), .val (.int p5), .val (.int p6), .val (.int nn), .val (.int r1), .val (.int r2), .val (.int r3), .val (.int r4), .val (.int r5), .unset, .unset, .unset] [(.ref arr)])
          have N29 := Fr.snoc X29 N28 ga
          have Zh : n0 ≤ h29.size := by rw [W29.size]; exact Zh
          refine own_go (T' := T29) (g' := (mkF m 120 #[.val (.int p1), .val (.int p2), .val (.int p3), .val (.int p4), .val (.int p5), .val (.int p6), .val (.int nn), .val (.int r1), .val (.int r2), .val (.int r3), .val (.int r4), .val (.int r5), .unset, .unset, .unset] [(.int r3), (.int (2 : Int32)), (.ref arr), (.ref arr)])) (fun t_ k_ => ?_) ?_
          · refine XS.dup X29.here hx rfl (hb hby at_116) rfl rfl ?_
            show Steps p.tables e below (T29.setTop (mkF m 117 #[.val (.int p1), .val (.int p2), .val (.int p3), .val (.int p4), .val (.int p5), .val (.int p6), .val (.int nn), .val (.int r1), .val (.int r2), .val (.int r3), .val (.int r4), .val (.int r5), .unset, .unset, .unset] [(.ref arr), (.ref arr)])) _
            refine XS.iconst X29.here hx rfl (hb hby at_117) ?_
            show Steps p.tables e below (T29.setTop (mkF m 118 #[.val (.int p1), .val (.int p2), .val (.int p3), .val (.int p4), .val (.int p5), .val (.int p6), .val (.int nn), .val (.int r1), .val (.int r2), .val (.int r3), .val (.int r4), .val (.int r5), .unset, .unset, .unset] [(.int (2 : Int32)), (.ref arr), (.ref arr)])) _
            refine XS.iload X29.here hx rfl (hb hby at_118) rfl ?_
            show Steps p.tables e below (T29.setTop (mkF m 120 #[.val (.int p1), .val (.int p2), .val (.int p3), .val (.int p4), .val (.int p5), .val (.int p6), .val (.int nn), .val (.int r1), .val (.int r2), .val (.int r3), .val (.int r4), .val (.int r5), .unset, .unset, .unset] [(.int r3), (.int (2 : Int32)), (.ref arr), (.ref arr)])) _
            exact k_
          refine own_iastore X29 hx hZ e29 A29 2 (by decide) (by decide) rfl rfl (hb hby at_120) ?_
          intro T30 h30 X30 e30 W30 A30
          show own_Go p e below s room_1.cells room_1.slots (fun v _ L => v = some (.int (1 : Int32)) ∧ Fr n0 L) T30 (mkF m 121 #[.val (.int p1), .val (.int p2), .val (.int p3), .val (.int p4), .val (.int p5), .val (.int p6), .val (.int nn), .val (.int r1), .val (.int r2), .val (.int r3), .val (.int r4), .val (.int r5), .unset, .unset, .unset] [(.ref arr)])
          have N30 := Fr.snoc X30 N29 ga
          have Zh : n0 ≤ h30.size := by rw [W30.size]; exact Zh
          refine own_go (T' := T30) (g' := (mkF m 190 #[.val (.int p1), .val (.int p2), .val (.int p3), .val (.int p4), .val (.int p5), .val (.int p6), .val (.int nn), .val (.int r1), .val (.int r2), .val (.int r3), .val (.int r4), .val (.int r5), .val (.ref arr), .unset, .unset] [])) (fun t_ k_ => ?_) ?_
          · refine XS.astore X30.here hx rfl (hb hby at_121) rfl rfl (l' := #[.val (.int p1), .val (.int p2), .val (.int p3), .val (.int p4), .val (.int p5), .val (.int p6), .val (.int nn), .val (.int r1), .val (.int r2), .val (.int r3), .val (.int r4), .val (.int r5), .val (.ref arr), .unset, .unset]) rfl ?_
            show Steps p.tables e below (T30.setTop (mkF m 123 #[.val (.int p1), .val (.int p2), .val (.int p3), .val (.int p4), .val (.int p5), .val (.int p6), .val (.int nn), .val (.int r1), .val (.int r2), .val (.int r3), .val (.int r4), .val (.int r5), .val (.ref arr), .unset, .unset] [])) _
            refine XS.goto X30.here hx rfl (pc0 := 123) (pc' := 190) rfl (hb hby at_123) (by decide) (by decide) ?_
            show Steps p.tables e below (T30.setTop (mkF m 190 #[.val (.int p1), .val (.int p2), .val (.int p3), .val (.int p4), .val (.int p5), .val (.int p6), .val (.int nn), .val (.int r1), .val (.int r2), .val (.int r3), .val (.int r4), .val (.int r5), .val (.ref arr), .unset, .unset] [])) _
            exact k_
          refine J _ _ _ _ X30 e30 N30 Zh ?_
          rw [hn]
          refine A30.congr fun j hj => ?_
          have cj : j = 0 ∨ j = 1 ∨ j = 2 := by omega
          rcases cj with rfl | rfl | rfl <;> rfl
        · refine own_go (T' := T5) (g' := (mkF m 129 #[.val (.int p1), .val (.int p2), .val (.int p3), .val (.int p4), .val (.int p5), .val (.int p6), .val (.int nn), .val (.int r1), .val (.int r2), .val (.int r3), .val (.int r4), .val (.int r5), .unset, .unset, .unset] [(.int (4 : Int32)), (.int nn)])) (fun t_ k_ => ?_) ?_
          · refine XS.icmpYes X5.here hx rfl (pc0 := 100) (pc' := 126) rfl (hb hby at_100) rfl (feq c3).2 (by decide) (by decide) ?_
            show Steps p.tables e below (T5.setTop (mkF m 126 #[.val (.int p1), .val (.int p2), .val (.int p3), .val (.int p4), .val (.int p5), .val (.int p6), .val (.int nn), .val (.int r1), .val (.int r2), .val (.int r3), .val (.int r4), .val (.int r5), .unset, .unset, .unset] [])) _
            refine XS.iload X5.here hx rfl (hb hby at_126) rfl ?_
            show Steps p.tables e below (T5.setTop (mkF m 128 #[.val (.int p1), .val (.int p2), .val (.int p3), .val (.int p4), .val (.int p5), .val (.int p6), .val (.int nn), .val (.int r1), .val (.int r2), .val (.int r3), .val (.int r4), .val (.int r5), .unset, .unset, .unset] [(.int nn)])) _
            refine XS.iconst X5.here hx rfl (hb hby at_128) ?_
            show Steps p.tables e below (T5.setTop (mkF m 129 #[.val (.int p1), .val (.int p2), .val (.int p3), .val (.int p4), .val (.int p5), .val (.int p6), .val (.int nn), .val (.int r1), .val (.int r2), .val (.int r3), .val (.int r4), .val (.int r5), .unset, .unset, .unset] [(.int (4 : Int32)), (.int nn)])) _
            exact k_
          by_cases c4 : nn = (4 : Int32)
          · refine own_go (T' := T5) (g' := (mkF m 133 #[.val (.int p1), .val (.int p2), .val (.int p3), .val (.int p4), .val (.int p5), .val (.int p6), .val (.int nn), .val (.int r1), .val (.int r2), .val (.int r3), .val (.int r4), .val (.int r5), .unset, .unset, .unset] [(.int (4 : Int32))])) (fun t_ k_ => ?_) ?_
            · refine XS.icmpNo X5.here hx rfl (hb hby at_129) rfl (teq c4).2 ?_
              show Steps p.tables e below (T5.setTop (mkF m 132 #[.val (.int p1), .val (.int p2), .val (.int p3), .val (.int p4), .val (.int p5), .val (.int p6), .val (.int nn), .val (.int r1), .val (.int r2), .val (.int r3), .val (.int r4), .val (.int r5), .unset, .unset, .unset] [])) _
              refine XS.iconst X5.here hx rfl (hb hby at_132) ?_
              show Steps p.tables e below (T5.setTop (mkF m 133 #[.val (.int p1), .val (.int p2), .val (.int p3), .val (.int p4), .val (.int p5), .val (.int p6), .val (.int nn), .val (.int r1), .val (.int r2), .val (.int r3), .val (.int r4), .val (.int r5), .unset, .unset, .unset] [(.int (4 : Int32))])) _
              exact k_
            have hn : nn.toInt.toNat = 4 := by have q := congrArg Int32.toInt c4; omega
            refine own_newI (n := 4) X5 hx hZ (hw _ (List.mem_of_getElem? (i := 5) rfl)) e5 (by decide) 5 (by decide) (by decide) (by decide) (by decide) rfl rfl (hb hby at_133) ?_
            intro T31 h31 arr g31 X31 e31 E31 A31
            show own_Go p e below s room_1.cells room_1.slots (fun v _ L => v = some (.int (1 : Int32)) ∧ Fr n0 L) T31 (mkF m 135 #[.val (.int p1), .val (.int p2), .val (.int p3), .val (.int p4), .val (.int p5), .val (.int p6), .val (.int nn), .val (.int r1), .val (.int r2), .val (.int r3), .val (.int r4), .val (.int r5), .unset, .unset, .unset] [(.ref arr)])
            have ga : n0 ≤ arr := Nat.le_trans Z0 (Nat.le_of_eq g31.symm)
            have Zh := Nat.le_trans Z0 E31.1
            refine own_go (T' := T31) (g' := (mkF m 139 #[.val (.int p1), .val (.int p2), .val (.int p3), .val (.int p4), .val (.int p5), .val (.int p6), .val (.int nn), .val (.int r1), .val (.int r2), .val (.int r3), .val (.int r4), .val (.int r5), .unset, .unset, .unset] [(.int r1), (.int (0 : Int32)), (.ref arr), (.ref arr)])) (fun t_ k_ => ?_) ?_
            · refine XS.dup X31.here hx rfl (hb hby at_135) rfl rfl ?_
              show Steps p.tables e below (T31.setTop (mkF m 136 #[.val (.int p1), .val (.int p2), .val (.int p3), .val (.int p4), .val (.int p5), .val (.int p6), .val (.int nn), .val (.int r1), .val (.int r2), .val (.int r3), .val (.int r4), .val (.int r5), .unset, .unset, .unset] [(.ref arr), (.ref arr)])) _
              refine XS.iconst X31.here hx rfl (hb hby at_136) ?_
              show Steps p.tables e below (T31.setTop (mkF m 137 #[.val (.int p1), .val (.int p2), .val (.int p3), .val (.int p4), .val (.int p5), .val (.int p6), .val (.int nn), .val (.int r1), .val (.int r2), .val (.int r3), .val (.int r4), .val (.int r5), .unset, .unset, .unset] [(.int (0 : Int32)), (.ref arr), (.ref arr)])) _
              refine XS.iload X31.here hx rfl (hb hby at_137) rfl ?_
              show Steps p.tables e below (T31.setTop (mkF m 139 #[.val (.int p1), .val (.int p2), .val (.int p3), .val (.int p4), .val (.int p5), .val (.int p6), .val (.int nn), .val (.int r1), .val (.int r2), .val (.int r3), .val (.int r4), .val (.int r5), .unset, .unset, .unset] [(.int r1), (.int (0 : Int32)), (.ref arr), (.ref arr)])) _
              exact k_
            refine own_iastore X31 hx hZ e31 A31 0 (by decide) (by decide) rfl rfl (hb hby at_139) ?_
            intro T32 h32 X32 e32 W32 A32
            show own_Go p e below s room_1.cells room_1.slots (fun v _ L => v = some (.int (1 : Int32)) ∧ Fr n0 L) T32 (mkF m 140 #[.val (.int p1), .val (.int p2), .val (.int p3), .val (.int p4), .val (.int p5), .val (.int p6), .val (.int nn), .val (.int r1), .val (.int r2), .val (.int r3), .val (.int r4), .val (.int r5), .unset, .unset, .unset] [(.ref arr)])
            have N32 := Fr.snoc X32 (Fr.app (Fr.app (Fr.app (Fr.app (Fr.app N0 N1) N2) N3) N4) N5) ga
            have Zh : n0 ≤ h32.size := by rw [W32.size]; exact Zh
            refine own_go (T' := T32) (g' := (mkF m 144 #[.val (.int p1), .val (.int p2), .val (.int p3), .val (.int p4), .val (.int p5), .val (.int p6), .val (.int nn), .val (.int r1), .val (.int r2), .val (.int r3), .val (.int r4), .val (.int r5), .unset, .unset, .unset] [(.int r2), (.int (1 : Int32)), (.ref arr), (.ref arr)])) (fun t_ k_ => ?_) ?_
            · refine XS.dup X32.here hx rfl (hb hby at_140) rfl rfl ?_
              show Steps p.tables e below (T32.setTop (mkF m 141 #[.val (.int p1), .val (.int p2), .val (.int p3), .val (.int p4), .val (.int p5), .val (.int p6), .val (.int nn), .val (.int r1), .val (.int r2), .val (.int r3), .val (.int r4), .val (.int r5), .unset, .unset, .unset] [(.ref arr), (.ref arr)])) _
              refine XS.iconst X32.here hx rfl (hb hby at_141) ?_
              show Steps p.tables e below (T32.setTop (mkF m 142 #[.val (.int p1), .val (.int p2), .val (.int p3), .val (.int p4), .val (.int p5), .val (.int p6), .val (.int nn), .val (.int r1), .val (.int r2), .val (.int r3), .val (.int r4), .val (.int r5), .unset, .unset, .unset] [(.int (1 : Int32)), (.ref arr), (.ref arr)])) _
              refine XS.iload X32.here hx rfl (hb hby at_142) rfl ?_
              show Steps p.tables e below (T32.setTop (mkF m 144 #[.val (.int p1), .val (.int p2), .val (.int p3), .val (.int p4), .val (.int p5), .val (.int p6), .val (.int nn), .val (.int r1), .val (.int r2), .val (.int r3), .val (.int r4), .val (.int r5), .unset, .unset, .unset] [(.int r2), (.int (1 : Int32)), (.ref arr), (.ref arr)])) _
              exact k_
            refine own_iastore X32 hx hZ e32 A32 1 (by decide) (by decide) rfl rfl (hb hby at_144) ?_
            intro T33 h33 X33 e33 W33 A33
            show own_Go p e below s room_1.cells room_1.slots (fun v _ L => v = some (.int (1 : Int32)) ∧ Fr n0 L) T33 (mkF m 145 #[.val (.int p1), .val (.int p2), .val (.int p3), .val (.int p4), .val (.int p5), .val (.int p6), .val (.int nn), .val (.int r1), .val (.int r2), .val (.int r3), .val (.int r4), .val (.int r5), .unset, .unset, .unset] [(.ref arr)])
            have N33 := Fr.snoc X33 N32 ga
            have Zh : n0 ≤ h33.size := by rw [W33.size]; exact Zh
            refine own_go (T' := T33) (g' := (mkF m 149 #[.val (.int p1), .val (.int p2), .val (.int p3), .val (.int p4), .val (.int p5), .val (.int p6), .val (.int nn), .val (.int r1), .val (.int r2), .val (.int r3), .val (.int r4), .val (.int r5), .unset, .unset, .unset] [(.int r3), (.int (2 : Int32)), (.ref arr), (.ref arr)])) (fun t_ k_ => ?_) ?_
            · refine XS.dup X33.here hx rfl (hb hby at_145) rfl rfl ?_
              show Steps p.tables e below (T33.setTop (mkF m 146 #[.val (.int p1), .val (.int p2), .val (.int p3), .val (.int p4), .val (.int p5), .val (.int p6), .val (.int nn), .val (.int r1), .val (.int r2), .val (.int r3), .val (.int r4), .val (.int r5), .unset, .unset, .unset] [(.ref arr), (.ref arr)])) _
              refine XS.iconst X33.here hx rfl (hb hby at_146) ?_
              show Steps p.tables e below (T33.setTop (mkF m 147 #[.val (.int p1), .val (.int p2), .val (.int p3), .val (.int p4), .val (.int p5), .val (.int p6), .val (.int nn), .val (.int r1), .val (.int r2), .val (.int r3), .val (.int r4), .val (.int r5), .unset, .unset, .unset] [(.int (2 : Int32)), (.ref arr), (.ref arr)])) _
              refine XS.iload X33.here hx rfl (hb hby at_147) rfl ?_
              show Steps p.tables e below (T33.setTop (mkF m 149 #[.val (.int p1), .val (.int p2), .val (.int p3), .val (.int p4), .val (.int p5), .val (.int p6), .val (.int nn), .val (.int r1), .val (.int r2), .val (.int r3), .val (.int r4), .val (.int r5), .unset, .unset, .unset] [(.int r3), (.int (2 : Int32)), (.ref arr), (.ref arr)])) _
              exact k_
            refine own_iastore X33 hx hZ e33 A33 2 (by decide) (by decide) rfl rfl (hb hby at_149) ?_
            intro T34 h34 X34 e34 W34 A34
            show own_Go p e below s room_1.cells room_1.slots (fun v _ L => v = some (.int (1 : Int32)) ∧ Fr n0 L) T34 (mkF m 150 #[.val (.int p1), .val (.int p2), .val (.int p3), .val (.int p4), .val (.int p5), .val (.int p6), .val (.int nn), .val (.int r1), .val (.int r2), .val (.int r3), .val (.int r4), .val (.int r5), .unset, .unset, .unset] [(.ref arr)])
            have N34 := Fr.snoc X34 N33 ga
            have Zh : n0 ≤ h34.size := by rw [W34.size]; exact Zh
            refine own_go (T' := T34) (g' := (mkF m 154 #[.val (.int p1), .val (.int p2), .val (.int p3), .val (.int p4), .val (.int p5), .val (.int p6), .val (.int nn), .val (.int r1), .val (.int r2), .val (.int r3), .val (.int r4), .val (.int r5), .unset, .unset, .unset] [(.int r4), (.int (3 : Int32)), (.ref arr), (.ref arr)])) (fun t_ k_ => ?_) ?_
            · refine XS.dup X34.here hx rfl (hb hby at_150) rfl rfl ?_
              show Steps p.tables e below (T34.setTop (mkF m 151 #[.val (.int p1), .val (.int p2), .val (.int p3), .val (.int p4), .val (.int p5), .val (.int p6), .val (.int nn), .val (.int r1), .val (.int r2), .val (.int r3), .val (.int r4), .val (.int r5), .unset, .unset, .unset] [(.ref arr), (.ref arr)])) _
              refine XS.iconst X34.here hx rfl (hb hby at_151) ?_
              show Steps p.tables e below (T34.setTop (mkF m 152 #[.val (.int p1), .val (.int p2), .val (.int p3), .val (.int p4), .val (.int p5), .val (.int p6), .val (.int nn), .val (.int r1), .val (.int r2), .val (.int r3), .val (.int r4), .val (.int r5), .unset, .unset, .unset] [(.int (3 : Int32)), (.ref arr), (.ref arr)])) _
              refine XS.iload X34.here hx rfl (hb hby at_152) rfl ?_
              show Steps p.tables e below (T34.setTop (mkF m 154 #[.val (.int p1), .val (.int p2), .val (.int p3), .val (.int p4), .val (.int p5), .val (.int p6), .val (.int nn), .val (.int r1), .val (.int r2), .val (.int r3), .val (.int r4), .val (.int r5), .unset, .unset, .unset] [(.int r4), (.int (3 : Int32)), (.ref arr), (.ref arr)])) _
              exact k_
            refine own_iastore X34 hx hZ e34 A34 3 (by decide) (by decide) rfl rfl (hb hby at_154) ?_
            intro T35 h35 X35 e35 W35 A35
            show own_Go p e below s room_1.cells room_1.slots (fun v _ L => v = some (.int (1 : Int32)) ∧ Fr n0 L) T35 (mkF m 155 #[.val (.int p1), .val (.int p2), .val (.int p3), .val (.int p4), .val (.int p5), .val (.int p6), .val (.int nn), .val (.int r1), .val (.int r2), .val (.int r3), .val (.int r4), .val (.int r5), .unset, .unset, .unset] [(.ref arr)])
            have N35 := Fr.snoc X35 N34 ga
            have Zh : n0 ≤ h35.size := by rw [W35.size]; exact Zh
            refine own_go (T' := T35) (g' := (mkF m 190 #[.val (.int p1), .val (.int p2), .val (.int p3), .val (.int p4), .val (.int p5), .val (.int p6), .val (.int nn), .val (.int r1), .val (.int r2), .val (.int r3), .val (.int r4), .val (.int r5), .val (.ref arr), .unset, .unset] [])) (fun t_ k_ => ?_) ?_
            · refine XS.astore X35.here hx rfl (hb hby at_155) rfl rfl (l' := #[.val (.int p1), .val (.int p2), .val (.int p3), .val (.int p4), .val (.int p5), .val (.int p6), .val (.int nn), .val (.int r1), .val (.int r2), .val (.int r3), .val (.int r4), .val (.int r5), .val (.ref arr), .unset, .unset]) rfl ?_
              show Steps p.tables e below (T35.setTop (mkF m 157 #[.val (.int p1), .val (.int p2), .val (.int p3), .val (.int p4), .val (.int p5), .val (.int p6), .val (.int nn), .val (.int r1), .val (.int r2), .val (.int r3), .val (.int r4), .val (.int r5), .val (.ref arr), .unset, .unset] [])) _
              refine XS.goto X35.here hx rfl (pc0 := 157) (pc' := 190) rfl (hb hby at_157) (by decide) (by decide) ?_
              show Steps p.tables e below (T35.setTop (mkF m 190 #[.val (.int p1), .val (.int p2), .val (.int p3), .val (.int p4), .val (.int p5), .val (.int p6), .val (.int nn), .val (.int r1), .val (.int r2), .val (.int r3), .val (.int r4), .val (.int r5), .val (.ref arr), .unset, .unset] [])) _
              exact k_
            refine J _ _ _ _ X35 e35 N35 Zh ?_
            rw [hn]
            refine A35.congr fun j hj => ?_
            have cj : j = 0 ∨ j = 1 ∨ j = 2 ∨ j = 3 := by omega
            rcases cj with rfl | rfl | rfl | rfl <;> rfl
          · refine own_go (T' := T5) (g' := (mkF m 161 #[.val (.int p1), .val (.int p2), .val (.int p3), .val (.int p4), .val (.int p5), .val (.int p6), .val (.int nn), .val (.int r1), .val (.int r2), .val (.int r3), .val (.int r4), .val (.int r5), .unset, .unset, .unset] [(.int (5 : Int32))])) (fun t_ k_ => ?_) ?_
            · refine XS.icmpYes X5.here hx rfl (pc0 := 129) (pc' := 160) rfl (hb hby at_129) rfl (feq c4).2 (by decide) (by decide) ?_
              show Steps p.tables e below (T5.setTop (mkF m 160 #[.val (.int p1), .val (.int p2), .val (.int p3), .val (.int p4), .val (.int p5), .val (.int p6), .val (.int nn), .val (.int r1), .val (.int r2), .val (.int r3), .val (.int r4), .val (.int r5), .unset, .unset, .unset] [])) _
              refine XS.iconst X5.here hx rfl (hb hby at_160) ?_
              show Steps p.tables e below (T5.setTop (mkF m 161 #[.val (.int p1), .val (.int p2), .val (.int p3), .val (.int p4), .val (.int p5), .val (.int p6), .val (.int nn), .val (.int r1), .val (.int r2), .val (.int r3), .val (.int r4), .val (.int r5), .unset, .unset, .unset] [(.int (5 : Int32))])) _
              exact k_
            have hn : nn.toInt.toNat = 5 := by
              have z0 : nn.toInt ≠ 0 := fun q => c0 (Int32.toInt_inj.mp (q.trans q0.symm))
              have z1 : nn.toInt ≠ 1 := fun q => c1 (Int32.toInt_inj.mp (q.trans q1.symm))
              have z2 : nn.toInt ≠ 2 := fun q => c2 (Int32.toInt_inj.mp (q.trans q2.symm))
              have z3 : nn.toInt ≠ 3 := fun q => c3 (Int32.toInt_inj.mp (q.trans q3.symm))
              have z4 : nn.toInt ≠ 4 := fun q => c4 (Int32.toInt_inj.mp (q.trans q4.symm))
              omega
            refine own_newI (n := 5) X5 hx hZ (hw _ (List.mem_of_getElem? (i := 5) rfl)) e5 (by decide) 5 (by decide) (by decide) (by decide) (by decide) rfl rfl (hb hby at_161) ?_
            intro T36 h36 arr g36 X36 e36 E36 A36
            show own_Go p e below s room_1.cells room_1.slots (fun v _ L => v = some (.int (1 : Int32)) ∧ Fr n0 L) T36 (mkF m 163 #[.val (.int p1), .val (.int p2), .val (.int p3), .val (.int p4), .val (.int p5), .val (.int p6), .val (.int nn), .val (.int r1), .val (.int r2), .val (.int r3), .val (.int r4), .val (.int r5), .unset, .unset, .unset] [(.ref arr)])
            have ga : n0 ≤ arr := Nat.le_trans Z0 (Nat.le_of_eq g36.symm)
            have Zh := Nat.le_trans Z0 E36.1
            refine own_go (T' := T36) (g' := (mkF m 167 #[.val (.int p1), .val (.int p2), .val (.int p3), .val (.int p4), .val (.int p5), .val (.int p6), .val (.int nn), .val (.int r1), .val (.int r2), .val (.int r3), .val (.int r4), .val (.int r5), .unset, .unset, .unset] [(.int r1), (.int (0 : Int32)), (.ref arr), (.ref arr)])) (fun t_ k_ => ?_) ?_
            · refine XS.dup X36.here hx rfl (hb hby at_163) rfl rfl ?_
              show Steps p.tables e below (T36.setTop (mkF m 164 #[.val (.int p1), .val (.int p2), .val (.int p3), .val (.int p4), .val (.int p5), .val (.int p6), .val (.int nn), .val (.int r1), .val (.int r2), .val (.int r3), .val (.int r4), .val (.int r5), .unset, .unset, .unset] [(.ref arr), (.ref arr)])) _
              refine XS.iconst X36.here hx rfl (hb hby at_164) ?_
              show Steps p.tables e below (T36.setTop (mkF m 165 #[.val (.int p1), .val (.int p2), .val (.int p3), .val (.int p4), .val (.int p5), .val (.int p6), .val (.int nn), .val (.int r1), .val (.int r2), .val (.int r3), .val (.int r4), .val (.int r5), .unset, .unset, .unset] [(.int (0 : Int32)), (.ref arr), (.ref arr)])) _
              refine XS.iload X36.here hx rfl (hb hby at_165) rfl ?_
              show Steps p.tables e below (T36.setTop (mkF m 167 #[.val (.int p1), .val (.int p2), .val (.int p3), .val (.int p4), .val (.int p5), .val (.int p6), .val (.int nn), .val (.int r1), .val (.int r2), .val (.int r3), .val (.int r4), .val (.int r5), .unset, .unset, .unset] [(.int r1), (.int (0 : Int32)), (.ref arr), (.ref arr)])) _
              exact k_
            refine own_iastore X36 hx hZ e36 A36 0 (by decide) (by decide) rfl rfl (hb hby at_167) ?_
            intro T37 h37 X37 e37 W37 A37
            show own_Go p e below s room_1.cells room_1.slots (fun v _ L => v = some (.int (1 : Int32)) ∧ Fr n0 L) T37 (mkF m 168 #[.val (.int p1), .val (.int p2), .val (.int p3), .val (.int p4), .val (.int p5), .val (.int p6), .val (.int nn), .val (.int r1), .val (.int r2), .val (.int r3), .val (.int r4), .val (.int r5), .unset, .unset, .unset] [(.ref arr)])
            have N37 := Fr.snoc X37 (Fr.app (Fr.app (Fr.app (Fr.app (Fr.app N0 N1) N2) N3) N4) N5) ga
            have Zh : n0 ≤ h37.size := by rw [W37.size]; exact Zh
            refine own_go (T' := T37) (g' := (mkF m 172 #[.val (.int p1), .val (.int p2), .val (.int p3), .val (.int p4), .val (.int p5), .val (.int p6), .val (.int nn), .val (.int r1), .val (.int r2), .val (.int r3), .val (.int r4), .val (.int r5), .unset, .unset, .unset] [(.int r2), (.int (1 : Int32)), (.ref arr), (.ref arr)])) (fun t_ k_ => ?_) ?_
            · refine XS.dup X37.here hx rfl (hb hby at_168) rfl rfl ?_
              show Steps p.tables e below (T37.setTop (mkF m 169 #[.val (.int p1), .val (.int p2), .val (.int p3), .val (.int p4), .val (.int p5), .val (.int p6), .val (.int nn), .val (.int r1), .val (.int r2), .val (.int r3), .val (.int r4), .val (.int r5), .unset, .unset, .unset] [(.ref arr), (.ref arr)])) _
              refine XS.iconst X37.here hx rfl (hb hby at_169) ?_
              show Steps p.tables e below (T37.setTop (mkF m 170 #[.val (.int p1), .val (.int p2), .val (.int p3), .val (.int p4), .val (.int p5), .val (.int p6), .val (.int nn), .val (.int r1), .val (.int r2), .val (.int r3), .val (.int r4), .val (.int r5), .unset, .unset, .unset] [(.int (1 : Int32)), (.ref arr), (.ref arr)])) _
              refine XS.iload X37.here hx rfl (hb hby at_170) rfl ?_
              show Steps p.tables e below (T37.setTop (mkF m 172 #[.val (.int p1), .val (.int p2), .val (.int p3), .val (.int p4), .val (.int p5), .val (.int p6), .val (.int nn), .val (.int r1), .val (.int r2), .val (.int r3), .val (.int r4), .val (.int r5), .unset, .unset, .unset] [(.int r2), (.int (1 : Int32)), (.ref arr), (.ref arr)])) _
              exact k_
            refine own_iastore X37 hx hZ e37 A37 1 (by decide) (by decide) rfl rfl (hb hby at_172) ?_
            intro T38 h38 X38 e38 W38 A38
            show own_Go p e below s room_1.cells room_1.slots (fun v _ L => v = some (.int (1 : Int32)) ∧ Fr n0 L) T38 (mkF m 173 #[.val (.int p1), .val (.int p2), .val (.int p3), .val (.int p4), .val (.int p5), .val (.int p6), .val (.int nn), .val (.int r1), .val (.int r2), .val (.int r3), .val (.int r4), .val (.int r5), .unset, .unset, .unset] [(.ref arr)])
            have N38 := Fr.snoc X38 N37 ga
            have Zh : n0 ≤ h38.size := by rw [W38.size]; exact Zh
            refine own_go (T' := T38) (g' := (mkF m 177 #[.val (.int p1), .val (.int p2), .val (.int p3), .val (.int p4), .val (.int p5), .val (.int p6), .val (.int nn), .val (.int r1), .val (.int r2), .val (.int r3), .val (.int r4), .val (.int r5), .unset, .unset, .unset] [(.int r3), (.int (2 : Int32)), (.ref arr), (.ref arr)])) (fun t_ k_ => ?_) ?_
            · refine XS.dup X38.here hx rfl (hb hby at_173) rfl rfl ?_
              show Steps p.tables e below (T38.setTop (mkF m 174 #[.val (.int p1), .val (.int p2), .val (.int p3), .val (.int p4), .val (.int p5), .val (.int p6), .val (.int nn), .val (.int r1), .val (.int r2), .val (.int r3), .val (.int r4), .val (.int r5), .unset, .unset, .unset] [(.ref arr), (.ref arr)])) _
              refine XS.iconst X38.here hx rfl (hb hby at_174) ?_
              show Steps p.tables e below (T38.setTop (mkF m 175 #[.val (.int p1), .val (.int p2), .val (.int p3), .val (.int p4), .val (.int p5), .val (.int p6), .val (.int nn), .val (.int r1), .val (.int r2), .val (.int r3), .val (.int r4), .val (.int r5), .unset, .unset, .unset] [(.int (2 : Int32)), (.ref arr), (.ref arr)])) _
              refine XS.iload X38.here hx rfl (hb hby at_175) rfl ?_
              show Steps p.tables e below (T38.setTop (mkF m 177 #[.val (.int p1), .val (.int p2), .val (.int p3), .val (.int p4), .val (.int p5), .val (.int p6), .val (.int nn), .val (.int r1), .val (.int r2), .val (.int r3), .val (.int r4), .val (.int r5), .unset, .unset, .unset] [(.int r3), (.int (2 : Int32)), (.ref arr), (.ref arr)])) _
              exact k_
            refine own_iastore X38 hx hZ e38 A38 2 (by decide) (by decide) rfl rfl (hb hby at_177) ?_
            intro T39 h39 X39 e39 W39 A39
            show own_Go p e below s room_1.cells room_1.slots (fun v _ L => v = some (.int (1 : Int32)) ∧ Fr n0 L) T39 (mkF m 178 #[.val (.int p1), .val (.int p2), .val (.int p3), .val (.int p4), .val (.int p5), .val (.int p6), .val (.int nn), .val (.int r1), .val (.int r2), .val (.int r3), .val (.int r4), .val (.int r5), .unset, .unset, .unset] [(.ref arr)])
            have N39 := Fr.snoc X39 N38 ga
            have Zh : n0 ≤ h39.size := by rw [W39.size]; exact Zh
            refine own_go (T' := T39) (g' := (mkF m 182 #[.val (.int p1), .val (.int p2), .val (.int p3), .val (.int p4), .val (.int p5), .val (.int p6), .val (.int nn), .val (.int r1), .val (.int r2), .val (.int r3), .val (.int r4), .val (.int r5), .unset, .unset, .unset] [(.int r4), (.int (3 : Int32)), (.ref arr), (.ref arr)])) (fun t_ k_ => ?_) ?_
            · refine XS.dup X39.here hx rfl (hb hby at_178) rfl rfl ?_
              show Steps p.tables e below (T39.setTop (mkF m 179 #[.val (.int p1), .val (.int p2), .val (.int p3), .val (.int p4), .val (.int p5), .val (.int p6), .val (.int nn), .val (.int r1), .val (.int r2), .val (.int r3), .val (.int r4), .val (.int r5), .unset, .unset, .unset] [(.ref arr), (.ref arr)])) _
              refine XS.iconst X39.here hx rfl (hb hby at_179) ?_
              show Steps p.tables e below (T39.setTop (mkF m 180 #[.val (.int p1), .val (.int p2), .val (.int p3), .val (.int p4), .val (.int p5), .val (.int p6), .val (.int nn), .val (.int r1), .val (.int r2), .val (.int r3), .val (.int r4), .val (.int r5), .unset, .unset, .unset] [(.int (3 : Int32)), (.ref arr), (.ref arr)])) _
              refine XS.iload X39.here hx rfl (hb hby at_180) rfl ?_
              show Steps p.tables e below (T39.setTop (mkF m 182 #[.val (.int p1), .val (.int p2), .val (.int p3), .val (.int p4), .val (.int p5), .val (.int p6), .val (.int nn), .val (.int r1), .val (.int r2), .val (.int r3), .val (.int r4), .val (.int r5), .unset, .unset, .unset] [(.int r4), (.int (3 : Int32)), (.ref arr), (.ref arr)])) _
              exact k_
            refine own_iastore X39 hx hZ e39 A39 3 (by decide) (by decide) rfl rfl (hb hby at_182) ?_
            intro T40 h40 X40 e40 W40 A40
            show own_Go p e below s room_1.cells room_1.slots (fun v _ L => v = some (.int (1 : Int32)) ∧ Fr n0 L) T40 (mkF m 183 #[.val (.int p1), .val (.int p2), .val (.int p3), .val (.int p4), .val (.int p5), .val (.int p6), .val (.int nn), .val (.int r1), .val (.int r2), .val (.int r3), .val (.int r4), .val (.int r5), .unset, .unset, .unset] [(.ref arr)])
            have N40 := Fr.snoc X40 N39 ga
            have Zh : n0 ≤ h40.size := by rw [W40.size]; exact Zh
            refine own_go (T' := T40) (g' := (mkF m 187 #[.val (.int p1), .val (.int p2), .val (.int p3), .val (.int p4), .val (.int p5), .val (.int p6), .val (.int nn), .val (.int r1), .val (.int r2), .val (.int r3), .val (.int r4), .val (.int r5), .unset, .unset, .unset] [(.int r5), (.int (4 : Int32)), (.ref arr), (.ref arr)])) (fun t_ k_ => ?_) ?_
            · refine XS.dup X40.here hx rfl (hb hby at_183) rfl rfl ?_
              show Steps p.tables e below (T40.setTop (mkF m 184 #[.val (.int p1), .val (.int p2), .val (.int p3), .val (.int p4), .val (.int p5), .val (.int p6), .val (.int nn), .val (.int r1), .val (.int r2), .val (.int r3), .val (.int r4), .val (.int r5), .unset, .unset, .unset] [(.ref arr), (.ref arr)])) _
              refine XS.iconst X40.here hx rfl (hb hby at_184) ?_
              show Steps p.tables e below (T40.setTop (mkF m 185 #[.val (.int p1), .val (.int p2), .val (.int p3), .val (.int p4), .val (.int p5), .val (.int p6), .val (.int nn), .val (.int r1), .val (.int r2), .val (.int r3), .val (.int r4), .val (.int r5), .unset, .unset, .unset] [(.int (4 : Int32)), (.ref arr), (.ref arr)])) _
              refine XS.iload X40.here hx rfl (hb hby at_185) rfl ?_
              show Steps p.tables e below (T40.setTop (mkF m 187 #[.val (.int p1), .val (.int p2), .val (.int p3), .val (.int p4), .val (.int p5), .val (.int p6), .val (.int nn), .val (.int r1), .val (.int r2), .val (.int r3), .val (.int r4), .val (.int r5), .unset, .unset, .unset] [(.int r5), (.int (4 : Int32)), (.ref arr), (.ref arr)])) _
              exact k_
            refine own_iastore X40 hx hZ e40 A40 4 (by decide) (by decide) rfl rfl (hb hby at_187) ?_
            intro T41 h41 X41 e41 W41 A41
            show own_Go p e below s room_1.cells room_1.slots (fun v _ L => v = some (.int (1 : Int32)) ∧ Fr n0 L) T41 (mkF m 188 #[.val (.int p1), .val (.int p2), .val (.int p3), .val (.int p4), .val (.int p5), .val (.int p6), .val (.int nn), .val (.int r1), .val (.int r2), .val (.int r3), .val (.int r4), .val (.int r5), .unset, .unset, .unset] [(.ref arr)])
            have N41 := Fr.snoc X41 N40 ga
            have Zh : n0 ≤ h41.size := by rw [W41.size]; exact Zh
            refine own_go (T' := T41) (g' := (mkF m 190 #[.val (.int p1), .val (.int p2), .val (.int p3), .val (.int p4), .val (.int p5), .val (.int p6), .val (.int nn), .val (.int r1), .val (.int r2), .val (.int r3), .val (.int r4), .val (.int r5), .val (.ref arr), .unset, .unset] [])) (fun t_ k_ => ?_) ?_
            · refine XS.astore X41.here hx rfl (hb hby at_188) rfl rfl (l' := #[.val (.int p1), .val (.int p2), .val (.int p3), .val (.int p4), .val (.int p5), .val (.int p6), .val (.int nn), .val (.int r1), .val (.int r2), .val (.int r3), .val (.int r4), .val (.int r5), .val (.ref arr), .unset, .unset]) rfl ?_
              show Steps p.tables e below (T41.setTop (mkF m 190 #[.val (.int p1), .val (.int p2), .val (.int p3), .val (.int p4), .val (.int p5), .val (.int p6), .val (.int nn), .val (.int r1), .val (.int r2), .val (.int r3), .val (.int r4), .val (.int r5), .val (.ref arr), .unset, .unset] [])) _
              exact k_
            refine J _ _ _ _ X41 e41 N41 Zh ?_
            rw [hn]
            refine A41.congr fun j hj => ?_
            have cj : j = 0 ∨ j = 1 ∨ j = 2 ∨ j = 3 ∨ j = 4 := by omega
            rcases cj with rfl | rfl | rfl | rfl | rfl <;> rfl
set_option maxRecDepth 65536 in
set_option maxHeartbeats 40000000 in
theorem comes_1 {Post : Tables → Env → Array Value → State → Outcome → State → Prop} (hpost : ∀ tb e args s v u, (limb_1_1.after args s (.returned v) u = true ∧ limb_1_2.after args s (.returned v) u = true ∧ True) → FrameEnd s (.returned v) u (Jvm.fieldLocs frame_1_writes args s ++ Jvm.arrayLocs frame_1_arrays args s ++ Jvm.staticLocs frame_1_statics s) 16 128 → Post tb e args s (.returned v) u) :
    ArmFor flags0 classFile x code maxLocals ret World_1 tables_1 room_1 Calls_1 rest_1 Pre_1 Post := by
  intro l hfl _ _ p e ha hc hk s m args below hf hA hF happ hP
  obtain ⟨hcalls, hrest, hpre⟩ := hP
  obtain ⟨-, -, -, hnamed, -, -, -, hat⟩ := (Spec.applies_iff hf).mp happ
  obtain ⟨hg, hn⟩ := and_e (Cond.before_iff.mp (show (Jvm.Cond.and given_1 narrow_1).before args s = true from hpre))
  obtain ⟨gc, gr0⟩ := and_e hg
  obtain ⟨gk0, gr1⟩ := and_e gr0
  obtain ⟨gk1, gr2⟩ := and_e gr1
  obtain ⟨gk2, gr3⟩ := and_e gr2
  obtain ⟨gk3, gr4⟩ := and_e gr3
  obtain ⟨gk4, gr5⟩ := and_e gr4
  have gk5 := gr5
  obtain ⟨w0, w1, w2, w3, w4, w5, rfl⟩ : ∃ w0 w1 w2 w3 w4 w5 : Value, args = #[w0, w1, w2, w3, w4, w5] := by
    have hs : args.size = 6 := by simpa [Cond.value, given_1] using gc
    obtain ⟨L⟩ := args
    match L, hs with
    | [w0, w1, w2, w3, w4, w5], _ => exact ⟨w0, w1, w2, w3, w4, w5, rfl⟩
  have hw := fun d (hd : d ∈ tables_1) => atoms_spec (ws := Jvm.Cond.code x code maxLocals ret :: tables_1) hat d (List.mem_cons_of_mem _ hd)
  have hfit : Fit s := fun {y c} hc i hi => by
    obtain ⟨ha, rfl⟩ := Array.getElem?_eq_some_iff.mp hc
    have q := List.all_eq_true.mp ((Array.all_eq_true_iff_forall_mem.mp hF) _ (Array.getElem_mem ha)) i (List.mem_range.mpr hi)
    simpa [Array.getElem?_eq_getElem hi] using q
  obtain ⟨i0, ei0⟩ := is_v gk0
  obtain rfl : w0 = (.int i0) := Option.some.inj ei0
  obtain ⟨i1, ei1⟩ := is_v gk1
  obtain rfl : w1 = (.int i1) := Option.some.inj ei1
  obtain ⟨i2, ei2⟩ := is_v gk2
  obtain rfl : w2 = (.int i2) := Option.some.inj ei2
  obtain ⟨i3, ei3⟩ := is_v gk3
  obtain rfl : w3 = (.int i3) := Option.some.inj ei3
  obtain ⟨i4, ei4⟩ := is_v gk4
  obtain rfl : w4 = (.int i4) := Option.some.inj ei4
  obtain ⟨i5, ei5⟩ := is_v gk5
  obtain rfl : w5 = (.int i5) := Option.some.inj ei5
  obtain ⟨n, o, h1, h2, h3, _, L, rfl, ⟨rfl, N⟩, hq⟩ := rm0 l s _ hw tables_1 i0 i1 i2 i3 i4 i5 s.heap s.heap.size (Nat.le_refl _) p e ha hc hk s m _ below hf ((Spec.applies_iff_loose hf).mp happ).1 ⟨rfl, State.Warmed39.refl s, rfl⟩ trivial
  refine ⟨n, _, h1, h2, h3, hpost _ _ _ _ _ _ ⟨Cond.after_iff.mpr rfl, Cond.after_iff.mpr (eq_i res_at (Term.int_eval (1)) rfl), trivial⟩ ⟨hq.1, hq.2.1, (hq.2.2.sift fun y hy => Or.inr (N y hy)).mono (by decide) (by decide)⟩⟩
theorem main_1_1 : Claimed_1_1 := comes_1 fun _ _ _ _ _ _ h hF => ⟨h.1, hF⟩
theorem main_1_2 : Claimed_1_2 := comes_1 fun _ _ _ _ _ _ h hF => ⟨h.2.1, hF⟩
end Jvm.Pilot.@@N@@
namespace Jvm.Pilot.@@N@@
open Jvm Jvm.ClassFile Sem Op Lib Jvm.Free Jvm.Stand Jvm.Pilot.@@N@@.Jvm.D
/-! MADE BY PROGRAM (witnessworld.py) out of the Statement's table words and the real class files: 10 classes; the members and pool entries that the words name. The judged class is class 1, her method 2. -/
namespace start1
open Jvm.ClassFile
def u (s : String) : CpInfo := .utf8 (stringToUtf16 s)
/-- a pool by its gaps: so many unusable entries, then the entry; so many at the end -/
def gap : Nat → List CpInfo → List CpInfo
  | 0, r => r
  | n + 1, r => .unusable :: gap n r
def poolList (es : List (Nat × CpInfo)) (last : Nat) : List CpInfo := es.foldr (fun e r => gap e.1 (e.2 :: r)) (gap last [])
def pool (es : List (Nat × CpInfo)) (last : Nat) : Array CpInfo := ⟨poolList es last⟩
def fileOf (pool : Array CpInfo) (this : Nat) (attrs : Array Attribute := #[]) (ms : Array MethodInfo := #[]) (fl : Nat := 33) (sup : Nat := 0) (ifs : Array Nat := #[]) (fds : Array FieldInfo := #[]) : ClassFile where
  minorVersion := 0
  majorVersion := 65
  constantPool := pool
  accessFlags := fl
  thisClass := this
  superClass := sup
  interfaces := ifs
  fields := fds
  methods := ms
  attributes := attrs
def plain (name : String) (sup : Option ClassId) : Class where
  name := name
  kind := .ordinary
  loader := none
  accessFlags := 33
  super := sup
  interfaces := #[]
  cf := none
  fields := #[]
  methods := #[]
  instanceTypes := #[]
  staticTypes := #[]
  resolved := #[]
  callSites := []
  init := .initialized
  statics := none
  mirror := none

def pool0 : Array CpInfo := pool [(5, u "<init>"), (0, u "()V"), (1, .class_ 10), (1, u "java/lang/Object")] 113

def k0c0 : Code := { maxStack := 0, maxLocals := 1, code := object_method_1_code, exceptionTable := #[], attributes := #[] }
def k0m0 : Method := { name := "<init>", desc := "()V", sig := { parameters := [], returnType := none }, accessFlags := 1, code := some k0c0 }
/-- java/lang/Object -/
def k0 : Class := { plain "java/lang/Object" none with
  accessFlags := 33
  interfaces := #[]
  cf := some (fileOf pool0 8 #[] #[{ accessFlags := 1, nameIndex := 5, descriptorIndex := 6, attributes := #[] }] 33 0 #[] #[])
  fields := #[]
  methods := #[k0m0]
  instanceTypes := #[]
  staticTypes := #[]
  resolved := Array.replicate 124 none
  statics := none }

def pool1 : Array CpInfo := pool [(2, .class_ 4), (1, u "java/lang/Object"), (0, u "<init>"), (0, u "()V"), (0, .integer 2147483647), (0, .methodref 9 10), (0, .class_ 11), (0, .nameAndType 12 13), (0, u "com/example/implied_anchor/impliedanchor/evaluation/JudgedRankingFirstRelevantRankPinLaw"), (0, u "gain"), (0, u "(I)I"), (0, .class_ 15), (0, u "com/example/implied_anchor/impliedanchor/evaluation/JudgedRanking"), (0, .methodref 14 17), (0, .nameAndType 5 18), (0, u "([I[I)V"), (0, .methodref 14 20), (0, .nameAndType 21 22), (0, u "firstRelevantRank"), (0, u "()I"), (3, u "law"), (0, u "(IIIIII)Z")] 4

def k1m0 : Method := { name := "<init>", desc := "()V", sig := { parameters := [], returnType := none }, accessFlags := 2, code := none }
def k1c1 : Code := { maxStack := 2, maxLocals := 1, code := method_2_code, exceptionTable := #[], attributes := #[] }
def k1m1 : Method := { name := "gain", desc := "(I)I", sig := { parameters := [.int], returnType := some .int }, accessFlags := 10, code := some k1c1 }
def k1c2 : Code := { maxStack := 4, maxLocals := 15, code := code, exceptionTable := #[], attributes := #[] }
def k1m2 : Method := { name := "law", desc := "(IIIIII)Z", sig := { parameters := [.int, .int, .int, .int, .int, .int], returnType := some .boolean }, accessFlags := 9, code := some k1c2 }
/-- com/example/implied_anchor/impliedanchor/evaluation/JudgedRankingFirstRelevantRankPinLaw -/
def k1 : Class := { plain "com/example/implied_anchor/impliedanchor/evaluation/JudgedRankingFirstRelevantRankPinLaw" (some 0) with
  accessFlags := 49
  interfaces := #[]
  cf := some (fileOf pool1 9 #[] #[{ accessFlags := 2, nameIndex := 5, descriptorIndex := 6, attributes := #[] }, { accessFlags := 10, nameIndex := 12, descriptorIndex := 13, attributes := #[] }, { accessFlags := 9, nameIndex := 26, descriptorIndex := 27, attributes := #[] }] 49 2 #[] #[])
  fields := #[]
  methods := #[k1m0, k1m1, k1m2]
  instanceTypes := #[]
  staticTypes := #[]
  resolved := Array.replicate 32 none
  statics := none }

def pool2 : Array CpInfo := pool [(1, .methodref 2 3), (0, .class_ 4), (0, .nameAndType 5 6), (0, u "java/lang/Object"), (0, u "<init>"), (0, u "()V"), (0, .class_ 8), (0, u "java/lang/Record")] 13

def k2c0 : Code := { maxStack := 1, maxLocals := 1, code := jdk_30_method_1_code, exceptionTable := #[], attributes := #[] }
def k2m0 : Method := { name := "<init>", desc := "()V", sig := { parameters := [], returnType := none }, accessFlags := 4, code := some k2c0 }
/-- java/lang/Record -/
def k2 : Class := { plain "java/lang/Record" (some 0) with
  accessFlags := 1057
  interfaces := #[]
  cf := some (fileOf pool2 7 #[] #[{ accessFlags := 4, nameIndex := 5, descriptorIndex := 6, attributes := #[] }] 1057 2 #[] #[])
  fields := #[]
  methods := #[k2m0]
  instanceTypes := #[]
  staticTypes := #[]
  resolved := Array.replicate 22 none
  statics := none }

def pool3 : Array CpInfo := pool [(1, .methodref 2 3), (0, .class_ 4), (0, .nameAndType 5 6), (0, u "java/lang/Record"), (0, u "<init>"), (0, u "()V"), (0, .fieldref 8 9), (0, .class_ 10), (0, .nameAndType 11 12), (0, u "com/example/implied_anchor/impliedanchor/evaluation/JudgedRanking"), (0, u "gains"), (0, u "[I"), (0, .fieldref 8 14), (0, .nameAndType 15 12), (0, u "idealGains"), (54, u "([I[I)V"), (5, u "()I"), (39, u "firstRelevantRank")] 53

def k3c0 : Code := { maxStack := 2, maxLocals := 3, code := prog_28_method_1_code, exceptionTable := #[], attributes := #[] }
def k3m0 : Method := { name := "<init>", desc := "([I[I)V", sig := { parameters := [(.array .int), (.array .int)], returnType := none }, accessFlags := 0, code := some k3c0 }
def k3c1 : Code := { maxStack := 2, maxLocals := 2, code := prog_28_method_3_code, exceptionTable := #[], attributes := #[] }
def k3m1 : Method := { name := "firstRelevantRank", desc := "()I", sig := { parameters := [], returnType := some .int }, accessFlags := 0, code := some k3c1 }
/-- com/example/implied_anchor/impliedanchor/evaluation/JudgedRanking -/
def k3 : Class := { plain "com/example/implied_anchor/impliedanchor/evaluation/JudgedRanking" (some 2) with
  accessFlags := 48
  interfaces := #[]
  cf := some (fileOf pool3 8 #[] #[{ accessFlags := 0, nameIndex := 5, descriptorIndex := 70, attributes := #[] }, { accessFlags := 0, nameIndex := 116, descriptorIndex := 76, attributes := #[] }] 48 2 #[] #[{ accessFlags := 18, nameIndex := 11, descriptorIndex := 12, attributes := #[] }, { accessFlags := 18, nameIndex := 15, descriptorIndex := 12, attributes := #[] }])
  fields := #[{ name := "gains", type := (.array .int), accessFlags := 18, slot := 0, constantValue := 0 }, { name := "idealGains", type := (.array .int), accessFlags := 18, slot := 1, constantValue := 0 }]
  methods := #[k3m0, k3m1]
  instanceTypes := #[(.array .int), (.array .int)]
  staticTypes := #[]
  resolved := Array.replicate 170 none
  statics := none }

def pool4 : Array CpInfo := pool [(1, u "java/lang/Cloneable"), (0, .class_ 1), (0, u "java/lang/Object"), (0, .class_ 3)] 3

/-- java/lang/Cloneable -/
def k4 : Class := { plain "java/lang/Cloneable" (some 0) with
  accessFlags := 1537
  interfaces := #[]
  cf := some (fileOf pool4 2 #[] #[] 1537 4 #[] #[])
  fields := #[]
  methods := #[]
  instanceTypes := #[]
  staticTypes := #[]
  resolved := Array.replicate 8 none
  statics := none }

def pool5 : Array CpInfo := pool [(1, u "java/io/Serializable"), (0, .class_ 1), (0, u "java/lang/Object"), (0, .class_ 3)] 3

/-- java/io/Serializable -/
def k5 : Class := { plain "java/io/Serializable" (some 0) with
  accessFlags := 1537
  interfaces := #[]
  cf := some (fileOf pool5 2 #[] #[] 1537 4 #[] #[])
  fields := #[]
  methods := #[]
  instanceTypes := #[]
  staticTypes := #[]
  resolved := Array.replicate 8 none
  statics := none }

/-- the primitive byte -/
def k6 : Class := { plain "byte" none with kind := .primitive 'B', accessFlags := 0x411 }
/-- [B -/
def k7 : Class := { plain "[B" (some 0) with kind := .array 6 .byte, interfaces := #[4, 5], accessFlags := 1041 }

/-- the primitive int -/
def k8 : Class := { plain "int" none with kind := .primitive 'I', accessFlags := 0x411 }
/-- [I -/
def k9 : Class := { plain "[I" (some 0) with kind := .array 8 .int, interfaces := #[4, 5], accessFlags := 1041 }

def heap : Heap := #[]
def classes : Array Class := #[k0, k1, k2, k3, k4, k5, k6, k7, k8, k9]
def interned : List (Array UInt16 × Addr) := []
def slotsUsed : Nat := 0
def theMethod : MethodId := ⟨1, 2⟩
def args0 : Array Value := #[.int 1, .int 2, .int 3, .int 4, .int 5, .int 6]
def aboutOver (below : List Frame) : State where
  vm := { classes := classes, interned := interned.toArray }
  heap := heap
  slotsUsed := slotsUsed
  threads := #[{ frames := .invoking theMethod args0 :: below }]
def below0 : List Frame := [.native { method := ⟨0, 0⟩, args := #[] }]
def about1 : State := aboutOver below0
def p0 : Program := .bare "" "" ""
def e0 : Env := launch0.env 0 0 0
theorem w_frames : about1.frames = Frame.invoking theMethod args0 :: below0 := rfl
set_option maxRecDepth 65536 in
theorem w_args : argsFit about1.vm theMethod args0 = true := by decide +kernel
set_option maxRecDepth 65536 in
theorem w_heap : heapFits about1 = true := by decide +kernel
set_option maxRecDepth 65536 in
theorem w_runnable : about1.curStatus? = some .runnable := by decide +kernel
set_option maxRecDepth 65536 in
theorem w_alone : about1.alone = true := by decide +kernel
set_option maxRecDepth 65536 in
theorem w_named : about1.methodNamed? x = some theMethod := by decide +kernel
set_option maxRecDepth 65536 in
theorem w_hears : about1.hears theMethod below0 = true := by decide +kernel
set_option maxRecDepth 65536 in
theorem w_ripe : about1.ripe theMethod args0 below0 = true := by decide +kernel
theorem w_running : about1.status = .running := rfl
set_option maxRecDepth 65536 in
theorem w_room : about1.hasRoom e0.platform room_1 = true :=
  launch0.hasRoom_least _ room_1 (by decide +kernel) (by decide +kernel) (by decide +kernel) (by decide +kernel) (by decide +kernel) (by decide +kernel)
theorem allAtoms_all (ts : List Jvm.Cond) (a : Array Jvm.Value) (st : Jvm.State) : (allAtoms ts).before a st = ts.all (fun c => c.before a st) := by
  induction ts with
  | nil => rfl
  | cons c t ih =>
    show (Jvm.Cond.and c (allAtoms t)).before a st = _
    rw [Jvm.Cond.before_and, ih, List.all_cons]
def words1 : List Jvm.Cond := Jvm.Cond.code x code maxLocals ret :: tables_1
/-- a 'code' word, met by the world's own term for the bytes: nothing is compared byte by byte -/
theorem code_word {y : MethodName} {bytes : ByteArray} {mx : Nat} {rt : Option FieldType} {a : Array Value} {s : State} {m : MethodId} {meth : Method} {c : Code} (h1 : s.methodNamed? y = some m) (h2 : s.vm.method? m = some meth) (h3 : meth.code = some c) (h4 : c.code = bytes)
    (h5 : (c.maxLocals == mx && c.exceptionTable.isEmpty && decide (c.maxStack ≤ mostOperands) && decide (meth.sig.returnType = rt) && !meth.locks && decide (parseMethodDescriptor y.desc = some meth.sig)) = true) : (Jvm.Cond.code y bytes mx rt).before a s = true := by
  simp only [Bool.and_eq_true, beq_iff_eq, Bool.not_eq_true', decide_eq_true_eq] at h5
  obtain ⟨⟨⟨⟨⟨g1, g2⟩, g3⟩, g4⟩, g5⟩, g6⟩ := h5
  simp [Cond.before, Cond.holds, Cond.value, h1, h2, h3, h4, g1, g2, g3, g4, g5, g6]
def isCode : Jvm.Cond → Bool
  | .code _ _ _ _ => true
  | _ => false
theorem all_split {L : List Jvm.Cond} {P : Jvm.Cond → Bool} (h1 : L.all (fun c => isCode c || P c) = true) (h2 : ∀ c ∈ L.filter isCode, P c = true) : L.all P = true := by
  refine List.all_eq_true.mpr fun c hc => ?_
  have h := List.all_eq_true.mp h1 c hc
  rcases Bool.eq_false_or_eq_true (isCode c) with hi | hi
  · exact h2 c (List.mem_filter.mpr ⟨hc, hi⟩)
  · simpa [hi] using h
set_option maxRecDepth 65536 in
theorem w_c0 : (Jvm.Cond.code x code maxLocals ret).before args0 about1 = true := code_word (m := ⟨1, 2⟩) (meth := k1m2) (c := k1c2) (by decide +kernel) rfl rfl rfl (by decide +kernel)
set_option maxRecDepth 65536 in
theorem w_c1 : (Jvm.Cond.code ({ cls := "com/example/implied_anchor/impliedanchor/evaluation/JudgedRankingFirstRelevantRankPinLaw", name := "gain", desc := "(I)I" } : Jvm.MethodName) method_2_code (1 : Nat) (Option.some Jvm.ClassFile.FieldType.int)).before args0 about1 = true := code_word (m := ⟨1, 1⟩) (meth := k1m1) (c := k1c1) (by decide +kernel) rfl rfl rfl (by decide +kernel)
set_option maxRecDepth 65536 in
theorem w_c2 : (Jvm.Cond.code ({ cls := "com/example/implied_anchor/impliedanchor/evaluation/JudgedRanking", name := "<init>", desc := "([I[I)V" } : Jvm.MethodName) prog_28_method_1_code (3 : Nat) (Option.none : Option Jvm.ClassFile.FieldType)).before args0 about1 = true := code_word (m := ⟨3, 0⟩) (meth := k3m0) (c := k3c0) (by decide +kernel) rfl rfl rfl (by decide +kernel)
set_option maxRecDepth 65536 in
theorem w_c3 : (Jvm.Cond.code ({ cls := "java/lang/Record", name := "<init>", desc := "()V" } : Jvm.MethodName) jdk_30_method_1_code (1 : Nat) (Option.none : Option Jvm.ClassFile.FieldType)).before args0 about1 = true := code_word (m := ⟨2, 0⟩) (meth := k2m0) (c := k2c0) (by decide +kernel) rfl rfl rfl (by decide +kernel)
set_option maxRecDepth 65536 in
theorem w_c4 : (Jvm.Cond.code ({ cls := "java/lang/Object", name := "<init>", desc := "()V" } : Jvm.MethodName) object_method_1_code (1 : Nat) (Option.none : Option Jvm.ClassFile.FieldType)).before args0 about1 = true := code_word (m := ⟨0, 0⟩) (meth := k0m0) (c := k0c0) (by decide +kernel) rfl rfl rfl (by decide +kernel)
set_option maxRecDepth 65536 in
theorem w_c5 : (Jvm.Cond.code ({ cls := "com/example/implied_anchor/impliedanchor/evaluation/JudgedRanking", name := "firstRelevantRank", desc := "()I" } : Jvm.MethodName) prog_28_method_3_code (2 : Nat) (Option.some Jvm.ClassFile.FieldType.int)).before args0 about1 = true := code_word (m := ⟨3, 1⟩) (meth := k3m1) (c := k3c1) (by decide +kernel) rfl rfl rfl (by decide +kernel)
def codes1 : List Jvm.Cond := [Jvm.Cond.code x code maxLocals ret, Jvm.Cond.code ({ cls := "com/example/implied_anchor/impliedanchor/evaluation/JudgedRankingFirstRelevantRankPinLaw", name := "gain", desc := "(I)I" } : Jvm.MethodName) method_2_code (1 : Nat) (Option.some Jvm.ClassFile.FieldType.int), Jvm.Cond.code ({ cls := "com/example/implied_anchor/impliedanchor/evaluation/JudgedRanking", name := "<init>", desc := "([I[I)V" } : Jvm.MethodName) prog_28_method_1_code (3 : Nat) (Option.none : Option Jvm.ClassFile.FieldType), Jvm.Cond.code ({ cls := "java/lang/Record", name := "<init>", desc := "()V" } : Jvm.MethodName) jdk_30_method_1_code (1 : Nat) (Option.none : Option Jvm.ClassFile.FieldType), Jvm.Cond.code ({ cls := "java/lang/Object", name := "<init>", desc := "()V" } : Jvm.MethodName) object_method_1_code (1 : Nat) (Option.none : Option Jvm.ClassFile.FieldType), Jvm.Cond.code ({ cls := "com/example/implied_anchor/impliedanchor/evaluation/JudgedRanking", name := "firstRelevantRank", desc := "()I" } : Jvm.MethodName) prog_28_method_3_code (2 : Nat) (Option.some Jvm.ClassFile.FieldType.int)]
set_option maxRecDepth 65536 in
theorem codes_eq : words1.filter isCode = codes1 := rfl
theorem w_codes : ∀ c ∈ words1.filter isCode, c.before args0 about1 = true := by
  rw [codes_eq]
  intro c hc
  simp only [codes1, List.mem_cons, List.not_mem_nil, or_false] at hc
  rcases hc with rfl | rfl | rfl | rfl | rfl | rfl
  · exact w_c0
  · exact w_c1
  · exact w_c2
  · exact w_c3
  · exact w_c4
  · exact w_c5
set_option maxRecDepth 65536 in
theorem w_t1 : (words1.take 24).all (fun c => isCode c || c.before args0 about1) = true := by decide +kernel
set_option maxRecDepth 65536 in
theorem w_t2 : (words1.drop 24).all (fun c => isCode c || c.before args0 about1) = true := by decide +kernel
theorem w_tables : (allAtoms (Jvm.Cond.code x code maxLocals ret :: tables_1)).before args0 about1 = true := by
  rw [allAtoms_all]
  show words1.all (fun c => c.before args0 about1) = true
  refine all_split ?_ w_codes
  rw [← List.take_append_drop 24 words1, List.all_append, w_t1, w_t2]
  rfl
set_option maxRecDepth 65536 in
theorem w_case : (Jvm.Cond.and given_1 narrow_1).before args0 about1 = true := by decide +kernel
theorem w_applies : (headSpec (Jvm.Cond.code x code maxLocals ret :: tables_1) room_1).applies x e0.platform about1 = true :=
  (Spec.applies_iff w_frames).mpr ⟨w_running, w_runnable, w_alone, w_named, w_hears, w_ripe, w_room, w_tables⟩
theorem atStart : AtStart classFile x code maxLocals ret World_1 tables_1 room_1 Calls_1 rest_1 Pre_1 launch0 p0 e0 about1 theMethod args0 below0 :=
  ⟨lists_1, trivial, launch0.admits_env _ _ _, launch0.least_env, fairChoices_fair.cas, fairChoices_fair.clock, w_frames, w_args, w_heap, w_applies, trivial, trivial, w_case⟩
end start1
theorem witness_1 : WitnessClaimed_1 := ⟨start1.p0, start1.e0, start1.about1, start1.theMethod, start1.args0, start1.below0, start1.atStart⟩
end Jvm.Pilot.@@N@@
