import JvmDerived
import JvmDerived.Pilot.@@N@@Statement
import JvmDerived.Pilot.@@N@@Code
set_option linter.unusedVariables false
set_option linter.unusedSimpArgs false
namespace Jvm.Pilot.@@N@@
open Jvm Jvm.ClassFile Sem Op Lib Jvm.Free Jvm.Stand Jvm.LawKit Jvm.RoadKit Bundle Jvm.Pilot.@@N@@.Jvm.D
section Own
variable {p : Program} {l : Launch} {e : Env} {R : Room} {s : State} {m : MethodId} {args : Array Value} {below : List Frame} {meth : Method} {c : Code} {T T' : State} {locs : List Loc} {cells slots : Nat} {C S : Nat} {Q : Option Value → Heap → List Loc → Prop} {g g' : JFrame} {Z : State} {a0 : Array Value}
/-- from T with the frame g on top the method runs to its end, and ends as Q says -/
def own_Go (p : Program) (e : Env) (below : List Frame) (s : State) (C S : Nat) (Q : Option Value → Heap → List Loc → Prop) (T : State) (g : JFrame) : Prop :=
  ∃ s₂ o, Steps p.tables e below (T.setTop g) s₂ ∧ s₂.status = .running ∧ Ended s₂ below o ∧ ∃ v L, o = .returned v ∧ Q v s₂.heap L ∧ FrameEnd s o s₂ L C S
theorem own_go (k : ∀ t, Steps p.tables e below (T'.setTop g') t → Steps p.tables e below (T.setTop g) t) (h : own_Go p e below s C S Q T' g') : own_Go p e below s C S Q T g := by
  obtain ⟨s₂, o, h1, r⟩ := h
  exact ⟨s₂, o, k _ h1, r⟩
theorem own_end (X : Stand p l e R s m args below meth c T locs cells slots) (hk : meth.locks = false) (v : Option Value) (hv : meth.sig.returnType = none → v = none) (hC : cells ≤ C) (hS : slots ≤ S) (hq : Q v T.heap locs)
    (hst : ∀ fs, (∀ (f : JFrame) (acts : List Action), f.method = m → f.locked = none → f.entered = [] → (doReturn e (T.setTop f) acts v).1 = T.setFrames fs) → Steps p.tables e below (T.setTop g) (T.setFrames fs)) : own_Go p e below s C S Q T g := by
  obtain ⟨fs, hr, hrun, hended, hW, hsame⟩ := X.leave (v := v) hv hk
  exact ⟨_, _, hst fs hr, hrun, hended, v, locs, rfl, hq, ⟨_, rfl⟩, hW, hsame.mono hC hS⟩
theorem own_retI (X : Stand p l e R s m args below meth c T locs cells slots) (hx : p.tables.exec = Jvm.exec) (hret : meth.sig.returnType = some .int) (hk : meth.locks = false) {pc : Nat} {Ls : Array Slot} {z : Int32} {rest : List Value} (hd : decode c.code pc = .ok (.ireturn, 1)) (hC : cells ≤ C) (hS : slots ≤ S) (hq : Q (some (.int z)) T.heap locs) :
    own_Go p e below s C S Q T (mkF m pc Ls (.int z :: rest)) :=
  own_end X hk _ (fun h => by rw [hret] at h; cases h) hC hS hq fun fs hr => retOut X hx hret rfl (Or.inl ⟨rfl, Or.inl rfl, _, rfl⟩) hd hr
theorem own_retZ (X : Stand p l e R s m args below meth c T locs cells slots) (hx : p.tables.exec = Jvm.exec) (hret : meth.sig.returnType = some .boolean) (hk : meth.locks = false) {pc : Nat} {Ls : Array Slot} {z : Int32} {rest : List Value} (hz : nar .boolean z = z) (hd : decode c.code pc = .ok (.ireturn, 1)) (hC : cells ≤ C) (hS : slots ≤ S) (hq : Q (some (.int z)) T.heap locs) :
    own_Go p e below s C S Q T (mkF m pc Ls (.int z :: rest)) :=
  own_end X hk _ (fun h => by rw [hret] at h; cases h) hC hS hq fun fs hr => retN X hx (t := .boolean) hret (Or.inl rfl) hd (by rw [hz]; exact hr)
theorem own_retL (X : Stand p l e R s m args below meth c T locs cells slots) (hx : p.tables.exec = Jvm.exec) (hret : meth.sig.returnType = some .long) (hk : meth.locks = false) {pc : Nat} {Ls : Array Slot} {z : Int64} {rest : List Value} (hd : decode c.code pc = .ok (.lreturn, 1)) (hC : cells ≤ C) (hS : slots ≤ S) (hq : Q (some (.long z)) T.heap locs) :
    own_Go p e below s C S Q T (mkF m pc Ls (.long z :: rest)) :=
  own_end X hk _ (fun h => by rw [hret] at h; cases h) hC hS hq fun fs hr => retOut X hx hret rfl (Or.inr (Or.inl ⟨rfl, rfl, _, rfl⟩)) hd hr
theorem own_retA (X : Stand p l e R s m args below meth c T locs cells slots) (hx : p.tables.exec = Jvm.exec) {t : FieldType} (ht : t.isReference = true) (hret : meth.sig.returnType = some t) (hk : meth.locks = false) {pc : Nat} {Ls : Array Slot} {a : Addr} (hd : decode c.code pc = .ok (.areturn, 1)) (hC : cells ≤ C) (hS : slots ≤ S) (hq : Q (some (.ref a)) T.heap locs) :
    own_Go p e below s C S Q T (mkF m pc Ls [.ref a]) :=
  own_end X hk _ (fun h => by rw [hret] at h; cases h) hC hS hq fun fs hr => X.areturnOut hx rfl hret ht hd hr
theorem own_retV (X : Stand p l e R s m args below meth c T locs cells slots) (hx : p.tables.exec = Jvm.exec) (hret : meth.sig.returnType = none) (hk : meth.locks = false) {pc : Nat} {Ls : Array Slot} (hd : decode c.code pc = .ok (.return_, 1)) (hC : cells ≤ C) (hS : slots ≤ S) (hq : Q none T.heap locs) :
    own_Go p e below s C S Q T (mkF m pc Ls []) :=
  own_end X hk _ (fun _ => rfl) hC hS hq fun fs hr => X.returnOut hx hret hd hr
/-- the contract of one body: entered with the values as' and the heap h, it returns as Q says -/
abbrev own_Con (l : Launch) (Z : State) (y : MethodName) (bytes : ByteArray) (maxL : Nat) (ret : Option FieldType) (ws : List Jvm.Cond) (rm : Room) (as' : Array Value) (h : Heap) (Q : Option Value → Heap → List Loc → Prop) : Prop :=
  MetFree l y (head1 (Jvm.Cond.code y bytes maxL ret :: ws) rm) (fun a U => a = as' ∧ Z.Warmed39 U.vm ∧ U.heap = h) (fun _ _ _ _ _ => True) (fun _ U o U' => ∃ v L, o = .returned v ∧ Q v U'.heap L ∧ FrameEnd U o U' L rm.cells rm.slots)
theorem own_body {y : MethodName} {bytes : ByteArray} {maxL : Nat} {ret : Option FieldType} {ws : List Jvm.Cond} {rm : Room} {as' : Array Value} {h : Heap} (hp : plainFor y = true)
    (body : ∀ (p : Program) (e : Env) (s : State) (m : MethodId) (below : List Frame) (meth : Method) (c : Code) (s₁ : State), p.tables.exec = Jvm.exec → c.code = bytes → c.maxLocals = maxL → Z.Warmed39 s.vm → s.vm.findClass y.cls = some m.cls → meth.name = y.name → meth.sig.returnType = ret → meth.locks = false → s₁.heap = h →
      Stand p l e rm s m as' below meth c s₁ [] 0 0 → own_Go p e below s rm.cells rm.slots Q s₁ (entryFrame m as' maxL)) : own_Con l Z y bytes maxL ret ws rm as' h Q := by
  refine MetFree.of_bodySF hp hisR ?_
  intro p e s m args below meth c s₁ Bd hml hP hK
  obtain ⟨rfl, hZ, hh⟩ := hP
  exact body p e s m below meth c s₁ Bd.exec Bd.bytes hml hZ (findClass_of_methodNamed Bd.named) (name_of_methodNamed Bd.named Bd.method).1 Bd.returns Bd.notSynchronized (by rw [← hh, Bd.state]; rfl) (Stand.of_body Bd)
theorem own_cast {g₀ : JFrame} (q : g₀ = g) (h : own_Go p e below s C S Q T g) : own_Go p e below s C S Q T g₀ := q ▸ h
/-- a static call by its callee's contract -/
theorem own_callS (X : Stand p l e R s m args below meth c T locs cells slots) (hx : p.tables.exec = Jvm.exec) (hZ : Z.Warmed39 s.vm) {own : String} {index : Nat} {y : MethodName} {bytes : ByteArray} {maxL : Nat} {ret : Option FieldType} {rm : Room} {W : Nat} {h : Heap} {Q' : Option Value → Heap → List Loc → Prop} {argsL rest : List Value}
    (hown : s.vm.findClass own = some m.cls) (w1 : (Jvm.Cond.methodLink own index y).before a0 Z = true) (w2 : (Jvm.Cond.static y).before a0 Z = true) (w3 : (Jvm.Cond.initialized y.cls).before a0 Z = true) (w4 : (Jvm.Cond.code y bytes maxL ret).before a0 Z = true) (hy : y.cls ≠ "java/lang/invoke/MethodHandle" ∧ y.cls ≠ "java/lang/invoke/VarHandle")
    (hM : own_Con l Z y bytes maxL ret [] rm argsL.toArray h Q') (hf : rm.frames + 1 ≤ R.frames) (hl : W + (maxL + 11) + rm.locals ≤ R.locals) (eT : T.heap = h) (hc : cells + rm.cells ≤ R.cells) (hs : slots + rm.slots ≤ R.slots)
    (hg : g.method = m) (hsize : g.locals.size = c.maxLocals) (hlen : ∀ sig, parseMethodDescriptor y.desc = some sig → argsL.length = sig.parameters.length) (hstack : g.stack = argsL.reverse ++ rest) (hW : 2 * g.monitorRoom + (rest.map fun v => v.category).sum ≤ W) (hdg : decode c.code g.pc = .ok (.invokestatic index, 3))
    (k : ∀ (v : Option Value) (T' : State) (L' : List Loc), Stand p l e R s m args below meth c T' (locs ++ L') (cells + rm.cells) (slots + rm.slots) → Q' v T'.heap L' → own_Go p e below s C S Q T' { g with pc := g.pc + 3, stack := v.toList ++ rest }) :
    own_Go p e below s C S Q T g := by
  obtain ⟨v, _, ⟨T2, L2, k2, n2⟩, -, X2, ⟨Lc2, hQ2, l2, y2, z2⟩, st2⟩ := Jvm.LawKit.callS X hx (y := y) hown (mvT hZ w1) (mvT hZ w2) (mvT hZ w3) (mvT hZ w4) hy (backOf (W := W) hM hZ w4 w3 hf hl) hg hsize hlen hstack hW hdg (fun _ _ => ⟨rfl, eT, hc, hs⟩)
  dsimp only [Pt.U, Pt.locs, Pt.cells, Pt.slots] at X2 l2 y2 z2 st2 hQ2
  subst l2 y2 z2
  exact own_go st2 (k v T2 Lc2 X2 hQ2)
end Own
section OwnO
variable {p : Program} {l : Launch} {e : Env} {R : Room} {s : State} {m : MethodId} {args : Array Value} {below : List Frame} {meth : Method} {c : Code} {T T' : State} {locs : List Loc} {cells slots : Nat} {C S : Nat} {Q : Option Value → Heap → List Loc → Prop} {g g' : JFrame} {Z : State} {a0 : Array Value} {h h' : Heap}
/-- a constructor by its contract -/
theorem own_callC (X : Stand p l e R s m args below meth c T locs cells slots) (hx : p.tables.exec = Jvm.exec) (hZ : Z.Warmed39 s.vm) {own : String} {index : Nat} {y : MethodName} {bytes : ByteArray} {maxL : Nat} {rm : Room} {W : Nat} {Q' : Option Value → Heap → List Loc → Prop} {a : Addr} {argsL rest : List Value}
    (hy1 : y.name = "<init>") (hown : s.vm.findClass own = some m.cls) (w1 : (Jvm.Cond.methodLink own index y).before a0 Z = true) (w2 : (Jvm.Cond.instanceMethod y).before a0 Z = true) (w3 : (Jvm.Cond.initialized y.cls).before a0 Z = true) (w4 : (Jvm.Cond.code y bytes maxL none).before a0 Z = true) (hy : y.cls ≠ "java/lang/invoke/MethodHandle" ∧ y.cls ≠ "java/lang/invoke/VarHandle")
    (hM : own_Con l Z y bytes maxL none [] rm (.ref a :: argsL).toArray h Q') (hf : rm.frames + 1 ≤ R.frames) (hl : W + (maxL + 11) + rm.locals ≤ R.locals) (eT : T.heap = h) (hc : cells + rm.cells ≤ R.cells) (hs : slots + rm.slots ≤ R.slots)
    (hg : g.method = m) (hsize : g.locals.size = c.maxLocals) (hlen : ∀ sig, parseMethodDescriptor y.desc = some sig → argsL.length = sig.parameters.length) (hstack : g.stack = argsL.reverse ++ .ref a :: rest) (hW : 2 * g.monitorRoom + (rest.map fun v => v.category).sum ≤ W) (hdg : decode c.code g.pc = .ok (.invokespecial index, 3))
    (k : ∀ (v : Option Value) (T' : State) (L' : List Loc), Stand p l e R s m args below meth c T' (locs ++ L') (cells + rm.cells) (slots + rm.slots) → Q' v T'.heap L' → own_Go p e below s C S Q T' { g with pc := g.pc + 3, stack := v.toList ++ rest }) :
    own_Go p e below s C S Q T g := by
  obtain ⟨v, _, ⟨T2, L2, k2, n2⟩, -, X2, ⟨Lc2, hQ2, l2, y2, z2⟩, st2⟩ := X.specialBack hx (y := y) hy1 hown (mvT hZ w1) (mvT hZ w2) (mvT hZ w4) hy (backOf (W := W) hM hZ w4 w3 hf hl) hg hsize (Steps.refl _) hlen hstack hW hdg (fun _ _ => ⟨rfl, eT, hc, hs⟩)
  dsimp only [Pt.U, Pt.locs, Pt.cells, Pt.slots] at X2 l2 y2 z2 st2 hQ2
  subst l2 y2 z2
  exact own_go (fun t kt => st2.trans kt) (k v T2 Lc2 X2 hQ2)
/-- an instance method by its contract -/
theorem own_callV (X : Stand p l e R s m args below meth c T locs cells slots) (hx : p.tables.exec = Jvm.exec) (hZ : Z.Warmed39 s.vm) {own C₀ : String} {index : Nat} {y : MethodName} {bytes : ByteArray} {maxL : Nat} {ret : Option FieldType} {rm : Room} {W : Nat} {Q' : Option Value → Heap → List Loc → Prop} {b : Addr} {argsL rest : List Value}
    (E : Exa Z h b C₀) (hown : s.vm.findClass own = some m.cls) (w1 : (Jvm.Cond.methodLink own index y).before a0 Z = true) (w2 : (Jvm.Cond.declares y).before a0 Z = true) (w5 : (Jvm.Cond.selects C₀ y y).before a0 Z = true) (w6 : (Jvm.Cond.instanceMethod y).before a0 Z = true) (w3 : (Jvm.Cond.initialized y.cls).before a0 Z = true) (w4 : (Jvm.Cond.code y bytes maxL ret).before a0 Z = true) (hy : y.cls ≠ "java/lang/invoke/MethodHandle" ∧ y.cls ≠ "java/lang/invoke/VarHandle")
    (hM : own_Con l Z y bytes maxL ret [] rm (.ref b :: argsL).toArray h Q') (hf : rm.frames + 1 ≤ R.frames) (hl : W + (maxL + 11) + rm.locals ≤ R.locals) (eT : T.heap = h) (hc : cells + rm.cells ≤ R.cells) (hs : slots + rm.slots ≤ R.slots)
    (hg : g.method = m) (hsize : g.locals.size = c.maxLocals) (hlen : ∀ sig, parseMethodDescriptor y.desc = some sig → argsL.length = sig.parameters.length) (hstack : g.stack = argsL.reverse ++ .ref b :: rest) (hW : 2 * g.monitorRoom + (rest.map fun v => v.category).sum ≤ W) (hdg : decode c.code g.pc = .ok (.invokevirtual index, 3))
    (k : ∀ (v : Option Value) (T' : State) (L' : List Loc), Stand p l e R s m args below meth c T' (locs ++ L') (cells + rm.cells) (slots + rm.slots) → Q' v T'.heap L' → own_Go p e below s C S Q T' { g with pc := g.pc + 3, stack := v.toList ++ rest }) :
    own_Go p e below s C S Q T g := by
  obtain ⟨cq, kq, qa, qb, qc⟩ := isOf hZ eT E
  obtain ⟨v, _, ⟨T2, L2, k2, n2⟩, -, X2, ⟨Lc2, hQ2, l2, y2, z2⟩, st2⟩ := X.virtualBack hx (y := y) (z := y) hown (mvT hZ w1) (mvT hZ w2) (notFace_of_selects (args := #[]) (mvT hZ w5)) (mvT hZ w5) (mvT hZ w6) hy (backOf (W := W) hM hZ w4 w3 hf hl) qa qc hg hsize (Steps.refl _) hlen hstack hW hdg (fun _ _ => ⟨rfl, eT, hc, hs⟩)
  dsimp only [Pt.U, Pt.locs, Pt.cells, Pt.slots] at X2 l2 y2 z2 st2 hQ2
  subst l2 y2 z2
  exact own_go (fun t kt => st2.trans kt) (k v T2 Lc2 X2 hQ2)
end OwnO

def own_P (val : Value) (h0 : Heap) (n0 : Nat) (v : Option Value) (h : Heap) (L : List Loc) : Prop := v = some val ∧ Fr n0 L ∧ h = h0
def own_PL (P : Int64 → Prop) (h0 : Heap) (n0 : Nat) (v : Option Value) (h : Heap) (L : List Loc) : Prop := ∃ r, v = some (.long r) ∧ P r ∧ Fr n0 L ∧ h = h0
/-! the plain law -/
def own_isWrap (x r : Int64) : Prop := (r.toInt = x.toInt ∨ r.toInt = x.toInt + 900000000000 ∨ r.toInt = x.toInt - 900000000000) ∧ 0 ≤ r.toInt ∧ r.toInt < 900000000000
def own_lw (low high x : Int64) : Int32 := if high < low then (if ¬ x < low ∨ ¬ high < x then 1 else 0) else (if ¬ x < low ∧ ¬ high < x then 1 else 0)
theorem own_eN : (900000000000 : Int64).toInt = 900000000000 := by decide
theorem own_eB : (100000000000 : Int64).toInt = 100000000000 := by decide
theorem own_e0 : (0 : Int64).toInt = 0 := by decide
theorem own_e4 : (4 : Int64).toInt = 4 := by decide
theorem own_off (a : Int64) : 0 ≤ ((a &&& 9223372036854775807) - ((a &&& 9223372036854775807) / 900000000000) * 900000000000).toInt ∧ ((a &&& 9223372036854775807) - ((a &&& 9223372036854775807) / 900000000000) * 900000000000).toInt < 900000000000 := by
  have h0 := (c_andSL a 9223372036854775807).2.2 (by decide)
  have r := (c_lrem (a &&& 9223372036854775807) 900000000000 900000000000 own_eN).1 h0
  omega
theorem own_dl (y : Int32) : -4 ≤ (((y &&& 7) - 4).toInt64).toInt ∧ (((y &&& 7) - 4).toInt64).toInt ≤ 3 := by
  have a := c_and y 7 (by decide)
  have b := c_isub (y &&& 7) 4
  have r := rng32 ((y &&& 7) - 4)
  have e7 : (7 : Int32).toInt = 7 := by decide
  have e4 : (4 : Int32).toInt = 4 := by decide
  rw [c_i2l]
  omega
theorem own_d1 {lo : Int64} (h : 0 ≤ lo.toInt ∧ lo.toInt < 900000000000) (y : Int32) : -900000000000 ≤ ((lo + (y &&& 7).toInt64) - 4).toInt ∧ ((lo + (y &&& 7).toInt64) - 4).toInt < 1800000000000 := by
  have a := c_and y 7 (by decide)
  have e7 : (7 : Int32).toInt = 7 := by decide
  have c := c_i2l (y &&& 7)
  have s := c_ladd lo (y &&& 7).toInt64
  have r := rng64 (lo + (y &&& 7).toInt64)
  have t := c_lsub (lo + (y &&& 7).toInt64) 4
  have u := rng64 ((lo + (y &&& 7).toInt64) - 4)
  have e4 := own_e4
  omega
theorem own_d2 {lo dl : Int64} (h : 0 ≤ lo.toInt ∧ lo.toInt < 900000000000) (q : -4 ≤ dl.toInt ∧ dl.toInt ≤ 3) : -900000000000 ≤ (lo + dl).toInt ∧ (lo + dl).toInt < 1800000000000 := by
  have s := c_ladd lo dl
  have r := rng64 (lo + dl)
  omega
theorem own_d3 {x y : Int64} (h : 0 ≤ x.toInt ∧ x.toInt < 900000000000) (q : 0 ≤ y.toInt ∧ y.toInt < 900000000000) : (x - y).toInt = x.toInt - y.toInt := by
  have s := c_lsub x y
  have r := rng64 (x - y)
  omega
theorem own_add {x : Int64} (h : 0 ≤ x.toInt ∧ x.toInt < 900000000000) : ((100000000000 : Int64) + x).toInt = 100000000000 + x.toInt := by
  have s := c_ladd 100000000000 x
  have r := rng64 ((100000000000 : Int64) + x)
  have e := own_eB
  omega
theorem own_same {lo hi le d sp : Int64} {x : Int32} (h1 : 0 ≤ lo.toInt ∧ lo.toInt < 900000000000) (h2 : 0 ≤ hi.toInt ∧ hi.toInt < 900000000000) (h3 : 0 ≤ le.toInt ∧ le.toInt < 900000000000) (hd : own_isWrap (le - lo) d) (hs : own_isWrap (hi - lo) sp) (hx : x = if sp < d then (0 : Int32) else (1 : Int32)) :
    own_lw ((100000000000 : Int64) + lo) ((100000000000 : Int64) + hi) ((100000000000 : Int64) + le) = x := by
  obtain ⟨d1, d2⟩ := hd
  obtain ⟨s1, s2⟩ := hs
  rw [own_d3 h3 h1] at d1
  rw [own_d3 h2 h1] at s1
  subst hx
  unfold own_lw
  simp only [Int64.lt_iff_toInt_lt, own_add h1, own_add h2, own_add h3]
  by_cases c1 : 100000000000 + hi.toInt < 100000000000 + lo.toInt
  · rw [if_pos c1]
    by_cases c2 : sp.toInt < d.toInt
    · rw [if_pos c2, if_neg (by omega)]
    · rw [if_neg c2, if_pos (by omega)]
  · rw [if_neg c1]
    by_cases c2 : sp.toInt < d.toInt
    · rw [if_pos c2, if_neg (by omega)]
    · rw [if_neg c2, if_pos (by omega)]
/-! the callees -/
theorem d6_0 : decode method_2_code 0 = .ok (.lload_n 0, 1) := by decide +kernel
theorem d6_1 : decode method_2_code 1 = .ok (.lconst 0, 1) := by decide +kernel
theorem d6_2 : decode method_2_code 2 = .ok (.lcmp, 1) := by decide +kernel
theorem d6_3 : decode method_2_code 3 = .ok (.ifCond .ge 11, 3) := by decide +kernel
theorem d6_6 : decode method_2_code 6 = .ok (.lload_n 0, 1) := by decide +kernel
theorem d6_7 : decode method_2_code 7 = .ok (.ldc2_w 9, 3) := by decide +kernel
theorem d6_10 : decode method_2_code 10 = .ok (.ladd, 1) := by decide +kernel
theorem d6_11 : decode method_2_code 11 = .ok (.goto 20, 3) := by decide +kernel
theorem d6_14 : decode method_2_code 14 = .ok (.lload_n 0, 1) := by decide +kernel
theorem d6_15 : decode method_2_code 15 = .ok (.ldc2_w 9, 3) := by decide +kernel
theorem d6_18 : decode method_2_code 18 = .ok (.lcmp, 1) := by decide +kernel
theorem d6_19 : decode method_2_code 19 = .ok (.ifCond .lt 11, 3) := by decide +kernel
theorem d6_22 : decode method_2_code 22 = .ok (.lload_n 0, 1) := by decide +kernel
theorem d6_23 : decode method_2_code 23 = .ok (.ldc2_w 9, 3) := by decide +kernel
theorem d6_26 : decode method_2_code 26 = .ok (.lsub, 1) := by decide +kernel
theorem d6_27 : decode method_2_code 27 = .ok (.goto 4, 3) := by decide +kernel
theorem d6_30 : decode method_2_code 30 = .ok (.lload_n 0, 1) := by decide +kernel
theorem d6_31 : decode method_2_code 31 = .ok (.lreturn, 1) := by decide +kernel
theorem pd6 : parseMethodDescriptor "(J)J" = some ⟨[.long], some .long⟩ := by decide +kernel
theorem pn6 : plainName "com/example/ioconic/ioconic/expr/MagnitudeLeadsWithPinLaw" = true := by first | (simp [plainName, overriddenIn]; done) | decide +kernel
theorem ef6 (m : MethodId) (x0 : Int64) : entryFrame m #[(.long x0)] 2 = mkF m 0 #[.val (.long x0), .second] [] := by first | (simp [entryFrame, mkF, argsToLocals, Value.category]; done) | rfl
set_option maxRecDepth 65536 in
set_option maxHeartbeats 40000000 in
theorem rm6 (l : Launch) (Z : State) (a0 : Array Value) (hw : ∀ d ∈ tables_1, d.before a0 Z = true) (ws : List Jvm.Cond) (q1 : Int64) (h0 : Heap) (n0 : Nat) (Z0 : n0 ≤ h0.size) (hq : -900000000000 ≤ q1.toInt ∧ q1.toInt < 1800000000000) :
    own_Con l Z (⟨"com/example/ioconic/ioconic/expr/MagnitudeLeadsWithPinLaw", "wrap", "(J)J"⟩ : MethodName) method_2_code 2 (some .long) ws ({ frames := 0, cells := 0, slots := 0, locals := 0 } : Room) #[(.long q1)] h0 (own_PL (own_isWrap q1) h0 n0) := by
  refine own_body (plainFor_of_name pn6) ?_
  intro p e s m below meth c s₁ hx hby hml0 hZ hown0 hnm0 hret0 hk e0 X0
  have hown : s.vm.findClass "com/example/ioconic/ioconic/expr/MagnitudeLeadsWithPinLaw" = some m.cls := hown0
  have hnm : meth.name = "wrap" := hnm0
  have hret : meth.sig.returnType = (some .long) := hret0
  have hml : c.maxLocals = 2 := hml0
  have N0 := Fr.nil n0
  refine own_cast (ef6 m q1) ?_
  refine own_go (T' := s₁) (g' := (mkF m 3 #[.val (.long q1), .second] [(.int (lcmpW q1 (0 : Int64)))])) (fun t_ k_ => ?_) ?_
  · refine XS.lloadN X0.here hx rfl (hb hby d6_0) rfl ?_
    show Steps p.tables e below (s₁.setTop (mkF m 1 #[.val (.long q1), .second] [(.long q1)])) _
    refine XS.lconst X0.here hx rfl (hb hby d6_1) ?_
    show Steps p.tables e below (s₁.setTop (mkF m 2 #[.val (.long q1), .second] [(.long (0 : Int64)), (.long q1)])) _
    refine XS.lcmp X0.here hx rfl (hb hby d6_2) rfl ?_
    show Steps p.tables e below (s₁.setTop (mkF m 3 #[.val (.long q1), .second] [(.int (lcmpW q1 (0 : Int64)))])) _
    exact k_
  by_cases c1 : q1 < (0 : Int64)
  · refine own_go (T' := s₁) (g' := (mkF m 31 #[.val (.long q1), .second] [(.long (q1 + (900000000000 : Int64)))])) (fun t_ k_ => ?_) ?_
    · refine XS.ifNo X0.here hx rfl (hb hby d6_3) rfl ((if0 _ _).trans (tlt ((lw_lt _ _).mpr c1)).2.1) ?_
      show Steps p.tables e below (s₁.setTop (mkF m 6 #[.val (.long q1), .second] [])) _
      refine XS.lloadN X0.here hx rfl (hb hby d6_6) rfl ?_
      show Steps p.tables e below (s₁.setTop (mkF m 7 #[.val (.long q1), .second] [(.long q1)])) _
      refine X0.ldc2Long hx hown (mvT hZ (hw _ (List.mem_of_getElem? (i := 1) rfl))) (g := (mkF m 7 #[.val (.long q1), .second] [(.long q1)])) rfl (hb hby d6_7) _ ?_
      show Steps p.tables e below (s₁.setTop (mkF m 10 #[.val (.long q1), .second] [(.long (900000000000 : Int64)), (.long q1)])) _
      refine XS.ladd X0.here hx rfl (hb hby d6_10) rfl ?_
      show Steps p.tables e below (s₁.setTop (mkF m 11 #[.val (.long q1), .second] [(.long (q1 + (900000000000 : Int64)))])) _
      refine XS.goto X0.here hx rfl (pc0 := 11) (pc' := 31) rfl (hb hby d6_11) (by decide) (by decide) ?_
      show Steps p.tables e below (s₁.setTop (mkF m 31 #[.val (.long q1), .second] [(.long (q1 + (900000000000 : Int64)))])) _
      exact k_
    have eN := own_eN
    have e0' := own_e0
    have a1 := c_ladd q1 900000000000
    have a2 := c_lsub q1 900000000000
    have a3 := rng64 (q1 + 900000000000)
    have a4 := rng64 (q1 - 900000000000)
    simp only [Int64.lt_iff_toInt_lt] at c1
    exact own_retL X0 hx hret hk (hb hby d6_31) (by decide) (by decide) ⟨_, rfl, ⟨by omega, by omega⟩, N0, e0⟩
  · refine own_go (T' := s₁) (g' := (mkF m 19 #[.val (.long q1), .second] [(.int (lcmpW q1 (900000000000 : Int64)))])) (fun t_ k_ => ?_) ?_
    · refine XS.ifYes X0.here hx rfl (pc0 := 3) (pc' := 14) rfl (hb hby d6_3) rfl ((if0 _ _).trans (flt (mt (lw_lt _ _).mp c1)).2.1) (by decide) (by decide) ?_
      show Steps p.tables e below (s₁.setTop (mkF m 14 #[.val (.long q1), .second] [])) _
      refine XS.lloadN X0.here hx rfl (hb hby d6_14) rfl ?_
      show Steps p.tables e below (s₁.setTop (mkF m 15 #[.val (.long q1), .second] [(.long q1)])) _
      refine X0.ldc2Long hx hown (mvT hZ (hw _ (List.mem_of_getElem? (i := 1) rfl))) (g := (mkF m 15 #[.val (.long q1), .second] [(.long q1)])) rfl (hb hby d6_15) _ ?_
      show Steps p.tables e below (s₁.setTop (mkF m 18 #[.val (.long q1), .second] [(.long (900000000000 : Int64)), (.long q1)])) _
      refine XS.lcmp X0.here hx rfl (hb hby d6_18) rfl ?_
      show Steps p.tables e below (s₁.setTop (mkF m 19 #[.val (.long q1), .second] [(.int (lcmpW q1 (900000000000 : Int64)))])) _
      exact k_
    by_cases c2 : q1 < (900000000000 : Int64)
    · refine own_go (T' := s₁) (g' := (mkF m 31 #[.val (.long q1), .second] [(.long q1)])) (fun t_ k_ => ?_) ?_
      · refine XS.ifYes X0.here hx rfl (pc0 := 19) (pc' := 30) rfl (hb hby d6_19) rfl ((if0 _ _).trans (tlt ((lw_lt _ _).mpr c2)).1) (by decide) (by decide) ?_
        show Steps p.tables e below (s₁.setTop (mkF m 30 #[.val (.long q1), .second] [])) _
        refine XS.lloadN X0.here hx rfl (hb hby d6_30) rfl ?_
        show Steps p.tables e below (s₁.setTop (mkF m 31 #[.val (.long q1), .second] [(.long q1)])) _
        exact k_
      have eN := own_eN
      have e0' := own_e0
      have a1 := c_ladd q1 900000000000
      have a2 := c_lsub q1 900000000000
      have a3 := rng64 (q1 + 900000000000)
      have a4 := rng64 (q1 - 900000000000)
      simp only [Int64.lt_iff_toInt_lt] at c1 c2
      exact own_retL X0 hx hret hk (hb hby d6_31) (by decide) (by decide) ⟨_, rfl, ⟨by omega, by omega⟩, N0, e0⟩
    · refine own_go (T' := s₁) (g' := (mkF m 31 #[.val (.long q1), .second] [(.long (q1 - (900000000000 : Int64)))])) (fun t_ k_ => ?_) ?_
      · refine XS.ifNo X0.here hx rfl (hb hby d6_19) rfl ((if0 _ _).trans (flt (mt (lw_lt _ _).mp c2)).1) ?_
        show Steps p.tables e below (s₁.setTop (mkF m 22 #[.val (.long q1), .second] [])) _
        refine XS.lloadN X0.here hx rfl (hb hby d6_22) rfl ?_
        show Steps p.tables e below (s₁.setTop (mkF m 23 #[.val (.long q1), .second] [(.long q1)])) _
        refine X0.ldc2Long hx hown (mvT hZ (hw _ (List.mem_of_getElem? (i := 1) rfl))) (g := (mkF m 23 #[.val (.long q1), .second] [(.long q1)])) rfl (hb hby d6_23) _ ?_
        show Steps p.tables e below (s₁.setTop (mkF m 26 #[.val (.long q1), .second] [(.long (900000000000 : Int64)), (.long q1)])) _
        refine XS.lsub X0.here hx rfl (hb hby d6_26) rfl ?_
        show Steps p.tables e below (s₁.setTop (mkF m 27 #[.val (.long q1), .second] [(.long (q1 - (900000000000 : Int64)))])) _
        refine XS.goto X0.here hx rfl (pc0 := 27) (pc' := 31) rfl (hb hby d6_27) (by decide) (by decide) ?_
        show Steps p.tables e below (s₁.setTop (mkF m 31 #[.val (.long q1), .second] [(.long (q1 - (900000000000 : Int64)))])) _
        exact k_
      have eN := own_eN
      have e0' := own_e0
      have a1 := c_ladd q1 900000000000
      have a2 := c_lsub q1 900000000000
      have a3 := rng64 (q1 + 900000000000)
      have a4 := rng64 (q1 - 900000000000)
      simp only [Int64.lt_iff_toInt_lt] at c1 c2
      exact own_retL X0 hx hret hk (hb hby d6_31) (by decide) (by decide) ⟨_, rfl, ⟨by omega, by omega⟩, N0, e0⟩
theorem d3_0 : decode jdk_30_method_1_code 0 = .ok (.aload_n 0, 1) := by decide +kernel
theorem d3_1 : decode jdk_30_method_1_code 1 = .ok (.invokespecial 1, 3) := by decide +kernel
theorem d3_4 : decode jdk_30_method_1_code 4 = .ok (.return_, 1) := by decide +kernel
theorem pd3 : parseMethodDescriptor "()V" = some ⟨[], none⟩ := by decide +kernel
theorem pn3 : plainName "java/lang/Record" = true := by first | (simp [plainName, overriddenIn]; done) | decide +kernel
theorem ef3 (m : MethodId) (x0 : Addr) : entryFrame m #[(.ref x0)] 1 = mkF m 0 #[.val (.ref x0)] [] := by first | (simp [entryFrame, mkF, argsToLocals, Value.category]; done) | rfl
set_option maxRecDepth 65536 in
set_option maxHeartbeats 40000000 in
theorem rm3 (l : Launch) (Z : State) (a0 : Array Value) (hw : ∀ d ∈ tables_1, d.before a0 Z = true) (ws : List Jvm.Cond) (a1 : Addr) (h0 : Heap) (n0 : Nat) (Z0 : n0 ≤ h0.size) :
    own_Con l Z (⟨"java/lang/Record", "<init>", "()V"⟩ : MethodName) jdk_30_method_1_code 1 none ws ({ frames := 1, cells := 0, slots := 0, locals := 12 } : Room) #[(.ref a1)] h0 (fun v h L => v = none ∧ Fr n0 L ∧ h = h0) := by
  refine own_body (plainFor_of_name pn3) ?_
  intro p e s m below meth c s₁ hx hby hml0 hZ hown0 hnm0 hret0 hk e0 X0
  have hown : s.vm.findClass "java/lang/Record" = some m.cls := hown0
  have hnm : meth.name = "<init>" := hnm0
  have hret : meth.sig.returnType = none := hret0
  have hml : c.maxLocals = 1 := hml0
  have N0 := Fr.nil n0
  refine own_cast (ef3 m a1) ?_
  refine own_go (T' := s₁) (g' := (mkF m 1 #[.val (.ref a1)] [(.ref a1)])) (fun t_ k_ => ?_) ?_
  · refine XS.aloadN X0.here hx rfl (hb hby d3_0) rfl rfl ?_
    show Steps p.tables e below (s₁.setTop (mkF m 1 #[.val (.ref a1)] [(.ref a1)])) _
    exact k_
  obtain ⟨T1, X1, e1, st1⟩ := initO X0 hx hZ hown (hw _ (List.mem_of_getElem? (i := 20) rfl)) (hw _ (List.mem_of_getElem? (i := 21) rfl)) (hw _ (List.mem_of_getElem? (i := 22) rfl)) e0 (g := (mkF m 1 #[.val (.ref a1)] [(.ref a1)])) rfl (by rw [hml]; rfl) rfl (hb hby d3_1) (by decide) (W := 0) (by show 2 * 0 + _ ≤ _; exact Nat.le_of_eq rfl) (by decide)
  refine own_go st1 ?_
  show own_Go p e below s ({ frames := 1, cells := 0, slots := 0, locals := 12 } : Room).cells ({ frames := 1, cells := 0, slots := 0, locals := 12 } : Room).slots (fun v h L => v = none ∧ Fr n0 L ∧ h = h0) T1 (mkF m 4 #[.val (.ref a1)] [])
  exact own_retV X1 hx hret hk (hb hby d3_4) (by decide) (by decide) ⟨rfl, N0, e1⟩
theorem d2_0 : decode prog_41_method_4_code 0 = .ok (.aload_n 0, 1) := by decide +kernel
theorem d2_1 : decode prog_41_method_4_code 1 = .ok (.invokespecial 3, 3) := by decide +kernel
theorem d2_4 : decode prog_41_method_4_code 4 = .ok (.aload_n 0, 1) := by decide +kernel
theorem d2_5 : decode prog_41_method_4_code 5 = .ok (.iload_n 1, 1) := by decide +kernel
theorem d2_6 : decode prog_41_method_4_code 6 = .ok (.putfield 9, 3) := by decide +kernel
theorem d2_9 : decode prog_41_method_4_code 9 = .ok (.aload_n 0, 1) := by decide +kernel
theorem d2_10 : decode prog_41_method_4_code 10 = .ok (.iload_n 2, 1) := by decide +kernel
theorem d2_11 : decode prog_41_method_4_code 11 = .ok (.putfield 15, 3) := by decide +kernel
theorem d2_14 : decode prog_41_method_4_code 14 = .ok (.aload_n 0, 1) := by decide +kernel
theorem d2_15 : decode prog_41_method_4_code 15 = .ok (.iload_n 3, 1) := by decide +kernel
theorem d2_16 : decode prog_41_method_4_code 16 = .ok (.putfield 19, 3) := by decide +kernel
theorem d2_19 : decode prog_41_method_4_code 19 = .ok (.aload_n 0, 1) := by decide +kernel
theorem d2_20 : decode prog_41_method_4_code 20 = .ok (.iload 4, 2) := by decide +kernel
theorem d2_22 : decode prog_41_method_4_code 22 = .ok (.putfield 22, 3) := by decide +kernel
theorem d2_25 : decode prog_41_method_4_code 25 = .ok (.aload_n 0, 1) := by decide +kernel
theorem d2_26 : decode prog_41_method_4_code 26 = .ok (.lload 5, 2) := by decide +kernel
theorem d2_28 : decode prog_41_method_4_code 28 = .ok (.putfield 25, 3) := by decide +kernel
theorem d2_31 : decode prog_41_method_4_code 31 = .ok (.aload_n 0, 1) := by decide +kernel
theorem d2_32 : decode prog_41_method_4_code 32 = .ok (.lload 7, 2) := by decide +kernel
theorem d2_34 : decode prog_41_method_4_code 34 = .ok (.putfield 29, 3) := by decide +kernel
theorem d2_37 : decode prog_41_method_4_code 37 = .ok (.aload_n 0, 1) := by decide +kernel
theorem d2_38 : decode prog_41_method_4_code 38 = .ok (.aload 9, 2) := by decide +kernel
theorem d2_40 : decode prog_41_method_4_code 40 = .ok (.putfield 32, 3) := by decide +kernel
theorem d2_43 : decode prog_41_method_4_code 43 = .ok (.return_, 1) := by decide +kernel
theorem pd2 : parseMethodDescriptor "(ZIIIJJLcom/example/ioconic/ioconic/expr/Tails;)V" = some ⟨[.boolean, .int, .int, .int, .long, .long, (.object "com/example/ioconic/ioconic/expr/Tails")], none⟩ := by decide +kernel
theorem pn2 : plainName "com/example/ioconic/ioconic/expr/Magnitude" = true := by first | (simp [plainName, overriddenIn]; done) | decide +kernel
theorem ef2 (m : MethodId) (x0 : Addr) (x1 : Int32) (x2 : Int32) (x3 : Int32) (x4 : Int32) (x5 : Int64) (x6 : Int64) (x7 : Addr) : entryFrame m #[(.ref x0), (.int x1), (.int x2), (.int x3), (.int x4), (.long x5), (.long x6), (.ref x7)] 10 = mkF m 0 #[.val (.ref x0), .val (.int x1), .val (.int x2), .val (.int x3), .val (.int x4), .val (.long x5), .second, .val (.long x6), .second, .val (.ref x7)] [] := by first | (simp [entryFrame, mkF, argsToLocals, Value.category]; done) | rfl
set_option maxRecDepth 65536 in
set_option maxHeartbeats 40000000 in
theorem rm2 (l : Launch) (Z : State) (a0 : Array Value) (hw : ∀ d ∈ tables_1, d.before a0 Z = true) (ws : List Jvm.Cond) (a1 : Addr) (p2 : Int32) (p3 : Int32) (p4 : Int32) (p5 : Int32) (q6 : Int64) (q7 : Int64) (a8 : Addr) (h0 : Heap) (n0 : Nat) (Z0 : n0 ≤ h0.size) (E0 : Exa Z h0 a1 "com/example/ioconic/ioconic/expr/Magnitude") (F_negative : Fld Z h0 a1 "com/example/ioconic/ioconic/expr/Magnitude" "negative" "Z" (.int (0 : Int32))) (F_fewest : Fld Z h0 a1 "com/example/ioconic/ioconic/expr/Magnitude" "fewest" "I" (.int (0 : Int32))) (F_most : Fld Z h0 a1 "com/example/ioconic/ioconic/expr/Magnitude" "most" "I" (.int (0 : Int32))) (F_lastDigits : Fld Z h0 a1 "com/example/ioconic/ioconic/expr/Magnitude" "lastDigits" "I" (.int (0 : Int32))) (F_leadLow : Fld Z h0 a1 "com/example/ioconic/ioconic/expr/Magnitude" "leadLow" "J" (.long (0 : Int64))) (F_leadHigh : Fld Z h0 a1 "com/example/ioconic/ioconic/expr/Magnitude" "leadHigh" "J" (.long (0 : Int64))) (F_tails : Fld Z h0 a1 "com/example/ioconic/ioconic/expr/Magnitude" "tails" "Lcom/example/ioconic/ioconic/expr/Tails;" .null) (ga : n0 ≤ a1) :
    own_Con l Z (⟨"com/example/ioconic/ioconic/expr/Magnitude", "<init>", "(ZIIIJJLcom/example/ioconic/ioconic/expr/Tails;)V"⟩ : MethodName) prog_41_method_4_code 10 none ws ({ frames := 2, cells := 0, slots := 0, locals := 24 } : Room) #[(.ref a1), (.int p2), (.int p3), (.int p4), (.int p5), (.long q6), (.long q7), (.ref a8)] h0 (fun v h L => v = none ∧ Fr n0 L ∧ Keep h0 h [a1] ∧ Exa Z h a1 "com/example/ioconic/ioconic/expr/Magnitude" ∧ Fld Z h a1 "com/example/ioconic/ioconic/expr/Magnitude" "leadLow" "J" (.long q6) ∧ Fld Z h a1 "com/example/ioconic/ioconic/expr/Magnitude" "leadHigh" "J" (.long q7)) := by
  refine own_body (plainFor_of_name pn2) ?_
  intro p e s m below meth c s₁ hx hby hml0 hZ hown0 hnm0 hret0 hk e0 X0
  have hown : s.vm.findClass "com/example/ioconic/ioconic/expr/Magnitude" = some m.cls := hown0
  have hnm : meth.name = "<init>" := hnm0
  have hret : meth.sig.returnType = none := hret0
  have hml : c.maxLocals = 10 := hml0
  have N0 := Fr.nil n0
  refine own_cast (ef2 m a1 p2 p3 p4 p5 q6 q7 a8) ?_
  refine own_go (T' := s₁) (g' := (mkF m 1 #[.val (.ref a1), .val (.int p2), .val (.int p3), .val (.int p4), .val (.int p5), .val (.long q6), .second, .val (.long q7), .second, .val (.ref a8)] [(.ref a1)])) (fun t_ k_ => ?_) ?_
  · refine XS.aloadN X0.here hx rfl (hb hby d2_0) rfl rfl ?_
    show Steps p.tables e below (s₁.setTop (mkF m 1 #[.val (.ref a1), .val (.int p2), .val (.int p3), .val (.int p4), .val (.int p5), .val (.long q6), .second, .val (.long q7), .second, .val (.ref a8)] [(.ref a1)])) _
    exact k_
  refine own_callC (y := (⟨"java/lang/Record", "<init>", "()V"⟩ : MethodName)) (W := 0) (rm := ({ frames := 1, cells := 0, slots := 0, locals := 12 } : Room)) (argsL := []) (rest := []) X0 hx hZ rfl hown (hw _ (List.mem_of_getElem? (i := 15) rfl)) (hw _ (List.mem_of_getElem? (i := 16) rfl)) (hw _ (List.mem_of_getElem? (i := 18) rfl)) (hw _ (List.mem_of_getElem? (i := 19) rfl)) (by decide) (rm3 l Z a0 hw [] a1 h0 n0 Z0) (by decide) (by decide) e0 (by decide) (by decide) rfl (by rw [hml]; rfl) (lenOf pd3 rfl) rfl (by show 2 * 0 + _ ≤ _; exact Nat.le_of_eq rfl) (hb hby d2_1) ?_
  rintro _ T1 L1 X1 ⟨rfl, N1, e1⟩
  show own_Go p e below s ({ frames := 2, cells := 0, slots := 0, locals := 24 } : Room).cells ({ frames := 2, cells := 0, slots := 0, locals := 24 } : Room).slots (fun v h L => v = none ∧ Fr n0 L ∧ Keep h0 h [a1] ∧ Exa Z h a1 "com/example/ioconic/ioconic/expr/Magnitude" ∧ Fld Z h a1 "com/example/ioconic/ioconic/expr/Magnitude" "leadLow" "J" (.long q6) ∧ Fld Z h a1 "com/example/ioconic/ioconic/expr/Magnitude" "leadHigh" "J" (.long q7)) T1 (mkF m 4 #[.val (.ref a1), .val (.int p2), .val (.int p3), .val (.int p4), .val (.int p5), .val (.long q6), .second, .val (.long q7), .second, .val (.ref a8)] [])
  have NN := Fr.app N0 N1
  have EE := E0
  have KK : Keep h0 h0 [a1] := Keep.refl _ _
  refine own_go (T' := T1) (g' := (mkF m 6 #[.val (.ref a1), .val (.int p2), .val (.int p3), .val (.int p4), .val (.int p5), .val (.long q6), .second, .val (.long q7), .second, .val (.ref a8)] [(.int p2), (.ref a1)])) (fun t_ k_ => ?_) ?_
  · refine XS.aloadN X1.here hx rfl (hb hby d2_4) rfl rfl ?_
    show Steps p.tables e below (T1.setTop (mkF m 5 #[.val (.ref a1), .val (.int p2), .val (.int p3), .val (.int p4), .val (.int p5), .val (.long q6), .second, .val (.long q7), .second, .val (.ref a8)] [(.ref a1)])) _
    refine XS.iloadN X1.here hx rfl (hb hby d2_5) rfl ?_
    show Steps p.tables e below (T1.setTop (mkF m 6 #[.val (.ref a1), .val (.int p2), .val (.int p3), .val (.int p4), .val (.int p5), .val (.long q6), .second, .val (.long q7), .second, .val (.ref a8)] [(.int p2), (.ref a1)])) _
    exact k_
  obtain ⟨T2, h2, X2, e2, W2, st2⟩ := putFN X1 hx hZ hown (hw _ (List.mem_of_getElem? (i := 23) rfl)) Via.refl e1 F_negative EE (Or.inr ⟨(hw _ (List.mem_of_getElem? (i := 24) rfl)), rfl, hnm⟩) (hw _ (List.mem_of_getElem? (i := 4) rfl)) (ty := .boolean) (v' := (.int (nar .boolean p2))) (by decide) rfl (fits_nar_bool _) (g := (mkF m 6 #[.val (.ref a1), .val (.int p2), .val (.int p3), .val (.int p4), .val (.int p5), .val (.long q6), .second, .val (.long q7), .second, .val (.ref a8)] [(.int p2), (.ref a1)])) rfl rfl (hb hby d2_6)
  refine own_go st2 ?_
  show own_Go p e below s ({ frames := 2, cells := 0, slots := 0, locals := 24 } : Room).cells ({ frames := 2, cells := 0, slots := 0, locals := 24 } : Room).slots (fun v h L => v = none ∧ Fr n0 L ∧ Keep h0 h [a1] ∧ Exa Z h a1 "com/example/ioconic/ioconic/expr/Magnitude" ∧ Fld Z h a1 "com/example/ioconic/ioconic/expr/Magnitude" "leadLow" "J" (.long q6) ∧ Fld Z h a1 "com/example/ioconic/ioconic/expr/Magnitude" "leadHigh" "J" (.long q7)) T2 (mkF m 9 #[.val (.ref a1), .val (.int p2), .val (.int p3), .val (.int p4), .val (.int p5), .val (.long q6), .second, .val (.long q7), .second, .val (.ref a8)] [])
  have NN := Fr.snoc X2 NN ga
  have EE := EE.wr W2
  have KK := KK.wr W2 (Or.inl (List.mem_of_getElem? (i := 0) rfl))
  have F_fewest := F_fewest.other W2 (Or.inr (slot_ne (Or.inr (hw _ (List.mem_of_getElem? (i := 26) rfl))) (Or.inr (hw _ (List.mem_of_getElem? (i := 24) rfl))) (by decide) (t := .int) (t' := .boolean) (by decide) (by decide)))
  have F_most := F_most.other W2 (Or.inr (slot_ne (Or.inr (hw _ (List.mem_of_getElem? (i := 28) rfl))) (Or.inr (hw _ (List.mem_of_getElem? (i := 24) rfl))) (by decide) (t := .int) (t' := .boolean) (by decide) (by decide)))
  have F_lastDigits := F_lastDigits.other W2 (Or.inr (slot_ne (Or.inr (hw _ (List.mem_of_getElem? (i := 30) rfl))) (Or.inr (hw _ (List.mem_of_getElem? (i := 24) rfl))) (by decide) (t := .int) (t' := .boolean) (by decide) (by decide)))
  have F_leadLow := F_leadLow.other W2 (Or.inr (slot_ne (Or.inr (hw _ (List.mem_of_getElem? (i := 32) rfl))) (Or.inr (hw _ (List.mem_of_getElem? (i := 24) rfl))) (by decide) (t := .long) (t' := .boolean) (by decide) (by decide)))
  have F_leadHigh := F_leadHigh.other W2 (Or.inr (slot_ne (Or.inr (hw _ (List.mem_of_getElem? (i := 34) rfl))) (Or.inr (hw _ (List.mem_of_getElem? (i := 24) rfl))) (by decide) (t := .long) (t' := .boolean) (by decide) (by decide)))
  have F_tails := F_tails.other W2 (Or.inr (slot_ne (Or.inr (hw _ (List.mem_of_getElem? (i := 36) rfl))) (Or.inr (hw _ (List.mem_of_getElem? (i := 24) rfl))) (by decide) (t := (.object "com/example/ioconic/ioconic/expr/Tails")) (t' := .boolean) (by decide) (by decide)))
  refine own_go (T' := T2) (g' := (mkF m 11 #[.val (.ref a1), .val (.int p2), .val (.int p3), .val (.int p4), .val (.int p5), .val (.long q6), .second, .val (.long q7), .second, .val (.ref a8)] [(.int p3), (.ref a1)])) (fun t_ k_ => ?_) ?_
  · refine XS.aloadN X2.here hx rfl (hb hby d2_9) rfl rfl ?_
    show Steps p.tables e below (T2.setTop (mkF m 10 #[.val (.ref a1), .val (.int p2), .val (.int p3), .val (.int p4), .val (.int p5), .val (.long q6), .second, .val (.long q7), .second, .val (.ref a8)] [(.ref a1)])) _
    refine XS.iloadN X2.here hx rfl (hb hby d2_10) rfl ?_
    show Steps p.tables e below (T2.setTop (mkF m 11 #[.val (.ref a1), .val (.int p2), .val (.int p3), .val (.int p4), .val (.int p5), .val (.long q6), .second, .val (.long q7), .second, .val (.ref a8)] [(.int p3), (.ref a1)])) _
    exact k_
  obtain ⟨T3, h3, X3, e3, W3, st3⟩ := putF X2 hx hZ hown (host := "") (Or.inl (hw _ (List.mem_of_getElem? (i := 25) rfl))) Via.refl e2 F_fewest EE (Or.inr ⟨(hw _ (List.mem_of_getElem? (i := 26) rfl)), rfl, hnm⟩) (hw _ (List.mem_of_getElem? (i := 4) rfl)) (ty := .int) (by decide) rfl rfl (g := (mkF m 11 #[.val (.ref a1), .val (.int p2), .val (.int p3), .val (.int p4), .val (.int p5), .val (.long q6), .second, .val (.long q7), .second, .val (.ref a8)] [(.int p3), (.ref a1)])) rfl rfl (hb hby d2_11)
  refine own_go st3 ?_
  show own_Go p e below s ({ frames := 2, cells := 0, slots := 0, locals := 24 } : Room).cells ({ frames := 2, cells := 0, slots := 0, locals := 24 } : Room).slots (fun v h L => v = none ∧ Fr n0 L ∧ Keep h0 h [a1] ∧ Exa Z h a1 "com/example/ioconic/ioconic/expr/Magnitude" ∧ Fld Z h a1 "com/example/ioconic/ioconic/expr/Magnitude" "leadLow" "J" (.long q6) ∧ Fld Z h a1 "com/example/ioconic/ioconic/expr/Magnitude" "leadHigh" "J" (.long q7)) T3 (mkF m 14 #[.val (.ref a1), .val (.int p2), .val (.int p3), .val (.int p4), .val (.int p5), .val (.long q6), .second, .val (.long q7), .second, .val (.ref a8)] [])
  have NN := Fr.snoc X3 NN ga
  have EE := EE.wr W3
  have KK := KK.wr W3 (Or.inl (List.mem_of_getElem? (i := 0) rfl))
  have F_most := F_most.other W3 (Or.inr (slot_ne (Or.inr (hw _ (List.mem_of_getElem? (i := 28) rfl))) (Or.inr (hw _ (List.mem_of_getElem? (i := 26) rfl))) (by decide) (t := .int) (t' := .int) (by decide) (by decide)))
  have F_lastDigits := F_lastDigits.other W3 (Or.inr (slot_ne (Or.inr (hw _ (List.mem_of_getElem? (i := 30) rfl))) (Or.inr (hw _ (List.mem_of_getElem? (i := 26) rfl))) (by decide) (t := .int) (t' := .int) (by decide) (by decide)))
  have F_leadLow := F_leadLow.other W3 (Or.inr (slot_ne (Or.inr (hw _ (List.mem_of_getElem? (i := 32) rfl))) (Or.inr (hw _ (List.mem_of_getElem? (i := 26) rfl))) (by decide) (t := .long) (t' := .int) (by decide) (by decide)))
  have F_leadHigh := F_leadHigh.other W3 (Or.inr (slot_ne (Or.inr (hw _ (List.mem_of_getElem? (i := 34) rfl))) (Or.inr (hw _ (List.mem_of_getElem? (i := 26) rfl))) (by decide) (t := .long) (t' := .int) (by decide) (by decide)))
  have F_tails := F_tails.other W3 (Or.inr (slot_ne (Or.inr (hw _ (List.mem_of_getElem? (i := 36) rfl))) (Or.inr (hw _ (List.mem_of_getElem? (i := 26) rfl))) (by decide) (t := (.object "com/example/ioconic/ioconic/expr/Tails")) (t' := .int) (by decide) (by decide)))
  refine own_go (T' := T3) (g' := (mkF m 16 #[.val (.ref a1), .val (.int p2), .val (.int p3), .val (.int p4), .val (.int p5), .val (.long q6), .second, .val (.long q7), .second, .val (.ref a8)] [(.int p4), (.ref a1)])) (fun t_ k_ => ?_) ?_
  · refine XS.aloadN X3.here hx rfl (hb hby d2_14) rfl rfl ?_
    show Steps p.tables e below (T3.setTop (mkF m 15 #[.val (.ref a1), .val (.int p2), .val (.int p3), .val (.int p4), .val (.int p5), .val (.long q6), .second, .val (.long q7), .second, .val (.ref a8)] [(.ref a1)])) _
    refine XS.iloadN X3.here hx rfl (hb hby d2_15) rfl ?_
    show Steps p.tables e below (T3.setTop (mkF m 16 #[.val (.ref a1), .val (.int p2), .val (.int p3), .val (.int p4), .val (.int p5), .val (.long q6), .second, .val (.long q7), .second, .val (.ref a8)] [(.int p4), (.ref a1)])) _
    exact k_
  obtain ⟨T4, h4, X4, e4, W4, st4⟩ := putF X3 hx hZ hown (host := "") (Or.inl (hw _ (List.mem_of_getElem? (i := 27) rfl))) Via.refl e3 F_most EE (Or.inr ⟨(hw _ (List.mem_of_getElem? (i := 28) rfl)), rfl, hnm⟩) (hw _ (List.mem_of_getElem? (i := 4) rfl)) (ty := .int) (by decide) rfl rfl (g := (mkF m 16 #[.val (.ref a1), .val (.int p2), .val (.int p3), .val (.int p4), .val (.int p5), .val (.long q6), .second, .val (.long q7), .second, .val (.ref a8)] [(.int p4), (.ref a1)])) rfl rfl (hb hby d2_16)
  refine own_go st4 ?_
  show own_Go p e below s ({ frames := 2, cells := 0, slots := 0, locals := 24 } : Room).cells ({ frames := 2, cells := 0, slots := 0, locals := 24 } : Room).slots (fun v h L => v = none ∧ Fr n0 L ∧ Keep h0 h [a1] ∧ Exa Z h a1 "com/example/ioconic/ioconic/expr/Magnitude" ∧ Fld Z h a1 "com/example/ioconic/ioconic/expr/Magnitude" "leadLow" "J" (.long q6) ∧ Fld Z h a1 "com/example/ioconic/ioconic/expr/Magnitude" "leadHigh" "J" (.long q7)) T4 (mkF m 19 #[.val (.ref a1), .val (.int p2), .val (.int p3), .val (.int p4), .val (.int p5), .val (.long q6), .second, .val (.long q7), .second, .val (.ref a8)] [])
  have NN := Fr.snoc X4 NN ga
  have EE := EE.wr W4
  have KK := KK.wr W4 (Or.inl (List.mem_of_getElem? (i := 0) rfl))
  have F_lastDigits := F_lastDigits.other W4 (Or.inr (slot_ne (Or.inr (hw _ (List.mem_of_getElem? (i := 30) rfl))) (Or.inr (hw _ (List.mem_of_getElem? (i := 28) rfl))) (by decide) (t := .int) (t' := .int) (by decide) (by decide)))
  have F_leadLow := F_leadLow.other W4 (Or.inr (slot_ne (Or.inr (hw _ (List.mem_of_getElem? (i := 32) rfl))) (Or.inr (hw _ (List.mem_of_getElem? (i := 28) rfl))) (by decide) (t := .long) (t' := .int) (by decide) (by decide)))
  have F_leadHigh := F_leadHigh.other W4 (Or.inr (slot_ne (Or.inr (hw _ (List.mem_of_getElem? (i := 34) rfl))) (Or.inr (hw _ (List.mem_of_getElem? (i := 28) rfl))) (by decide) (t := .long) (t' := .int) (by decide) (by decide)))
  have F_tails := F_tails.other W4 (Or.inr (slot_ne (Or.inr (hw _ (List.mem_of_getElem? (i := 36) rfl))) (Or.inr (hw _ (List.mem_of_getElem? (i := 28) rfl))) (by decide) (t := (.object "com/example/ioconic/ioconic/expr/Tails")) (t' := .int) (by decide) (by decide)))
  refine own_go (T' := T4) (g' := (mkF m 22 #[.val (.ref a1), .val (.int p2), .val (.int p3), .val (.int p4), .val (.int p5), .val (.long q6), .second, .val (.long q7), .second, .val (.ref a8)] [(.int p5), (.ref a1)])) (fun t_ k_ => ?_) ?_
  · refine XS.aloadN X4.here hx rfl (hb hby d2_19) rfl rfl ?_
    show Steps p.tables e below (T4.setTop (mkF m 20 #[.val (.ref a1), .val (.int p2), .val (.int p3), .val (.int p4), .val (.int p5), .val (.long q6), .second, .val (.long q7), .second, .val (.ref a8)] [(.ref a1)])) _
    refine XS.iload X4.here hx rfl (hb hby d2_20) rfl ?_
    show Steps p.tables e below (T4.setTop (mkF m 22 #[.val (.ref a1), .val (.int p2), .val (.int p3), .val (.int p4), .val (.int p5), .val (.long q6), .second, .val (.long q7), .second, .val (.ref a8)] [(.int p5), (.ref a1)])) _
    exact k_
  obtain ⟨T5, h5, X5, e5, W5, st5⟩ := putF X4 hx hZ hown (host := "") (Or.inl (hw _ (List.mem_of_getElem? (i := 29) rfl))) Via.refl e4 F_lastDigits EE (Or.inr ⟨(hw _ (List.mem_of_getElem? (i := 30) rfl)), rfl, hnm⟩) (hw _ (List.mem_of_getElem? (i := 4) rfl)) (ty := .int) (by decide) rfl rfl (g := (mkF m 22 #[.val (.ref a1), .val (.int p2), .val (.int p3), .val (.int p4), .val (.int p5), .val (.long q6), .second, .val (.long q7), .second, .val (.ref a8)] [(.int p5), (.ref a1)])) rfl rfl (hb hby d2_22)
  refine own_go st5 ?_
  show own_Go p e below s ({ frames := 2, cells := 0, slots := 0, locals := 24 } : Room).cells ({ frames := 2, cells := 0, slots := 0, locals := 24 } : Room).slots (fun v h L => v = none ∧ Fr n0 L ∧ Keep h0 h [a1] ∧ Exa Z h a1 "com/example/ioconic/ioconic/expr/Magnitude" ∧ Fld Z h a1 "com/example/ioconic/ioconic/expr/Magnitude" "leadLow" "J" (.long q6) ∧ Fld Z h a1 "com/example/ioconic/ioconic/expr/Magnitude" "leadHigh" "J" (.long q7)) T5 (mkF m 25 #[.val (.ref a1), .val (.int p2), .val (.int p3), .val (.int p4), .val (.int p5), .val (.long q6), .second, .val (.long q7), .second, .val (.ref a8)] [])
  have NN := Fr.snoc X5 NN ga
  have EE := EE.wr W5
  have KK := KK.wr W5 (Or.inl (List.mem_of_getElem? (i := 0) rfl))
  have F_leadLow := F_leadLow.other W5 (Or.inr (slot_ne (Or.inr (hw _ (List.mem_of_getElem? (i := 32) rfl))) (Or.inr (hw _ (List.mem_of_getElem? (i := 30) rfl))) (by decide) (t := .long) (t' := .int) (by decide) (by decide)))
  have F_leadHigh := F_leadHigh.other W5 (Or.inr (slot_ne (Or.inr (hw _ (List.mem_of_getElem? (i := 34) rfl))) (Or.inr (hw _ (List.mem_of_getElem? (i := 30) rfl))) (by decide) (t := .long) (t' := .int) (by decide) (by decide)))
  have F_tails := F_tails.other W5 (Or.inr (slot_ne (Or.inr (hw _ (List.mem_of_getElem? (i := 36) rfl))) (Or.inr (hw _ (List.mem_of_getElem? (i := 30) rfl))) (by decide) (t := (.object "com/example/ioconic/ioconic/expr/Tails")) (t' := .int) (by decide) (by decide)))
  refine own_go (T' := T5) (g' := (mkF m 28 #[.val (.ref a1), .val (.int p2), .val (.int p3), .val (.int p4), .val (.int p5), .val (.long q6), .second, .val (.long q7), .second, .val (.ref a8)] [(.long q6), (.ref a1)])) (fun t_ k_ => ?_) ?_
  · refine XS.aloadN X5.here hx rfl (hb hby d2_25) rfl rfl ?_
    show Steps p.tables e below (T5.setTop (mkF m 26 #[.val (.ref a1), .val (.int p2), .val (.int p3), .val (.int p4), .val (.int p5), .val (.long q6), .second, .val (.long q7), .second, .val (.ref a8)] [(.ref a1)])) _
    refine XS.lload X5.here hx rfl (hb hby d2_26) rfl ?_
    show Steps p.tables e below (T5.setTop (mkF m 28 #[.val (.ref a1), .val (.int p2), .val (.int p3), .val (.int p4), .val (.int p5), .val (.long q6), .second, .val (.long q7), .second, .val (.ref a8)] [(.long q6), (.ref a1)])) _
    exact k_
  obtain ⟨T6, h6, X6, e6, W6, st6⟩ := putF X5 hx hZ hown (host := "") (Or.inl (hw _ (List.mem_of_getElem? (i := 31) rfl))) Via.refl e5 F_leadLow EE (Or.inr ⟨(hw _ (List.mem_of_getElem? (i := 32) rfl)), rfl, hnm⟩) (hw _ (List.mem_of_getElem? (i := 4) rfl)) (ty := .long) (by decide) rfl rfl (g := (mkF m 28 #[.val (.ref a1), .val (.int p2), .val (.int p3), .val (.int p4), .val (.int p5), .val (.long q6), .second, .val (.long q7), .second, .val (.ref a8)] [(.long q6), (.ref a1)])) rfl rfl (hb hby d2_28)
  refine own_go st6 ?_
  show own_Go p e below s ({ frames := 2, cells := 0, slots := 0, locals := 24 } : Room).cells ({ frames := 2, cells := 0, slots := 0, locals := 24 } : Room).slots (fun v h L => v = none ∧ Fr n0 L ∧ Keep h0 h [a1] ∧ Exa Z h a1 "com/example/ioconic/ioconic/expr/Magnitude" ∧ Fld Z h a1 "com/example/ioconic/ioconic/expr/Magnitude" "leadLow" "J" (.long q6) ∧ Fld Z h a1 "com/example/ioconic/ioconic/expr/Magnitude" "leadHigh" "J" (.long q7)) T6 (mkF m 31 #[.val (.ref a1), .val (.int p2), .val (.int p3), .val (.int p4), .val (.int p5), .val (.long q6), .second, .val (.long q7), .second, .val (.ref a8)] [])
  have NN := Fr.snoc X6 NN ga
  have EE := EE.wr W6
  have KK := KK.wr W6 (Or.inl (List.mem_of_getElem? (i := 0) rfl))
  have F_leadLow := F_leadLow.same W6
  have F_leadHigh := F_leadHigh.other W6 (Or.inr (slot_ne (Or.inr (hw _ (List.mem_of_getElem? (i := 34) rfl))) (Or.inr (hw _ (List.mem_of_getElem? (i := 32) rfl))) (by decide) (t := .long) (t' := .long) (by decide) (by decide)))
  have F_tails := F_tails.other W6 (Or.inr (slot_ne (Or.inr (hw _ (List.mem_of_getElem? (i := 36) rfl))) (Or.inr (hw _ (List.mem_of_getElem? (i := 32) rfl))) (by decide) (t := (.object "com/example/ioconic/ioconic/expr/Tails")) (t' := .long) (by decide) (by decide)))
  refine own_go (T' := T6) (g' := (mkF m 34 #[.val (.ref a1), .val (.int p2), .val (.int p3), .val (.int p4), .val (.int p5), .val (.long q6), .second, .val (.long q7), .second, .val (.ref a8)] [(.long q7), (.ref a1)])) (fun t_ k_ => ?_) ?_
  · refine XS.aloadN X6.here hx rfl (hb hby d2_31) rfl rfl ?_
    show Steps p.tables e below (T6.setTop (mkF m 32 #[.val (.ref a1), .val (.int p2), .val (.int p3), .val (.int p4), .val (.int p5), .val (.long q6), .second, .val (.long q7), .second, .val (.ref a8)] [(.ref a1)])) _
    refine XS.lload X6.here hx rfl (hb hby d2_32) rfl ?_
    show Steps p.tables e below (T6.setTop (mkF m 34 #[.val (.ref a1), .val (.int p2), .val (.int p3), .val (.int p4), .val (.int p5), .val (.long q6), .second, .val (.long q7), .second, .val (.ref a8)] [(.long q7), (.ref a1)])) _
    exact k_
  obtain ⟨T7, h7, X7, e7, W7, st7⟩ := putF X6 hx hZ hown (host := "") (Or.inl (hw _ (List.mem_of_getElem? (i := 33) rfl))) Via.refl e6 F_leadHigh EE (Or.inr ⟨(hw _ (List.mem_of_getElem? (i := 34) rfl)), rfl, hnm⟩) (hw _ (List.mem_of_getElem? (i := 4) rfl)) (ty := .long) (by decide) rfl rfl (g := (mkF m 34 #[.val (.ref a1), .val (.int p2), .val (.int p3), .val (.int p4), .val (.int p5), .val (.long q6), .second, .val (.long q7), .second, .val (.ref a8)] [(.long q7), (.ref a1)])) rfl rfl (hb hby d2_34)
  refine own_go st7 ?_
  show own_Go p e below s ({ frames := 2, cells := 0, slots := 0, locals := 24 } : Room).cells ({ frames := 2, cells := 0, slots := 0, locals := 24 } : Room).slots (fun v h L => v = none ∧ Fr n0 L ∧ Keep h0 h [a1] ∧ Exa Z h a1 "com/example/ioconic/ioconic/expr/Magnitude" ∧ Fld Z h a1 "com/example/ioconic/ioconic/expr/Magnitude" "leadLow" "J" (.long q6) ∧ Fld Z h a1 "com/example/ioconic/ioconic/expr/Magnitude" "leadHigh" "J" (.long q7)) T7 (mkF m 37 #[.val (.ref a1), .val (.int p2), .val (.int p3), .val (.int p4), .val (.int p5), .val (.long q6), .second, .val (.long q7), .second, .val (.ref a8)] [])
  have NN := Fr.snoc X7 NN ga
  have EE := EE.wr W7
  have KK := KK.wr W7 (Or.inl (List.mem_of_getElem? (i := 0) rfl))
  have F_leadLow := F_leadLow.other W7 (Or.inr (slot_ne (Or.inr (hw _ (List.mem_of_getElem? (i := 32) rfl))) (Or.inr (hw _ (List.mem_of_getElem? (i := 34) rfl))) (by decide) (t := .long) (t' := .long) (by decide) (by decide)))
  have F_leadHigh := F_leadHigh.same W7
  have F_tails := F_tails.other W7 (Or.inr (slot_ne (Or.inr (hw _ (List.mem_of_getElem? (i := 36) rfl))) (Or.inr (hw _ (List.mem_of_getElem? (i := 34) rfl))) (by decide) (t := (.object "com/example/ioconic/ioconic/expr/Tails")) (t' := .long) (by decide) (by decide)))
  refine own_go (T' := T7) (g' := (mkF m 40 #[.val (.ref a1), .val (.int p2), .val (.int p3), .val (.int p4), .val (.int p5), .val (.long q6), .second, .val (.long q7), .second, .val (.ref a8)] [(.ref a8), (.ref a1)])) (fun t_ k_ => ?_) ?_
  · refine XS.aloadN X7.here hx rfl (hb hby d2_37) rfl rfl ?_
    show Steps p.tables e below (T7.setTop (mkF m 38 #[.val (.ref a1), .val (.int p2), .val (.int p3), .val (.int p4), .val (.int p5), .val (.long q6), .second, .val (.long q7), .second, .val (.ref a8)] [(.ref a1)])) _
    refine XS.aload X7.here hx rfl (hb hby d2_38) rfl rfl ?_
    show Steps p.tables e below (T7.setTop (mkF m 40 #[.val (.ref a1), .val (.int p2), .val (.int p3), .val (.int p4), .val (.int p5), .val (.long q6), .second, .val (.long q7), .second, .val (.ref a8)] [(.ref a8), (.ref a1)])) _
    exact k_
  obtain ⟨T8, h8, X8, e8, W8, st8⟩ := putF X7 hx hZ hown (host := "") (Or.inl (hw _ (List.mem_of_getElem? (i := 35) rfl))) Via.refl e7 F_tails EE (Or.inr ⟨(hw _ (List.mem_of_getElem? (i := 36) rfl)), rfl, hnm⟩) (hw _ (List.mem_of_getElem? (i := 4) rfl)) (ty := (.object "com/example/ioconic/ioconic/expr/Tails")) (by decide) rfl rfl (g := (mkF m 40 #[.val (.ref a1), .val (.int p2), .val (.int p3), .val (.int p4), .val (.int p5), .val (.long q6), .second, .val (.long q7), .second, .val (.ref a8)] [(.ref a8), (.ref a1)])) rfl rfl (hb hby d2_40)
  refine own_go st8 ?_
  show own_Go p e below s ({ frames := 2, cells := 0, slots := 0, locals := 24 } : Room).cells ({ frames := 2, cells := 0, slots := 0, locals := 24 } : Room).slots (fun v h L => v = none ∧ Fr n0 L ∧ Keep h0 h [a1] ∧ Exa Z h a1 "com/example/ioconic/ioconic/expr/Magnitude" ∧ Fld Z h a1 "com/example/ioconic/ioconic/expr/Magnitude" "leadLow" "J" (.long q6) ∧ Fld Z h a1 "com/example/ioconic/ioconic/expr/Magnitude" "leadHigh" "J" (.long q7)) T8 (mkF m 43 #[.val (.ref a1), .val (.int p2), .val (.int p3), .val (.int p4), .val (.int p5), .val (.long q6), .second, .val (.long q7), .second, .val (.ref a8)] [])
  have NN := Fr.snoc X8 NN ga
  have EE := EE.wr W8
  have KK := KK.wr W8 (Or.inl (List.mem_of_getElem? (i := 0) rfl))
  have F_leadLow := F_leadLow.other W8 (Or.inr (slot_ne (Or.inr (hw _ (List.mem_of_getElem? (i := 32) rfl))) (Or.inr (hw _ (List.mem_of_getElem? (i := 36) rfl))) (by decide) (t := .long) (t' := (.object "com/example/ioconic/ioconic/expr/Tails")) (by decide) (by decide)))
  have F_leadHigh := F_leadHigh.other W8 (Or.inr (slot_ne (Or.inr (hw _ (List.mem_of_getElem? (i := 34) rfl))) (Or.inr (hw _ (List.mem_of_getElem? (i := 36) rfl))) (by decide) (t := .long) (t' := (.object "com/example/ioconic/ioconic/expr/Tails")) (by decide) (by decide)))
  exact own_retV X8 hx hret hk (hb hby d2_43) (by decide) (by decide) (by rw [e8]; exact ⟨rfl, NN, KK, EE, F_leadLow, F_leadHigh⟩)
theorem d1_0 : decode prog_41_method_3_code 0 = .ok (.aload_n 0, 1) := by decide +kernel
theorem d1_1 : decode prog_41_method_3_code 1 = .ok (.iload_n 1, 1) := by decide +kernel
theorem d1_2 : decode prog_41_method_3_code 2 = .ok (.iload_n 2, 1) := by decide +kernel
theorem d1_3 : decode prog_41_method_3_code 3 = .ok (.iload_n 3, 1) := by decide +kernel
theorem d1_4 : decode prog_41_method_3_code 4 = .ok (.iload 4, 2) := by decide +kernel
theorem d1_6 : decode prog_41_method_3_code 6 = .ok (.lload 5, 2) := by decide +kernel
theorem d1_8 : decode prog_41_method_3_code 8 = .ok (.lload 7, 2) := by decide +kernel
theorem d1_10 : decode prog_41_method_3_code 10 = .ok (.getstatic 46, 3) := by decide +kernel
theorem d1_13 : decode prog_41_method_3_code 13 = .ok (.invokespecial 51, 3) := by decide +kernel
theorem d1_16 : decode prog_41_method_3_code 16 = .ok (.return_, 1) := by decide +kernel
theorem pd1 : parseMethodDescriptor "(ZIIIJJ)V" = some ⟨[.boolean, .int, .int, .int, .long, .long], none⟩ := by decide +kernel
theorem pn1 : plainName "com/example/ioconic/ioconic/expr/Magnitude" = true := by first | (simp [plainName, overriddenIn]; done) | decide +kernel
theorem ef1 (m : MethodId) (x0 : Addr) (x1 : Int32) (x2 : Int32) (x3 : Int32) (x4 : Int32) (x5 : Int64) (x6 : Int64) : entryFrame m #[(.ref x0), (.int x1), (.int x2), (.int x3), (.int x4), (.long x5), (.long x6)] 9 = mkF m 0 #[.val (.ref x0), .val (.int x1), .val (.int x2), .val (.int x3), .val (.int x4), .val (.long x5), .second, .val (.long x6), .second] [] := by first | (simp [entryFrame, mkF, argsToLocals, Value.category]; done) | rfl
set_option maxRecDepth 65536 in
set_option maxHeartbeats 40000000 in
theorem rm1 (l : Launch) (Z : State) (a0 : Array Value) (hw : ∀ d ∈ tables_1, d.before a0 Z = true) (ws : List Jvm.Cond) (a1 : Addr) (p2 : Int32) (p3 : Int32) (p4 : Int32) (p5 : Int32) (q6 : Int64) (q7 : Int64) (h0 : Heap) (n0 : Nat) (Z0 : n0 ≤ h0.size) (a8 : Addr) (SA : Sta Z h0 "com/example/ioconic/ioconic/expr/Tails" "ANY" "Lcom/example/ioconic/ioconic/expr/Tails;" (.ref a8)) (E0 : Exa Z h0 a1 "com/example/ioconic/ioconic/expr/Magnitude") (F_negative : Fld Z h0 a1 "com/example/ioconic/ioconic/expr/Magnitude" "negative" "Z" (.int (0 : Int32))) (F_fewest : Fld Z h0 a1 "com/example/ioconic/ioconic/expr/Magnitude" "fewest" "I" (.int (0 : Int32))) (F_most : Fld Z h0 a1 "com/example/ioconic/ioconic/expr/Magnitude" "most" "I" (.int (0 : Int32))) (F_lastDigits : Fld Z h0 a1 "com/example/ioconic/ioconic/expr/Magnitude" "lastDigits" "I" (.int (0 : Int32))) (F_leadLow : Fld Z h0 a1 "com/example/ioconic/ioconic/expr/Magnitude" "leadLow" "J" (.long (0 : Int64))) (F_leadHigh : Fld Z h0 a1 "com/example/ioconic/ioconic/expr/Magnitude" "leadHigh" "J" (.long (0 : Int64))) (F_tails : Fld Z h0 a1 "com/example/ioconic/ioconic/expr/Magnitude" "tails" "Lcom/example/ioconic/ioconic/expr/Tails;" .null) (ga : n0 ≤ a1) :
    own_Con l Z (⟨"com/example/ioconic/ioconic/expr/Magnitude", "<init>", "(ZIIIJJ)V"⟩ : MethodName) prog_41_method_3_code 9 none ws ({ frames := 3, cells := 0, slots := 0, locals := 45 } : Room) #[(.ref a1), (.int p2), (.int p3), (.int p4), (.int p5), (.long q6), (.long q7)] h0 (fun v h L => v = none ∧ Fr n0 L ∧ Keep h0 h [a1] ∧ Exa Z h a1 "com/example/ioconic/ioconic/expr/Magnitude" ∧ Fld Z h a1 "com/example/ioconic/ioconic/expr/Magnitude" "leadLow" "J" (.long q6) ∧ Fld Z h a1 "com/example/ioconic/ioconic/expr/Magnitude" "leadHigh" "J" (.long q7)) := by
  refine own_body (plainFor_of_name pn1) ?_
  intro p e s m below meth c s₁ hx hby hml0 hZ hown0 hnm0 hret0 hk e0 X0
  have hown : s.vm.findClass "com/example/ioconic/ioconic/expr/Magnitude" = some m.cls := hown0
  have hnm : meth.name = "<init>" := hnm0
  have hret : meth.sig.returnType = none := hret0
  have hml : c.maxLocals = 9 := hml0
  have N0 := Fr.nil n0
  refine own_cast (ef1 m a1 p2 p3 p4 p5 q6 q7) ?_
  refine own_go (T' := s₁) (g' := (mkF m 10 #[.val (.ref a1), .val (.int p2), .val (.int p3), .val (.int p4), .val (.int p5), .val (.long q6), .second, .val (.long q7), .second] [(.long q7), (.long q6), (.int p5), (.int p4), (.int p3), (.int p2), (.ref a1)])) (fun t_ k_ => ?_) ?_
  · refine XS.aloadN X0.here hx rfl (hb hby d1_0) rfl rfl ?_
    show Steps p.tables e below (s₁.setTop (mkF m 1 #[.val (.ref a1), .val (.int p2), .val (.int p3), .val (.int p4), .val (.int p5), .val (.long q6), .second, .val (.long q7), .second] [(.ref a1)])) _
    refine XS.iloadN X0.here hx rfl (hb hby d1_1) rfl ?_
    show Steps p.tables e below (s₁.setTop (mkF m 2 #[.val (.ref a1), .val (.int p2), .val (.int p3), .val (.int p4), .val (.int p5), .val (.long q6), .second, .val (.long q7), .second] [(.int p2), (.ref a1)])) _
    refine XS.iloadN X0.here hx rfl (hb hby d1_2) rfl ?_
    show Steps p.tables e below (s₁.setTop (mkF m 3 #[.val (.ref a1), .val (.int p2), .val (.int p3), .val (.int p4), .val (.int p5), .val (.long q6), .second, .val (.long q7), .second] [(.int p3), (.int p2), (.ref a1)])) _
    refine XS.iloadN X0.here hx rfl (hb hby d1_3) rfl ?_
    show Steps p.tables e below (s₁.setTop (mkF m 4 #[.val (.ref a1), .val (.int p2), .val (.int p3), .val (.int p4), .val (.int p5), .val (.long q6), .second, .val (.long q7), .second] [(.int p4), (.int p3), (.int p2), (.ref a1)])) _
    refine XS.iload X0.here hx rfl (hb hby d1_4) rfl ?_
    show Steps p.tables e below (s₁.setTop (mkF m 6 #[.val (.ref a1), .val (.int p2), .val (.int p3), .val (.int p4), .val (.int p5), .val (.long q6), .second, .val (.long q7), .second] [(.int p5), (.int p4), (.int p3), (.int p2), (.ref a1)])) _
    refine XS.lload X0.here hx rfl (hb hby d1_6) rfl ?_
    show Steps p.tables e below (s₁.setTop (mkF m 8 #[.val (.ref a1), .val (.int p2), .val (.int p3), .val (.int p4), .val (.int p5), .val (.long q6), .second, .val (.long q7), .second] [(.long q6), (.int p5), (.int p4), (.int p3), (.int p2), (.ref a1)])) _
    refine XS.lload X0.here hx rfl (hb hby d1_8) rfl ?_
    show Steps p.tables e below (s₁.setTop (mkF m 10 #[.val (.ref a1), .val (.int p2), .val (.int p3), .val (.int p4), .val (.int p5), .val (.long q6), .second, .val (.long q7), .second] [(.long q7), (.long q6), (.int p5), (.int p4), (.int p3), (.int p2), (.ref a1)])) _
    exact k_
  obtain ⟨T1, X1, e1, st1⟩ := getS2 X0 hx hZ hown (host := "") (Or.inl (hw _ (List.mem_of_getElem? (i := 9) rfl))) Via.refl e0 SA (g := (mkF m 10 #[.val (.ref a1), .val (.int p2), .val (.int p3), .val (.int p4), .val (.int p5), .val (.long q6), .second, .val (.long q7), .second] [(.long q7), (.long q6), (.int p5), (.int p4), (.int p3), (.int p2), (.ref a1)])) rfl (hb hby d1_10)
  refine own_go st1 ?_
  show own_Go p e below s ({ frames := 3, cells := 0, slots := 0, locals := 45 } : Room).cells ({ frames := 3, cells := 0, slots := 0, locals := 45 } : Room).slots (fun v h L => v = none ∧ Fr n0 L ∧ Keep h0 h [a1] ∧ Exa Z h a1 "com/example/ioconic/ioconic/expr/Magnitude" ∧ Fld Z h a1 "com/example/ioconic/ioconic/expr/Magnitude" "leadLow" "J" (.long q6) ∧ Fld Z h a1 "com/example/ioconic/ioconic/expr/Magnitude" "leadHigh" "J" (.long q7)) T1 (mkF m 13 #[.val (.ref a1), .val (.int p2), .val (.int p3), .val (.int p4), .val (.int p5), .val (.long q6), .second, .val (.long q7), .second] [(.ref a8), (.long q7), (.long q6), (.int p5), (.int p4), (.int p3), (.int p2), (.ref a1)])
  refine own_callC (y := (⟨"com/example/ioconic/ioconic/expr/Magnitude", "<init>", "(ZIIIJJLcom/example/ioconic/ioconic/expr/Tails;)V"⟩ : MethodName)) (W := 0) (rm := ({ frames := 2, cells := 0, slots := 0, locals := 24 } : Room)) (argsL := [(.int p2), (.int p3), (.int p4), (.int p5), (.long q6), (.long q7), (.ref a8)]) (rest := []) X1 hx hZ rfl hown (hw _ (List.mem_of_getElem? (i := 12) rfl)) (hw _ (List.mem_of_getElem? (i := 13) rfl)) (hw _ (List.mem_of_getElem? (i := 5) rfl)) (hw _ (List.mem_of_getElem? (i := 14) rfl)) (by decide) (rm2 l Z a0 hw [] a1 p2 p3 p4 p5 q6 q7 a8 h0 n0 Z0 E0 F_negative F_fewest F_most F_lastDigits F_leadLow F_leadHigh F_tails ga) (by decide) (by decide) e1 (by decide) (by decide) rfl (by rw [hml]; rfl) (lenOf pd2 rfl) rfl (by show 2 * 0 + _ ≤ _; exact Nat.le_of_eq rfl) (hb hby d1_13) ?_
  rintro _ T2 L2 X2 ⟨rfl, N2, K2, EX2, FL2, FH2⟩
  show own_Go p e below s ({ frames := 3, cells := 0, slots := 0, locals := 45 } : Room).cells ({ frames := 3, cells := 0, slots := 0, locals := 45 } : Room).slots (fun v h L => v = none ∧ Fr n0 L ∧ Keep h0 h [a1] ∧ Exa Z h a1 "com/example/ioconic/ioconic/expr/Magnitude" ∧ Fld Z h a1 "com/example/ioconic/ioconic/expr/Magnitude" "leadLow" "J" (.long q6) ∧ Fld Z h a1 "com/example/ioconic/ioconic/expr/Magnitude" "leadHigh" "J" (.long q7)) T2 (mkF m 16 #[.val (.ref a1), .val (.int p2), .val (.int p3), .val (.int p4), .val (.int p5), .val (.long q6), .second, .val (.long q7), .second] [])
  exact own_retV X2 hx hret hk (hb hby d1_16) (by decide) (by decide) ⟨rfl, Fr.app N0 N2, K2, EX2, FL2, FH2⟩
theorem d5_0 : decode prog_41_method_16_code 0 = .ok (.aload_n 0, 1) := by decide +kernel
theorem d5_1 : decode prog_41_method_16_code 1 = .ok (.getfield 25, 3) := by decide +kernel
theorem d5_4 : decode prog_41_method_16_code 4 = .ok (.aload_n 0, 1) := by decide +kernel
theorem d5_5 : decode prog_41_method_16_code 5 = .ok (.getfield 29, 3) := by decide +kernel
theorem d5_8 : decode prog_41_method_16_code 8 = .ok (.lcmp, 1) := by decide +kernel
theorem d5_9 : decode prog_41_method_16_code 9 = .ok (.ifCond .gt 29, 3) := by decide +kernel
theorem d5_12 : decode prog_41_method_16_code 12 = .ok (.aload_n 0, 1) := by decide +kernel
theorem d5_13 : decode prog_41_method_16_code 13 = .ok (.getfield 25, 3) := by decide +kernel
theorem d5_16 : decode prog_41_method_16_code 16 = .ok (.lload_n 1, 1) := by decide +kernel
theorem d5_17 : decode prog_41_method_16_code 17 = .ok (.lcmp, 1) := by decide +kernel
theorem d5_18 : decode prog_41_method_16_code 18 = .ok (.ifCond .gt 16, 3) := by decide +kernel
theorem d5_21 : decode prog_41_method_16_code 21 = .ok (.lload_n 1, 1) := by decide +kernel
theorem d5_22 : decode prog_41_method_16_code 22 = .ok (.aload_n 0, 1) := by decide +kernel
theorem d5_23 : decode prog_41_method_16_code 23 = .ok (.getfield 29, 3) := by decide +kernel
theorem d5_26 : decode prog_41_method_16_code 26 = .ok (.lcmp, 1) := by decide +kernel
theorem d5_27 : decode prog_41_method_16_code 27 = .ok (.ifCond .gt 7, 3) := by decide +kernel
theorem d5_30 : decode prog_41_method_16_code 30 = .ok (.iconst 1, 1) := by decide +kernel
theorem d5_31 : decode prog_41_method_16_code 31 = .ok (.goto 30, 3) := by decide +kernel
theorem d5_34 : decode prog_41_method_16_code 34 = .ok (.iconst 0, 1) := by decide +kernel
theorem d5_35 : decode prog_41_method_16_code 35 = .ok (.goto 26, 3) := by decide +kernel
theorem d5_38 : decode prog_41_method_16_code 38 = .ok (.lload_n 1, 1) := by decide +kernel
theorem d5_39 : decode prog_41_method_16_code 39 = .ok (.aload_n 0, 1) := by decide +kernel
theorem d5_40 : decode prog_41_method_16_code 40 = .ok (.getfield 25, 3) := by decide +kernel
theorem d5_43 : decode prog_41_method_16_code 43 = .ok (.lcmp, 1) := by decide +kernel
theorem d5_44 : decode prog_41_method_16_code 44 = .ok (.ifCond .ge 12, 3) := by decide +kernel
theorem d5_47 : decode prog_41_method_16_code 47 = .ok (.lload_n 1, 1) := by decide +kernel
theorem d5_48 : decode prog_41_method_16_code 48 = .ok (.aload_n 0, 1) := by decide +kernel
theorem d5_49 : decode prog_41_method_16_code 49 = .ok (.getfield 29, 3) := by decide +kernel
theorem d5_52 : decode prog_41_method_16_code 52 = .ok (.lcmp, 1) := by decide +kernel
theorem d5_53 : decode prog_41_method_16_code 53 = .ok (.ifCond .gt 7, 3) := by decide +kernel
theorem d5_56 : decode prog_41_method_16_code 56 = .ok (.iconst 1, 1) := by decide +kernel
theorem d5_57 : decode prog_41_method_16_code 57 = .ok (.goto 4, 3) := by decide +kernel
theorem d5_60 : decode prog_41_method_16_code 60 = .ok (.iconst 0, 1) := by decide +kernel
theorem d5_61 : decode prog_41_method_16_code 61 = .ok (.ireturn, 1) := by decide +kernel
theorem pd5 : parseMethodDescriptor "(J)Z" = some ⟨[.long], some .boolean⟩ := by decide +kernel
theorem pn5 : plainName "com/example/ioconic/ioconic/expr/Magnitude" = true := by first | (simp [plainName, overriddenIn]; done) | decide +kernel
theorem ef5 (m : MethodId) (x0 : Addr) (x1 : Int64) : entryFrame m #[(.ref x0), (.long x1)] 3 = mkF m 0 #[.val (.ref x0), .val (.long x1), .second] [] := by first | (simp [entryFrame, mkF, argsToLocals, Value.category]; done) | rfl
set_option maxRecDepth 65536 in
set_option maxHeartbeats 40000000 in
theorem rm5 (l : Launch) (Z : State) (a0 : Array Value) (hw : ∀ d ∈ tables_1, d.before a0 Z = true) (ws : List Jvm.Cond) (th : Addr) (q1 : Int64) (h0 : Heap) (n0 : Nat) (Z0 : n0 ≤ h0.size) (low high : Int64) (FL : Fld Z h0 th "com/example/ioconic/ioconic/expr/Magnitude" "leadLow" "J" (.long low)) (FH : Fld Z h0 th "com/example/ioconic/ioconic/expr/Magnitude" "leadHigh" "J" (.long high)) :
    own_Con l Z (⟨"com/example/ioconic/ioconic/expr/Magnitude", "leadsWith", "(J)Z"⟩ : MethodName) prog_41_method_16_code 3 (some .boolean) ws ({ frames := 0, cells := 0, slots := 0, locals := 0 } : Room) #[(.ref th), (.long q1)] h0 (own_P (.int (own_lw low high q1)) h0 n0) := by
  refine own_body (plainFor_of_name pn5) ?_
  intro p e s m below meth c s₁ hx hby hml0 hZ hown0 hnm0 hret0 hk e0 X0
  have hown : s.vm.findClass "com/example/ioconic/ioconic/expr/Magnitude" = some m.cls := hown0
  have hnm : meth.name = "leadsWith" := hnm0
  have hret : meth.sig.returnType = (some .boolean) := hret0
  have hml : c.maxLocals = 3 := hml0
  have N0 := Fr.nil n0
  refine own_cast (ef5 m th q1) ?_
  refine own_go (T' := s₁) (g' := (mkF m 1 #[.val (.ref th), .val (.long q1), .second] [(.ref th)])) (fun t_ k_ => ?_) ?_
  · refine XS.aloadN X0.here hx rfl (hb hby d5_0) rfl rfl ?_
    show Steps p.tables e below (s₁.setTop (mkF m 1 #[.val (.ref th), .val (.long q1), .second] [(.ref th)])) _
    exact k_
  obtain ⟨T1, X1, e1, st1⟩ := getF X0 hx hZ hown (host := "") (Or.inl (hw _ (List.mem_of_getElem? (i := 31) rfl))) Via.refl e0 FL (g := (mkF m 1 #[.val (.ref th), .val (.long q1), .second] [(.ref th)])) rfl rfl (hb hby d5_1)
  refine own_go st1 ?_
  show own_Go p e below s ({ frames := 0, cells := 0, slots := 0, locals := 0 } : Room).cells ({ frames := 0, cells := 0, slots := 0, locals := 0 } : Room).slots (own_P (.int (own_lw low high q1)) h0 n0) T1 (mkF m 4 #[.val (.ref th), .val (.long q1), .second] [(.long low)])
  refine own_go (T' := T1) (g' := (mkF m 5 #[.val (.ref th), .val (.long q1), .second] [(.ref th), (.long low)])) (fun t_ k_ => ?_) ?_
  · refine XS.aloadN X1.here hx rfl (hb hby d5_4) rfl rfl ?_
    show Steps p.tables e below (T1.setTop (mkF m 5 #[.val (.ref th), .val (.long q1), .second] [(.ref th), (.long low)])) _
    exact k_
  obtain ⟨T2, X2, e2, st2⟩ := getF X1 hx hZ hown (host := "") (Or.inl (hw _ (List.mem_of_getElem? (i := 33) rfl))) Via.refl e1 FH (g := (mkF m 5 #[.val (.ref th), .val (.long q1), .second] [(.ref th), (.long low)])) rfl rfl (hb hby d5_5)
  refine own_go st2 ?_
  show own_Go p e below s ({ frames := 0, cells := 0, slots := 0, locals := 0 } : Room).cells ({ frames := 0, cells := 0, slots := 0, locals := 0 } : Room).slots (own_P (.int (own_lw low high q1)) h0 n0) T2 (mkF m 8 #[.val (.ref th), .val (.long q1), .second] [(.long high), (.long low)])
  refine own_go (T' := T2) (g' := (mkF m 9 #[.val (.ref th), .val (.long q1), .second] [(.int (lcmpW low high))])) (fun t_ k_ => ?_) ?_
  · refine XS.lcmp X2.here hx rfl (hb hby d5_8) rfl ?_
    show Steps p.tables e below (T2.setTop (mkF m 9 #[.val (.ref th), .val (.long q1), .second] [(.int (lcmpW low high))])) _
    exact k_
  by_cases c3 : high < low
  · refine own_go (T' := T2) (g' := (mkF m 40 #[.val (.ref th), .val (.long q1), .second] [(.ref th), (.long q1)])) (fun t_ k_ => ?_) ?_
    · refine XS.ifYes X2.here hx rfl (pc0 := 9) (pc' := 38) rfl (hb hby d5_9) rfl ((if0 _ _).trans (tlt ((lw_gt _ _).mpr c3)).2.2.1) (by decide) (by decide) ?_
      show Steps p.tables e below (T2.setTop (mkF m 38 #[.val (.ref th), .val (.long q1), .second] [])) _
      refine XS.lloadN X2.here hx rfl (hb hby d5_38) rfl ?_
      show Steps p.tables e below (T2.setTop (mkF m 39 #[.val (.ref th), .val (.long q1), .second] [(.long q1)])) _
      refine XS.aloadN X2.here hx rfl (hb hby d5_39) rfl rfl ?_
      show Steps p.tables e below (T2.setTop (mkF m 40 #[.val (.ref th), .val (.long q1), .second] [(.ref th), (.long q1)])) _
      exact k_
    obtain ⟨T4, X4, e4, st4⟩ := getF X2 hx hZ hown (host := "") (Or.inl (hw _ (List.mem_of_getElem? (i := 31) rfl))) Via.refl e2 FL (g := (mkF m 40 #[.val (.ref th), .val (.long q1), .second] [(.ref th), (.long q1)])) rfl rfl (hb hby d5_40)
    refine own_go st4 ?_
    show own_Go p e below s ({ frames := 0, cells := 0, slots := 0, locals := 0 } : Room).cells ({ frames := 0, cells := 0, slots := 0, locals := 0 } : Room).slots (own_P (.int (own_lw low high q1)) h0 n0) T4 (mkF m 43 #[.val (.ref th), .val (.long q1), .second] [(.long low), (.long q1)])
    refine own_go (T' := T4) (g' := (mkF m 44 #[.val (.ref th), .val (.long q1), .second] [(.int (lcmpW q1 low))])) (fun t_ k_ => ?_) ?_
    · refine XS.lcmp X4.here hx rfl (hb hby d5_43) rfl ?_
      show Steps p.tables e below (T4.setTop (mkF m 44 #[.val (.ref th), .val (.long q1), .second] [(.int (lcmpW q1 low))])) _
      exact k_
    by_cases c5 : q1 < low
    · refine own_go (T' := T4) (g' := (mkF m 49 #[.val (.ref th), .val (.long q1), .second] [(.ref th), (.long q1)])) (fun t_ k_ => ?_) ?_
      · refine XS.ifNo X4.here hx rfl (hb hby d5_44) rfl ((if0 _ _).trans (tlt ((lw_lt _ _).mpr c5)).2.1) ?_
        show Steps p.tables e below (T4.setTop (mkF m 47 #[.val (.ref th), .val (.long q1), .second] [])) _
        refine XS.lloadN X4.here hx rfl (hb hby d5_47) rfl ?_
        show Steps p.tables e below (T4.setTop (mkF m 48 #[.val (.ref th), .val (.long q1), .second] [(.long q1)])) _
        refine XS.aloadN X4.here hx rfl (hb hby d5_48) rfl rfl ?_
        show Steps p.tables e below (T4.setTop (mkF m 49 #[.val (.ref th), .val (.long q1), .second] [(.ref th), (.long q1)])) _
        exact k_
      obtain ⟨T6, X6, e6, st6⟩ := getF X4 hx hZ hown (host := "") (Or.inl (hw _ (List.mem_of_getElem? (i := 33) rfl))) Via.refl e4 FH (g := (mkF m 49 #[.val (.ref th), .val (.long q1), .second] [(.ref th), (.long q1)])) rfl rfl (hb hby d5_49)
      refine own_go st6 ?_
      show own_Go p e below s ({ frames := 0, cells := 0, slots := 0, locals := 0 } : Room).cells ({ frames := 0, cells := 0, slots := 0, locals := 0 } : Room).slots (own_P (.int (own_lw low high q1)) h0 n0) T6 (mkF m 52 #[.val (.ref th), .val (.long q1), .second] [(.long high), (.long q1)])
      refine own_go (T' := T6) (g' := (mkF m 53 #[.val (.ref th), .val (.long q1), .second] [(.int (lcmpW q1 high))])) (fun t_ k_ => ?_) ?_
      · refine XS.lcmp X6.here hx rfl (hb hby d5_52) rfl ?_
        show Steps p.tables e below (T6.setTop (mkF m 53 #[.val (.ref th), .val (.long q1), .second] [(.int (lcmpW q1 high))])) _
        exact k_
      by_cases c7 : high < q1
      · refine own_go (T' := T6) (g' := (mkF m 61 #[.val (.ref th), .val (.long q1), .second] [(.int (0 : Int32))])) (fun t_ k_ => ?_) ?_
        · refine XS.ifYes X6.here hx rfl (pc0 := 53) (pc' := 60) rfl (hb hby d5_53) rfl ((if0 _ _).trans (tlt ((lw_gt _ _).mpr c7)).2.2.1) (by decide) (by decide) ?_
          show Steps p.tables e below (T6.setTop (mkF m 60 #[.val (.ref th), .val (.long q1), .second] [])) _
          refine XS.iconst X6.here hx rfl (hb hby d5_60) ?_
          show Steps p.tables e below (T6.setTop (mkF m 61 #[.val (.ref th), .val (.long q1), .second] [(.int (0 : Int32))])) _
          exact k_
        exact own_retZ X6 hx hret hk rfl (hb hby d5_61) (by decide) (by decide) ⟨by simp [own_lw, c3, c5, c7], N0, e6⟩
      · refine own_go (T' := T6) (g' := (mkF m 61 #[.val (.ref th), .val (.long q1), .second] [(.int (1 : Int32))])) (fun t_ k_ => ?_) ?_
        · refine XS.ifNo X6.here hx rfl (hb hby d5_53) rfl ((if0 _ _).trans (flt (mt (lw_gt _ _).mp c7)).2.2.1) ?_
          show Steps p.tables e below (T6.setTop (mkF m 56 #[.val (.ref th), .val (.long q1), .second] [])) _
          refine XS.iconst X6.here hx rfl (hb hby d5_56) ?_
          show Steps p.tables e below (T6.setTop (mkF m 57 #[.val (.ref th), .val (.long q1), .second] [(.int (1 : Int32))])) _
          refine XS.goto X6.here hx rfl (pc0 := 57) (pc' := 61) rfl (hb hby d5_57) (by decide) (by decide) ?_
          show Steps p.tables e below (T6.setTop (mkF m 61 #[.val (.ref th), .val (.long q1), .second] [(.int (1 : Int32))])) _
          exact k_
        exact own_retZ X6 hx hret hk rfl (hb hby d5_61) (by decide) (by decide) ⟨by simp [own_lw, c3, c5, c7], N0, e6⟩
    · refine own_go (T' := T4) (g' := (mkF m 61 #[.val (.ref th), .val (.long q1), .second] [(.int (1 : Int32))])) (fun t_ k_ => ?_) ?_
      · refine XS.ifYes X4.here hx rfl (pc0 := 44) (pc' := 56) rfl (hb hby d5_44) rfl ((if0 _ _).trans (flt (mt (lw_lt _ _).mp c5)).2.1) (by decide) (by decide) ?_
        show Steps p.tables e below (T4.setTop (mkF m 56 #[.val (.ref th), .val (.long q1), .second] [])) _
        refine XS.iconst X4.here hx rfl (hb hby d5_56) ?_
        show Steps p.tables e below (T4.setTop (mkF m 57 #[.val (.ref th), .val (.long q1), .second] [(.int (1 : Int32))])) _
        refine XS.goto X4.here hx rfl (pc0 := 57) (pc' := 61) rfl (hb hby d5_57) (by decide) (by decide) ?_
        show Steps p.tables e below (T4.setTop (mkF m 61 #[.val (.ref th), .val (.long q1), .second] [(.int (1 : Int32))])) _
        exact k_
      exact own_retZ X4 hx hret hk rfl (hb hby d5_61) (by decide) (by decide) ⟨by simp [own_lw, c3, c5], N0, e4⟩
  · refine own_go (T' := T2) (g' := (mkF m 13 #[.val (.ref th), .val (.long q1), .second] [(.ref th)])) (fun t_ k_ => ?_) ?_
    · refine XS.ifNo X2.here hx rfl (hb hby d5_9) rfl ((if0 _ _).trans (flt (mt (lw_gt _ _).mp c3)).2.2.1) ?_
      show Steps p.tables e below (T2.setTop (mkF m 12 #[.val (.ref th), .val (.long q1), .second] [])) _
      refine XS.aloadN X2.here hx rfl (hb hby d5_12) rfl rfl ?_
      show Steps p.tables e below (T2.setTop (mkF m 13 #[.val (.ref th), .val (.long q1), .second] [(.ref th)])) _
      exact k_
    obtain ⟨T8, X8, e8, st8⟩ := getF X2 hx hZ hown (host := "") (Or.inl (hw _ (List.mem_of_getElem? (i := 31) rfl))) Via.refl e2 FL (g := (mkF m 13 #[.val (.ref th), .val (.long q1), .second] [(.ref th)])) rfl rfl (hb hby d5_13)
    refine own_go st8 ?_
    show own_Go p e below s ({ frames := 0, cells := 0, slots := 0, locals := 0 } : Room).cells ({ frames := 0, cells := 0, slots := 0, locals := 0 } : Room).slots (own_P (.int (own_lw low high q1)) h0 n0) T8 (mkF m 16 #[.val (.ref th), .val (.long q1), .second] [(.long low)])
    refine own_go (T' := T8) (g' := (mkF m 18 #[.val (.ref th), .val (.long q1), .second] [(.int (lcmpW low q1))])) (fun t_ k_ => ?_) ?_
    · refine XS.lloadN X8.here hx rfl (hb hby d5_16) rfl ?_
      show Steps p.tables e below (T8.setTop (mkF m 17 #[.val (.ref th), .val (.long q1), .second] [(.long q1), (.long low)])) _
      refine XS.lcmp X8.here hx rfl (hb hby d5_17) rfl ?_
      show Steps p.tables e below (T8.setTop (mkF m 18 #[.val (.ref th), .val (.long q1), .second] [(.int (lcmpW low q1))])) _
      exact k_
    by_cases c9 : q1 < low
    · refine own_go (T' := T8) (g' := (mkF m 61 #[.val (.ref th), .val (.long q1), .second] [(.int (0 : Int32))])) (fun t_ k_ => ?_) ?_
      · refine XS.ifYes X8.here hx rfl (pc0 := 18) (pc' := 34) rfl (hb hby d5_18) rfl ((if0 _ _).trans (tlt ((lw_gt _ _).mpr c9)).2.2.1) (by decide) (by decide) ?_
        show Steps p.tables e below (T8.setTop (mkF m 34 #[.val (.ref th), .val (.long q1), .second] [])) _
        refine XS.iconst X8.here hx rfl (hb hby d5_34) ?_
        show Steps p.tables e below (T8.setTop (mkF m 35 #[.val (.ref th), .val (.long q1), .second] [(.int (0 : Int32))])) _
        refine XS.goto X8.here hx rfl (pc0 := 35) (pc' := 61) rfl (hb hby d5_35) (by decide) (by decide) ?_
        show Steps p.tables e below (T8.setTop (mkF m 61 #[.val (.ref th), .val (.long q1), .second] [(.int (0 : Int32))])) _
        exact k_
      exact own_retZ X8 hx hret hk rfl (hb hby d5_61) (by decide) (by decide) ⟨by simp [own_lw, c3, c9], N0, e8⟩
    · refine own_go (T' := T8) (g' := (mkF m 23 #[.val (.ref th), .val (.long q1), .second] [(.ref th), (.long q1)])) (fun t_ k_ => ?_) ?_
      · refine XS.ifNo X8.here hx rfl (hb hby d5_18) rfl ((if0 _ _).trans (flt (mt (lw_gt _ _).mp c9)).2.2.1) ?_
        show Steps p.tables e below (T8.setTop (mkF m 21 #[.val (.ref th), .val (.long q1), .second] [])) _
        refine XS.lloadN X8.here hx rfl (hb hby d5_21) rfl ?_
        show Steps p.tables e below (T8.setTop (mkF m 22 #[.val (.ref th), .val (.long q1), .second] [(.long q1)])) _
        refine XS.aloadN X8.here hx rfl (hb hby d5_22) rfl rfl ?_
        show Steps p.tables e below (T8.setTop (mkF m 23 #[.val (.ref th), .val (.long q1), .second] [(.ref th), (.long q1)])) _
        exact k_
      obtain ⟨T10, X10, e10, st10⟩ := getF X8 hx hZ hown (host := "") (Or.inl (hw _ (List.mem_of_getElem? (i := 33) rfl))) Via.refl e8 FH (g := (mkF m 23 #[.val (.ref th), .val (.long q1), .second] [(.ref th), (.long q1)])) rfl rfl (hb hby d5_23)
      refine own_go st10 ?_
      show own_Go p e below s ({ frames := 0, cells := 0, slots := 0, locals := 0 } : Room).cells ({ frames := 0, cells := 0, slots := 0, locals := 0 } : Room).slots (own_P (.int (own_lw low high q1)) h0 n0) T10 (mkF m 26 #[.val (.ref th), .val (.long q1), .second] [(.long high), (.long q1)])
      refine own_go (T' := T10) (g' := (mkF m 27 #[.val (.ref th), .val (.long q1), .second] [(.int (lcmpW q1 high))])) (fun t_ k_ => ?_) ?_
      · refine XS.lcmp X10.here hx rfl (hb hby d5_26) rfl ?_
        show Steps p.tables e below (T10.setTop (mkF m 27 #[.val (.ref th), .val (.long q1), .second] [(.int (lcmpW q1 high))])) _
        exact k_
      by_cases c11 : high < q1
      · refine own_go (T' := T10) (g' := (mkF m 61 #[.val (.ref th), .val (.long q1), .second] [(.int (0 : Int32))])) (fun t_ k_ => ?_) ?_
        · refine XS.ifYes X10.here hx rfl (pc0 := 27) (pc' := 34) rfl (hb hby d5_27) rfl ((if0 _ _).trans (tlt ((lw_gt _ _).mpr c11)).2.2.1) (by decide) (by decide) ?_
          show Steps p.tables e below (T10.setTop (mkF m 34 #[.val (.ref th), .val (.long q1), .second] [])) _
          refine XS.iconst X10.here hx rfl (hb hby d5_34) ?_
          show Steps p.tables e below (T10.setTop (mkF m 35 #[.val (.ref th), .val (.long q1), .second] [(.int (0 : Int32))])) _
          refine XS.goto X10.here hx rfl (pc0 := 35) (pc' := 61) rfl (hb hby d5_35) (by decide) (by decide) ?_
          show Steps p.tables e below (T10.setTop (mkF m 61 #[.val (.ref th), .val (.long q1), .second] [(.int (0 : Int32))])) _
          exact k_
        exact own_retZ X10 hx hret hk rfl (hb hby d5_61) (by decide) (by decide) ⟨by simp [own_lw, c3, c9, c11], N0, e10⟩
      · refine own_go (T' := T10) (g' := (mkF m 61 #[.val (.ref th), .val (.long q1), .second] [(.int (1 : Int32))])) (fun t_ k_ => ?_) ?_
        · refine XS.ifNo X10.here hx rfl (hb hby d5_27) rfl ((if0 _ _).trans (flt (mt (lw_gt _ _).mp c11)).2.2.1) ?_
          show Steps p.tables e below (T10.setTop (mkF m 30 #[.val (.ref th), .val (.long q1), .second] [])) _
          refine XS.iconst X10.here hx rfl (hb hby d5_30) ?_
          show Steps p.tables e below (T10.setTop (mkF m 31 #[.val (.ref th), .val (.long q1), .second] [(.int (1 : Int32))])) _
          refine XS.goto X10.here hx rfl (pc0 := 31) (pc' := 61) rfl (hb hby d5_31) (by decide) (by decide) ?_
          show Steps p.tables e below (T10.setTop (mkF m 61 #[.val (.ref th), .val (.long q1), .second] [(.int (1 : Int32))])) _
          exact k_
        exact own_retZ X10 hx hret hk rfl (hb hby d5_61) (by decide) (by decide) ⟨by simp [own_lw, c3, c9, c11], N0, e10⟩
/-! the law -/
theorem pn0 : plainName "com/example/ioconic/ioconic/expr/MagnitudeLeadsWithPinLaw" = true := by first | (simp [plainName, overriddenIn]; done) | decide +kernel
theorem ef0 (m : MethodId) (x0 : Int64) (x1 : Int64) (x2 : Int64) (x3 : Int32) (x4 : Int32) (x5 : Int32) : entryFrame m #[(.long x0), (.long x1), (.long x2), (.int x3), (.int x4), (.int x5)] maxLocals = mkF m 0 #[.val (.long x0), .second, .val (.long x1), .second, .val (.long x2), .second, .val (.int x3), .val (.int x4), .val (.int x5), .unset, .unset, .unset, .unset, .unset, .unset, .unset, .unset, .unset, .unset, .unset, .unset, .unset, .unset, .unset, .unset, .unset, .unset, .unset, .unset, .unset, .unset, .unset, .unset] [] := by first | (simp [entryFrame, mkF, argsToLocals, Value.category, maxLocals]; done) | rfl
set_option maxRecDepth 65536 in
set_option maxHeartbeats 40000000 in
theorem rm0 (l : Launch) (Z : State) (a0 : Array Value) (hw : ∀ d ∈ tables_1, d.before a0 Z = true) (ws : List Jvm.Cond) (q1 : Int64) (q2 : Int64) (q3 : Int64) (mode : Int32) (few : Int32) (most : Int32) (h0 : Heap) (n0 : Nat) (Z0 : n0 ≤ h0.size) (a8 : Addr) (SA : Sta Z h0 "com/example/ioconic/ioconic/expr/Tails" "ANY" "Lcom/example/ioconic/ioconic/expr/Tails;" (.ref a8)) :
    own_Con l Z x code maxLocals ret ws room_1 #[(.long q1), (.long q2), (.long q3), (.int mode), (.int few), (.int most)] h0 (fun v _ L => v = some (.int (1 : Int32)) ∧ Fr n0 L) := by
  refine own_body (plainFor_of_name pn0) ?_
  intro p e s m below meth c s₁ hx hby hml0 hZ hown0 hnm0 hret0 hk e0 X0
  have hown : s.vm.findClass "com/example/ioconic/ioconic/expr/MagnitudeLeadsWithPinLaw" = some m.cls := hown0
  have hnm : meth.name = "law" := hnm0
  have hret : meth.sig.returnType = (some .boolean) := hret0
  have hml : c.maxLocals = 33 := hml0
  have N0 := Fr.nil n0
  refine own_cast (ef0 m q1 q2 q3 mode few most) ?_
  refine own_go (T' := s₁) (g' := (mkF m 11 #[.val (.long q1), .second, .val (.long q2), .second, .val (.long q3), .second, .val (.int mode), .val (.int few), .val (.int most), .val (.long ((q1 &&& (9223372036854775807 : Int64)) - ((q1 &&& (9223372036854775807 : Int64)) / (900000000000 : Int64)) * (900000000000 : Int64))), .second, .unset, .unset, .unset, .unset, .unset, .unset, .unset, .unset, .unset, .unset, .unset, .unset, .unset, .unset, .unset, .unset, .unset, .unset, .unset, .unset, .unset, .unset] [])) (fun t_ k_ => ?_) ?_
  · refine XS.lloadN X0.here hx rfl (hb hby at_0) rfl ?_
    show Steps p.tables e below (s₁.setTop (mkF m 1 #[.val (.long q1), .second, .val (.long q2), .second, .val (.long q3), .second, .val (.int mode), .val (.int few), .val (.int most), .unset, .unset, .unset, .unset, .unset, .unset, .unset, .unset, .unset, .unset, .unset, .unset, .unset, .unset, .unset, .unset, .unset, .unset, .unset, .unset, .unset, .unset, .unset, .unset] [(.long q1)])) _
    refine X0.ldc2Long hx hown (mvT hZ (hw _ (List.mem_of_getElem? (i := 0) rfl))) (g := (mkF m 1 #[.val (.long q1), .second, .val (.long q2), .second, .val (.long q3), .second, .val (.int mode), .val (.int few), .val (.int most), .unset, .unset, .unset, .unset, .unset, .unset, .unset, .unset, .unset, .unset, .unset, .unset, .unset, .unset, .unset, .unset, .unset, .unset, .unset, .unset, .unset, .unset, .unset, .unset] [(.long q1)])) rfl (hb hby at_1) _ ?_
    show Steps p.tables e below (s₁.setTop (mkF m 4 #[.val (.long q1), .second, .val (.long q2), .second, .val (.long q3), .second, .val (.int mode), .val (.int few), .val (.int most), .unset, .unset, .unset, .unset, .unset, .unset, .unset, .unset, .unset, .unset, .unset, .unset, .unset, .unset, .unset, .unset, .unset, .unset, .unset, .unset, .unset, .unset, .unset, .unset] [(.long (9223372036854775807 : Int64)), (.long q1)])) _
    refine XS.land X0.here hx rfl (hb hby at_4) rfl ?_
    show Steps p.tables e below (s₁.setTop (mkF m 5 #[.val (.long q1), .second, .val (.long q2), .second, .val (.long q3), .second, .val (.int mode), .val (.int few), .val (.int most), .unset, .unset, .unset, .unset, .unset, .unset, .unset, .unset, .unset, .unset, .unset, .unset, .unset, .unset, .unset, .unset, .unset, .unset, .unset, .unset, .unset, .unset, .unset, .unset] [(.long (q1 &&& (9223372036854775807 : Int64)))])) _
    refine X0.ldc2Long hx hown (mvT hZ (hw _ (List.mem_of_getElem? (i := 1) rfl))) (g := (mkF m 5 #[.val (.long q1), .second, .val (.long q2), .second, .val (.long q3), .second, .val (.int mode), .val (.int few), .val (.int most), .unset, .unset, .unset, .unset, .unset, .unset, .unset, .unset, .unset, .unset, .unset, .unset, .unset, .unset, .unset, .unset, .unset, .unset, .unset, .unset, .unset, .unset, .unset, .unset] [(.long (q1 &&& (9223372036854775807 : Int64)))])) rfl (hb hby at_5) _ ?_
    show Steps p.tables e below (s₁.setTop (mkF m 8 #[.val (.long q1), .second, .val (.long q2), .second, .val (.long q3), .second, .val (.int mode), .val (.int few), .val (.int most), .unset, .unset, .unset, .unset, .unset, .unset, .unset, .unset, .unset, .unset, .unset, .unset, .unset, .unset, .unset, .unset, .unset, .unset, .unset, .unset, .unset, .unset, .unset, .unset] [(.long (900000000000 : Int64)), (.long (q1 &&& (9223372036854775807 : Int64)))])) _
    refine XS.lrem X0.here hx rfl (hb hby at_8) rfl (by decide) ?_
    show Steps p.tables e below (s₁.setTop (mkF m 9 #[.val (.long q1), .second, .val (.long q2), .second, .val (.long q3), .second, .val (.int mode), .val (.int few), .val (.int most), .unset, .unset, .unset, .unset, .unset, .unset, .unset, .unset, .unset, .unset, .unset, .unset, .unset, .unset, .unset, .unset, .unset, .unset, .unset, .unset, .unset, .unset, .unset, .unset] [(.long ((q1 &&& (9223372036854775807 : Int64)) - ((q1 &&& (9223372036854775807 : Int64)) / (900000000000 : Int64)) * (900000000000 : Int64)))])) _
    refine XS.lstore X0.here hx rfl (hb hby at_9) rfl (l' := #[.val (.long q1), .second, .val (.long q2), .second, .val (.long q3), .second, .val (.int mode), .val (.int few), .val (.int most), .val (.long ((q1 &&& (9223372036854775807 : Int64)) - ((q1 &&& (9223372036854775807 : Int64)) / (900000000000 : Int64)) * (900000000000 : Int64))), .second, .unset, .unset, .unset, .unset, .unset, .unset, .unset, .unset, .unset, .unset, .unset, .unset, .unset, .unset, .unset, .unset, .unset, .unset, .unset, .unset, .unset, .unset]) rfl ?_
    show Steps p.tables e below (s₁.setTop (mkF m 11 #[.val (.long q1), .second, .val (.long q2), .second, .val (.long q3), .second, .val (.int mode), .val (.int few), .val (.int most), .val (.long ((q1 &&& (9223372036854775807 : Int64)) - ((q1 &&& (9223372036854775807 : Int64)) / (900000000000 : Int64)) * (900000000000 : Int64))), .second, .unset, .unset, .unset, .unset, .unset, .unset, .unset, .unset, .unset, .unset, .unset, .unset, .unset, .unset, .unset, .unset, .unset, .unset, .unset, .unset, .unset, .unset] [])) _
    exact k_
  obtain ⟨lo, hlo⟩ : ∃ z : Int64, z = ((q1 &&& (9223372036854775807 : Int64)) - ((q1 &&& (9223372036854775807 : Int64)) / (900000000000 : Int64)) * (900000000000 : Int64)) := ⟨_, rfl⟩
  rw [← hlo]
  have hlo' := own_off q1
  rw [← hlo] at hlo'
  have J150 : ∀ (T : State) (L : List Loc) (hi : Int64) (sel : Int32) (dl le : Int64), Stand p l e room_1 s m #[(.long q1), (.long q2), (.long q3), (.int mode), (.int few), (.int most)] below meth c T L 0 0 → T.heap = h0 → Fr n0 L → (0 ≤ hi.toInt ∧ hi.toInt < 900000000000) → (0 ≤ le.toInt ∧ le.toInt < 900000000000) → own_Go p e below s room_1.cells room_1.slots (fun v _ L => v = some (.int (1 : Int32)) ∧ Fr n0 L) T (mkF m 150 #[.val (.long q1), .second, .val (.long q2), .second, .val (.long q3), .second, .val (.int mode), .val (.int few), .val (.int most), .val (.long lo), .second, .val (.long hi), .second, .val (.int sel), .val (.long dl), .second, .val (.long le), .second, .unset, .unset, .unset, .unset, .unset, .unset, .unset, .unset, .unset, .unset, .unset, .unset, .unset, .unset, .unset] []) := by
    intro T L hi sel dl le X eT N hhi hle
    refine own_go (T' := T) (g' := (mkF m 181 #[.val (.long q1), .second, .val (.long q2), .second, .val (.long q3), .second, .val (.int mode), .val (.int few), .val (.int most), .val (.long lo), .second, .val (.long hi), .second, .val (.int sel), .val (.long dl), .second, .val (.long le), .second, .val (.long ((100000000000 : Int64) + lo)), .second, .val (.long ((100000000000 : Int64) + hi)), .second, .val (.long ((100000000000 : Int64) + le)), .second, .unset, .unset, .unset, .unset, .unset, .unset, .unset, .unset, .unset] [(.int ((mode >>> ((9 : Int32) &&& 31)) &&& (1 : Int32)))])) (fun t_ k_ => ?_) ?_
    · refine X.ldc2Long hx hown (mvT hZ (hw _ (List.mem_of_getElem? (i := 2) rfl))) (g := (mkF m 150 #[.val (.long q1), .second, .val (.long q2), .second, .val (.long q3), .second, .val (.int mode), .val (.int few), .val (.int most), .val (.long lo), .second, .val (.long hi), .second, .val (.int sel), .val (.long dl), .second, .val (.long le), .second, .unset, .unset, .unset, .unset, .unset, .unset, .unset, .unset, .unset, .unset, .unset, .unset, .unset, .unset, .unset] [])) rfl (hb hby at_150) _ ?_
      show Steps p.tables e below (T.setTop (mkF m 153 #[.val (.long q1), .second, .val (.long q2), .second, .val (.long q3), .second, .val (.int mode), .val (.int few), .val (.int most), .val (.long lo), .second, .val (.long hi), .second, .val (.int sel), .val (.long dl), .second, .val (.long le), .second, .unset, .unset, .unset, .unset, .unset, .unset, .unset, .unset, .unset, .unset, .unset, .unset, .unset, .unset, .unset] [(.long (100000000000 : Int64))])) _
      refine XS.lload X.here hx rfl (hb hby at_153) rfl ?_
      show Steps p.tables e below (T.setTop (mkF m 155 #[.val (.long q1), .second, .val (.long q2), .second, .val (.long q3), .second, .val (.int mode), .val (.int few), .val (.int most), .val (.long lo), .second, .val (.long hi), .second, .val (.int sel), .val (.long dl), .second, .val (.long le), .second, .unset, .unset, .unset, .unset, .unset, .unset, .unset, .unset, .unset, .unset, .unset, .unset, .unset, .unset, .unset] [(.long lo), (.long (100000000000 : Int64))])) _
      refine XS.ladd X.here hx rfl (hb hby at_155) rfl ?_
      show Steps p.tables e below (T.setTop (mkF m 156 #[.val (.long q1), .second, .val (.long q2), .second, .val (.long q3), .second, .val (.int mode), .val (.int few), .val (.int most), .val (.long lo), .second, .val (.long hi), .second, .val (.int sel), .val (.long dl), .second, .val (.long le), .second, .unset, .unset, .unset, .unset, .unset, .unset, .unset, .unset, .unset, .unset, .unset, .unset, .unset, .unset, .unset] [(.long ((100000000000 : Int64) + lo))])) _
      refine XS.lstore X.here hx rfl (hb hby at_156) rfl (l' := #[.val (.long q1), .second, .val (.long q2), .second, .val (.long q3), .second, .val (.int mode), .val (.int few), .val (.int most), .val (.long lo), .second, .val (.long hi), .second, .val (.int sel), .val (.long dl), .second, .val (.long le), .second, .val (.long ((100000000000 : Int64) + lo)), .second, .unset, .unset, .unset, .unset, .unset, .unset, .unset, .unset, .unset, .unset, .unset, .unset, .unset]) rfl ?_
      show Steps p.tables e below (T.setTop (mkF m 158 #[.val (.long q1), .second, .val (.long q2), .second, .val (.long q3), .second, .val (.int mode), .val (.int few), .val (.int most), .val (.long lo), .second, .val (.long hi), .second, .val (.int sel), .val (.long dl), .second, .val (.long le), .second, .val (.long ((100000000000 : Int64) + lo)), .second, .unset, .unset, .unset, .unset, .unset, .unset, .unset, .unset, .unset, .unset, .unset, .unset, .unset] [])) _
      refine X.ldc2Long hx hown (mvT hZ (hw _ (List.mem_of_getElem? (i := 2) rfl))) (g := (mkF m 158 #[.val (.long q1), .second, .val (.long q2), .second, .val (.long q3), .second, .val (.int mode), .val (.int few), .val (.int most), .val (.long lo), .second, .val (.long hi), .second, .val (.int sel), .val (.long dl), .second, .val (.long le), .second, .val (.long ((100000000000 : Int64) + lo)), .second, .unset, .unset, .unset, .unset, .unset, .unset, .unset, .unset, .unset, .unset, .unset, .unset, .unset] [])) rfl (hb hby at_158) _ ?_
      show Steps p.tables e below (T.setTop (mkF m 161 #[.val (.long q1), .second, .val (.long q2), .second, .val (.long q3), .second, .val (.int mode), .val (.int few), .val (.int most), .val (.long lo), .second, .val (.long hi), .second, .val (.int sel), .val (.long dl), .second, .val (.long le), .second, .val (.long ((100000000000 : Int64) + lo)), .second, .unset, .unset, .unset, .unset, .unset, .unset, .unset, .unset, .unset, .unset, .unset, .unset, .unset] [(.long (100000000000 : Int64))])) _
      refine XS.lload X.here hx rfl (hb hby at_161) rfl ?_
      show Steps p.tables e below (T.setTop (mkF m 163 #[.val (.long q1), .second, .val (.long q2), .second, .val (.long q3), .second, .val (.int mode), .val (.int few), .val (.int most), .val (.long lo), .second, .val (.long hi), .second, .val (.int sel), .val (.long dl), .second, .val (.long le), .second, .val (.long ((100000000000 : Int64) + lo)), .second, .unset, .unset, .unset, .unset, .unset, .unset, .unset, .unset, .unset, .unset, .unset, .unset, .unset] [(.long hi), (.long (100000000000 : Int64))])) _
      refine XS.ladd X.here hx rfl (hb hby at_163) rfl ?_
      show Steps p.tables e below (T.setTop (mkF m 164 #[.val (.long q1), .second, .val (.long q2), .second, .val (.long q3), .second, .val (.int mode), .val (.int few), .val (.int most), .val (.long lo), .second, .val (.long hi), .second, .val (.int sel), .val (.long dl), .second, .val (.long le), .second, .val (.long ((100000000000 : Int64) + lo)), .second, .unset, .unset, .unset, .unset, .unset, .unset, .unset, .unset, .unset, .unset, .unset, .unset, .unset] [(.long ((100000000000 : Int64) + hi))])) _
      refine XS.lstore X.here hx rfl (hb hby at_164) rfl (l' := #[.val (.long q1), .second, .val (.long q2), .second, .val (.long q3), .second, .val (.int mode), .val (.int few), .val (.int most), .val (.long lo), .second, .val (.long hi), .second, .val (.int sel), .val (.long dl), .second, .val (.long le), .second, .val (.long ((100000000000 : Int64) + lo)), .second, .val (.long ((100000000000 : Int64) + hi)), .second, .unset, .unset, .unset, .unset, .unset, .unset, .unset, .unset, .unset, .unset, .unset]) rfl ?_
      show Steps p.tables e below (T.setTop (mkF m 166 #[.val (.long q1), .second, .val (.long q2), .second, .val (.long q3), .second, .val (.int mode), .val (.int few), .val (.int most), .val (.long lo), .second, .val (.long hi), .second, .val (.int sel), .val (.long dl), .second, .val (.long le), .second, .val (.long ((100000000000 : Int64) + lo)), .second, .val (.long ((100000000000 : Int64) + hi)), .second, .unset, .unset, .unset, .unset, .unset, .unset, .unset, .unset, .unset, .unset, .unset] [])) _
      refine X.ldc2Long hx hown (mvT hZ (hw _ (List.mem_of_getElem? (i := 2) rfl))) (g := (mkF m 166 #[.val (.long q1), .second, .val (.long q2), .second, .val (.long q3), .second, .val (.int mode), .val (.int few), .val (.int most), .val (.long lo), .second, .val (.long hi), .second, .val (.int sel), .val (.long dl), .second, .val (.long le), .second, .val (.long ((100000000000 : Int64) + lo)), .second, .val (.long ((100000000000 : Int64) + hi)), .second, .unset, .unset, .unset, .unset, .unset, .unset, .unset, .unset, .unset, .unset, .unset] [])) rfl (hb hby at_166) _ ?_
      show Steps p.tables e below (T.setTop (mkF m 169 #[.val (.long q1), .second, .val (.long q2), .second, .val (.long q3), .second, .val (.int mode), .val (.int few), .val (.int most), .val (.long lo), .second, .val (.long hi), .second, .val (.int sel), .val (.long dl), .second, .val (.long le), .second, .val (.long ((100000000000 : Int64) + lo)), .second, .val (.long ((100000000000 : Int64) + hi)), .second, .unset, .unset, .unset, .unset, .unset, .unset, .unset, .unset, .unset, .unset, .unset] [(.long (100000000000 : Int64))])) _
      refine XS.lload X.here hx rfl (hb hby at_169) rfl ?_
      show Steps p.tables e below (T.setTop (mkF m 171 #[.val (.long q1), .second, .val (.long q2), .second, .val (.long q3), .second, .val (.int mode), .val (.int few), .val (.int most), .val (.long lo), .second, .val (.long hi), .second, .val (.int sel), .val (.long dl), .second, .val (.long le), .second, .val (.long ((100000000000 : Int64) + lo)), .second, .val (.long ((100000000000 : Int64) + hi)), .second, .unset, .unset, .unset, .unset, .unset, .unset, .unset, .unset, .unset, .unset, .unset] [(.long le), (.long (100000000000 : Int64))])) _
      refine XS.ladd X.here hx rfl (hb hby at_171) rfl ?_
      show Steps p.tables e below (T.setTop (mkF m 172 #[.val (.long q1), .second, .val (.long q2), .second, .val (.long q3), .second, .val (.int mode), .val (.int few), .val (.int most), .val (.long lo), .second, .val (.long hi), .second, .val (.int sel), .val (.long dl), .second, .val (.long le), .second, .val (.long ((100000000000 : Int64) + lo)), .second, .val (.long ((100000000000 : Int64) + hi)), .second, .unset, .unset, .unset, .unset, .unset, .unset, .unset, .unset, .unset, .unset, .unset] [(.long ((100000000000 : Int64) + le))])) _
      refine XS.lstore X.here hx rfl (hb hby at_172) rfl (l' := #[.val (.long q1), .second, .val (.long q2), .second, .val (.long q3), .second, .val (.int mode), .val (.int few), .val (.int most), .val (.long lo), .second, .val (.long hi), .second, .val (.int sel), .val (.long dl), .second, .val (.long le), .second, .val (.long ((100000000000 : Int64) + lo)), .second, .val (.long ((100000000000 : Int64) + hi)), .second, .val (.long ((100000000000 : Int64) + le)), .second, .unset, .unset, .unset, .unset, .unset, .unset, .unset, .unset, .unset]) rfl ?_
      show Steps p.tables e below (T.setTop (mkF m 174 #[.val (.long q1), .second, .val (.long q2), .second, .val (.long q3), .second, .val (.int mode), .val (.int few), .val (.int most), .val (.long lo), .second, .val (.long hi), .second, .val (.int sel), .val (.long dl), .second, .val (.long le), .second, .val (.long ((100000000000 : Int64) + lo)), .second, .val (.long ((100000000000 : Int64) + hi)), .second, .val (.long ((100000000000 : Int64) + le)), .second, .unset, .unset, .unset, .unset, .unset, .unset, .unset, .unset, .unset] [])) _
      refine XS.iload X.here hx rfl (hb hby at_174) rfl ?_
      show Steps p.tables e below (T.setTop (mkF m 176 #[.val (.long q1), .second, .val (.long q2), .second, .val (.long q3), .second, .val (.int mode), .val (.int few), .val (.int most), .val (.long lo), .second, .val (.long hi), .second, .val (.int sel), .val (.long dl), .second, .val (.long le), .second, .val (.long ((100000000000 : Int64) + lo)), .second, .val (.long ((100000000000 : Int64) + hi)), .second, .val (.long ((100000000000 : Int64) + le)), .second, .unset, .unset, .unset, .unset, .unset, .unset, .unset, .unset, .unset] [(.int mode)])) _
      refine XS.bipush X.here hx rfl (hb hby at_176) ?_
      show Steps p.tables e below (T.setTop (mkF m 178 #[.val (.long q1), .second, .val (.long q2), .second, .val (.long q3), .second, .val (.int mode), .val (.int few), .val (.int most), .val (.long lo), .second, .val (.long hi), .second, .val (.int sel), .val (.long dl), .second, .val (.long le), .second, .val (.long ((100000000000 : Int64) + lo)), .second, .val (.long ((100000000000 : Int64) + hi)), .second, .val (.long ((100000000000 : Int64) + le)), .second, .unset, .unset, .unset, .unset, .unset, .unset, .unset, .unset, .unset] [(.int (9 : Int32)), (.int mode)])) _
      refine XS.ishr X.here hx rfl (hb hby at_178) rfl ?_
      show Steps p.tables e below (T.setTop (mkF m 179 #[.val (.long q1), .second, .val (.long q2), .second, .val (.long q3), .second, .val (.int mode), .val (.int few), .val (.int most), .val (.long lo), .second, .val (.long hi), .second, .val (.int sel), .val (.long dl), .second, .val (.long le), .second, .val (.long ((100000000000 : Int64) + lo)), .second, .val (.long ((100000000000 : Int64) + hi)), .second, .val (.long ((100000000000 : Int64) + le)), .second, .unset, .unset, .unset, .unset, .unset, .unset, .unset, .unset, .unset] [(.int (mode >>> ((9 : Int32) &&& 31)))])) _
      refine XS.iconst X.here hx rfl (hb hby at_179) ?_
      show Steps p.tables e below (T.setTop (mkF m 180 #[.val (.long q1), .second, .val (.long q2), .second, .val (.long q3), .second, .val (.int mode), .val (.int few), .val (.int most), .val (.long lo), .second, .val (.long hi), .second, .val (.int sel), .val (.long dl), .second, .val (.long le), .second, .val (.long ((100000000000 : Int64) + lo)), .second, .val (.long ((100000000000 : Int64) + hi)), .second, .val (.long ((100000000000 : Int64) + le)), .second, .unset, .unset, .unset, .unset, .unset, .unset, .unset, .unset, .unset] [(.int (1 : Int32)), (.int (mode >>> ((9 : Int32) &&& 31)))])) _
      refine XS.iand X.here hx rfl (hb hby at_180) rfl ?_
      show Steps p.tables e below (T.setTop (mkF m 181 #[.val (.long q1), .second, .val (.long q2), .second, .val (.long q3), .second, .val (.int mode), .val (.int few), .val (.int most), .val (.long lo), .second, .val (.long hi), .second, .val (.int sel), .val (.long dl), .second, .val (.long le), .second, .val (.long ((100000000000 : Int64) + lo)), .second, .val (.long ((100000000000 : Int64) + hi)), .second, .val (.long ((100000000000 : Int64) + le)), .second, .unset, .unset, .unset, .unset, .unset, .unset, .unset, .unset, .unset] [(.int ((mode >>> ((9 : Int32) &&& 31)) &&& (1 : Int32)))])) _
      exact k_
    obtain ⟨neg, hneg⟩ : ∃ z : Int32, z = if ((mode >>> ((9 : Int32) &&& 31)) &&& (1 : Int32)) = (0 : Int32) then (0 : Int32) else (1 : Int32) := ⟨_, rfl⟩
    refine own_go (T' := T) (g' := (mkF m 191 #[.val (.long q1), .second, .val (.long q2), .second, .val (.long q3), .second, .val (.int mode), .val (.int few), .val (.int most), .val (.long lo), .second, .val (.long hi), .second, .val (.int sel), .val (.long dl), .second, .val (.long le), .second, .val (.long ((100000000000 : Int64) + lo)), .second, .val (.long ((100000000000 : Int64) + hi)), .second, .val (.long ((100000000000 : Int64) + le)), .second, .val (.int neg), .unset, .unset, .unset, .unset, .unset, .unset, .unset, .unset] [])) (fun t_ k_ => ?_) ?_
    · by_cases hm1 : ((mode >>> ((9 : Int32) &&& 31)) &&& (1 : Int32)) = (0 : Int32)
      · refine XS.ifYes X.here hx rfl (pc0 := 181) (pc' := 188) rfl (hb hby at_181) rfl ((if0 _ _).trans (teq hm1).1) (by decide) (by decide) ?_
        show Steps p.tables e below (T.setTop (mkF m 188 #[.val (.long q1), .second, .val (.long q2), .second, .val (.long q3), .second, .val (.int mode), .val (.int few), .val (.int most), .val (.long lo), .second, .val (.long hi), .second, .val (.int sel), .val (.long dl), .second, .val (.long le), .second, .val (.long ((100000000000 : Int64) + lo)), .second, .val (.long ((100000000000 : Int64) + hi)), .second, .val (.long ((100000000000 : Int64) + le)), .second, .unset, .unset, .unset, .unset, .unset, .unset, .unset, .unset, .unset] [])) _
        refine XS.iconst X.here hx rfl (hb hby at_188) ?_
        show Steps p.tables e below (T.setTop (mkF m 189 #[.val (.long q1), .second, .val (.long q2), .second, .val (.long q3), .second, .val (.int mode), .val (.int few), .val (.int most), .val (.long lo), .second, .val (.long hi), .second, .val (.int sel), .val (.long dl), .second, .val (.long le), .second, .val (.long ((100000000000 : Int64) + lo)), .second, .val (.long ((100000000000 : Int64) + hi)), .second, .val (.long ((100000000000 : Int64) + le)), .second, .unset, .unset, .unset, .unset, .unset, .unset, .unset, .unset, .unset] [(.int (0 : Int32))])) _
        refine XS.istore X.here hx rfl (hb hby at_189) rfl (l' := #[.val (.long q1), .second, .val (.long q2), .second, .val (.long q3), .second, .val (.int mode), .val (.int few), .val (.int most), .val (.long lo), .second, .val (.long hi), .second, .val (.int sel), .val (.long dl), .second, .val (.long le), .second, .val (.long ((100000000000 : Int64) + lo)), .second, .val (.long ((100000000000 : Int64) + hi)), .second, .val (.long ((100000000000 : Int64) + le)), .second, .val (.int (0 : Int32)), .unset, .unset, .unset, .unset, .unset, .unset, .unset, .unset]) rfl ?_
        show Steps p.tables e below (T.setTop (mkF m 191 #[.val (.long q1), .second, .val (.long q2), .second, .val (.long q3), .second, .val (.int mode), .val (.int few), .val (.int most), .val (.long lo), .second, .val (.long hi), .second, .val (.int sel), .val (.long dl), .second, .val (.long le), .second, .val (.long ((100000000000 : Int64) + lo)), .second, .val (.long ((100000000000 : Int64) + hi)), .second, .val (.long ((100000000000 : Int64) + le)), .second, .val (.int (0 : Int32)), .unset, .unset, .unset, .unset, .unset, .unset, .unset, .unset] [])) _
        rw [show neg = (0 : Int32) from by rw [hneg]; simp [hm1]] at k_
        exact k_
      · refine XS.ifNo X.here hx rfl (hb hby at_181) rfl ((if0 _ _).trans (feq hm1).1) ?_
        show Steps p.tables e below (T.setTop (mkF m 184 #[.val (.long q1), .second, .val (.long q2), .second, .val (.long q3), .second, .val (.int mode), .val (.int few), .val (.int most), .val (.long lo), .second, .val (.long hi), .second, .val (.int sel), .val (.long dl), .second, .val (.long le), .second, .val (.long ((100000000000 : Int64) + lo)), .second, .val (.long ((100000000000 : Int64) + hi)), .second, .val (.long ((100000000000 : Int64) + le)), .second, .unset, .unset, .unset, .unset, .unset, .unset, .unset, .unset, .unset] [])) _
        refine XS.iconst X.here hx rfl (hb hby at_184) ?_
        show Steps p.tables e below (T.setTop (mkF m 185 #[.val (.long q1), .second, .val (.long q2), .second, .val (.long q3), .second, .val (.int mode), .val (.int few), .val (.int most), .val (.long lo), .second, .val (.long hi), .second, .val (.int sel), .val (.long dl), .second, .val (.long le), .second, .val (.long ((100000000000 : Int64) + lo)), .second, .val (.long ((100000000000 : Int64) + hi)), .second, .val (.long ((100000000000 : Int64) + le)), .second, .unset, .unset, .unset, .unset, .unset, .unset, .unset, .unset, .unset] [(.int (1 : Int32))])) _
        refine XS.goto X.here hx rfl (pc0 := 185) (pc' := 189) rfl (hb hby at_185) (by decide) (by decide) ?_
        show Steps p.tables e below (T.setTop (mkF m 189 #[.val (.long q1), .second, .val (.long q2), .second, .val (.long q3), .second, .val (.int mode), .val (.int few), .val (.int most), .val (.long lo), .second, .val (.long hi), .second, .val (.int sel), .val (.long dl), .second, .val (.long le), .second, .val (.long ((100000000000 : Int64) + lo)), .second, .val (.long ((100000000000 : Int64) + hi)), .second, .val (.long ((100000000000 : Int64) + le)), .second, .unset, .unset, .unset, .unset, .unset, .unset, .unset, .unset, .unset] [(.int (1 : Int32))])) _
        refine XS.istore X.here hx rfl (hb hby at_189) rfl (l' := #[.val (.long q1), .second, .val (.long q2), .second, .val (.long q3), .second, .val (.int mode), .val (.int few), .val (.int most), .val (.long lo), .second, .val (.long hi), .second, .val (.int sel), .val (.long dl), .second, .val (.long le), .second, .val (.long ((100000000000 : Int64) + lo)), .second, .val (.long ((100000000000 : Int64) + hi)), .second, .val (.long ((100000000000 : Int64) + le)), .second, .val (.int (1 : Int32)), .unset, .unset, .unset, .unset, .unset, .unset, .unset, .unset]) rfl ?_
        show Steps p.tables e below (T.setTop (mkF m 191 #[.val (.long q1), .second, .val (.long q2), .second, .val (.long q3), .second, .val (.int mode), .val (.int few), .val (.int most), .val (.long lo), .second, .val (.long hi), .second, .val (.int sel), .val (.long dl), .second, .val (.long le), .second, .val (.long ((100000000000 : Int64) + lo)), .second, .val (.long ((100000000000 : Int64) + hi)), .second, .val (.long ((100000000000 : Int64) + le)), .second, .val (.int (1 : Int32)), .unset, .unset, .unset, .unset, .unset, .unset, .unset, .unset] [])) _
        rw [show neg = (1 : Int32) from by rw [hneg]; simp [hm1]] at k_
        exact k_
    refine own_go (T' := T) (g' := (mkF m 202 #[.val (.long q1), .second, .val (.long q2), .second, .val (.long q3), .second, .val (.int mode), .val (.int few), .val (.int most), .val (.long lo), .second, .val (.long hi), .second, .val (.int sel), .val (.long dl), .second, .val (.long le), .second, .val (.long ((100000000000 : Int64) + lo)), .second, .val (.long ((100000000000 : Int64) + hi)), .second, .val (.long ((100000000000 : Int64) + le)), .second, .val (.int neg), .val (.int ((((mode).toUInt32 >>> ((10 : Int32) &&& 31).toUInt32).toInt32) &&& (1023 : Int32))), .unset, .unset, .unset, .unset, .unset, .unset, .unset] [])) (fun t_ k_ => ?_) ?_
    · refine XS.iload X.here hx rfl (hb hby at_191) rfl ?_
      show Steps p.tables e below (T.setTop (mkF m 193 #[.val (.long q1), .second, .val (.long q2), .second, .val (.long q3), .second, .val (.int mode), .val (.int few), .val (.int most), .val (.long lo), .second, .val (.long hi), .second, .val (.int sel), .val (.long dl), .second, .val (.long le), .second, .val (.long ((100000000000 : Int64) + lo)), .second, .val (.long ((100000000000 : Int64) + hi)), .second, .val (.long ((100000000000 : Int64) + le)), .second, .val (.int neg), .unset, .unset, .unset, .unset, .unset, .unset, .unset, .unset] [(.int mode)])) _
      refine XS.bipush X.here hx rfl (hb hby at_193) ?_
      show Steps p.tables e below (T.setTop (mkF m 195 #[.val (.long q1), .second, .val (.long q2), .second, .val (.long q3), .second, .val (.int mode), .val (.int few), .val (.int most), .val (.long lo), .second, .val (.long hi), .second, .val (.int sel), .val (.long dl), .second, .val (.long le), .second, .val (.long ((100000000000 : Int64) + lo)), .second, .val (.long ((100000000000 : Int64) + hi)), .second, .val (.long ((100000000000 : Int64) + le)), .second, .val (.int neg), .unset, .unset, .unset, .unset, .unset, .unset, .unset, .unset] [(.int (10 : Int32)), (.int mode)])) _
      refine XS.iushr X.here hx rfl (hb hby at_195) rfl ?_
      show Steps p.tables e below (T.setTop (mkF m 196 #[.val (.long q1), .second, .val (.long q2), .second, .val (.long q3), .second, .val (.int mode), .val (.int few), .val (.int most), .val (.long lo), .second, .val (.long hi), .second, .val (.int sel), .val (.long dl), .second, .val (.long le), .second, .val (.long ((100000000000 : Int64) + lo)), .second, .val (.long ((100000000000 : Int64) + hi)), .second, .val (.long ((100000000000 : Int64) + le)), .second, .val (.int neg), .unset, .unset, .unset, .unset, .unset, .unset, .unset, .unset] [(.int (((mode).toUInt32 >>> ((10 : Int32) &&& 31).toUInt32).toInt32))])) _
      refine XS.sipush X.here hx rfl (hb hby at_196) ?_
      show Steps p.tables e below (T.setTop (mkF m 199 #[.val (.long q1), .second, .val (.long q2), .second, .val (.long q3), .second, .val (.int mode), .val (.int few), .val (.int most), .val (.long lo), .second, .val (.long hi), .second, .val (.int sel), .val (.long dl), .second, .val (.long le), .second, .val (.long ((100000000000 : Int64) + lo)), .second, .val (.long ((100000000000 : Int64) + hi)), .second, .val (.long ((100000000000 : Int64) + le)), .second, .val (.int neg), .unset, .unset, .unset, .unset, .unset, .unset, .unset, .unset] [(.int (1023 : Int32)), (.int (((mode).toUInt32 >>> ((10 : Int32) &&& 31).toUInt32).toInt32))])) _
      refine XS.iand X.here hx rfl (hb hby at_199) rfl ?_
      show Steps p.tables e below (T.setTop (mkF m 200 #[.val (.long q1), .second, .val (.long q2), .second, .val (.long q3), .second, .val (.int mode), .val (.int few), .val (.int most), .val (.long lo), .second, .val (.long hi), .second, .val (.int sel), .val (.long dl), .second, .val (.long le), .second, .val (.long ((100000000000 : Int64) + lo)), .second, .val (.long ((100000000000 : Int64) + hi)), .second, .val (.long ((100000000000 : Int64) + le)), .second, .val (.int neg), .unset, .unset, .unset, .unset, .unset, .unset, .unset, .unset] [(.int ((((mode).toUInt32 >>> ((10 : Int32) &&& 31).toUInt32).toInt32) &&& (1023 : Int32)))])) _
      refine XS.istore X.here hx rfl (hb hby at_200) rfl (l' := #[.val (.long q1), .second, .val (.long q2), .second, .val (.long q3), .second, .val (.int mode), .val (.int few), .val (.int most), .val (.long lo), .second, .val (.long hi), .second, .val (.int sel), .val (.long dl), .second, .val (.long le), .second, .val (.long ((100000000000 : Int64) + lo)), .second, .val (.long ((100000000000 : Int64) + hi)), .second, .val (.long ((100000000000 : Int64) + le)), .second, .val (.int neg), .val (.int ((((mode).toUInt32 >>> ((10 : Int32) &&& 31).toUInt32).toInt32) &&& (1023 : Int32))), .unset, .unset, .unset, .unset, .unset, .unset, .unset]) rfl ?_
      show Steps p.tables e below (T.setTop (mkF m 202 #[.val (.long q1), .second, .val (.long q2), .second, .val (.long q3), .second, .val (.int mode), .val (.int few), .val (.int most), .val (.long lo), .second, .val (.long hi), .second, .val (.int sel), .val (.long dl), .second, .val (.long le), .second, .val (.long ((100000000000 : Int64) + lo)), .second, .val (.long ((100000000000 : Int64) + hi)), .second, .val (.long ((100000000000 : Int64) + le)), .second, .val (.int neg), .val (.int ((((mode).toUInt32 >>> ((10 : Int32) &&& 31).toUInt32).toInt32) &&& (1023 : Int32))), .unset, .unset, .unset, .unset, .unset, .unset, .unset] [])) _
      exact k_
    obtain ⟨ld, hld⟩ : ∃ z : Int32, z = ((((mode).toUInt32 >>> ((10 : Int32) &&& 31).toUInt32).toInt32) &&& (1023 : Int32)) := ⟨_, rfl⟩
    rw [← hld]
    obtain ⟨T2, h2, X2, e2, E2, A2, D2, -, st2⟩ := newO X hx hZ hown (hw _ (List.mem_of_getElem? (i := 3) rfl)) (hw _ (List.mem_of_getElem? (i := 4) rfl)) (hw _ (List.mem_of_getElem? (i := 5) rfl)) eT (g := (mkF m 202 #[.val (.long q1), .second, .val (.long q2), .second, .val (.long q3), .second, .val (.int mode), .val (.int few), .val (.int most), .val (.long lo), .second, .val (.long hi), .second, .val (.int sel), .val (.long dl), .second, .val (.long le), .second, .val (.long ((100000000000 : Int64) + lo)), .second, .val (.long ((100000000000 : Int64) + hi)), .second, .val (.long ((100000000000 : Int64) + le)), .second, .val (.int neg), .val (.int ld), .unset, .unset, .unset, .unset, .unset, .unset, .unset] [])) rfl (hb hby at_202) (by decide) (by decide)
    obtain ⟨b, g2⟩ : ∃ z, z = h0.size := ⟨_, rfl⟩
    rw [← g2] at A2 D2 st2
    refine own_go st2 ?_
    show own_Go p e below s room_1.cells room_1.slots (fun v _ L => v = some (.int (1 : Int32)) ∧ Fr n0 L) T2 (mkF m 205 #[.val (.long q1), .second, .val (.long q2), .second, .val (.long q3), .second, .val (.int mode), .val (.int few), .val (.int most), .val (.long lo), .second, .val (.long hi), .second, .val (.int sel), .val (.long dl), .second, .val (.long le), .second, .val (.long ((100000000000 : Int64) + lo)), .second, .val (.long ((100000000000 : Int64) + hi)), .second, .val (.long ((100000000000 : Int64) + le)), .second, .val (.int neg), .val (.int ld), .unset, .unset, .unset, .unset, .unset, .unset, .unset] [(.ref b)])
    have gb : n0 ≤ b := Nat.le_trans Z0 (Nat.le_of_eq g2.symm)
    have Z2 := Nat.le_trans Z0 E2.1
    refine own_go (T' := T2) (g' := (mkF m 218 #[.val (.long q1), .second, .val (.long q2), .second, .val (.long q3), .second, .val (.int mode), .val (.int few), .val (.int most), .val (.long lo), .second, .val (.long hi), .second, .val (.int sel), .val (.long dl), .second, .val (.long le), .second, .val (.long ((100000000000 : Int64) + lo)), .second, .val (.long ((100000000000 : Int64) + hi)), .second, .val (.long ((100000000000 : Int64) + le)), .second, .val (.int neg), .val (.int ld), .unset, .unset, .unset, .unset, .unset, .unset, .unset] [(.long ((100000000000 : Int64) + hi)), (.long ((100000000000 : Int64) + lo)), (.int ld), (.int most), (.int few), (.int neg), (.ref b), (.ref b)])) (fun t_ k_ => ?_) ?_
    · refine XS.dup X2.here hx rfl (hb hby at_205) rfl rfl ?_
      show Steps p.tables e below (T2.setTop (mkF m 206 #[.val (.long q1), .second, .val (.long q2), .second, .val (.long q3), .second, .val (.int mode), .val (.int few), .val (.int most), .val (.long lo), .second, .val (.long hi), .second, .val (.int sel), .val (.long dl), .second, .val (.long le), .second, .val (.long ((100000000000 : Int64) + lo)), .second, .val (.long ((100000000000 : Int64) + hi)), .second, .val (.long ((100000000000 : Int64) + le)), .second, .val (.int neg), .val (.int ld), .unset, .unset, .unset, .unset, .unset, .unset, .unset] [(.ref b), (.ref b)])) _
      refine XS.iload X2.here hx rfl (hb hby at_206) rfl ?_
      show Steps p.tables e below (T2.setTop (mkF m 208 #[.val (.long q1), .second, .val (.long q2), .second, .val (.long q3), .second, .val (.int mode), .val (.int few), .val (.int most), .val (.long lo), .second, .val (.long hi), .second, .val (.int sel), .val (.long dl), .second, .val (.long le), .second, .val (.long ((100000000000 : Int64) + lo)), .second, .val (.long ((100000000000 : Int64) + hi)), .second, .val (.long ((100000000000 : Int64) + le)), .second, .val (.int neg), .val (.int ld), .unset, .unset, .unset, .unset, .unset, .unset, .unset] [(.int neg), (.ref b), (.ref b)])) _
      refine XS.iload X2.here hx rfl (hb hby at_208) rfl ?_
      show Steps p.tables e below (T2.setTop (mkF m 210 #[.val (.long q1), .second, .val (.long q2), .second, .val (.long q3), .second, .val (.int mode), .val (.int few), .val (.int most), .val (.long lo), .second, .val (.long hi), .second, .val (.int sel), .val (.long dl), .second, .val (.long le), .second, .val (.long ((100000000000 : Int64) + lo)), .second, .val (.long ((100000000000 : Int64) + hi)), .second, .val (.long ((100000000000 : Int64) + le)), .second, .val (.int neg), .val (.int ld), .unset, .unset, .unset, .unset, .unset, .unset, .unset] [(.int few), (.int neg), (.ref b), (.ref b)])) _
      refine XS.iload X2.here hx rfl (hb hby at_210) rfl ?_
      show Steps p.tables e below (T2.setTop (mkF m 212 #[.val (.long q1), .second, .val (.long q2), .second, .val (.long q3), .second, .val (.int mode), .val (.int few), .val (.int most), .val (.long lo), .second, .val (.long hi), .second, .val (.int sel), .val (.long dl), .second, .val (.long le), .second, .val (.long ((100000000000 : Int64) + lo)), .second, .val (.long ((100000000000 : Int64) + hi)), .second, .val (.long ((100000000000 : Int64) + le)), .second, .val (.int neg), .val (.int ld), .unset, .unset, .unset, .unset, .unset, .unset, .unset] [(.int most), (.int few), (.int neg), (.ref b), (.ref b)])) _
      refine XS.iload X2.here hx rfl (hb hby at_212) rfl ?_
      show Steps p.tables e below (T2.setTop (mkF m 214 #[.val (.long q1), .second, .val (.long q2), .second, .val (.long q3), .second, .val (.int mode), .val (.int few), .val (.int most), .val (.long lo), .second, .val (.long hi), .second, .val (.int sel), .val (.long dl), .second, .val (.long le), .second, .val (.long ((100000000000 : Int64) + lo)), .second, .val (.long ((100000000000 : Int64) + hi)), .second, .val (.long ((100000000000 : Int64) + le)), .second, .val (.int neg), .val (.int ld), .unset, .unset, .unset, .unset, .unset, .unset, .unset] [(.int ld), (.int most), (.int few), (.int neg), (.ref b), (.ref b)])) _
      refine XS.lload X2.here hx rfl (hb hby at_214) rfl ?_
      show Steps p.tables e below (T2.setTop (mkF m 216 #[.val (.long q1), .second, .val (.long q2), .second, .val (.long q3), .second, .val (.int mode), .val (.int few), .val (.int most), .val (.long lo), .second, .val (.long hi), .second, .val (.int sel), .val (.long dl), .second, .val (.long le), .second, .val (.long ((100000000000 : Int64) + lo)), .second, .val (.long ((100000000000 : Int64) + hi)), .second, .val (.long ((100000000000 : Int64) + le)), .second, .val (.int neg), .val (.int ld), .unset, .unset, .unset, .unset, .unset, .unset, .unset] [(.long ((100000000000 : Int64) + lo)), (.int ld), (.int most), (.int few), (.int neg), (.ref b), (.ref b)])) _
      refine XS.lload X2.here hx rfl (hb hby at_216) rfl ?_
      show Steps p.tables e below (T2.setTop (mkF m 218 #[.val (.long q1), .second, .val (.long q2), .second, .val (.long q3), .second, .val (.int mode), .val (.int few), .val (.int most), .val (.long lo), .second, .val (.long hi), .second, .val (.int sel), .val (.long dl), .second, .val (.long le), .second, .val (.long ((100000000000 : Int64) + lo)), .second, .val (.long ((100000000000 : Int64) + hi)), .second, .val (.long ((100000000000 : Int64) + le)), .second, .val (.int neg), .val (.int ld), .unset, .unset, .unset, .unset, .unset, .unset, .unset] [(.long ((100000000000 : Int64) + hi)), (.long ((100000000000 : Int64) + lo)), (.int ld), (.int most), (.int few), (.int neg), (.ref b), (.ref b)])) _
      exact k_
    refine own_callC (y := (⟨"com/example/ioconic/ioconic/expr/Magnitude", "<init>", "(ZIIIJJ)V"⟩ : MethodName)) (W := 1) (rm := ({ frames := 3, cells := 0, slots := 0, locals := 45 } : Room)) (argsL := [(.int neg), (.int few), (.int most), (.int ld), (.long ((100000000000 : Int64) + lo)), (.long ((100000000000 : Int64) + hi))]) (rest := [(.ref b)]) X2 hx hZ rfl hown (hw _ (List.mem_of_getElem? (i := 6) rfl)) (hw _ (List.mem_of_getElem? (i := 7) rfl)) (hw _ (List.mem_of_getElem? (i := 5) rfl)) (hw _ (List.mem_of_getElem? (i := 8) rfl)) (by decide) (rm1 l Z a0 hw [] b neg few most ld ((100000000000 : Int64) + lo) ((100000000000 : Int64) + hi) h2 n0 Z2 a8 (SA.ext E2) A2 (D2 (Or.inr (hw _ (List.mem_of_getElem? (i := 24) rfl))) (ty := .boolean) (by decide)) (D2 (Or.inr (hw _ (List.mem_of_getElem? (i := 26) rfl))) (ty := .int) (by decide)) (D2 (Or.inr (hw _ (List.mem_of_getElem? (i := 28) rfl))) (ty := .int) (by decide)) (D2 (Or.inr (hw _ (List.mem_of_getElem? (i := 30) rfl))) (ty := .int) (by decide)) (D2 (Or.inr (hw _ (List.mem_of_getElem? (i := 32) rfl))) (ty := .long) (by decide)) (D2 (Or.inr (hw _ (List.mem_of_getElem? (i := 34) rfl))) (ty := .long) (by decide)) (D2 (Or.inr (hw _ (List.mem_of_getElem? (i := 36) rfl))) (ty := (.object "com/example/ioconic/ioconic/expr/Tails")) (by decide)) gb) (by decide) (by decide) e2 (by decide) (by decide) rfl (by rw [hml]; rfl) (lenOf pd1 rfl) rfl (by show 2 * 0 + _ ≤ _; exact Nat.le_of_eq rfl) (hb hby at_218) ?_
    rintro _ T3 L3 X3 ⟨rfl, N3, K3, EX3, FL3, FH3⟩
    show own_Go p e below s room_1.cells room_1.slots (fun v _ L => v = some (.int (1 : Int32)) ∧ Fr n0 L) T3 (mkF m 221 #[.val (.long q1), .second, .val (.long q2), .second, .val (.long q3), .second, .val (.int mode), .val (.int few), .val (.int most), .val (.long lo), .second, .val (.long hi), .second, .val (.int sel), .val (.long dl), .second, .val (.long le), .second, .val (.long ((100000000000 : Int64) + lo)), .second, .val (.long ((100000000000 : Int64) + hi)), .second, .val (.long ((100000000000 : Int64) + le)), .second, .val (.int neg), .val (.int ld), .unset, .unset, .unset, .unset, .unset, .unset, .unset] [(.ref b)])
    have Z3 := Nat.le_trans Z2 K3.1
    refine own_go (T' := T3) (g' := (mkF m 227 #[.val (.long q1), .second, .val (.long q2), .second, .val (.long q3), .second, .val (.int mode), .val (.int few), .val (.int most), .val (.long lo), .second, .val (.long hi), .second, .val (.int sel), .val (.long dl), .second, .val (.long le), .second, .val (.long ((100000000000 : Int64) + lo)), .second, .val (.long ((100000000000 : Int64) + hi)), .second, .val (.long ((100000000000 : Int64) + le)), .second, .val (.int neg), .val (.int ld), .val (.ref b), .unset, .unset, .unset, .unset, .unset, .unset] [(.long ((100000000000 : Int64) + le)), (.ref b)])) (fun t_ k_ => ?_) ?_
    · refine XS.astore X3.here hx rfl (hb hby at_221) rfl rfl (l' := #[.val (.long q1), .second, .val (.long q2), .second, .val (.long q3), .second, .val (.int mode), .val (.int few), .val (.int most), .val (.long lo), .second, .val (.long hi), .second, .val (.int sel), .val (.long dl), .second, .val (.long le), .second, .val (.long ((100000000000 : Int64) + lo)), .second, .val (.long ((100000000000 : Int64) + hi)), .second, .val (.long ((100000000000 : Int64) + le)), .second, .val (.int neg), .val (.int ld), .val (.ref b), .unset, .unset, .unset, .unset, .unset, .unset]) rfl ?_
      show Steps p.tables e below (T3.setTop (mkF m 223 #[.val (.long q1), .second, .val (.long q2), .second, .val (.long q3), .second, .val (.int mode), .val (.int few), .val (.int most), .val (.long lo), .second, .val (.long hi), .second, .val (.int sel), .val (.long dl), .second, .val (.long le), .second, .val (.long ((100000000000 : Int64) + lo)), .second, .val (.long ((100000000000 : Int64) + hi)), .second, .val (.long ((100000000000 : Int64) + le)), .second, .val (.int neg), .val (.int ld), .val (.ref b), .unset, .unset, .unset, .unset, .unset, .unset] [])) _
      refine XS.aload X3.here hx rfl (hb hby at_223) rfl rfl ?_
      show Steps p.tables e below (T3.setTop (mkF m 225 #[.val (.long q1), .second, .val (.long q2), .second, .val (.long q3), .second, .val (.int mode), .val (.int few), .val (.int most), .val (.long lo), .second, .val (.long hi), .second, .val (.int sel), .val (.long dl), .second, .val (.long le), .second, .val (.long ((100000000000 : Int64) + lo)), .second, .val (.long ((100000000000 : Int64) + hi)), .second, .val (.long ((100000000000 : Int64) + le)), .second, .val (.int neg), .val (.int ld), .val (.ref b), .unset, .unset, .unset, .unset, .unset, .unset] [(.ref b)])) _
      refine XS.lload X3.here hx rfl (hb hby at_225) rfl ?_
      show Steps p.tables e below (T3.setTop (mkF m 227 #[.val (.long q1), .second, .val (.long q2), .second, .val (.long q3), .second, .val (.int mode), .val (.int few), .val (.int most), .val (.long lo), .second, .val (.long hi), .second, .val (.int sel), .val (.long dl), .second, .val (.long le), .second, .val (.long ((100000000000 : Int64) + lo)), .second, .val (.long ((100000000000 : Int64) + hi)), .second, .val (.long ((100000000000 : Int64) + le)), .second, .val (.int neg), .val (.int ld), .val (.ref b), .unset, .unset, .unset, .unset, .unset, .unset] [(.long ((100000000000 : Int64) + le)), (.ref b)])) _
      exact k_
    refine own_callV (y := (⟨"com/example/ioconic/ioconic/expr/Magnitude", "leadsWith", "(J)Z"⟩ : MethodName)) (W := 0) (rm := ({ frames := 0, cells := 0, slots := 0, locals := 0 } : Room)) (argsL := [(.long ((100000000000 : Int64) + le))]) (rest := []) X3 hx hZ EX3 hown (hw _ (List.mem_of_getElem? (i := 37) rfl)) (hw _ (List.mem_of_getElem? (i := 38) rfl)) (hw _ (List.mem_of_getElem? (i := 40) rfl)) (hw _ (List.mem_of_getElem? (i := 39) rfl)) (hw _ (List.mem_of_getElem? (i := 5) rfl)) (hw _ (List.mem_of_getElem? (i := 41) rfl)) (by decide) (rm5 l Z a0 hw [] b ((100000000000 : Int64) + le) T3.heap n0 Z3 ((100000000000 : Int64) + lo) ((100000000000 : Int64) + hi) FL3 FH3) (by decide) (by decide) rfl (by decide) (by decide) rfl (by rw [hml]; rfl) (lenOf pd5 rfl) rfl (by show 2 * 0 + _ ≤ _; exact Nat.le_of_eq rfl) (hb hby at_227) ?_
    rintro _ T4 L4 X4 ⟨rfl, N4, e4⟩
    show own_Go p e below s room_1.cells room_1.slots (fun v _ L => v = some (.int (1 : Int32)) ∧ Fr n0 L) T4 (mkF m 230 #[.val (.long q1), .second, .val (.long q2), .second, .val (.long q3), .second, .val (.int mode), .val (.int few), .val (.int most), .val (.long lo), .second, .val (.long hi), .second, .val (.int sel), .val (.long dl), .second, .val (.long le), .second, .val (.long ((100000000000 : Int64) + lo)), .second, .val (.long ((100000000000 : Int64) + hi)), .second, .val (.long ((100000000000 : Int64) + le)), .second, .val (.int neg), .val (.int ld), .val (.ref b), .unset, .unset, .unset, .unset, .unset, .unset] [(.int (own_lw ((100000000000 : Int64) + lo) ((100000000000 : Int64) + hi) ((100000000000 : Int64) + le)))])
    refine own_go (T' := T4) (g' := (mkF m 237 #[.val (.long q1), .second, .val (.long q2), .second, .val (.long q3), .second, .val (.int mode), .val (.int few), .val (.int most), .val (.long lo), .second, .val (.long hi), .second, .val (.int sel), .val (.long dl), .second, .val (.long le), .second, .val (.long ((100000000000 : Int64) + lo)), .second, .val (.long ((100000000000 : Int64) + hi)), .second, .val (.long ((100000000000 : Int64) + le)), .second, .val (.int neg), .val (.int ld), .val (.ref b), .val (.int (own_lw ((100000000000 : Int64) + lo) ((100000000000 : Int64) + hi) ((100000000000 : Int64) + le))), .unset, .unset, .unset, .unset, .unset] [(.long (le - lo))])) (fun t_ k_ => ?_) ?_
    · refine XS.istore X4.here hx rfl (hb hby at_230) rfl (l' := #[.val (.long q1), .second, .val (.long q2), .second, .val (.long q3), .second, .val (.int mode), .val (.int few), .val (.int most), .val (.long lo), .second, .val (.long hi), .second, .val (.int sel), .val (.long dl), .second, .val (.long le), .second, .val (.long ((100000000000 : Int64) + lo)), .second, .val (.long ((100000000000 : Int64) + hi)), .second, .val (.long ((100000000000 : Int64) + le)), .second, .val (.int neg), .val (.int ld), .val (.ref b), .val (.int (own_lw ((100000000000 : Int64) + lo) ((100000000000 : Int64) + hi) ((100000000000 : Int64) + le))), .unset, .unset, .unset, .unset, .unset]) rfl ?_
      show Steps p.tables e below (T4.setTop (mkF m 232 #[.val (.long q1), .second, .val (.long q2), .second, .val (.long q3), .second, .val (.int mode), .val (.int few), .val (.int most), .val (.long lo), .second, .val (.long hi), .second, .val (.int sel), .val (.long dl), .second, .val (.long le), .second, .val (.long ((100000000000 : Int64) + lo)), .second, .val (.long ((100000000000 : Int64) + hi)), .second, .val (.long ((100000000000 : Int64) + le)), .second, .val (.int neg), .val (.int ld), .val (.ref b), .val (.int (own_lw ((100000000000 : Int64) + lo) ((100000000000 : Int64) + hi) ((100000000000 : Int64) + le))), .unset, .unset, .unset, .unset, .unset] [])) _
      refine XS.lload X4.here hx rfl (hb hby at_232) rfl ?_
      show Steps p.tables e below (T4.setTop (mkF m 234 #[.val (.long q1), .second, .val (.long q2), .second, .val (.long q3), .second, .val (.int mode), .val (.int few), .val (.int most), .val (.long lo), .second, .val (.long hi), .second, .val (.int sel), .val (.long dl), .second, .val (.long le), .second, .val (.long ((100000000000 : Int64) + lo)), .second, .val (.long ((100000000000 : Int64) + hi)), .second, .val (.long ((100000000000 : Int64) + le)), .second, .val (.int neg), .val (.int ld), .val (.ref b), .val (.int (own_lw ((100000000000 : Int64) + lo) ((100000000000 : Int64) + hi) ((100000000000 : Int64) + le))), .unset, .unset, .unset, .unset, .unset] [(.long le)])) _
      refine XS.lload X4.here hx rfl (hb hby at_234) rfl ?_
      show Steps p.tables e below (T4.setTop (mkF m 236 #[.val (.long q1), .second, .val (.long q2), .second, .val (.long q3), .second, .val (.int mode), .val (.int few), .val (.int most), .val (.long lo), .second, .val (.long hi), .second, .val (.int sel), .val (.long dl), .second, .val (.long le), .second, .val (.long ((100000000000 : Int64) + lo)), .second, .val (.long ((100000000000 : Int64) + hi)), .second, .val (.long ((100000000000 : Int64) + le)), .second, .val (.int neg), .val (.int ld), .val (.ref b), .val (.int (own_lw ((100000000000 : Int64) + lo) ((100000000000 : Int64) + hi) ((100000000000 : Int64) + le))), .unset, .unset, .unset, .unset, .unset] [(.long lo), (.long le)])) _
      refine XS.lsub X4.here hx rfl (hb hby at_236) rfl ?_
      show Steps p.tables e below (T4.setTop (mkF m 237 #[.val (.long q1), .second, .val (.long q2), .second, .val (.long q3), .second, .val (.int mode), .val (.int few), .val (.int most), .val (.long lo), .second, .val (.long hi), .second, .val (.int sel), .val (.long dl), .second, .val (.long le), .second, .val (.long ((100000000000 : Int64) + lo)), .second, .val (.long ((100000000000 : Int64) + hi)), .second, .val (.long ((100000000000 : Int64) + le)), .second, .val (.int neg), .val (.int ld), .val (.ref b), .val (.int (own_lw ((100000000000 : Int64) + lo) ((100000000000 : Int64) + hi) ((100000000000 : Int64) + le))), .unset, .unset, .unset, .unset, .unset] [(.long (le - lo))])) _
      exact k_
    refine own_callS (y := (⟨"com/example/ioconic/ioconic/expr/MagnitudeLeadsWithPinLaw", "wrap", "(J)J"⟩ : MethodName)) (W := 0) (rm := ({ frames := 0, cells := 0, slots := 0, locals := 0 } : Room)) (argsL := [(.long (le - lo))]) (rest := []) X4 hx hZ hown (hw _ (List.mem_of_getElem? (i := 42) rfl)) (hw _ (List.mem_of_getElem? (i := 43) rfl)) (hw _ (List.mem_of_getElem? (i := 44) rfl)) (hw _ (List.mem_of_getElem? (i := 45) rfl)) (by decide) (rm6 l Z a0 hw [] (le - lo) T3.heap n0 Z3 (by rw [own_d3 hle hlo']; omega)) (by decide) (by decide) e4 (by decide) (by decide) rfl (by rw [hml]; rfl) (lenOf pd6 rfl) rfl (by show 2 * 0 + _ ≤ _; exact Nat.le_of_eq rfl) (hb hby at_237) ?_
    rintro _ T5 L5 X5 ⟨r5, rfl, hr5, N5, e5⟩
    show own_Go p e below s room_1.cells room_1.slots (fun v _ L => v = some (.int (1 : Int32)) ∧ Fr n0 L) T5 (mkF m 240 #[.val (.long q1), .second, .val (.long q2), .second, .val (.long q3), .second, .val (.int mode), .val (.int few), .val (.int most), .val (.long lo), .second, .val (.long hi), .second, .val (.int sel), .val (.long dl), .second, .val (.long le), .second, .val (.long ((100000000000 : Int64) + lo)), .second, .val (.long ((100000000000 : Int64) + hi)), .second, .val (.long ((100000000000 : Int64) + le)), .second, .val (.int neg), .val (.int ld), .val (.ref b), .val (.int (own_lw ((100000000000 : Int64) + lo) ((100000000000 : Int64) + hi) ((100000000000 : Int64) + le))), .unset, .unset, .unset, .unset, .unset] [(.long r5)])
    refine own_go (T' := T5) (g' := (mkF m 247 #[.val (.long q1), .second, .val (.long q2), .second, .val (.long q3), .second, .val (.int mode), .val (.int few), .val (.int most), .val (.long lo), .second, .val (.long hi), .second, .val (.int sel), .val (.long dl), .second, .val (.long le), .second, .val (.long ((100000000000 : Int64) + lo)), .second, .val (.long ((100000000000 : Int64) + hi)), .second, .val (.long ((100000000000 : Int64) + le)), .second, .val (.int neg), .val (.int ld), .val (.ref b), .val (.int (own_lw ((100000000000 : Int64) + lo) ((100000000000 : Int64) + hi) ((100000000000 : Int64) + le))), .val (.long r5), .second, .unset, .unset, .unset] [(.long (hi - lo))])) (fun t_ k_ => ?_) ?_
    · refine XS.lstore X5.here hx rfl (hb hby at_240) rfl (l' := #[.val (.long q1), .second, .val (.long q2), .second, .val (.long q3), .second, .val (.int mode), .val (.int few), .val (.int most), .val (.long lo), .second, .val (.long hi), .second, .val (.int sel), .val (.long dl), .second, .val (.long le), .second, .val (.long ((100000000000 : Int64) + lo)), .second, .val (.long ((100000000000 : Int64) + hi)), .second, .val (.long ((100000000000 : Int64) + le)), .second, .val (.int neg), .val (.int ld), .val (.ref b), .val (.int (own_lw ((100000000000 : Int64) + lo) ((100000000000 : Int64) + hi) ((100000000000 : Int64) + le))), .val (.long r5), .second, .unset, .unset, .unset]) rfl ?_
      show Steps p.tables e below (T5.setTop (mkF m 242 #[.val (.long q1), .second, .val (.long q2), .second, .val (.long q3), .second, .val (.int mode), .val (.int few), .val (.int most), .val (.long lo), .second, .val (.long hi), .second, .val (.int sel), .val (.long dl), .second, .val (.long le), .second, .val (.long ((100000000000 : Int64) + lo)), .second, .val (.long ((100000000000 : Int64) + hi)), .second, .val (.long ((100000000000 : Int64) + le)), .second, .val (.int neg), .val (.int ld), .val (.ref b), .val (.int (own_lw ((100000000000 : Int64) + lo) ((100000000000 : Int64) + hi) ((100000000000 : Int64) + le))), .val (.long r5), .second, .unset, .unset, .unset] [])) _
      refine XS.lload X5.here hx rfl (hb hby at_242) rfl ?_
      show Steps p.tables e below (T5.setTop (mkF m 244 #[.val (.long q1), .second, .val (.long q2), .second, .val (.long q3), .second, .val (.int mode), .val (.int few), .val (.int most), .val (.long lo), .second, .val (.long hi), .second, .val (.int sel), .val (.long dl), .second, .val (.long le), .second, .val (.long ((100000000000 : Int64) + lo)), .second, .val (.long ((100000000000 : Int64) + hi)), .second, .val (.long ((100000000000 : Int64) + le)), .second, .val (.int neg), .val (.int ld), .val (.ref b), .val (.int (own_lw ((100000000000 : Int64) + lo) ((100000000000 : Int64) + hi) ((100000000000 : Int64) + le))), .val (.long r5), .second, .unset, .unset, .unset] [(.long hi)])) _
      refine XS.lload X5.here hx rfl (hb hby at_244) rfl ?_
      show Steps p.tables e below (T5.setTop (mkF m 246 #[.val (.long q1), .second, .val (.long q2), .second, .val (.long q3), .second, .val (.int mode), .val (.int few), .val (.int most), .val (.long lo), .second, .val (.long hi), .second, .val (.int sel), .val (.long dl), .second, .val (.long le), .second, .val (.long ((100000000000 : Int64) + lo)), .second, .val (.long ((100000000000 : Int64) + hi)), .second, .val (.long ((100000000000 : Int64) + le)), .second, .val (.int neg), .val (.int ld), .val (.ref b), .val (.int (own_lw ((100000000000 : Int64) + lo) ((100000000000 : Int64) + hi) ((100000000000 : Int64) + le))), .val (.long r5), .second, .unset, .unset, .unset] [(.long lo), (.long hi)])) _
      refine XS.lsub X5.here hx rfl (hb hby at_246) rfl ?_
      show Steps p.tables e below (T5.setTop (mkF m 247 #[.val (.long q1), .second, .val (.long q2), .second, .val (.long q3), .second, .val (.int mode), .val (.int few), .val (.int most), .val (.long lo), .second, .val (.long hi), .second, .val (.int sel), .val (.long dl), .second, .val (.long le), .second, .val (.long ((100000000000 : Int64) + lo)), .second, .val (.long ((100000000000 : Int64) + hi)), .second, .val (.long ((100000000000 : Int64) + le)), .second, .val (.int neg), .val (.int ld), .val (.ref b), .val (.int (own_lw ((100000000000 : Int64) + lo) ((100000000000 : Int64) + hi) ((100000000000 : Int64) + le))), .val (.long r5), .second, .unset, .unset, .unset] [(.long (hi - lo))])) _
      exact k_
    refine own_callS (y := (⟨"com/example/ioconic/ioconic/expr/MagnitudeLeadsWithPinLaw", "wrap", "(J)J"⟩ : MethodName)) (W := 0) (rm := ({ frames := 0, cells := 0, slots := 0, locals := 0 } : Room)) (argsL := [(.long (hi - lo))]) (rest := []) X5 hx hZ hown (hw _ (List.mem_of_getElem? (i := 42) rfl)) (hw _ (List.mem_of_getElem? (i := 43) rfl)) (hw _ (List.mem_of_getElem? (i := 44) rfl)) (hw _ (List.mem_of_getElem? (i := 45) rfl)) (by decide) (rm6 l Z a0 hw [] (hi - lo) T3.heap n0 Z3 (by rw [own_d3 hhi hlo']; omega)) (by decide) (by decide) e5 (by decide) (by decide) rfl (by rw [hml]; rfl) (lenOf pd6 rfl) rfl (by show 2 * 0 + _ ≤ _; exact Nat.le_of_eq rfl) (hb hby at_247) ?_
    rintro _ T6 L6 X6 ⟨r6, rfl, hr6, N6, e6⟩
    show own_Go p e below s room_1.cells room_1.slots (fun v _ L => v = some (.int (1 : Int32)) ∧ Fr n0 L) T6 (mkF m 250 #[.val (.long q1), .second, .val (.long q2), .second, .val (.long q3), .second, .val (.int mode), .val (.int few), .val (.int most), .val (.long lo), .second, .val (.long hi), .second, .val (.int sel), .val (.long dl), .second, .val (.long le), .second, .val (.long ((100000000000 : Int64) + lo)), .second, .val (.long ((100000000000 : Int64) + hi)), .second, .val (.long ((100000000000 : Int64) + le)), .second, .val (.int neg), .val (.int ld), .val (.ref b), .val (.int (own_lw ((100000000000 : Int64) + lo) ((100000000000 : Int64) + hi) ((100000000000 : Int64) + le))), .val (.long r5), .second, .unset, .unset, .unset] [(.long r6)])
    refine own_go (T' := T6) (g' := (mkF m 252 #[.val (.long q1), .second, .val (.long q2), .second, .val (.long q3), .second, .val (.int mode), .val (.int few), .val (.int most), .val (.long lo), .second, .val (.long hi), .second, .val (.int sel), .val (.long dl), .second, .val (.long le), .second, .val (.long ((100000000000 : Int64) + lo)), .second, .val (.long ((100000000000 : Int64) + hi)), .second, .val (.long ((100000000000 : Int64) + le)), .second, .val (.int neg), .val (.int ld), .val (.ref b), .val (.int (own_lw ((100000000000 : Int64) + lo) ((100000000000 : Int64) + hi) ((100000000000 : Int64) + le))), .val (.long r5), .second, .val (.long r6), .second, .unset] [])) (fun t_ k_ => ?_) ?_
    · refine XS.lstore X6.here hx rfl (hb hby at_250) rfl (l' := #[.val (.long q1), .second, .val (.long q2), .second, .val (.long q3), .second, .val (.int mode), .val (.int few), .val (.int most), .val (.long lo), .second, .val (.long hi), .second, .val (.int sel), .val (.long dl), .second, .val (.long le), .second, .val (.long ((100000000000 : Int64) + lo)), .second, .val (.long ((100000000000 : Int64) + hi)), .second, .val (.long ((100000000000 : Int64) + le)), .second, .val (.int neg), .val (.int ld), .val (.ref b), .val (.int (own_lw ((100000000000 : Int64) + lo) ((100000000000 : Int64) + hi) ((100000000000 : Int64) + le))), .val (.long r5), .second, .val (.long r6), .second, .unset]) rfl ?_
      show Steps p.tables e below (T6.setTop (mkF m 252 #[.val (.long q1), .second, .val (.long q2), .second, .val (.long q3), .second, .val (.int mode), .val (.int few), .val (.int most), .val (.long lo), .second, .val (.long hi), .second, .val (.int sel), .val (.long dl), .second, .val (.long le), .second, .val (.long ((100000000000 : Int64) + lo)), .second, .val (.long ((100000000000 : Int64) + hi)), .second, .val (.long ((100000000000 : Int64) + le)), .second, .val (.int neg), .val (.int ld), .val (.ref b), .val (.int (own_lw ((100000000000 : Int64) + lo) ((100000000000 : Int64) + hi) ((100000000000 : Int64) + le))), .val (.long r5), .second, .val (.long r6), .second, .unset] [])) _
      exact k_
    obtain ⟨x32, hx32⟩ : ∃ z : Int32, z = if r6 < r5 then (0 : Int32) else (1 : Int32) := ⟨_, rfl⟩
    refine own_go (T' := T6) (g' := (mkF m 267 #[.val (.long q1), .second, .val (.long q2), .second, .val (.long q3), .second, .val (.int mode), .val (.int few), .val (.int most), .val (.long lo), .second, .val (.long hi), .second, .val (.int sel), .val (.long dl), .second, .val (.long le), .second, .val (.long ((100000000000 : Int64) + lo)), .second, .val (.long ((100000000000 : Int64) + hi)), .second, .val (.long ((100000000000 : Int64) + le)), .second, .val (.int neg), .val (.int ld), .val (.ref b), .val (.int (own_lw ((100000000000 : Int64) + lo) ((100000000000 : Int64) + hi) ((100000000000 : Int64) + le))), .val (.long r5), .second, .val (.long r6), .second, .val (.int x32)] [])) (fun t_ k_ => ?_) ?_
    · refine XS.lload X6.here hx rfl (hb hby at_252) rfl ?_
      show Steps p.tables e below (T6.setTop (mkF m 254 #[.val (.long q1), .second, .val (.long q2), .second, .val (.long q3), .second, .val (.int mode), .val (.int few), .val (.int most), .val (.long lo), .second, .val (.long hi), .second, .val (.int sel), .val (.long dl), .second, .val (.long le), .second, .val (.long ((100000000000 : Int64) + lo)), .second, .val (.long ((100000000000 : Int64) + hi)), .second, .val (.long ((100000000000 : Int64) + le)), .second, .val (.int neg), .val (.int ld), .val (.ref b), .val (.int (own_lw ((100000000000 : Int64) + lo) ((100000000000 : Int64) + hi) ((100000000000 : Int64) + le))), .val (.long r5), .second, .val (.long r6), .second, .unset] [(.long r5)])) _
      refine XS.lload X6.here hx rfl (hb hby at_254) rfl ?_
      show Steps p.tables e below (T6.setTop (mkF m 256 #[.val (.long q1), .second, .val (.long q2), .second, .val (.long q3), .second, .val (.int mode), .val (.int few), .val (.int most), .val (.long lo), .second, .val (.long hi), .second, .val (.int sel), .val (.long dl), .second, .val (.long le), .second, .val (.long ((100000000000 : Int64) + lo)), .second, .val (.long ((100000000000 : Int64) + hi)), .second, .val (.long ((100000000000 : Int64) + le)), .second, .val (.int neg), .val (.int ld), .val (.ref b), .val (.int (own_lw ((100000000000 : Int64) + lo) ((100000000000 : Int64) + hi) ((100000000000 : Int64) + le))), .val (.long r5), .second, .val (.long r6), .second, .unset] [(.long r6), (.long r5)])) _
      refine XS.lcmp X6.here hx rfl (hb hby at_256) rfl ?_
      show Steps p.tables e below (T6.setTop (mkF m 257 #[.val (.long q1), .second, .val (.long q2), .second, .val (.long q3), .second, .val (.int mode), .val (.int few), .val (.int most), .val (.long lo), .second, .val (.long hi), .second, .val (.int sel), .val (.long dl), .second, .val (.long le), .second, .val (.long ((100000000000 : Int64) + lo)), .second, .val (.long ((100000000000 : Int64) + hi)), .second, .val (.long ((100000000000 : Int64) + le)), .second, .val (.int neg), .val (.int ld), .val (.ref b), .val (.int (own_lw ((100000000000 : Int64) + lo) ((100000000000 : Int64) + hi) ((100000000000 : Int64) + le))), .val (.long r5), .second, .val (.long r6), .second, .unset] [(.int (lcmpW r5 r6))])) _
      by_cases hm7 : r6 < r5
      · refine XS.ifYes X6.here hx rfl (pc0 := 257) (pc' := 264) rfl (hb hby at_257) rfl ((if0 _ _).trans (tlt ((lw_gt _ _).mpr hm7)).2.2.1) (by decide) (by decide) ?_
        show Steps p.tables e below (T6.setTop (mkF m 264 #[.val (.long q1), .second, .val (.long q2), .second, .val (.long q3), .second, .val (.int mode), .val (.int few), .val (.int most), .val (.long lo), .second, .val (.long hi), .second, .val (.int sel), .val (.long dl), .second, .val (.long le), .second, .val (.long ((100000000000 : Int64) + lo)), .second, .val (.long ((100000000000 : Int64) + hi)), .second, .val (.long ((100000000000 : Int64) + le)), .second, .val (.int neg), .val (.int ld), .val (.ref b), .val (.int (own_lw ((100000000000 : Int64) + lo) ((100000000000 : Int64) + hi) ((100000000000 : Int64) + le))), .val (.long r5), .second, .val (.long r6), .second, .unset] [])) _
        refine XS.iconst X6.here hx rfl (hb hby at_264) ?_
        show Steps p.tables e below (T6.setTop (mkF m 265 #[.val (.long q1), .second, .val (.long q2), .second, .val (.long q3), .second, .val (.int mode), .val (.int few), .val (.int most), .val (.long lo), .second, .val (.long hi), .second, .val (.int sel), .val (.long dl), .second, .val (.long le), .second, .val (.long ((100000000000 : Int64) + lo)), .second, .val (.long ((100000000000 : Int64) + hi)), .second, .val (.long ((100000000000 : Int64) + le)), .second, .val (.int neg), .val (.int ld), .val (.ref b), .val (.int (own_lw ((100000000000 : Int64) + lo) ((100000000000 : Int64) + hi) ((100000000000 : Int64) + le))), .val (.long r5), .second, .val (.long r6), .second, .unset] [(.int (0 : Int32))])) _
        refine XS.istore X6.here hx rfl (hb hby at_265) rfl (l' := #[.val (.long q1), .second, .val (.long q2), .second, .val (.long q3), .second, .val (.int mode), .val (.int few), .val (.int most), .val (.long lo), .second, .val (.long hi), .second, .val (.int sel), .val (.long dl), .second, .val (.long le), .second, .val (.long ((100000000000 : Int64) + lo)), .second, .val (.long ((100000000000 : Int64) + hi)), .second, .val (.long ((100000000000 : Int64) + le)), .second, .val (.int neg), .val (.int ld), .val (.ref b), .val (.int (own_lw ((100000000000 : Int64) + lo) ((100000000000 : Int64) + hi) ((100000000000 : Int64) + le))), .val (.long r5), .second, .val (.long r6), .second, .val (.int (0 : Int32))]) rfl ?_
        show Steps p.tables e below (T6.setTop (mkF m 267 #[.val (.long q1), .second, .val (.long q2), .second, .val (.long q3), .second, .val (.int mode), .val (.int few), .val (.int most), .val (.long lo), .second, .val (.long hi), .second, .val (.int sel), .val (.long dl), .second, .val (.long le), .second, .val (.long ((100000000000 : Int64) + lo)), .second, .val (.long ((100000000000 : Int64) + hi)), .second, .val (.long ((100000000000 : Int64) + le)), .second, .val (.int neg), .val (.int ld), .val (.ref b), .val (.int (own_lw ((100000000000 : Int64) + lo) ((100000000000 : Int64) + hi) ((100000000000 : Int64) + le))), .val (.long r5), .second, .val (.long r6), .second, .val (.int (0 : Int32))] [])) _
        rw [show x32 = (0 : Int32) from by rw [hx32]; simp [hm7]] at k_
        exact k_
      · refine XS.ifNo X6.here hx rfl (hb hby at_257) rfl ((if0 _ _).trans (flt (mt (lw_gt _ _).mp hm7)).2.2.1) ?_
        show Steps p.tables e below (T6.setTop (mkF m 260 #[.val (.long q1), .second, .val (.long q2), .second, .val (.long q3), .second, .val (.int mode), .val (.int few), .val (.int most), .val (.long lo), .second, .val (.long hi), .second, .val (.int sel), .val (.long dl), .second, .val (.long le), .second, .val (.long ((100000000000 : Int64) + lo)), .second, .val (.long ((100000000000 : Int64) + hi)), .second, .val (.long ((100000000000 : Int64) + le)), .second, .val (.int neg), .val (.int ld), .val (.ref b), .val (.int (own_lw ((100000000000 : Int64) + lo) ((100000000000 : Int64) + hi) ((100000000000 : Int64) + le))), .val (.long r5), .second, .val (.long r6), .second, .unset] [])) _
        refine XS.iconst X6.here hx rfl (hb hby at_260) ?_
        show Steps p.tables e below (T6.setTop (mkF m 261 #[.val (.long q1), .second, .val (.long q2), .second, .val (.long q3), .second, .val (.int mode), .val (.int few), .val (.int most), .val (.long lo), .second, .val (.long hi), .second, .val (.int sel), .val (.long dl), .second, .val (.long le), .second, .val (.long ((100000000000 : Int64) + lo)), .second, .val (.long ((100000000000 : Int64) + hi)), .second, .val (.long ((100000000000 : Int64) + le)), .second, .val (.int neg), .val (.int ld), .val (.ref b), .val (.int (own_lw ((100000000000 : Int64) + lo) ((100000000000 : Int64) + hi) ((100000000000 : Int64) + le))), .val (.long r5), .second, .val (.long r6), .second, .unset] [(.int (1 : Int32))])) _
        refine XS.goto X6.here hx rfl (pc0 := 261) (pc' := 265) rfl (hb hby at_261) (by decide) (by decide) ?_
        show Steps p.tables e below (T6.setTop (mkF m 265 #[.val (.long q1), .second, .val (.long q2), .second, .val (.long q3), .second, .val (.int mode), .val (.int few), .val (.int most), .val (.long lo), .second, .val (.long hi), .second, .val (.int sel), .val (.long dl), .second, .val (.long le), .second, .val (.long ((100000000000 : Int64) + lo)), .second, .val (.long ((100000000000 : Int64) + hi)), .second, .val (.long ((100000000000 : Int64) + le)), .second, .val (.int neg), .val (.int ld), .val (.ref b), .val (.int (own_lw ((100000000000 : Int64) + lo) ((100000000000 : Int64) + hi) ((100000000000 : Int64) + le))), .val (.long r5), .second, .val (.long r6), .second, .unset] [(.int (1 : Int32))])) _
        refine XS.istore X6.here hx rfl (hb hby at_265) rfl (l' := #[.val (.long q1), .second, .val (.long q2), .second, .val (.long q3), .second, .val (.int mode), .val (.int few), .val (.int most), .val (.long lo), .second, .val (.long hi), .second, .val (.int sel), .val (.long dl), .second, .val (.long le), .second, .val (.long ((100000000000 : Int64) + lo)), .second, .val (.long ((100000000000 : Int64) + hi)), .second, .val (.long ((100000000000 : Int64) + le)), .second, .val (.int neg), .val (.int ld), .val (.ref b), .val (.int (own_lw ((100000000000 : Int64) + lo) ((100000000000 : Int64) + hi) ((100000000000 : Int64) + le))), .val (.long r5), .second, .val (.long r6), .second, .val (.int (1 : Int32))]) rfl ?_
        show Steps p.tables e below (T6.setTop (mkF m 267 #[.val (.long q1), .second, .val (.long q2), .second, .val (.long q3), .second, .val (.int mode), .val (.int few), .val (.int most), .val (.long lo), .second, .val (.long hi), .second, .val (.int sel), .val (.long dl), .second, .val (.long le), .second, .val (.long ((100000000000 : Int64) + lo)), .second, .val (.long ((100000000000 : Int64) + hi)), .second, .val (.long ((100000000000 : Int64) + le)), .second, .val (.int neg), .val (.int ld), .val (.ref b), .val (.int (own_lw ((100000000000 : Int64) + lo) ((100000000000 : Int64) + hi) ((100000000000 : Int64) + le))), .val (.long r5), .second, .val (.long r6), .second, .val (.int (1 : Int32))] [])) _
        rw [show x32 = (1 : Int32) from by rw [hx32]; simp [hm7]] at k_
        exact k_
    refine own_go (T' := T6) (g' := (mkF m 271 #[.val (.long q1), .second, .val (.long q2), .second, .val (.long q3), .second, .val (.int mode), .val (.int few), .val (.int most), .val (.long lo), .second, .val (.long hi), .second, .val (.int sel), .val (.long dl), .second, .val (.long le), .second, .val (.long ((100000000000 : Int64) + lo)), .second, .val (.long ((100000000000 : Int64) + hi)), .second, .val (.long ((100000000000 : Int64) + le)), .second, .val (.int neg), .val (.int ld), .val (.ref b), .val (.int (own_lw ((100000000000 : Int64) + lo) ((100000000000 : Int64) + hi) ((100000000000 : Int64) + le))), .val (.long r5), .second, .val (.long r6), .second, .val (.int x32)] [(.int x32), (.int (own_lw ((100000000000 : Int64) + lo) ((100000000000 : Int64) + hi) ((100000000000 : Int64) + le)))])) (fun t_ k_ => ?_) ?_
    · refine XS.iload X6.here hx rfl (hb hby at_267) rfl ?_
      show Steps p.tables e below (T6.setTop (mkF m 269 #[.val (.long q1), .second, .val (.long q2), .second, .val (.long q3), .second, .val (.int mode), .val (.int few), .val (.int most), .val (.long lo), .second, .val (.long hi), .second, .val (.int sel), .val (.long dl), .second, .val (.long le), .second, .val (.long ((100000000000 : Int64) + lo)), .second, .val (.long ((100000000000 : Int64) + hi)), .second, .val (.long ((100000000000 : Int64) + le)), .second, .val (.int neg), .val (.int ld), .val (.ref b), .val (.int (own_lw ((100000000000 : Int64) + lo) ((100000000000 : Int64) + hi) ((100000000000 : Int64) + le))), .val (.long r5), .second, .val (.long r6), .second, .val (.int x32)] [(.int (own_lw ((100000000000 : Int64) + lo) ((100000000000 : Int64) + hi) ((100000000000 : Int64) + le)))])) _
      refine XS.iload X6.here hx rfl (hb hby at_269) rfl ?_
      show Steps p.tables e below (T6.setTop (mkF m 271 #[.val (.long q1), .second, .val (.long q2), .second, .val (.long q3), .second, .val (.int mode), .val (.int few), .val (.int most), .val (.long lo), .second, .val (.long hi), .second, .val (.int sel), .val (.long dl), .second, .val (.long le), .second, .val (.long ((100000000000 : Int64) + lo)), .second, .val (.long ((100000000000 : Int64) + hi)), .second, .val (.long ((100000000000 : Int64) + le)), .second, .val (.int neg), .val (.int ld), .val (.ref b), .val (.int (own_lw ((100000000000 : Int64) + lo) ((100000000000 : Int64) + hi) ((100000000000 : Int64) + le))), .val (.long r5), .second, .val (.long r6), .second, .val (.int x32)] [(.int x32), (.int (own_lw ((100000000000 : Int64) + lo) ((100000000000 : Int64) + hi) ((100000000000 : Int64) + le)))])) _
      exact k_
    have hf8 : (own_lw ((100000000000 : Int64) + lo) ((100000000000 : Int64) + hi) ((100000000000 : Int64) + le)) = x32 := own_same hlo' hhi hle hr5 hr6 hx32
    refine own_go (T' := T6) (g' := (mkF m 279 #[.val (.long q1), .second, .val (.long q2), .second, .val (.long q3), .second, .val (.int mode), .val (.int few), .val (.int most), .val (.long lo), .second, .val (.long hi), .second, .val (.int sel), .val (.long dl), .second, .val (.long le), .second, .val (.long ((100000000000 : Int64) + lo)), .second, .val (.long ((100000000000 : Int64) + hi)), .second, .val (.long ((100000000000 : Int64) + le)), .second, .val (.int neg), .val (.int ld), .val (.ref b), .val (.int (own_lw ((100000000000 : Int64) + lo) ((100000000000 : Int64) + hi) ((100000000000 : Int64) + le))), .val (.long r5), .second, .val (.long r6), .second, .val (.int x32)] [(.int (1 : Int32))])) (fun t_ k_ => ?_) ?_
    · refine XS.icmpNo X6.here hx rfl (hb hby at_271) rfl (teq hf8).2 ?_
      show Steps p.tables e below (T6.setTop (mkF m 274 #[.val (.long q1), .second, .val (.long q2), .second, .val (.long q3), .second, .val (.int mode), .val (.int few), .val (.int most), .val (.long lo), .second, .val (.long hi), .second, .val (.int sel), .val (.long dl), .second, .val (.long le), .second, .val (.long ((100000000000 : Int64) + lo)), .second, .val (.long ((100000000000 : Int64) + hi)), .second, .val (.long ((100000000000 : Int64) + le)), .second, .val (.int neg), .val (.int ld), .val (.ref b), .val (.int (own_lw ((100000000000 : Int64) + lo) ((100000000000 : Int64) + hi) ((100000000000 : Int64) + le))), .val (.long r5), .second, .val (.long r6), .second, .val (.int x32)] [])) _
      refine XS.iconst X6.here hx rfl (hb hby at_274) ?_
      show Steps p.tables e below (T6.setTop (mkF m 275 #[.val (.long q1), .second, .val (.long q2), .second, .val (.long q3), .second, .val (.int mode), .val (.int few), .val (.int most), .val (.long lo), .second, .val (.long hi), .second, .val (.int sel), .val (.long dl), .second, .val (.long le), .second, .val (.long ((100000000000 : Int64) + lo)), .second, .val (.long ((100000000000 : Int64) + hi)), .second, .val (.long ((100000000000 : Int64) + le)), .second, .val (.int neg), .val (.int ld), .val (.ref b), .val (.int (own_lw ((100000000000 : Int64) + lo) ((100000000000 : Int64) + hi) ((100000000000 : Int64) + le))), .val (.long r5), .second, .val (.long r6), .second, .val (.int x32)] [(.int (1 : Int32))])) _
      refine XS.goto X6.here hx rfl (pc0 := 275) (pc' := 279) rfl (hb hby at_275) (by decide) (by decide) ?_
      show Steps p.tables e below (T6.setTop (mkF m 279 #[.val (.long q1), .second, .val (.long q2), .second, .val (.long q3), .second, .val (.int mode), .val (.int few), .val (.int most), .val (.long lo), .second, .val (.long hi), .second, .val (.int sel), .val (.long dl), .second, .val (.long le), .second, .val (.long ((100000000000 : Int64) + lo)), .second, .val (.long ((100000000000 : Int64) + hi)), .second, .val (.long ((100000000000 : Int64) + le)), .second, .val (.int neg), .val (.int ld), .val (.ref b), .val (.int (own_lw ((100000000000 : Int64) + lo) ((100000000000 : Int64) + hi) ((100000000000 : Int64) + le))), .val (.long r5), .second, .val (.long r6), .second, .val (.int x32)] [(.int (1 : Int32))])) _
      exact k_
    exact own_retZ X6 hx hret hk rfl (hb hby at_279) (by decide) (by decide) ⟨rfl, (Fr.app (Fr.app (Fr.app (Fr.app N N3) N4) N5) N6)⟩
  have J52 : ∀ (T : State) (L : List Loc) (hi : Int64), Stand p l e room_1 s m #[(.long q1), (.long q2), (.long q3), (.int mode), (.int few), (.int most)] below meth c T L 0 0 → T.heap = h0 → Fr n0 L → (0 ≤ hi.toInt ∧ hi.toInt < 900000000000) → own_Go p e below s room_1.cells room_1.slots (fun v _ L => v = some (.int (1 : Int32)) ∧ Fr n0 L) T (mkF m 52 #[.val (.long q1), .second, .val (.long q2), .second, .val (.long q3), .second, .val (.int mode), .val (.int few), .val (.int most), .val (.long lo), .second, .val (.long hi), .second, .unset, .unset, .unset, .unset, .unset, .unset, .unset, .unset, .unset, .unset, .unset, .unset, .unset, .unset, .unset, .unset, .unset, .unset, .unset, .unset] []) := by
    intro T L hi X eT N hhi
    refine own_go (T' := T) (g' := (mkF m 73 #[.val (.long q1), .second, .val (.long q2), .second, .val (.long q3), .second, .val (.int mode), .val (.int few), .val (.int most), .val (.long lo), .second, .val (.long hi), .second, .val (.int ((mode >>> ((4 : Int32) &&& 31)) &&& (3 : Int32))), .val (.long ((((mode >>> ((6 : Int32) &&& 31)) &&& (7 : Int32)) - (4 : Int32)).toInt64)), .second, .unset, .unset, .unset, .unset, .unset, .unset, .unset, .unset, .unset, .unset, .unset, .unset, .unset, .unset, .unset, .unset, .unset] [])) (fun t_ k_ => ?_) ?_
    · refine XS.iload X.here hx rfl (hb hby at_52) rfl ?_
      show Steps p.tables e below (T.setTop (mkF m 54 #[.val (.long q1), .second, .val (.long q2), .second, .val (.long q3), .second, .val (.int mode), .val (.int few), .val (.int most), .val (.long lo), .second, .val (.long hi), .second, .unset, .unset, .unset, .unset, .unset, .unset, .unset, .unset, .unset, .unset, .unset, .unset, .unset, .unset, .unset, .unset, .unset, .unset, .unset, .unset] [(.int mode)])) _
      refine XS.iconst X.here hx rfl (hb hby at_54) ?_
      show Steps p.tables e below (T.setTop (mkF m 55 #[.val (.long q1), .second, .val (.long q2), .second, .val (.long q3), .second, .val (.int mode), .val (.int few), .val (.int most), .val (.long lo), .second, .val (.long hi), .second, .unset, .unset, .unset, .unset, .unset, .unset, .unset, .unset, .unset, .unset, .unset, .unset, .unset, .unset, .unset, .unset, .unset, .unset, .unset, .unset] [(.int (4 : Int32)), (.int mode)])) _
      refine XS.ishr X.here hx rfl (hb hby at_55) rfl ?_
      show Steps p.tables e below (T.setTop (mkF m 56 #[.val (.long q1), .second, .val (.long q2), .second, .val (.long q3), .second, .val (.int mode), .val (.int few), .val (.int most), .val (.long lo), .second, .val (.long hi), .second, .unset, .unset, .unset, .unset, .unset, .unset, .unset, .unset, .unset, .unset, .unset, .unset, .unset, .unset, .unset, .unset, .unset, .unset, .unset, .unset] [(.int (mode >>> ((4 : Int32) &&& 31)))])) _
      refine XS.iconst X.here hx rfl (hb hby at_56) ?_
      show Steps p.tables e below (T.setTop (mkF m 57 #[.val (.long q1), .second, .val (.long q2), .second, .val (.long q3), .second, .val (.int mode), .val (.int few), .val (.int most), .val (.long lo), .second, .val (.long hi), .second, .unset, .unset, .unset, .unset, .unset, .unset, .unset, .unset, .unset, .unset, .unset, .unset, .unset, .unset, .unset, .unset, .unset, .unset, .unset, .unset] [(.int (3 : Int32)), (.int (mode >>> ((4 : Int32) &&& 31)))])) _
      refine XS.iand X.here hx rfl (hb hby at_57) rfl ?_
      show Steps p.tables e below (T.setTop (mkF m 58 #[.val (.long q1), .second, .val (.long q2), .second, .val (.long q3), .second, .val (.int mode), .val (.int few), .val (.int most), .val (.long lo), .second, .val (.long hi), .second, .unset, .unset, .unset, .unset, .unset, .unset, .unset, .unset, .unset, .unset, .unset, .unset, .unset, .unset, .unset, .unset, .unset, .unset, .unset, .unset] [(.int ((mode >>> ((4 : Int32) &&& 31)) &&& (3 : Int32)))])) _
      refine XS.istore X.here hx rfl (hb hby at_58) rfl (l' := #[.val (.long q1), .second, .val (.long q2), .second, .val (.long q3), .second, .val (.int mode), .val (.int few), .val (.int most), .val (.long lo), .second, .val (.long hi), .second, .val (.int ((mode >>> ((4 : Int32) &&& 31)) &&& (3 : Int32))), .unset, .unset, .unset, .unset, .unset, .unset, .unset, .unset, .unset, .unset, .unset, .unset, .unset, .unset, .unset, .unset, .unset, .unset, .unset]) rfl ?_
      show Steps p.tables e below (T.setTop (mkF m 60 #[.val (.long q1), .second, .val (.long q2), .second, .val (.long q3), .second, .val (.int mode), .val (.int few), .val (.int most), .val (.long lo), .second, .val (.long hi), .second, .val (.int ((mode >>> ((4 : Int32) &&& 31)) &&& (3 : Int32))), .unset, .unset, .unset, .unset, .unset, .unset, .unset, .unset, .unset, .unset, .unset, .unset, .unset, .unset, .unset, .unset, .unset, .unset, .unset] [])) _
      refine XS.iload X.here hx rfl (hb hby at_60) rfl ?_
      show Steps p.tables e below (T.setTop (mkF m 62 #[.val (.long q1), .second, .val (.long q2), .second, .val (.long q3), .second, .val (.int mode), .val (.int few), .val (.int most), .val (.long lo), .second, .val (.long hi), .second, .val (.int ((mode >>> ((4 : Int32) &&& 31)) &&& (3 : Int32))), .unset, .unset, .unset, .unset, .unset, .unset, .unset, .unset, .unset, .unset, .unset, .unset, .unset, .unset, .unset, .unset, .unset, .unset, .unset] [(.int mode)])) _
      refine XS.bipush X.here hx rfl (hb hby at_62) ?_
      show Steps p.tables e below (T.setTop (mkF m 64 #[.val (.long q1), .second, .val (.long q2), .second, .val (.long q3), .second, .val (.int mode), .val (.int few), .val (.int most), .val (.long lo), .second, .val (.long hi), .second, .val (.int ((mode >>> ((4 : Int32) &&& 31)) &&& (3 : Int32))), .unset, .unset, .unset, .unset, .unset, .unset, .unset, .unset, .unset, .unset, .unset, .unset, .unset, .unset, .unset, .unset, .unset, .unset, .unset] [(.int (6 : Int32)), (.int mode)])) _
      refine XS.ishr X.here hx rfl (hb hby at_64) rfl ?_
      show Steps p.tables e below (T.setTop (mkF m 65 #[.val (.long q1), .second, .val (.long q2), .second, .val (.long q3), .second, .val (.int mode), .val (.int few), .val (.int most), .val (.long lo), .second, .val (.long hi), .second, .val (.int ((mode >>> ((4 : Int32) &&& 31)) &&& (3 : Int32))), .unset, .unset, .unset, .unset, .unset, .unset, .unset, .unset, .unset, .unset, .unset, .unset, .unset, .unset, .unset, .unset, .unset, .unset, .unset] [(.int (mode >>> ((6 : Int32) &&& 31)))])) _
      refine XS.bipush X.here hx rfl (hb hby at_65) ?_
      show Steps p.tables e below (T.setTop (mkF m 67 #[.val (.long q1), .second, .val (.long q2), .second, .val (.long q3), .second, .val (.int mode), .val (.int few), .val (.int most), .val (.long lo), .second, .val (.long hi), .second, .val (.int ((mode >>> ((4 : Int32) &&& 31)) &&& (3 : Int32))), .unset, .unset, .unset, .unset, .unset, .unset, .unset, .unset, .unset, .unset, .unset, .unset, .unset, .unset, .unset, .unset, .unset, .unset, .unset] [(.int (7 : Int32)), (.int (mode >>> ((6 : Int32) &&& 31)))])) _
      refine XS.iand X.here hx rfl (hb hby at_67) rfl ?_
      show Steps p.tables e below (T.setTop (mkF m 68 #[.val (.long q1), .second, .val (.long q2), .second, .val (.long q3), .second, .val (.int mode), .val (.int few), .val (.int most), .val (.long lo), .second, .val (.long hi), .second, .val (.int ((mode >>> ((4 : Int32) &&& 31)) &&& (3 : Int32))), .unset, .unset, .unset, .unset, .unset, .unset, .unset, .unset, .unset, .unset, .unset, .unset, .unset, .unset, .unset, .unset, .unset, .unset, .unset] [(.int ((mode >>> ((6 : Int32) &&& 31)) &&& (7 : Int32)))])) _
      refine XS.iconst X.here hx rfl (hb hby at_68) ?_
      show Steps p.tables e below (T.setTop (mkF m 69 #[.val (.long q1), .second, .val (.long q2), .second, .val (.long q3), .second, .val (.int mode), .val (.int few), .val (.int most), .val (.long lo), .second, .val (.long hi), .second, .val (.int ((mode >>> ((4 : Int32) &&& 31)) &&& (3 : Int32))), .unset, .unset, .unset, .unset, .unset, .unset, .unset, .unset, .unset, .unset, .unset, .unset, .unset, .unset, .unset, .unset, .unset, .unset, .unset] [(.int (4 : Int32)), (.int ((mode >>> ((6 : Int32) &&& 31)) &&& (7 : Int32)))])) _
      refine XS.isub X.here hx rfl (hb hby at_69) rfl ?_
      show Steps p.tables e below (T.setTop (mkF m 70 #[.val (.long q1), .second, .val (.long q2), .second, .val (.long q3), .second, .val (.int mode), .val (.int few), .val (.int most), .val (.long lo), .second, .val (.long hi), .second, .val (.int ((mode >>> ((4 : Int32) &&& 31)) &&& (3 : Int32))), .unset, .unset, .unset, .unset, .unset, .unset, .unset, .unset, .unset, .unset, .unset, .unset, .unset, .unset, .unset, .unset, .unset, .unset, .unset] [(.int (((mode >>> ((6 : Int32) &&& 31)) &&& (7 : Int32)) - (4 : Int32)))])) _
      refine XS.i2l X.here hx rfl (hb hby at_70) rfl ?_
      show Steps p.tables e below (T.setTop (mkF m 71 #[.val (.long q1), .second, .val (.long q2), .second, .val (.long q3), .second, .val (.int mode), .val (.int few), .val (.int most), .val (.long lo), .second, .val (.long hi), .second, .val (.int ((mode >>> ((4 : Int32) &&& 31)) &&& (3 : Int32))), .unset, .unset, .unset, .unset, .unset, .unset, .unset, .unset, .unset, .unset, .unset, .unset, .unset, .unset, .unset, .unset, .unset, .unset, .unset] [(.long ((((mode >>> ((6 : Int32) &&& 31)) &&& (7 : Int32)) - (4 : Int32)).toInt64))])) _
      refine XS.lstore X.here hx rfl (hb hby at_71) rfl (l' := #[.val (.long q1), .second, .val (.long q2), .second, .val (.long q3), .second, .val (.int mode), .val (.int few), .val (.int most), .val (.long lo), .second, .val (.long hi), .second, .val (.int ((mode >>> ((4 : Int32) &&& 31)) &&& (3 : Int32))), .val (.long ((((mode >>> ((6 : Int32) &&& 31)) &&& (7 : Int32)) - (4 : Int32)).toInt64)), .second, .unset, .unset, .unset, .unset, .unset, .unset, .unset, .unset, .unset, .unset, .unset, .unset, .unset, .unset, .unset, .unset, .unset]) rfl ?_
      show Steps p.tables e below (T.setTop (mkF m 73 #[.val (.long q1), .second, .val (.long q2), .second, .val (.long q3), .second, .val (.int mode), .val (.int few), .val (.int most), .val (.long lo), .second, .val (.long hi), .second, .val (.int ((mode >>> ((4 : Int32) &&& 31)) &&& (3 : Int32))), .val (.long ((((mode >>> ((6 : Int32) &&& 31)) &&& (7 : Int32)) - (4 : Int32)).toInt64)), .second, .unset, .unset, .unset, .unset, .unset, .unset, .unset, .unset, .unset, .unset, .unset, .unset, .unset, .unset, .unset, .unset, .unset] [])) _
      exact k_
    obtain ⟨sel, hsel⟩ : ∃ z : Int32, z = ((mode >>> ((4 : Int32) &&& 31)) &&& (3 : Int32)) := ⟨_, rfl⟩
    rw [← hsel]
    obtain ⟨dl, hdl⟩ : ∃ z : Int64, z = ((((mode >>> ((6 : Int32) &&& 31)) &&& (7 : Int32)) - (4 : Int32)).toInt64) := ⟨_, rfl⟩
    rw [← hdl]
    have hdl' := own_dl (mode >>> ((6 : Int32) &&& 31))
    rw [← hdl] at hdl'
    refine own_go (T' := T) (g' := (mkF m 75 #[.val (.long q1), .second, .val (.long q2), .second, .val (.long q3), .second, .val (.int mode), .val (.int few), .val (.int most), .val (.long lo), .second, .val (.long hi), .second, .val (.int sel), .val (.long dl), .second, .unset, .unset, .unset, .unset, .unset, .unset, .unset, .unset, .unset, .unset, .unset, .unset, .unset, .unset, .unset, .unset, .unset] [(.int sel)])) (fun t_ k_ => ?_) ?_
    · refine XS.iload X.here hx rfl (hb hby at_73) rfl ?_
      show Steps p.tables e below (T.setTop (mkF m 75 #[.val (.long q1), .second, .val (.long q2), .second, .val (.long q3), .second, .val (.int mode), .val (.int few), .val (.int most), .val (.long lo), .second, .val (.long hi), .second, .val (.int sel), .val (.long dl), .second, .unset, .unset, .unset, .unset, .unset, .unset, .unset, .unset, .unset, .unset, .unset, .unset, .unset, .unset, .unset, .unset, .unset] [(.int sel)])) _
      exact k_
    by_cases s0 : sel = (0 : Int32)
    · refine own_go (T' := T) (g' := (mkF m 150 #[.val (.long q1), .second, .val (.long q2), .second, .val (.long q3), .second, .val (.int mode), .val (.int few), .val (.int most), .val (.long lo), .second, .val (.long hi), .second, .val (.int sel), .val (.long dl), .second, .val (.long ((q3 &&& (9223372036854775807 : Int64)) - ((q3 &&& (9223372036854775807 : Int64)) / (900000000000 : Int64)) * (900000000000 : Int64))), .second, .unset, .unset, .unset, .unset, .unset, .unset, .unset, .unset, .unset, .unset, .unset, .unset, .unset, .unset, .unset] [])) (fun t_ k_ => ?_) ?_
      · refine XS.ifNo X.here hx rfl (hb hby at_75) rfl ((if0 _ _).trans (teq s0).2) ?_
        show Steps p.tables e below (T.setTop (mkF m 78 #[.val (.long q1), .second, .val (.long q2), .second, .val (.long q3), .second, .val (.int mode), .val (.int few), .val (.int most), .val (.long lo), .second, .val (.long hi), .second, .val (.int sel), .val (.long dl), .second, .unset, .unset, .unset, .unset, .unset, .unset, .unset, .unset, .unset, .unset, .unset, .unset, .unset, .unset, .unset, .unset, .unset] [])) _
        refine XS.lload X.here hx rfl (hb hby at_78) rfl ?_
        show Steps p.tables e below (T.setTop (mkF m 80 #[.val (.long q1), .second, .val (.long q2), .second, .val (.long q3), .second, .val (.int mode), .val (.int few), .val (.int most), .val (.long lo), .second, .val (.long hi), .second, .val (.int sel), .val (.long dl), .second, .unset, .unset, .unset, .unset, .unset, .unset, .unset, .unset, .unset, .unset, .unset, .unset, .unset, .unset, .unset, .unset, .unset] [(.long q3)])) _
        refine X.ldc2Long hx hown (mvT hZ (hw _ (List.mem_of_getElem? (i := 0) rfl))) (g := (mkF m 80 #[.val (.long q1), .second, .val (.long q2), .second, .val (.long q3), .second, .val (.int mode), .val (.int few), .val (.int most), .val (.long lo), .second, .val (.long hi), .second, .val (.int sel), .val (.long dl), .second, .unset, .unset, .unset, .unset, .unset, .unset, .unset, .unset, .unset, .unset, .unset, .unset, .unset, .unset, .unset, .unset, .unset] [(.long q3)])) rfl (hb hby at_80) _ ?_
        show Steps p.tables e below (T.setTop (mkF m 83 #[.val (.long q1), .second, .val (.long q2), .second, .val (.long q3), .second, .val (.int mode), .val (.int few), .val (.int most), .val (.long lo), .second, .val (.long hi), .second, .val (.int sel), .val (.long dl), .second, .unset, .unset, .unset, .unset, .unset, .unset, .unset, .unset, .unset, .unset, .unset, .unset, .unset, .unset, .unset, .unset, .unset] [(.long (9223372036854775807 : Int64)), (.long q3)])) _
        refine XS.land X.here hx rfl (hb hby at_83) rfl ?_
        show Steps p.tables e below (T.setTop (mkF m 84 #[.val (.long q1), .second, .val (.long q2), .second, .val (.long q3), .second, .val (.int mode), .val (.int few), .val (.int most), .val (.long lo), .second, .val (.long hi), .second, .val (.int sel), .val (.long dl), .second, .unset, .unset, .unset, .unset, .unset, .unset, .unset, .unset, .unset, .unset, .unset, .unset, .unset, .unset, .unset, .unset, .unset] [(.long (q3 &&& (9223372036854775807 : Int64)))])) _
        refine X.ldc2Long hx hown (mvT hZ (hw _ (List.mem_of_getElem? (i := 1) rfl))) (g := (mkF m 84 #[.val (.long q1), .second, .val (.long q2), .second, .val (.long q3), .second, .val (.int mode), .val (.int few), .val (.int most), .val (.long lo), .second, .val (.long hi), .second, .val (.int sel), .val (.long dl), .second, .unset, .unset, .unset, .unset, .unset, .unset, .unset, .unset, .unset, .unset, .unset, .unset, .unset, .unset, .unset, .unset, .unset] [(.long (q3 &&& (9223372036854775807 : Int64)))])) rfl (hb hby at_84) _ ?_
        show Steps p.tables e below (T.setTop (mkF m 87 #[.val (.long q1), .second, .val (.long q2), .second, .val (.long q3), .second, .val (.int mode), .val (.int few), .val (.int most), .val (.long lo), .second, .val (.long hi), .second, .val (.int sel), .val (.long dl), .second, .unset, .unset, .unset, .unset, .unset, .unset, .unset, .unset, .unset, .unset, .unset, .unset, .unset, .unset, .unset, .unset, .unset] [(.long (900000000000 : Int64)), (.long (q3 &&& (9223372036854775807 : Int64)))])) _
        refine XS.lrem X.here hx rfl (hb hby at_87) rfl (by decide) ?_
        show Steps p.tables e below (T.setTop (mkF m 88 #[.val (.long q1), .second, .val (.long q2), .second, .val (.long q3), .second, .val (.int mode), .val (.int few), .val (.int most), .val (.long lo), .second, .val (.long hi), .second, .val (.int sel), .val (.long dl), .second, .unset, .unset, .unset, .unset, .unset, .unset, .unset, .unset, .unset, .unset, .unset, .unset, .unset, .unset, .unset, .unset, .unset] [(.long ((q3 &&& (9223372036854775807 : Int64)) - ((q3 &&& (9223372036854775807 : Int64)) / (900000000000 : Int64)) * (900000000000 : Int64)))])) _
        refine XS.lstore X.here hx rfl (hb hby at_88) rfl (l' := #[.val (.long q1), .second, .val (.long q2), .second, .val (.long q3), .second, .val (.int mode), .val (.int few), .val (.int most), .val (.long lo), .second, .val (.long hi), .second, .val (.int sel), .val (.long dl), .second, .val (.long ((q3 &&& (9223372036854775807 : Int64)) - ((q3 &&& (9223372036854775807 : Int64)) / (900000000000 : Int64)) * (900000000000 : Int64))), .second, .unset, .unset, .unset, .unset, .unset, .unset, .unset, .unset, .unset, .unset, .unset, .unset, .unset, .unset, .unset]) rfl ?_
        show Steps p.tables e below (T.setTop (mkF m 90 #[.val (.long q1), .second, .val (.long q2), .second, .val (.long q3), .second, .val (.int mode), .val (.int few), .val (.int most), .val (.long lo), .second, .val (.long hi), .second, .val (.int sel), .val (.long dl), .second, .val (.long ((q3 &&& (9223372036854775807 : Int64)) - ((q3 &&& (9223372036854775807 : Int64)) / (900000000000 : Int64)) * (900000000000 : Int64))), .second, .unset, .unset, .unset, .unset, .unset, .unset, .unset, .unset, .unset, .unset, .unset, .unset, .unset, .unset, .unset] [])) _
        refine XS.goto X.here hx rfl (pc0 := 90) (pc' := 150) rfl (hb hby at_90) (by decide) (by decide) ?_
        show Steps p.tables e below (T.setTop (mkF m 150 #[.val (.long q1), .second, .val (.long q2), .second, .val (.long q3), .second, .val (.int mode), .val (.int few), .val (.int most), .val (.long lo), .second, .val (.long hi), .second, .val (.int sel), .val (.long dl), .second, .val (.long ((q3 &&& (9223372036854775807 : Int64)) - ((q3 &&& (9223372036854775807 : Int64)) / (900000000000 : Int64)) * (900000000000 : Int64))), .second, .unset, .unset, .unset, .unset, .unset, .unset, .unset, .unset, .unset, .unset, .unset, .unset, .unset, .unset, .unset] [])) _
        exact k_
      exact J150 T _ hi sel dl _ X eT N hhi (own_off q3)
    · refine own_go (T' := T) (g' := (mkF m 96 #[.val (.long q1), .second, .val (.long q2), .second, .val (.long q3), .second, .val (.int mode), .val (.int few), .val (.int most), .val (.long lo), .second, .val (.long hi), .second, .val (.int sel), .val (.long dl), .second, .unset, .unset, .unset, .unset, .unset, .unset, .unset, .unset, .unset, .unset, .unset, .unset, .unset, .unset, .unset, .unset, .unset] [(.int (1 : Int32)), (.int sel)])) (fun t_ k_ => ?_) ?_
      · refine XS.ifYes X.here hx rfl (pc0 := 75) (pc' := 93) rfl (hb hby at_75) rfl ((if0 _ _).trans (feq s0).2) (by decide) (by decide) ?_
        show Steps p.tables e below (T.setTop (mkF m 93 #[.val (.long q1), .second, .val (.long q2), .second, .val (.long q3), .second, .val (.int mode), .val (.int few), .val (.int most), .val (.long lo), .second, .val (.long hi), .second, .val (.int sel), .val (.long dl), .second, .unset, .unset, .unset, .unset, .unset, .unset, .unset, .unset, .unset, .unset, .unset, .unset, .unset, .unset, .unset, .unset, .unset] [])) _
        refine XS.iload X.here hx rfl (hb hby at_93) rfl ?_
        show Steps p.tables e below (T.setTop (mkF m 95 #[.val (.long q1), .second, .val (.long q2), .second, .val (.long q3), .second, .val (.int mode), .val (.int few), .val (.int most), .val (.long lo), .second, .val (.long hi), .second, .val (.int sel), .val (.long dl), .second, .unset, .unset, .unset, .unset, .unset, .unset, .unset, .unset, .unset, .unset, .unset, .unset, .unset, .unset, .unset, .unset, .unset] [(.int sel)])) _
        refine XS.iconst X.here hx rfl (hb hby at_95) ?_
        show Steps p.tables e below (T.setTop (mkF m 96 #[.val (.long q1), .second, .val (.long q2), .second, .val (.long q3), .second, .val (.int mode), .val (.int few), .val (.int most), .val (.long lo), .second, .val (.long hi), .second, .val (.int sel), .val (.long dl), .second, .unset, .unset, .unset, .unset, .unset, .unset, .unset, .unset, .unset, .unset, .unset, .unset, .unset, .unset, .unset, .unset, .unset] [(.int (1 : Int32)), (.int sel)])) _
        exact k_
      by_cases s1 : sel = (1 : Int32)
      · refine own_go (T' := T) (g' := (mkF m 104 #[.val (.long q1), .second, .val (.long q2), .second, .val (.long q3), .second, .val (.int mode), .val (.int few), .val (.int most), .val (.long lo), .second, .val (.long hi), .second, .val (.int sel), .val (.long dl), .second, .unset, .unset, .unset, .unset, .unset, .unset, .unset, .unset, .unset, .unset, .unset, .unset, .unset, .unset, .unset, .unset, .unset] [(.long (lo + dl))])) (fun t_ k_ => ?_) ?_
        · refine XS.icmpNo X.here hx rfl (hb hby at_96) rfl (teq s1).2 ?_
          show Steps p.tables e below (T.setTop (mkF m 99 #[.val (.long q1), .second, .val (.long q2), .second, .val (.long q3), .second, .val (.int mode), .val (.int few), .val (.int most), .val (.long lo), .second, .val (.long hi), .second, .val (.int sel), .val (.long dl), .second, .unset, .unset, .unset, .unset, .unset, .unset, .unset, .unset, .unset, .unset, .unset, .unset, .unset, .unset, .unset, .unset, .unset] [])) _
          refine XS.lload X.here hx rfl (hb hby at_99) rfl ?_
          show Steps p.tables e below (T.setTop (mkF m 101 #[.val (.long q1), .second, .val (.long q2), .second, .val (.long q3), .second, .val (.int mode), .val (.int few), .val (.int most), .val (.long lo), .second, .val (.long hi), .second, .val (.int sel), .val (.long dl), .second, .unset, .unset, .unset, .unset, .unset, .unset, .unset, .unset, .unset, .unset, .unset, .unset, .unset, .unset, .unset, .unset, .unset] [(.long lo)])) _
          refine XS.lload X.here hx rfl (hb hby at_101) rfl ?_
          show Steps p.tables e below (T.setTop (mkF m 103 #[.val (.long q1), .second, .val (.long q2), .second, .val (.long q3), .second, .val (.int mode), .val (.int few), .val (.int most), .val (.long lo), .second, .val (.long hi), .second, .val (.int sel), .val (.long dl), .second, .unset, .unset, .unset, .unset, .unset, .unset, .unset, .unset, .unset, .unset, .unset, .unset, .unset, .unset, .unset, .unset, .unset] [(.long dl), (.long lo)])) _
          refine XS.ladd X.here hx rfl (hb hby at_103) rfl ?_
          show Steps p.tables e below (T.setTop (mkF m 104 #[.val (.long q1), .second, .val (.long q2), .second, .val (.long q3), .second, .val (.int mode), .val (.int few), .val (.int most), .val (.long lo), .second, .val (.long hi), .second, .val (.int sel), .val (.long dl), .second, .unset, .unset, .unset, .unset, .unset, .unset, .unset, .unset, .unset, .unset, .unset, .unset, .unset, .unset, .unset, .unset, .unset] [(.long (lo + dl))])) _
          exact k_
        refine own_callS (y := (⟨"com/example/ioconic/ioconic/expr/MagnitudeLeadsWithPinLaw", "wrap", "(J)J"⟩ : MethodName)) (W := 0) (rm := ({ frames := 0, cells := 0, slots := 0, locals := 0 } : Room)) (argsL := [(.long (lo + dl))]) (rest := []) X hx hZ hown (hw _ (List.mem_of_getElem? (i := 42) rfl)) (hw _ (List.mem_of_getElem? (i := 43) rfl)) (hw _ (List.mem_of_getElem? (i := 44) rfl)) (hw _ (List.mem_of_getElem? (i := 45) rfl)) (by decide) (rm6 l Z a0 hw [] (lo + dl) h0 n0 Z0 (own_d2 hlo' hdl')) (by decide) (by decide) eT (by decide) (by decide) rfl (by rw [hml]; rfl) (lenOf pd6 rfl) rfl (by show 2 * 0 + _ ≤ _; exact Nat.le_of_eq rfl) (hb hby at_104) ?_
        rintro _ T9 L9 X9 ⟨r9, rfl, hr9, N9, e9⟩
        show own_Go p e below s room_1.cells room_1.slots (fun v _ L => v = some (.int (1 : Int32)) ∧ Fr n0 L) T9 (mkF m 107 #[.val (.long q1), .second, .val (.long q2), .second, .val (.long q3), .second, .val (.int mode), .val (.int few), .val (.int most), .val (.long lo), .second, .val (.long hi), .second, .val (.int sel), .val (.long dl), .second, .unset, .unset, .unset, .unset, .unset, .unset, .unset, .unset, .unset, .unset, .unset, .unset, .unset, .unset, .unset, .unset, .unset] [(.long r9)])
        refine own_go (T' := T9) (g' := (mkF m 150 #[.val (.long q1), .second, .val (.long q2), .second, .val (.long q3), .second, .val (.int mode), .val (.int few), .val (.int most), .val (.long lo), .second, .val (.long hi), .second, .val (.int sel), .val (.long dl), .second, .val (.long r9), .second, .unset, .unset, .unset, .unset, .unset, .unset, .unset, .unset, .unset, .unset, .unset, .unset, .unset, .unset, .unset] [])) (fun t_ k_ => ?_) ?_
        · refine XS.lstore X9.here hx rfl (hb hby at_107) rfl (l' := #[.val (.long q1), .second, .val (.long q2), .second, .val (.long q3), .second, .val (.int mode), .val (.int few), .val (.int most), .val (.long lo), .second, .val (.long hi), .second, .val (.int sel), .val (.long dl), .second, .val (.long r9), .second, .unset, .unset, .unset, .unset, .unset, .unset, .unset, .unset, .unset, .unset, .unset, .unset, .unset, .unset, .unset]) rfl ?_
          show Steps p.tables e below (T9.setTop (mkF m 109 #[.val (.long q1), .second, .val (.long q2), .second, .val (.long q3), .second, .val (.int mode), .val (.int few), .val (.int most), .val (.long lo), .second, .val (.long hi), .second, .val (.int sel), .val (.long dl), .second, .val (.long r9), .second, .unset, .unset, .unset, .unset, .unset, .unset, .unset, .unset, .unset, .unset, .unset, .unset, .unset, .unset, .unset] [])) _
          refine XS.goto X9.here hx rfl (pc0 := 109) (pc' := 150) rfl (hb hby at_109) (by decide) (by decide) ?_
          show Steps p.tables e below (T9.setTop (mkF m 150 #[.val (.long q1), .second, .val (.long q2), .second, .val (.long q3), .second, .val (.int mode), .val (.int few), .val (.int most), .val (.long lo), .second, .val (.long hi), .second, .val (.int sel), .val (.long dl), .second, .val (.long r9), .second, .unset, .unset, .unset, .unset, .unset, .unset, .unset, .unset, .unset, .unset, .unset, .unset, .unset, .unset, .unset] [])) _
          exact k_
        exact J150 T9 _ hi sel dl _ X9 e9 (Fr.app N N9) hhi hr9.2
      · refine own_go (T' := T) (g' := (mkF m 115 #[.val (.long q1), .second, .val (.long q2), .second, .val (.long q3), .second, .val (.int mode), .val (.int few), .val (.int most), .val (.long lo), .second, .val (.long hi), .second, .val (.int sel), .val (.long dl), .second, .unset, .unset, .unset, .unset, .unset, .unset, .unset, .unset, .unset, .unset, .unset, .unset, .unset, .unset, .unset, .unset, .unset] [(.int (2 : Int32)), (.int sel)])) (fun t_ k_ => ?_) ?_
        · refine XS.icmpYes X.here hx rfl (pc0 := 96) (pc' := 112) rfl (hb hby at_96) rfl (feq s1).2 (by decide) (by decide) ?_
          show Steps p.tables e below (T.setTop (mkF m 112 #[.val (.long q1), .second, .val (.long q2), .second, .val (.long q3), .second, .val (.int mode), .val (.int few), .val (.int most), .val (.long lo), .second, .val (.long hi), .second, .val (.int sel), .val (.long dl), .second, .unset, .unset, .unset, .unset, .unset, .unset, .unset, .unset, .unset, .unset, .unset, .unset, .unset, .unset, .unset, .unset, .unset] [])) _
          refine XS.iload X.here hx rfl (hb hby at_112) rfl ?_
          show Steps p.tables e below (T.setTop (mkF m 114 #[.val (.long q1), .second, .val (.long q2), .second, .val (.long q3), .second, .val (.int mode), .val (.int few), .val (.int most), .val (.long lo), .second, .val (.long hi), .second, .val (.int sel), .val (.long dl), .second, .unset, .unset, .unset, .unset, .unset, .unset, .unset, .unset, .unset, .unset, .unset, .unset, .unset, .unset, .unset, .unset, .unset] [(.int sel)])) _
          refine XS.iconst X.here hx rfl (hb hby at_114) ?_
          show Steps p.tables e below (T.setTop (mkF m 115 #[.val (.long q1), .second, .val (.long q2), .second, .val (.long q3), .second, .val (.int mode), .val (.int few), .val (.int most), .val (.long lo), .second, .val (.long hi), .second, .val (.int sel), .val (.long dl), .second, .unset, .unset, .unset, .unset, .unset, .unset, .unset, .unset, .unset, .unset, .unset, .unset, .unset, .unset, .unset, .unset, .unset] [(.int (2 : Int32)), (.int sel)])) _
          exact k_
        by_cases s2 : sel = (2 : Int32)
        · refine own_go (T' := T) (g' := (mkF m 123 #[.val (.long q1), .second, .val (.long q2), .second, .val (.long q3), .second, .val (.int mode), .val (.int few), .val (.int most), .val (.long lo), .second, .val (.long hi), .second, .val (.int sel), .val (.long dl), .second, .unset, .unset, .unset, .unset, .unset, .unset, .unset, .unset, .unset, .unset, .unset, .unset, .unset, .unset, .unset, .unset, .unset] [(.long (hi + dl))])) (fun t_ k_ => ?_) ?_
          · refine XS.icmpNo X.here hx rfl (hb hby at_115) rfl (teq s2).2 ?_
            show Steps p.tables e below (T.setTop (mkF m 118 #[.val (.long q1), .second, .val (.long q2), .second, .val (.long q3), .second, .val (.int mode), .val (.int few), .val (.int most), .val (.long lo), .second, .val (.long hi), .second, .val (.int sel), .val (.long dl), .second, .unset, .unset, .unset, .unset, .unset, .unset, .unset, .unset, .unset, .unset, .unset, .unset, .unset, .unset, .unset, .unset, .unset] [])) _
            refine XS.lload X.here hx rfl (hb hby at_118) rfl ?_
            show Steps p.tables e below (T.setTop (mkF m 120 #[.val (.long q1), .second, .val (.long q2), .second, .val (.long q3), .second, .val (.int mode), .val (.int few), .val (.int most), .val (.long lo), .second, .val (.long hi), .second, .val (.int sel), .val (.long dl), .second, .unset, .unset, .unset, .unset, .unset, .unset, .unset, .unset, .unset, .unset, .unset, .unset, .unset, .unset, .unset, .unset, .unset] [(.long hi)])) _
            refine XS.lload X.here hx rfl (hb hby at_120) rfl ?_
            show Steps p.tables e below (T.setTop (mkF m 122 #[.val (.long q1), .second, .val (.long q2), .second, .val (.long q3), .second, .val (.int mode), .val (.int few), .val (.int most), .val (.long lo), .second, .val (.long hi), .second, .val (.int sel), .val (.long dl), .second, .unset, .unset, .unset, .unset, .unset, .unset, .unset, .unset, .unset, .unset, .unset, .unset, .unset, .unset, .unset, .unset, .unset] [(.long dl), (.long hi)])) _
            refine XS.ladd X.here hx rfl (hb hby at_122) rfl ?_
            show Steps p.tables e below (T.setTop (mkF m 123 #[.val (.long q1), .second, .val (.long q2), .second, .val (.long q3), .second, .val (.int mode), .val (.int few), .val (.int most), .val (.long lo), .second, .val (.long hi), .second, .val (.int sel), .val (.long dl), .second, .unset, .unset, .unset, .unset, .unset, .unset, .unset, .unset, .unset, .unset, .unset, .unset, .unset, .unset, .unset, .unset, .unset] [(.long (hi + dl))])) _
            exact k_
          refine own_callS (y := (⟨"com/example/ioconic/ioconic/expr/MagnitudeLeadsWithPinLaw", "wrap", "(J)J"⟩ : MethodName)) (W := 0) (rm := ({ frames := 0, cells := 0, slots := 0, locals := 0 } : Room)) (argsL := [(.long (hi + dl))]) (rest := []) X hx hZ hown (hw _ (List.mem_of_getElem? (i := 42) rfl)) (hw _ (List.mem_of_getElem? (i := 43) rfl)) (hw _ (List.mem_of_getElem? (i := 44) rfl)) (hw _ (List.mem_of_getElem? (i := 45) rfl)) (by decide) (rm6 l Z a0 hw [] (hi + dl) h0 n0 Z0 (own_d2 hhi hdl')) (by decide) (by decide) eT (by decide) (by decide) rfl (by rw [hml]; rfl) (lenOf pd6 rfl) rfl (by show 2 * 0 + _ ≤ _; exact Nat.le_of_eq rfl) (hb hby at_123) ?_
          rintro _ T10 L10 X10 ⟨r10, rfl, hr10, N10, e10⟩
          show own_Go p e below s room_1.cells room_1.slots (fun v _ L => v = some (.int (1 : Int32)) ∧ Fr n0 L) T10 (mkF m 126 #[.val (.long q1), .second, .val (.long q2), .second, .val (.long q3), .second, .val (.int mode), .val (.int few), .val (.int most), .val (.long lo), .second, .val (.long hi), .second, .val (.int sel), .val (.long dl), .second, .unset, .unset, .unset, .unset, .unset, .unset, .unset, .unset, .unset, .unset, .unset, .unset, .unset, .unset, .unset, .unset, .unset] [(.long r10)])
          refine own_go (T' := T10) (g' := (mkF m 150 #[.val (.long q1), .second, .val (.long q2), .second, .val (.long q3), .second, .val (.int mode), .val (.int few), .val (.int most), .val (.long lo), .second, .val (.long hi), .second, .val (.int sel), .val (.long dl), .second, .val (.long r10), .second, .unset, .unset, .unset, .unset, .unset, .unset, .unset, .unset, .unset, .unset, .unset, .unset, .unset, .unset, .unset] [])) (fun t_ k_ => ?_) ?_
          · refine XS.lstore X10.here hx rfl (hb hby at_126) rfl (l' := #[.val (.long q1), .second, .val (.long q2), .second, .val (.long q3), .second, .val (.int mode), .val (.int few), .val (.int most), .val (.long lo), .second, .val (.long hi), .second, .val (.int sel), .val (.long dl), .second, .val (.long r10), .second, .unset, .unset, .unset, .unset, .unset, .unset, .unset, .unset, .unset, .unset, .unset, .unset, .unset, .unset, .unset]) rfl ?_
            show Steps p.tables e below (T10.setTop (mkF m 128 #[.val (.long q1), .second, .val (.long q2), .second, .val (.long q3), .second, .val (.int mode), .val (.int few), .val (.int most), .val (.long lo), .second, .val (.long hi), .second, .val (.int sel), .val (.long dl), .second, .val (.long r10), .second, .unset, .unset, .unset, .unset, .unset, .unset, .unset, .unset, .unset, .unset, .unset, .unset, .unset, .unset, .unset] [])) _
            refine XS.goto X10.here hx rfl (pc0 := 128) (pc' := 150) rfl (hb hby at_128) (by decide) (by decide) ?_
            show Steps p.tables e below (T10.setTop (mkF m 150 #[.val (.long q1), .second, .val (.long q2), .second, .val (.long q3), .second, .val (.int mode), .val (.int few), .val (.int most), .val (.long lo), .second, .val (.long hi), .second, .val (.int sel), .val (.long dl), .second, .val (.long r10), .second, .unset, .unset, .unset, .unset, .unset, .unset, .unset, .unset, .unset, .unset, .unset, .unset, .unset, .unset, .unset] [])) _
            exact k_
          exact J150 T10 _ hi sel dl _ X10 e10 (Fr.app N N10) hhi hr10.2
        · refine own_go (T' := T) (g' := (mkF m 138 #[.val (.long q1), .second, .val (.long q2), .second, .val (.long q3), .second, .val (.int mode), .val (.int few), .val (.int most), .val (.long lo), .second, .val (.long hi), .second, .val (.int sel), .val (.long dl), .second, .unset, .unset, .unset, .unset, .unset, .unset, .unset, .unset, .unset, .unset, .unset, .unset, .unset, .unset, .unset, .unset, .unset] [(.int ((mode >>> ((6 : Int32) &&& 31)) &&& (1 : Int32)))])) (fun t_ k_ => ?_) ?_
          · refine XS.icmpYes X.here hx rfl (pc0 := 115) (pc' := 131) rfl (hb hby at_115) rfl (feq s2).2 (by decide) (by decide) ?_
            show Steps p.tables e below (T.setTop (mkF m 131 #[.val (.long q1), .second, .val (.long q2), .second, .val (.long q3), .second, .val (.int mode), .val (.int few), .val (.int most), .val (.long lo), .second, .val (.long hi), .second, .val (.int sel), .val (.long dl), .second, .unset, .unset, .unset, .unset, .unset, .unset, .unset, .unset, .unset, .unset, .unset, .unset, .unset, .unset, .unset, .unset, .unset] [])) _
            refine XS.iload X.here hx rfl (hb hby at_131) rfl ?_
            show Steps p.tables e below (T.setTop (mkF m 133 #[.val (.long q1), .second, .val (.long q2), .second, .val (.long q3), .second, .val (.int mode), .val (.int few), .val (.int most), .val (.long lo), .second, .val (.long hi), .second, .val (.int sel), .val (.long dl), .second, .unset, .unset, .unset, .unset, .unset, .unset, .unset, .unset, .unset, .unset, .unset, .unset, .unset, .unset, .unset, .unset, .unset] [(.int mode)])) _
            refine XS.bipush X.here hx rfl (hb hby at_133) ?_
            show Steps p.tables e below (T.setTop (mkF m 135 #[.val (.long q1), .second, .val (.long q2), .second, .val (.long q3), .second, .val (.int mode), .val (.int few), .val (.int most), .val (.long lo), .second, .val (.long hi), .second, .val (.int sel), .val (.long dl), .second, .unset, .unset, .unset, .unset, .unset, .unset, .unset, .unset, .unset, .unset, .unset, .unset, .unset, .unset, .unset, .unset, .unset] [(.int (6 : Int32)), (.int mode)])) _
            refine XS.ishr X.here hx rfl (hb hby at_135) rfl ?_
            show Steps p.tables e below (T.setTop (mkF m 136 #[.val (.long q1), .second, .val (.long q2), .second, .val (.long q3), .second, .val (.int mode), .val (.int few), .val (.int most), .val (.long lo), .second, .val (.long hi), .second, .val (.int sel), .val (.long dl), .second, .unset, .unset, .unset, .unset, .unset, .unset, .unset, .unset, .unset, .unset, .unset, .unset, .unset, .unset, .unset, .unset, .unset] [(.int (mode >>> ((6 : Int32) &&& 31)))])) _
            refine XS.iconst X.here hx rfl (hb hby at_136) ?_
            show Steps p.tables e below (T.setTop (mkF m 137 #[.val (.long q1), .second, .val (.long q2), .second, .val (.long q3), .second, .val (.int mode), .val (.int few), .val (.int most), .val (.long lo), .second, .val (.long hi), .second, .val (.int sel), .val (.long dl), .second, .unset, .unset, .unset, .unset, .unset, .unset, .unset, .unset, .unset, .unset, .unset, .unset, .unset, .unset, .unset, .unset, .unset] [(.int (1 : Int32)), (.int (mode >>> ((6 : Int32) &&& 31)))])) _
            refine XS.iand X.here hx rfl (hb hby at_137) rfl ?_
            show Steps p.tables e below (T.setTop (mkF m 138 #[.val (.long q1), .second, .val (.long q2), .second, .val (.long q3), .second, .val (.int mode), .val (.int few), .val (.int most), .val (.long lo), .second, .val (.long hi), .second, .val (.int sel), .val (.long dl), .second, .unset, .unset, .unset, .unset, .unset, .unset, .unset, .unset, .unset, .unset, .unset, .unset, .unset, .unset, .unset, .unset, .unset] [(.int ((mode >>> ((6 : Int32) &&& 31)) &&& (1 : Int32)))])) _
            exact k_
          by_cases s3 : ((mode >>> ((6 : Int32) &&& 31)) &&& (1 : Int32)) = (0 : Int32)
          · refine own_go (T' := T) (g' := (mkF m 150 #[.val (.long q1), .second, .val (.long q2), .second, .val (.long q3), .second, .val (.int mode), .val (.int few), .val (.int most), .val (.long lo), .second, .val (.long hi), .second, .val (.int sel), .val (.long dl), .second, .val (.long (0 : Int64)), .second, .unset, .unset, .unset, .unset, .unset, .unset, .unset, .unset, .unset, .unset, .unset, .unset, .unset, .unset, .unset] [])) (fun t_ k_ => ?_) ?_
            · refine XS.ifNo X.here hx rfl (hb hby at_138) rfl ((if0 _ _).trans (teq s3).2) ?_
              show Steps p.tables e below (T.setTop (mkF m 141 #[.val (.long q1), .second, .val (.long q2), .second, .val (.long q3), .second, .val (.int mode), .val (.int few), .val (.int most), .val (.long lo), .second, .val (.long hi), .second, .val (.int sel), .val (.long dl), .second, .unset, .unset, .unset, .unset, .unset, .unset, .unset, .unset, .unset, .unset, .unset, .unset, .unset, .unset, .unset, .unset, .unset] [])) _
              refine XS.lconst X.here hx rfl (hb hby at_141) ?_
              show Steps p.tables e below (T.setTop (mkF m 142 #[.val (.long q1), .second, .val (.long q2), .second, .val (.long q3), .second, .val (.int mode), .val (.int few), .val (.int most), .val (.long lo), .second, .val (.long hi), .second, .val (.int sel), .val (.long dl), .second, .unset, .unset, .unset, .unset, .unset, .unset, .unset, .unset, .unset, .unset, .unset, .unset, .unset, .unset, .unset, .unset, .unset] [(.long (0 : Int64))])) _
              refine XS.goto X.here hx rfl (pc0 := 142) (pc' := 148) rfl (hb hby at_142) (by decide) (by decide) ?_
              show Steps p.tables e below (T.setTop (mkF m 148 #[.val (.long q1), .second, .val (.long q2), .second, .val (.long q3), .second, .val (.int mode), .val (.int few), .val (.int most), .val (.long lo), .second, .val (.long hi), .second, .val (.int sel), .val (.long dl), .second, .unset, .unset, .unset, .unset, .unset, .unset, .unset, .unset, .unset, .unset, .unset, .unset, .unset, .unset, .unset, .unset, .unset] [(.long (0 : Int64))])) _
              refine XS.lstore X.here hx rfl (hb hby at_148) rfl (l' := #[.val (.long q1), .second, .val (.long q2), .second, .val (.long q3), .second, .val (.int mode), .val (.int few), .val (.int most), .val (.long lo), .second, .val (.long hi), .second, .val (.int sel), .val (.long dl), .second, .val (.long (0 : Int64)), .second, .unset, .unset, .unset, .unset, .unset, .unset, .unset, .unset, .unset, .unset, .unset, .unset, .unset, .unset, .unset]) rfl ?_
              show Steps p.tables e below (T.setTop (mkF m 150 #[.val (.long q1), .second, .val (.long q2), .second, .val (.long q3), .second, .val (.int mode), .val (.int few), .val (.int most), .val (.long lo), .second, .val (.long hi), .second, .val (.int sel), .val (.long dl), .second, .val (.long (0 : Int64)), .second, .unset, .unset, .unset, .unset, .unset, .unset, .unset, .unset, .unset, .unset, .unset, .unset, .unset, .unset, .unset] [])) _
              exact k_
            exact J150 T _ hi sel dl _ X eT N hhi (by decide)
          · refine own_go (T' := T) (g' := (mkF m 150 #[.val (.long q1), .second, .val (.long q2), .second, .val (.long q3), .second, .val (.int mode), .val (.int few), .val (.int most), .val (.long lo), .second, .val (.long hi), .second, .val (.int sel), .val (.long dl), .second, .val (.long (899999999999 : Int64)), .second, .unset, .unset, .unset, .unset, .unset, .unset, .unset, .unset, .unset, .unset, .unset, .unset, .unset, .unset, .unset] [])) (fun t_ k_ => ?_) ?_
            · refine XS.ifYes X.here hx rfl (pc0 := 138) (pc' := 145) rfl (hb hby at_138) rfl ((if0 _ _).trans (feq s3).2) (by decide) (by decide) ?_
              show Steps p.tables e below (T.setTop (mkF m 145 #[.val (.long q1), .second, .val (.long q2), .second, .val (.long q3), .second, .val (.int mode), .val (.int few), .val (.int most), .val (.long lo), .second, .val (.long hi), .second, .val (.int sel), .val (.long dl), .second, .unset, .unset, .unset, .unset, .unset, .unset, .unset, .unset, .unset, .unset, .unset, .unset, .unset, .unset, .unset, .unset, .unset] [])) _
              refine X.ldc2Long hx hown (mvT hZ (hw _ (List.mem_of_getElem? (i := 46) rfl))) (g := (mkF m 145 #[.val (.long q1), .second, .val (.long q2), .second, .val (.long q3), .second, .val (.int mode), .val (.int few), .val (.int most), .val (.long lo), .second, .val (.long hi), .second, .val (.int sel), .val (.long dl), .second, .unset, .unset, .unset, .unset, .unset, .unset, .unset, .unset, .unset, .unset, .unset, .unset, .unset, .unset, .unset, .unset, .unset] [])) rfl (hb hby at_145) _ ?_
              show Steps p.tables e below (T.setTop (mkF m 148 #[.val (.long q1), .second, .val (.long q2), .second, .val (.long q3), .second, .val (.int mode), .val (.int few), .val (.int most), .val (.long lo), .second, .val (.long hi), .second, .val (.int sel), .val (.long dl), .second, .unset, .unset, .unset, .unset, .unset, .unset, .unset, .unset, .unset, .unset, .unset, .unset, .unset, .unset, .unset, .unset, .unset] [(.long (899999999999 : Int64))])) _
              refine XS.lstore X.here hx rfl (hb hby at_148) rfl (l' := #[.val (.long q1), .second, .val (.long q2), .second, .val (.long q3), .second, .val (.int mode), .val (.int few), .val (.int most), .val (.long lo), .second, .val (.long hi), .second, .val (.int sel), .val (.long dl), .second, .val (.long (899999999999 : Int64)), .second, .unset, .unset, .unset, .unset, .unset, .unset, .unset, .unset, .unset, .unset, .unset, .unset, .unset, .unset, .unset]) rfl ?_
              show Steps p.tables e below (T.setTop (mkF m 150 #[.val (.long q1), .second, .val (.long q2), .second, .val (.long q3), .second, .val (.int mode), .val (.int few), .val (.int most), .val (.long lo), .second, .val (.long hi), .second, .val (.int sel), .val (.long dl), .second, .val (.long (899999999999 : Int64)), .second, .unset, .unset, .unset, .unset, .unset, .unset, .unset, .unset, .unset, .unset, .unset, .unset, .unset, .unset, .unset] [])) _
              exact k_
            exact J150 T _ hi sel dl _ X eT N hhi (by decide)
  refine own_go (T' := s₁) (g' := (mkF m 15 #[.val (.long q1), .second, .val (.long q2), .second, .val (.long q3), .second, .val (.int mode), .val (.int few), .val (.int most), .val (.long lo), .second, .unset, .unset, .unset, .unset, .unset, .unset, .unset, .unset, .unset, .unset, .unset, .unset, .unset, .unset, .unset, .unset, .unset, .unset, .unset, .unset, .unset, .unset] [(.int (mode &&& (1 : Int32)))])) (fun t_ k_ => ?_) ?_
  · refine XS.iload X0.here hx rfl (hb hby at_11) rfl ?_
    show Steps p.tables e below (s₁.setTop (mkF m 13 #[.val (.long q1), .second, .val (.long q2), .second, .val (.long q3), .second, .val (.int mode), .val (.int few), .val (.int most), .val (.long lo), .second, .unset, .unset, .unset, .unset, .unset, .unset, .unset, .unset, .unset, .unset, .unset, .unset, .unset, .unset, .unset, .unset, .unset, .unset, .unset, .unset, .unset, .unset] [(.int mode)])) _
    refine XS.iconst X0.here hx rfl (hb hby at_13) ?_
    show Steps p.tables e below (s₁.setTop (mkF m 14 #[.val (.long q1), .second, .val (.long q2), .second, .val (.long q3), .second, .val (.int mode), .val (.int few), .val (.int most), .val (.long lo), .second, .unset, .unset, .unset, .unset, .unset, .unset, .unset, .unset, .unset, .unset, .unset, .unset, .unset, .unset, .unset, .unset, .unset, .unset, .unset, .unset, .unset, .unset] [(.int (1 : Int32)), (.int mode)])) _
    refine XS.iand X0.here hx rfl (hb hby at_14) rfl ?_
    show Steps p.tables e below (s₁.setTop (mkF m 15 #[.val (.long q1), .second, .val (.long q2), .second, .val (.long q3), .second, .val (.int mode), .val (.int few), .val (.int most), .val (.long lo), .second, .unset, .unset, .unset, .unset, .unset, .unset, .unset, .unset, .unset, .unset, .unset, .unset, .unset, .unset, .unset, .unset, .unset, .unset, .unset, .unset, .unset, .unset] [(.int (mode &&& (1 : Int32)))])) _
    exact k_
  by_cases c15 : (mode &&& (1 : Int32)) = (0 : Int32)
  rotate_left
  · refine own_go (T' := s₁) (g' := (mkF m 33 #[.val (.long q1), .second, .val (.long q2), .second, .val (.long q3), .second, .val (.int mode), .val (.int few), .val (.int most), .val (.long lo), .second, .unset, .unset, .unset, .unset, .unset, .unset, .unset, .unset, .unset, .unset, .unset, .unset, .unset, .unset, .unset, .unset, .unset, .unset, .unset, .unset, .unset, .unset] [(.long ((lo + (((mode >>> ((1 : Int32) &&& 31)) &&& (7 : Int32)).toInt64)) - (4 : Int64)))])) (fun t_ k_ => ?_) ?_
    · refine XS.ifNo X0.here hx rfl (hb hby at_15) rfl ((if0 _ _).trans (feq c15).1) ?_
      show Steps p.tables e below (s₁.setTop (mkF m 18 #[.val (.long q1), .second, .val (.long q2), .second, .val (.long q3), .second, .val (.int mode), .val (.int few), .val (.int most), .val (.long lo), .second, .unset, .unset, .unset, .unset, .unset, .unset, .unset, .unset, .unset, .unset, .unset, .unset, .unset, .unset, .unset, .unset, .unset, .unset, .unset, .unset, .unset, .unset] [])) _
      refine XS.lload X0.here hx rfl (hb hby at_18) rfl ?_
      show Steps p.tables e below (s₁.setTop (mkF m 20 #[.val (.long q1), .second, .val (.long q2), .second, .val (.long q3), .second, .val (.int mode), .val (.int few), .val (.int most), .val (.long lo), .second, .unset, .unset, .unset, .unset, .unset, .unset, .unset, .unset, .unset, .unset, .unset, .unset, .unset, .unset, .unset, .unset, .unset, .unset, .unset, .unset, .unset, .unset] [(.long lo)])) _
      refine XS.iload X0.here hx rfl (hb hby at_20) rfl ?_
      show Steps p.tables e below (s₁.setTop (mkF m 22 #[.val (.long q1), .second, .val (.long q2), .second, .val (.long q3), .second, .val (.int mode), .val (.int few), .val (.int most), .val (.long lo), .second, .unset, .unset, .unset, .unset, .unset, .unset, .unset, .unset, .unset, .unset, .unset, .unset, .unset, .unset, .unset, .unset, .unset, .unset, .unset, .unset, .unset, .unset] [(.int mode), (.long lo)])) _
      refine XS.iconst X0.here hx rfl (hb hby at_22) ?_
      show Steps p.tables e below (s₁.setTop (mkF m 23 #[.val (.long q1), .second, .val (.long q2), .second, .val (.long q3), .second, .val (.int mode), .val (.int few), .val (.int most), .val (.long lo), .second, .unset, .unset, .unset, .unset, .unset, .unset, .unset, .unset, .unset, .unset, .unset, .unset, .unset, .unset, .unset, .unset, .unset, .unset, .unset, .unset, .unset, .unset] [(.int (1 : Int32)), (.int mode), (.long lo)])) _
      refine XS.ishr X0.here hx rfl (hb hby at_23) rfl ?_
      show Steps p.tables e below (s₁.setTop (mkF m 24 #[.val (.long q1), .second, .val (.long q2), .second, .val (.long q3), .second, .val (.int mode), .val (.int few), .val (.int most), .val (.long lo), .second, .unset, .unset, .unset, .unset, .unset, .unset, .unset, .unset, .unset, .unset, .unset, .unset, .unset, .unset, .unset, .unset, .unset, .unset, .unset, .unset, .unset, .unset] [(.int (mode >>> ((1 : Int32) &&& 31))), (.long lo)])) _
      refine XS.bipush X0.here hx rfl (hb hby at_24) ?_
      show Steps p.tables e below (s₁.setTop (mkF m 26 #[.val (.long q1), .second, .val (.long q2), .second, .val (.long q3), .second, .val (.int mode), .val (.int few), .val (.int most), .val (.long lo), .second, .unset, .unset, .unset, .unset, .unset, .unset, .unset, .unset, .unset, .unset, .unset, .unset, .unset, .unset, .unset, .unset, .unset, .unset, .unset, .unset, .unset, .unset] [(.int (7 : Int32)), (.int (mode >>> ((1 : Int32) &&& 31))), (.long lo)])) _
      refine XS.iand X0.here hx rfl (hb hby at_26) rfl ?_
      show Steps p.tables e below (s₁.setTop (mkF m 27 #[.val (.long q1), .second, .val (.long q2), .second, .val (.long q3), .second, .val (.int mode), .val (.int few), .val (.int most), .val (.long lo), .second, .unset, .unset, .unset, .unset, .unset, .unset, .unset, .unset, .unset, .unset, .unset, .unset, .unset, .unset, .unset, .unset, .unset, .unset, .unset, .unset, .unset, .unset] [(.int ((mode >>> ((1 : Int32) &&& 31)) &&& (7 : Int32))), (.long lo)])) _
      refine XS.i2l X0.here hx rfl (hb hby at_27) rfl ?_
      show Steps p.tables e below (s₁.setTop (mkF m 28 #[.val (.long q1), .second, .val (.long q2), .second, .val (.long q3), .second, .val (.int mode), .val (.int few), .val (.int most), .val (.long lo), .second, .unset, .unset, .unset, .unset, .unset, .unset, .unset, .unset, .unset, .unset, .unset, .unset, .unset, .unset, .unset, .unset, .unset, .unset, .unset, .unset, .unset, .unset] [(.long (((mode >>> ((1 : Int32) &&& 31)) &&& (7 : Int32)).toInt64)), (.long lo)])) _
      refine XS.ladd X0.here hx rfl (hb hby at_28) rfl ?_
      show Steps p.tables e below (s₁.setTop (mkF m 29 #[.val (.long q1), .second, .val (.long q2), .second, .val (.long q3), .second, .val (.int mode), .val (.int few), .val (.int most), .val (.long lo), .second, .unset, .unset, .unset, .unset, .unset, .unset, .unset, .unset, .unset, .unset, .unset, .unset, .unset, .unset, .unset, .unset, .unset, .unset, .unset, .unset, .unset, .unset] [(.long (lo + (((mode >>> ((1 : Int32) &&& 31)) &&& (7 : Int32)).toInt64)))])) _
      refine X0.ldc2Long hx hown (mvT hZ (hw _ (List.mem_of_getElem? (i := 47) rfl))) (g := (mkF m 29 #[.val (.long q1), .second, .val (.long q2), .second, .val (.long q3), .second, .val (.int mode), .val (.int few), .val (.int most), .val (.long lo), .second, .unset, .unset, .unset, .unset, .unset, .unset, .unset, .unset, .unset, .unset, .unset, .unset, .unset, .unset, .unset, .unset, .unset, .unset, .unset, .unset, .unset, .unset] [(.long (lo + (((mode >>> ((1 : Int32) &&& 31)) &&& (7 : Int32)).toInt64)))])) rfl (hb hby at_29) _ ?_
      show Steps p.tables e below (s₁.setTop (mkF m 32 #[.val (.long q1), .second, .val (.long q2), .second, .val (.long q3), .second, .val (.int mode), .val (.int few), .val (.int most), .val (.long lo), .second, .unset, .unset, .unset, .unset, .unset, .unset, .unset, .unset, .unset, .unset, .unset, .unset, .unset, .unset, .unset, .unset, .unset, .unset, .unset, .unset, .unset, .unset] [(.long (4 : Int64)), (.long (lo + (((mode >>> ((1 : Int32) &&& 31)) &&& (7 : Int32)).toInt64)))])) _
      refine XS.lsub X0.here hx rfl (hb hby at_32) rfl ?_
      show Steps p.tables e below (s₁.setTop (mkF m 33 #[.val (.long q1), .second, .val (.long q2), .second, .val (.long q3), .second, .val (.int mode), .val (.int few), .val (.int most), .val (.long lo), .second, .unset, .unset, .unset, .unset, .unset, .unset, .unset, .unset, .unset, .unset, .unset, .unset, .unset, .unset, .unset, .unset, .unset, .unset, .unset, .unset, .unset, .unset] [(.long ((lo + (((mode >>> ((1 : Int32) &&& 31)) &&& (7 : Int32)).toInt64)) - (4 : Int64)))])) _
      exact k_
    refine own_callS (y := (⟨"com/example/ioconic/ioconic/expr/MagnitudeLeadsWithPinLaw", "wrap", "(J)J"⟩ : MethodName)) (W := 0) (rm := ({ frames := 0, cells := 0, slots := 0, locals := 0 } : Room)) (argsL := [(.long ((lo + (((mode >>> ((1 : Int32) &&& 31)) &&& (7 : Int32)).toInt64)) - (4 : Int64)))]) (rest := []) X0 hx hZ hown (hw _ (List.mem_of_getElem? (i := 42) rfl)) (hw _ (List.mem_of_getElem? (i := 43) rfl)) (hw _ (List.mem_of_getElem? (i := 44) rfl)) (hw _ (List.mem_of_getElem? (i := 45) rfl)) (by decide) (rm6 l Z a0 hw [] ((lo + (((mode >>> ((1 : Int32) &&& 31)) &&& (7 : Int32)).toInt64)) - (4 : Int64)) h0 n0 Z0 (own_d1 hlo' (mode >>> ((1 : Int32) &&& 31)))) (by decide) (by decide) e0 (by decide) (by decide) rfl (by rw [hml]; rfl) (lenOf pd6 rfl) rfl (by show 2 * 0 + _ ≤ _; exact Nat.le_of_eq rfl) (hb hby at_33) ?_
    rintro _ T11 L11 X11 ⟨r11, rfl, hr11, N11, e11⟩
    show own_Go p e below s room_1.cells room_1.slots (fun v _ L => v = some (.int (1 : Int32)) ∧ Fr n0 L) T11 (mkF m 36 #[.val (.long q1), .second, .val (.long q2), .second, .val (.long q3), .second, .val (.int mode), .val (.int few), .val (.int most), .val (.long lo), .second, .unset, .unset, .unset, .unset, .unset, .unset, .unset, .unset, .unset, .unset, .unset, .unset, .unset, .unset, .unset, .unset, .unset, .unset, .unset, .unset, .unset, .unset] [(.long r11)])
    refine own_go (T' := T11) (g' := (mkF m 52 #[.val (.long q1), .second, .val (.long q2), .second, .val (.long q3), .second, .val (.int mode), .val (.int few), .val (.int most), .val (.long lo), .second, .val (.long r11), .second, .unset, .unset, .unset, .unset, .unset, .unset, .unset, .unset, .unset, .unset, .unset, .unset, .unset, .unset, .unset, .unset, .unset, .unset, .unset, .unset] [])) (fun t_ k_ => ?_) ?_
    · refine XS.lstore X11.here hx rfl (hb hby at_36) rfl (l' := #[.val (.long q1), .second, .val (.long q2), .second, .val (.long q3), .second, .val (.int mode), .val (.int few), .val (.int most), .val (.long lo), .second, .val (.long r11), .second, .unset, .unset, .unset, .unset, .unset, .unset, .unset, .unset, .unset, .unset, .unset, .unset, .unset, .unset, .unset, .unset, .unset, .unset, .unset, .unset]) rfl ?_
      show Steps p.tables e below (T11.setTop (mkF m 38 #[.val (.long q1), .second, .val (.long q2), .second, .val (.long q3), .second, .val (.int mode), .val (.int few), .val (.int most), .val (.long lo), .second, .val (.long r11), .second, .unset, .unset, .unset, .unset, .unset, .unset, .unset, .unset, .unset, .unset, .unset, .unset, .unset, .unset, .unset, .unset, .unset, .unset, .unset, .unset] [])) _
      refine XS.goto X11.here hx rfl (pc0 := 38) (pc' := 52) rfl (hb hby at_38) (by decide) (by decide) ?_
      show Steps p.tables e below (T11.setTop (mkF m 52 #[.val (.long q1), .second, .val (.long q2), .second, .val (.long q3), .second, .val (.int mode), .val (.int few), .val (.int most), .val (.long lo), .second, .val (.long r11), .second, .unset, .unset, .unset, .unset, .unset, .unset, .unset, .unset, .unset, .unset, .unset, .unset, .unset, .unset, .unset, .unset, .unset, .unset, .unset, .unset] [])) _
      exact k_
    exact J52 T11 _ _ X11 e11 (Fr.app N0 N11) hr11.2
  · refine own_go (T' := s₁) (g' := (mkF m 52 #[.val (.long q1), .second, .val (.long q2), .second, .val (.long q3), .second, .val (.int mode), .val (.int few), .val (.int most), .val (.long lo), .second, .val (.long ((q2 &&& (9223372036854775807 : Int64)) - ((q2 &&& (9223372036854775807 : Int64)) / (900000000000 : Int64)) * (900000000000 : Int64))), .second, .unset, .unset, .unset, .unset, .unset, .unset, .unset, .unset, .unset, .unset, .unset, .unset, .unset, .unset, .unset, .unset, .unset, .unset, .unset, .unset] [])) (fun t_ k_ => ?_) ?_
    · refine XS.ifYes X0.here hx rfl (pc0 := 15) (pc' := 41) rfl (hb hby at_15) rfl ((if0 _ _).trans (teq c15).1) (by decide) (by decide) ?_
      show Steps p.tables e below (s₁.setTop (mkF m 41 #[.val (.long q1), .second, .val (.long q2), .second, .val (.long q3), .second, .val (.int mode), .val (.int few), .val (.int most), .val (.long lo), .second, .unset, .unset, .unset, .unset, .unset, .unset, .unset, .unset, .unset, .unset, .unset, .unset, .unset, .unset, .unset, .unset, .unset, .unset, .unset, .unset, .unset, .unset] [])) _
      refine XS.lloadN X0.here hx rfl (hb hby at_41) rfl ?_
      show Steps p.tables e below (s₁.setTop (mkF m 42 #[.val (.long q1), .second, .val (.long q2), .second, .val (.long q3), .second, .val (.int mode), .val (.int few), .val (.int most), .val (.long lo), .second, .unset, .unset, .unset, .unset, .unset, .unset, .unset, .unset, .unset, .unset, .unset, .unset, .unset, .unset, .unset, .unset, .unset, .unset, .unset, .unset, .unset, .unset] [(.long q2)])) _
      refine X0.ldc2Long hx hown (mvT hZ (hw _ (List.mem_of_getElem? (i := 0) rfl))) (g := (mkF m 42 #[.val (.long q1), .second, .val (.long q2), .second, .val (.long q3), .second, .val (.int mode), .val (.int few), .val (.int most), .val (.long lo), .second, .unset, .unset, .unset, .unset, .unset, .unset, .unset, .unset, .unset, .unset, .unset, .unset, .unset, .unset, .unset, .unset, .unset, .unset, .unset, .unset, .unset, .unset] [(.long q2)])) rfl (hb hby at_42) _ ?_
      show Steps p.tables e below (s₁.setTop (mkF m 45 #[.val (.long q1), .second, .val (.long q2), .second, .val (.long q3), .second, .val (.int mode), .val (.int few), .val (.int most), .val (.long lo), .second, .unset, .unset, .unset, .unset, .unset, .unset, .unset, .unset, .unset, .unset, .unset, .unset, .unset, .unset, .unset, .unset, .unset, .unset, .unset, .unset, .unset, .unset] [(.long (9223372036854775807 : Int64)), (.long q2)])) _
      refine XS.land X0.here hx rfl (hb hby at_45) rfl ?_
      show Steps p.tables e below (s₁.setTop (mkF m 46 #[.val (.long q1), .second, .val (.long q2), .second, .val (.long q3), .second, .val (.int mode), .val (.int few), .val (.int most), .val (.long lo), .second, .unset, .unset, .unset, .unset, .unset, .unset, .unset, .unset, .unset, .unset, .unset, .unset, .unset, .unset, .unset, .unset, .unset, .unset, .unset, .unset, .unset, .unset] [(.long (q2 &&& (9223372036854775807 : Int64)))])) _
      refine X0.ldc2Long hx hown (mvT hZ (hw _ (List.mem_of_getElem? (i := 1) rfl))) (g := (mkF m 46 #[.val (.long q1), .second, .val (.long q2), .second, .val (.long q3), .second, .val (.int mode), .val (.int few), .val (.int most), .val (.long lo), .second, .unset, .unset, .unset, .unset, .unset, .unset, .unset, .unset, .unset, .unset, .unset, .unset, .unset, .unset, .unset, .unset, .unset, .unset, .unset, .unset, .unset, .unset] [(.long (q2 &&& (9223372036854775807 : Int64)))])) rfl (hb hby at_46) _ ?_
      show Steps p.tables e below (s₁.setTop (mkF m 49 #[.val (.long q1), .second, .val (.long q2), .second, .val (.long q3), .second, .val (.int mode), .val (.int few), .val (.int most), .val (.long lo), .second, .unset, .unset, .unset, .unset, .unset, .unset, .unset, .unset, .unset, .unset, .unset, .unset, .unset, .unset, .unset, .unset, .unset, .unset, .unset, .unset, .unset, .unset] [(.long (900000000000 : Int64)), (.long (q2 &&& (9223372036854775807 : Int64)))])) _
      refine XS.lrem X0.here hx rfl (hb hby at_49) rfl (by decide) ?_
      show Steps p.tables e below (s₁.setTop (mkF m 50 #[.val (.long q1), .second, .val (.long q2), .second, .val (.long q3), .second, .val (.int mode), .val (.int few), .val (.int most), .val (.long lo), .second, .unset, .unset, .unset, .unset, .unset, .unset, .unset, .unset, .unset, .unset, .unset, .unset, .unset, .unset, .unset, .unset, .unset, .unset, .unset, .unset, .unset, .unset] [(.long ((q2 &&& (9223372036854775807 : Int64)) - ((q2 &&& (9223372036854775807 : Int64)) / (900000000000 : Int64)) * (900000000000 : Int64)))])) _
      refine XS.lstore X0.here hx rfl (hb hby at_50) rfl (l' := #[.val (.long q1), .second, .val (.long q2), .second, .val (.long q3), .second, .val (.int mode), .val (.int few), .val (.int most), .val (.long lo), .second, .val (.long ((q2 &&& (9223372036854775807 : Int64)) - ((q2 &&& (9223372036854775807 : Int64)) / (900000000000 : Int64)) * (900000000000 : Int64))), .second, .unset, .unset, .unset, .unset, .unset, .unset, .unset, .unset, .unset, .unset, .unset, .unset, .unset, .unset, .unset, .unset, .unset, .unset, .unset, .unset]) rfl ?_
      show Steps p.tables e below (s₁.setTop (mkF m 52 #[.val (.long q1), .second, .val (.long q2), .second, .val (.long q3), .second, .val (.int mode), .val (.int few), .val (.int most), .val (.long lo), .second, .val (.long ((q2 &&& (9223372036854775807 : Int64)) - ((q2 &&& (9223372036854775807 : Int64)) / (900000000000 : Int64)) * (900000000000 : Int64))), .second, .unset, .unset, .unset, .unset, .unset, .unset, .unset, .unset, .unset, .unset, .unset, .unset, .unset, .unset, .unset, .unset, .unset, .unset, .unset, .unset] [])) _
      exact k_
    exact J52 s₁ _ _ X0 e0 N0 (own_off q2)
set_option maxRecDepth 65536 in
set_option maxHeartbeats 40000000 in
theorem comes_1 {Post : Tables → Env → Array Value → State → Outcome → State → Prop} (hpost : ∀ tb e args s v u, (limb_1_1.after args s (.returned v) u = true ∧ limb_1_2.after args s (.returned v) u = true ∧ True) → FrameEnd s (.returned v) u (Jvm.fieldLocs frame_1_writes args s ++ Jvm.arrayLocs frame_1_arrays args s ++ Jvm.staticLocs frame_1_statics s) 16 128 → Post tb e args s (.returned v) u) :
    ArmFor flags0 classFile x code maxLocals ret World_1 tables_1 room_1 Calls_1 rest_1 Pre_1 Post := by
  intro l hfl _ _ p e ha hc hk s m args below hf hA hF happ hP
  obtain ⟨hcalls, hrest, hpre⟩ := hP
  obtain ⟨-, -, -, hnamed, -, -, -, hat⟩ := (Spec.applies_iff hf).mp happ
  obtain ⟨hg, hn⟩ := and_e (Cond.before_iff.mp (show (Jvm.Cond.and given_1 narrow_1).before args s = true from hpre))
  obtain ⟨gc, gr0⟩ := and_e hg
  obtain ⟨gk0, gr1⟩ := and_e gr0
  obtain ⟨gk1, gr2⟩ := and_e gr1
  obtain ⟨gk2, gr3⟩ := and_e gr2
  obtain ⟨gk3, gr4⟩ := and_e gr3
  obtain ⟨gk4, gr5⟩ := and_e gr4
  have gk5 := gr5
  obtain ⟨w0, w1, w2, w3, w4, w5, rfl⟩ : ∃ w0 w1 w2 w3 w4 w5 : Value, args = #[w0, w1, w2, w3, w4, w5] := by
    have hs : args.size = 6 := by simpa [Cond.value, given_1] using gc
    obtain ⟨L⟩ := args
    match L, hs with
    | [w0, w1, w2, w3, w4, w5], _ => exact ⟨w0, w1, w2, w3, w4, w5, rfl⟩
  have hw := fun d (hd : d ∈ tables_1) => atoms_spec (ws := Jvm.Cond.code x code maxLocals ret :: tables_1) hat d (List.mem_cons_of_mem _ hd)
  have hfit : Fit s := fun {y c} hc i hi => by
    obtain ⟨ha, rfl⟩ := Array.getElem?_eq_some_iff.mp hc
    have q := List.all_eq_true.mp ((Array.all_eq_true_iff_forall_mem.mp hF) _ (Array.getElem_mem ha)) i (List.mem_range.mpr hi)
    simpa [Array.getElem?_eq_getElem hi] using q
  obtain ⟨i0, ei0⟩ := isL_v gk0
  obtain rfl : w0 = (.long i0) := Option.some.inj ei0
  obtain ⟨i1, ei1⟩ := isL_v gk1
  obtain rfl : w1 = (.long i1) := Option.some.inj ei1
  obtain ⟨i2, ei2⟩ := isL_v gk2
  obtain rfl : w2 = (.long i2) := Option.some.inj ei2
  obtain ⟨i3, ei3⟩ := is_v gk3
  obtain rfl : w3 = (.int i3) := Option.some.inj ei3
  obtain ⟨i4, ei4⟩ := is_v gk4
  obtain rfl : w4 = (.int i4) := Option.some.inj ei4
  obtain ⟨i5, ei5⟩ := is_v gk5
  obtain rfl : w5 = (.int i5) := Option.some.inj ei5
  obtain ⟨w9, _, _, _, ev9, -⟩ := Cond.exactly_spec (Cond.before_iff.mpr hn)
  have S9 := Sta.start ev9 (Or.inr ⟨(hw _ (List.mem_of_getElem? (i := 10) rfl)), (hw _ (List.mem_of_getElem? (i := 11) rfl))⟩)
  obtain ⟨n, o, h1, h2, h3, _, L, rfl, ⟨rfl, N⟩, hq⟩ := rm0 l s _ hw tables_1 i0 i1 i2 i3 i4 i5 s.heap s.heap.size (Nat.le_refl _) w9 S9 p e ha hc hk s m _ below hf ((Spec.applies_iff_loose hf).mp happ).1 ⟨rfl, State.Warmed39.refl s, rfl⟩ trivial
  refine ⟨n, _, h1, h2, h3, hpost _ _ _ _ _ _ ⟨Cond.after_iff.mpr rfl, Cond.after_iff.mpr (eq_i res_at (Term.int_eval (1)) rfl), trivial⟩ ⟨hq.1, hq.2.1, (hq.2.2.sift fun y hy => Or.inr (N y hy)).mono (by decide) (by decide)⟩⟩
theorem main_1_1 : Claimed_1_1 := comes_1 fun _ _ _ _ _ _ h hF => ⟨h.1, hF⟩
theorem main_1_2 : Claimed_1_2 := comes_1 fun _ _ _ _ _ _ h hF => ⟨h.2.1, hF⟩
end Jvm.Pilot.@@N@@
namespace Jvm.Pilot.@@N@@
open Jvm Jvm.ClassFile Sem Op Lib Jvm.Free Jvm.Stand Jvm.Pilot.@@N@@.Jvm.D
/-! MADE BY PROGRAM (witnessworld.py) out of the Statement's table words and the real class files: 9 classes; the members and pool entries that the words name. The judged class is class 1, her method 2. -/
namespace start1
open Jvm.ClassFile
def u (s : String) : CpInfo := .utf8 (stringToUtf16 s)
/-- a pool by its gaps: so many unusable entries, then the entry; so many at the end -/
def gap : Nat → List CpInfo → List CpInfo
  | 0, r => r
  | n + 1, r => .unusable :: gap n r
def poolList (es : List (Nat × CpInfo)) (last : Nat) : List CpInfo := es.foldr (fun e r => gap e.1 (e.2 :: r)) (gap last [])
def pool (es : List (Nat × CpInfo)) (last : Nat) : Array CpInfo := ⟨poolList es last⟩
def fileOf (pool : Array CpInfo) (this : Nat) (attrs : Array Attribute := #[]) (ms : Array MethodInfo := #[]) (fl : Nat := 33) (sup : Nat := 0) (ifs : Array Nat := #[]) (fds : Array FieldInfo := #[]) : ClassFile where
  minorVersion := 0
  majorVersion := 65
  constantPool := pool
  accessFlags := fl
  thisClass := this
  superClass := sup
  interfaces := ifs
  fields := fds
  methods := ms
  attributes := attrs
def plain (name : String) (sup : Option ClassId) : Class where
  name := name
  kind := .ordinary
  loader := none
  accessFlags := 33
  super := sup
  interfaces := #[]
  cf := none
  fields := #[]
  methods := #[]
  instanceTypes := #[]
  staticTypes := #[]
  resolved := #[]
  callSites := []
  init := .initialized
  statics := none
  mirror := none

def pool0 : Array CpInfo := pool [(5, u "<init>"), (0, u "()V"), (1, .class_ 10), (1, u "java/lang/Object")] 113

def k0c0 : Code := { maxStack := 0, maxLocals := 1, code := object_method_1_code, exceptionTable := #[], attributes := #[] }
def k0m0 : Method := { name := "<init>", desc := "()V", sig := { parameters := [], returnType := none }, accessFlags := 1, code := some k0c0 }
/-- java/lang/Object -/
def k0 : Class := { plain "java/lang/Object" none with
  accessFlags := 33
  interfaces := #[]
  cf := some (fileOf pool0 8 #[] #[{ accessFlags := 1, nameIndex := 5, descriptorIndex := 6, attributes := #[] }] 33 0 #[] #[])
  fields := #[]
  methods := #[k0m0]
  instanceTypes := #[]
  staticTypes := #[]
  resolved := Array.replicate 124 none
  statics := none }

def pool1 : Array CpInfo := pool [(2, .class_ 4), (1, u "java/lang/Object"), (0, u "<init>"), (0, u "()V"), (0, .class_ 8), (0, u "com/example/ioconic/ioconic/expr/MagnitudeLeadsWithPinLaw"), (0, .long 900000000000), (3, .long 9223372036854775807), (1, .long 4), (1, .methodref 7 18), (0, .nameAndType 19 20), (0, u "wrap"), (0, u "(J)J"), (0, .long 899999999999), (1, .class_ 24), (0, u "com/example/ioconic/ioconic/expr/Magnitude"), (0, .long 100000000000), (1, .methodref 23 28), (0, .nameAndType 5 29), (0, u "(ZIIIJJ)V"), (0, .methodref 23 31), (0, .nameAndType 32 33), (0, u "leadsWith"), (0, u "(J)Z"), (0, u "N"), (0, u "J"), (4, u "law"), (0, u "(JJJIII)Z")] 2

def k1m0 : Method := { name := "<init>", desc := "()V", sig := { parameters := [], returnType := none }, accessFlags := 1, code := none }
def k1c1 : Code := { maxStack := 4, maxLocals := 2, code := method_2_code, exceptionTable := #[], attributes := #[] }
def k1m1 : Method := { name := "wrap", desc := "(J)J", sig := { parameters := [.long], returnType := some .long }, accessFlags := 10, code := some k1c1 }
def k1c2 : Code := { maxStack := 10, maxLocals := 33, code := code, exceptionTable := #[], attributes := #[] }
def k1m2 : Method := { name := "law", desc := "(JJJIII)Z", sig := { parameters := [.long, .long, .long, .int, .int, .int], returnType := some .boolean }, accessFlags := 9, code := some k1c2 }
/-- com/example/ioconic/ioconic/expr/MagnitudeLeadsWithPinLaw -/
def k1 : Class := { plain "com/example/ioconic/ioconic/expr/MagnitudeLeadsWithPinLaw" (some 0) with
  accessFlags := 49
  interfaces := #[]
  cf := some (fileOf pool1 7 #[] #[{ accessFlags := 1, nameIndex := 5, descriptorIndex := 6, attributes := #[] }, { accessFlags := 10, nameIndex := 19, descriptorIndex := 20, attributes := #[] }, { accessFlags := 9, nameIndex := 40, descriptorIndex := 41, attributes := #[] }] 49 2 #[] #[{ accessFlags := 26, nameIndex := 34, descriptorIndex := 35, attributes := #[] }])
  fields := #[{ name := "N", type := .long, accessFlags := 26, slot := 0, constantValue := 0 }]
  methods := #[k1m0, k1m1, k1m2]
  instanceTypes := #[]
  staticTypes := #[.long]
  resolved := Array.replicate 44 none
  statics := none }

def pool2 : Array CpInfo := pool [(1, .methodref 2 3), (0, .class_ 4), (0, .nameAndType 5 6), (0, u "java/lang/Object"), (0, u "<init>"), (0, u "()V"), (0, .class_ 8), (0, u "java/lang/Record")] 13

def k2c0 : Code := { maxStack := 1, maxLocals := 1, code := jdk_30_method_1_code, exceptionTable := #[], attributes := #[] }
def k2m0 : Method := { name := "<init>", desc := "()V", sig := { parameters := [], returnType := none }, accessFlags := 4, code := some k2c0 }
/-- java/lang/Record -/
def k2 : Class := { plain "java/lang/Record" (some 0) with
  accessFlags := 1057
  interfaces := #[]
  cf := some (fileOf pool2 7 #[] #[{ accessFlags := 4, nameIndex := 5, descriptorIndex := 6, attributes := #[] }] 1057 2 #[] #[])
  fields := #[]
  methods := #[k2m0]
  instanceTypes := #[]
  staticTypes := #[]
  resolved := Array.replicate 22 none
  statics := none }

def pool3 : Array CpInfo := pool [(3, .methodref 4 5), (0, .class_ 6), (0, .nameAndType 7 8), (0, u "java/lang/Record"), (0, u "<init>"), (0, u "()V"), (0, .fieldref 10 11), (0, .class_ 12), (0, .nameAndType 13 14), (0, u "com/example/ioconic/ioconic/expr/Magnitude"), (0, u "negative"), (0, u "Z"), (0, .fieldref 10 16), (0, .nameAndType 17 18), (0, u "fewest"), (0, u "I"), (0, .fieldref 10 20), (0, .nameAndType 21 18), (0, u "most"), (0, .fieldref 10 23), (0, .nameAndType 24 18), (0, u "lastDigits"), (0, .fieldref 10 26), (0, .nameAndType 27 28), (0, u "leadLow"), (0, u "J"), (0, .fieldref 10 30), (0, .nameAndType 31 28), (0, u "leadHigh"), (0, .fieldref 10 33), (0, .nameAndType 34 35), (0, u "tails"), (0, u "Lcom/example/ioconic/ioconic/expr/Tails;"), (9, u "(ZIIIJJ)V"), (0, .fieldref 47 48), (0, .class_ 49), (0, .nameAndType 50 35), (0, u "com/example/ioconic/ioconic/expr/Tails"), (0, u "ANY"), (0, .methodref 10 52), (0, .nameAndType 7 53), (0, u "(ZIIIJJLcom/example/ioconic/ioconic/expr/Tails;)V"), (38, u "NONE"), (0, u "Lcom/example/ioconic/ioconic/expr/Magnitude;"), (149, u "UNBOUNDED"), (1, u "ANY_LAST_DIGIT"), (1, u "LEAD_DIGITS"), (1, u "LEAST_LEAD"), (0, u "MOST_LEAD"), (16, u "leadsWith"), (0, u "(J)Z")] 51

def k3c0 : Code := { maxStack := 10, maxLocals := 9, code := prog_41_method_3_code, exceptionTable := #[], attributes := #[] }
def k3m0 : Method := { name := "<init>", desc := "(ZIIIJJ)V", sig := { parameters := [.boolean, .int, .int, .int, .long, .long], returnType := none }, accessFlags := 1, code := some k3c0 }
def k3c1 : Code := { maxStack := 3, maxLocals := 10, code := prog_41_method_4_code, exceptionTable := #[], attributes := #[] }
def k3m1 : Method := { name := "<init>", desc := "(ZIIIJJLcom/example/ioconic/ioconic/expr/Tails;)V", sig := { parameters := [.boolean, .int, .int, .int, .long, .long, (.object "com/example/ioconic/ioconic/expr/Tails")], returnType := none }, accessFlags := 1, code := some k3c1 }
def k3c2 : Code := { maxStack := 4, maxLocals := 3, code := prog_41_method_16_code, exceptionTable := #[], attributes := #[] }
def k3m2 : Method := { name := "leadsWith", desc := "(J)Z", sig := { parameters := [.long], returnType := some .boolean }, accessFlags := 1, code := some k3c2 }
/-- com/example/ioconic/ioconic/expr/Magnitude -/
def k3 : Class := { plain "com/example/ioconic/ioconic/expr/Magnitude" (some 2) with
  accessFlags := 49
  interfaces := #[]
  cf := some (fileOf pool3 10 #[] #[{ accessFlags := 1, nameIndex := 7, descriptorIndex := 45, attributes := #[] }, { accessFlags := 1, nameIndex := 7, descriptorIndex := 53, attributes := #[] }, { accessFlags := 1, nameIndex := 267, descriptorIndex := 268, attributes := #[] }] 49 4 #[] #[{ accessFlags := 18, nameIndex := 13, descriptorIndex := 14, attributes := #[] }, { accessFlags := 18, nameIndex := 17, descriptorIndex := 18, attributes := #[] }, { accessFlags := 18, nameIndex := 21, descriptorIndex := 18, attributes := #[] }, { accessFlags := 18, nameIndex := 24, descriptorIndex := 18, attributes := #[] }, { accessFlags := 18, nameIndex := 27, descriptorIndex := 28, attributes := #[] }, { accessFlags := 18, nameIndex := 31, descriptorIndex := 28, attributes := #[] }, { accessFlags := 18, nameIndex := 34, descriptorIndex := 35, attributes := #[] }, { accessFlags := 25, nameIndex := 243, descriptorIndex := 18, attributes := #[] }, { accessFlags := 25, nameIndex := 245, descriptorIndex := 18, attributes := #[] }, { accessFlags := 25, nameIndex := 247, descriptorIndex := 18, attributes := #[] }, { accessFlags := 25, nameIndex := 249, descriptorIndex := 28, attributes := #[] }, { accessFlags := 25, nameIndex := 250, descriptorIndex := 28, attributes := #[] }, { accessFlags := 25, nameIndex := 92, descriptorIndex := 93, attributes := #[] }])
  fields := #[{ name := "negative", type := .boolean, accessFlags := 18, slot := 0, constantValue := 0 }, { name := "fewest", type := .int, accessFlags := 18, slot := 1, constantValue := 0 }, { name := "most", type := .int, accessFlags := 18, slot := 2, constantValue := 0 }, { name := "lastDigits", type := .int, accessFlags := 18, slot := 3, constantValue := 0 }, { name := "leadLow", type := .long, accessFlags := 18, slot := 4, constantValue := 0 }, { name := "leadHigh", type := .long, accessFlags := 18, slot := 5, constantValue := 0 }, { name := "tails", type := (.object "com/example/ioconic/ioconic/expr/Tails"), accessFlags := 18, slot := 6, constantValue := 0 }, { name := "UNBOUNDED", type := .int, accessFlags := 25, slot := 0, constantValue := 0 }, { name := "ANY_LAST_DIGIT", type := .int, accessFlags := 25, slot := 1, constantValue := 0 }, { name := "LEAD_DIGITS", type := .int, accessFlags := 25, slot := 2, constantValue := 0 }, { name := "LEAST_LEAD", type := .long, accessFlags := 25, slot := 3, constantValue := 0 }, { name := "MOST_LEAD", type := .long, accessFlags := 25, slot := 4, constantValue := 0 }, { name := "NONE", type := (.object "com/example/ioconic/ioconic/expr/Magnitude"), accessFlags := 25, slot := 5, constantValue := 0 }]
  methods := #[k3m0, k3m1, k3m2]
  instanceTypes := #[.boolean, .int, .int, .int, .long, .long, (.object "com/example/ioconic/ioconic/expr/Tails")]
  staticTypes := #[.int, .int, .int, .long, .long, (.object "com/example/ioconic/ioconic/expr/Magnitude")]
  resolved := Array.replicate 320 none
  statics := none }

def pool4 : Array CpInfo := pool [(2, .class_ 4), (1, u "java/lang/Object"), (3, .class_ 10), (1, u "com/example/ioconic/ioconic/expr/Tails"), (0, u "tails"), (0, u "[I"), (8, u "ANY"), (0, u "Lcom/example/ioconic/ioconic/expr/Tails;"), (39, u "DIGITS"), (0, u "I"), (2, u "MODULUS"), (0, u "MOST")] 26

/-- com/example/ioconic/ioconic/expr/Tails -/
def k4 : Class := { plain "com/example/ioconic/ioconic/expr/Tails" (some 0) with
  accessFlags := 49
  interfaces := #[]
  cf := some (fileOf pool4 8 #[] #[] 49 2 #[] #[{ accessFlags := 25, nameIndex := 62, descriptorIndex := 63, attributes := #[] }, { accessFlags := 25, nameIndex := 66, descriptorIndex := 63, attributes := #[] }, { accessFlags := 25, nameIndex := 67, descriptorIndex := 63, attributes := #[] }, { accessFlags := 25, nameIndex := 21, descriptorIndex := 22, attributes := #[] }, { accessFlags := 18, nameIndex := 11, descriptorIndex := 12, attributes := #[] }])
  fields := #[{ name := "DIGITS", type := .int, accessFlags := 25, slot := 0, constantValue := 0 }, { name := "MODULUS", type := .int, accessFlags := 25, slot := 1, constantValue := 0 }, { name := "MOST", type := .int, accessFlags := 25, slot := 2, constantValue := 0 }, { name := "ANY", type := (.object "com/example/ioconic/ioconic/expr/Tails"), accessFlags := 25, slot := 3, constantValue := 0 }, { name := "tails", type := (.array .int), accessFlags := 18, slot := 0, constantValue := 0 }]
  methods := #[]
  instanceTypes := #[(.array .int)]
  staticTypes := #[.int, .int, .int, (.object "com/example/ioconic/ioconic/expr/Tails")]
  resolved := Array.replicate 94 none
  statics := some 0 }

def pool5 : Array CpInfo := pool [(1, u "java/lang/Cloneable"), (0, .class_ 1), (0, u "java/lang/Object"), (0, .class_ 3)] 3

/-- java/lang/Cloneable -/
def k5 : Class := { plain "java/lang/Cloneable" (some 0) with
  accessFlags := 1537
  interfaces := #[]
  cf := some (fileOf pool5 2 #[] #[] 1537 4 #[] #[])
  fields := #[]
  methods := #[]
  instanceTypes := #[]
  staticTypes := #[]
  resolved := Array.replicate 8 none
  statics := none }

def pool6 : Array CpInfo := pool [(1, u "java/io/Serializable"), (0, .class_ 1), (0, u "java/lang/Object"), (0, .class_ 3)] 3

/-- java/io/Serializable -/
def k6 : Class := { plain "java/io/Serializable" (some 0) with
  accessFlags := 1537
  interfaces := #[]
  cf := some (fileOf pool6 2 #[] #[] 1537 4 #[] #[])
  fields := #[]
  methods := #[]
  instanceTypes := #[]
  staticTypes := #[]
  resolved := Array.replicate 8 none
  statics := none }

/-- the primitive byte -/
def k7 : Class := { plain "byte" none with kind := .primitive 'B', accessFlags := 0x411 }
/-- [B -/
def k8 : Class := { plain "[B" (some 0) with kind := .array 7 .byte, interfaces := #[5, 6], accessFlags := 1041 }

def heap : Heap := #[{ cls := 4, slots := #[.int 0, .int 0, .int 0, .ref 1], vm := .statics 4 },
  { cls := 4, slots := #[.null], vm := .none }]
def classes : Array Class := #[k0, k1, k2, k3, k4, k5, k6, k7, k8]
def interned : List (Array UInt16 × Addr) := []
def slotsUsed : Nat := 5
def theMethod : MethodId := ⟨1, 2⟩
def args0 : Array Value := #[.long 5, .long 6, .long 7, .int 0, .int 1, .int 2]
def aboutOver (below : List Frame) : State where
  vm := { classes := classes, interned := interned.toArray }
  heap := heap
  slotsUsed := slotsUsed
  threads := #[{ frames := .invoking theMethod args0 :: below }]
def below0 : List Frame := [.native { method := ⟨0, 0⟩, args := #[] }]
def about1 : State := aboutOver below0
def p0 : Program := .bare "" "" ""
def e0 : Env := launch0.env 0 0 0
theorem w_frames : about1.frames = Frame.invoking theMethod args0 :: below0 := rfl
set_option maxRecDepth 65536 in
theorem w_args : argsFit about1.vm theMethod args0 = true := by decide +kernel
set_option maxRecDepth 65536 in
theorem w_heap : heapFits about1 = true := by decide +kernel
set_option maxRecDepth 65536 in
theorem w_runnable : about1.curStatus? = some .runnable := by decide +kernel
set_option maxRecDepth 65536 in
theorem w_alone : about1.alone = true := by decide +kernel
set_option maxRecDepth 65536 in
theorem w_named : about1.methodNamed? x = some theMethod := by decide +kernel
set_option maxRecDepth 65536 in
theorem w_hears : about1.hears theMethod below0 = true := by decide +kernel
set_option maxRecDepth 65536 in
theorem w_ripe : about1.ripe theMethod args0 below0 = true := by decide +kernel
theorem w_running : about1.status = .running := rfl
set_option maxRecDepth 65536 in
theorem w_room : about1.hasRoom e0.platform room_1 = true :=
  launch0.hasRoom_least _ room_1 (by decide +kernel) (by decide +kernel) (by decide +kernel) (by decide +kernel) (by decide +kernel) (by decide +kernel)
theorem allAtoms_all (ts : List Jvm.Cond) (a : Array Jvm.Value) (st : Jvm.State) : (allAtoms ts).before a st = ts.all (fun c => c.before a st) := by
  induction ts with
  | nil => rfl
  | cons c t ih =>
    show (Jvm.Cond.and c (allAtoms t)).before a st = _
    rw [Jvm.Cond.before_and, ih, List.all_cons]
def words1 : List Jvm.Cond := Jvm.Cond.code x code maxLocals ret :: tables_1
/-- a 'code' word, met by the world's own term for the bytes: nothing is compared byte by byte -/
theorem code_word {y : MethodName} {bytes : ByteArray} {mx : Nat} {rt : Option FieldType} {a : Array Value} {s : State} {m : MethodId} {meth : Method} {c : Code} (h1 : s.methodNamed? y = some m) (h2 : s.vm.method? m = some meth) (h3 : meth.code = some c) (h4 : c.code = bytes)
    (h5 : (c.maxLocals == mx && c.exceptionTable.isEmpty && decide (c.maxStack ≤ mostOperands) && decide (meth.sig.returnType = rt) && !meth.locks && decide (parseMethodDescriptor y.desc = some meth.sig)) = true) : (Jvm.Cond.code y bytes mx rt).before a s = true := by
  simp only [Bool.and_eq_true, beq_iff_eq, Bool.not_eq_true', decide_eq_true_eq] at h5
  obtain ⟨⟨⟨⟨⟨g1, g2⟩, g3⟩, g4⟩, g5⟩, g6⟩ := h5
  simp [Cond.before, Cond.holds, Cond.value, h1, h2, h3, h4, g1, g2, g3, g4, g5, g6]
def isCode : Jvm.Cond → Bool
  | .code _ _ _ _ => true
  | _ => false
theorem all_split {L : List Jvm.Cond} {P : Jvm.Cond → Bool} (h1 : L.all (fun c => isCode c || P c) = true) (h2 : ∀ c ∈ L.filter isCode, P c = true) : L.all P = true := by
  refine List.all_eq_true.mpr fun c hc => ?_
  have h := List.all_eq_true.mp h1 c hc
  rcases Bool.eq_false_or_eq_true (isCode c) with hi | hi
  · exact h2 c (List.mem_filter.mpr ⟨hc, hi⟩)
  · simpa [hi] using h
set_option maxRecDepth 65536 in
theorem w_c0 : (Jvm.Cond.code x code maxLocals ret).before args0 about1 = true := code_word (m := ⟨1, 2⟩) (meth := k1m2) (c := k1c2) (by decide +kernel) rfl rfl rfl (by decide +kernel)
set_option maxRecDepth 65536 in
theorem w_c1 : (Jvm.Cond.code ({ cls := "com/example/ioconic/ioconic/expr/Magnitude", name := "<init>", desc := "(ZIIIJJ)V" } : Jvm.MethodName) prog_41_method_3_code (9 : Nat) (Option.none : Option Jvm.ClassFile.FieldType)).before args0 about1 = true := code_word (m := ⟨3, 0⟩) (meth := k3m0) (c := k3c0) (by decide +kernel) rfl rfl rfl (by decide +kernel)
set_option maxRecDepth 65536 in
theorem w_c2 : (Jvm.Cond.code ({ cls := "com/example/ioconic/ioconic/expr/Magnitude", name := "<init>", desc := "(ZIIIJJLcom/example/ioconic/ioconic/expr/Tails;)V" } : Jvm.MethodName) prog_41_method_4_code (10 : Nat) (Option.none : Option Jvm.ClassFile.FieldType)).before args0 about1 = true := code_word (m := ⟨3, 1⟩) (meth := k3m1) (c := k3c1) (by decide +kernel) rfl rfl rfl (by decide +kernel)
set_option maxRecDepth 65536 in
theorem w_c3 : (Jvm.Cond.code ({ cls := "java/lang/Record", name := "<init>", desc := "()V" } : Jvm.MethodName) jdk_30_method_1_code (1 : Nat) (Option.none : Option Jvm.ClassFile.FieldType)).before args0 about1 = true := code_word (m := ⟨2, 0⟩) (meth := k2m0) (c := k2c0) (by decide +kernel) rfl rfl rfl (by decide +kernel)
set_option maxRecDepth 65536 in
theorem w_c4 : (Jvm.Cond.code ({ cls := "java/lang/Object", name := "<init>", desc := "()V" } : Jvm.MethodName) object_method_1_code (1 : Nat) (Option.none : Option Jvm.ClassFile.FieldType)).before args0 about1 = true := code_word (m := ⟨0, 0⟩) (meth := k0m0) (c := k0c0) (by decide +kernel) rfl rfl rfl (by decide +kernel)
set_option maxRecDepth 65536 in
theorem w_c5 : (Jvm.Cond.code ({ cls := "com/example/ioconic/ioconic/expr/Magnitude", name := "leadsWith", desc := "(J)Z" } : Jvm.MethodName) prog_41_method_16_code (3 : Nat) (Option.some Jvm.ClassFile.FieldType.boolean)).before args0 about1 = true := code_word (m := ⟨3, 2⟩) (meth := k3m2) (c := k3c2) (by decide +kernel) rfl rfl rfl (by decide +kernel)
set_option maxRecDepth 65536 in
theorem w_c6 : (Jvm.Cond.code ({ cls := "com/example/ioconic/ioconic/expr/MagnitudeLeadsWithPinLaw", name := "wrap", desc := "(J)J" } : Jvm.MethodName) method_2_code (2 : Nat) (Option.some Jvm.ClassFile.FieldType.long)).before args0 about1 = true := code_word (m := ⟨1, 1⟩) (meth := k1m1) (c := k1c1) (by decide +kernel) rfl rfl rfl (by decide +kernel)
def codes1 : List Jvm.Cond := [Jvm.Cond.code x code maxLocals ret, Jvm.Cond.code ({ cls := "com/example/ioconic/ioconic/expr/Magnitude", name := "<init>", desc := "(ZIIIJJ)V" } : Jvm.MethodName) prog_41_method_3_code (9 : Nat) (Option.none : Option Jvm.ClassFile.FieldType), Jvm.Cond.code ({ cls := "com/example/ioconic/ioconic/expr/Magnitude", name := "<init>", desc := "(ZIIIJJLcom/example/ioconic/ioconic/expr/Tails;)V" } : Jvm.MethodName) prog_41_method_4_code (10 : Nat) (Option.none : Option Jvm.ClassFile.FieldType), Jvm.Cond.code ({ cls := "java/lang/Record", name := "<init>", desc := "()V" } : Jvm.MethodName) jdk_30_method_1_code (1 : Nat) (Option.none : Option Jvm.ClassFile.FieldType), Jvm.Cond.code ({ cls := "java/lang/Object", name := "<init>", desc := "()V" } : Jvm.MethodName) object_method_1_code (1 : Nat) (Option.none : Option Jvm.ClassFile.FieldType), Jvm.Cond.code ({ cls := "com/example/ioconic/ioconic/expr/Magnitude", name := "leadsWith", desc := "(J)Z" } : Jvm.MethodName) prog_41_method_16_code (3 : Nat) (Option.some Jvm.ClassFile.FieldType.boolean), Jvm.Cond.code ({ cls := "com/example/ioconic/ioconic/expr/MagnitudeLeadsWithPinLaw", name := "wrap", desc := "(J)J" } : Jvm.MethodName) method_2_code (2 : Nat) (Option.some Jvm.ClassFile.FieldType.long)]
set_option maxRecDepth 65536 in
theorem codes_eq : words1.filter isCode = codes1 := rfl
theorem w_codes : ∀ c ∈ words1.filter isCode, c.before args0 about1 = true := by
  rw [codes_eq]
  intro c hc
  simp only [codes1, List.mem_cons, List.not_mem_nil, or_false] at hc
  rcases hc with rfl | rfl | rfl | rfl | rfl | rfl | rfl
  · exact w_c0
  · exact w_c1
  · exact w_c2
  · exact w_c3
  · exact w_c4
  · exact w_c5
  · exact w_c6
set_option maxRecDepth 65536 in
theorem w_t1 : (words1.take 24).all (fun c => isCode c || c.before args0 about1) = true := by decide +kernel
set_option maxRecDepth 65536 in
theorem w_t2 : ((words1.drop 24).take 24).all (fun c => isCode c || c.before args0 about1) = true := by decide +kernel
set_option maxRecDepth 65536 in
theorem w_t3 : ((words1.drop 24).drop 24).all (fun c => isCode c || c.before args0 about1) = true := by decide +kernel
theorem w_tables : (allAtoms (Jvm.Cond.code x code maxLocals ret :: tables_1)).before args0 about1 = true := by
  rw [allAtoms_all]
  show words1.all (fun c => c.before args0 about1) = true
  refine all_split ?_ w_codes
  rw [← List.take_append_drop 24 words1, List.all_append, w_t1, ← List.take_append_drop 24 (words1.drop 24), List.all_append, w_t2, w_t3]
  rfl
set_option maxRecDepth 65536 in
theorem w_case : (Jvm.Cond.and given_1 narrow_1).before args0 about1 = true := by decide +kernel
theorem w_applies : (headSpec (Jvm.Cond.code x code maxLocals ret :: tables_1) room_1).applies x e0.platform about1 = true :=
  (Spec.applies_iff w_frames).mpr ⟨w_running, w_runnable, w_alone, w_named, w_hears, w_ripe, w_room, w_tables⟩
theorem atStart : AtStart classFile x code maxLocals ret World_1 tables_1 room_1 Calls_1 rest_1 Pre_1 launch0 p0 e0 about1 theMethod args0 below0 :=
  ⟨lists_1, trivial, launch0.admits_env _ _ _, launch0.least_env, fairChoices_fair.cas, fairChoices_fair.clock, w_frames, w_args, w_heap, w_applies, trivial, trivial, w_case⟩
end start1
theorem witness_1 : WitnessClaimed_1 := ⟨start1.p0, start1.e0, start1.about1, start1.theMethod, start1.args0, start1.below0, start1.atStart⟩
end Jvm.Pilot.@@N@@
