import JvmDerived
import JvmDerived.Pilot.@@N@@Statement
import JvmDerived.Pilot.@@N@@Code
set_option linter.unusedVariables false
set_option linter.unusedSimpArgs false
namespace Jvm.Pilot.@@N@@
open Jvm Jvm.ClassFile Sem Op Lib Jvm.Free Jvm.Stand Jvm.LawKit Jvm.RoadKit Bundle Jvm.Pilot.@@N@@.Jvm.D
section Own
variable {p : Program} {l : Launch} {e : Env} {R : Room} {s : State} {m : MethodId} {args : Array Value} {below : List Frame} {meth : Method} {c : Code} {T T' : State} {locs : List Loc} {cells slots : Nat} {C S : Nat} {Q : Option Value → Heap → List Loc → Prop} {g g' : JFrame} {Z : State} {a0 : Array Value}
/-- from T with the frame g on top the method runs to its end, and ends as Q says -/
def own_Go (p : Program) (e : Env) (below : List Frame) (s : State) (C S : Nat) (Q : Option Value → Heap → List Loc → Prop) (T : State) (g : JFrame) : Prop :=
  ∃ s₂ o, Steps p.tables e below (T.setTop g) s₂ ∧ s₂.status = .running ∧ Ended s₂ below o ∧ ∃ v L, o = .returned v ∧ Q v s₂.heap L ∧ FrameEnd s o s₂ L C S
theorem own_go (k : ∀ t, Steps p.tables e below (T'.setTop g') t → Steps p.tables e below (T.setTop g) t) (h : own_Go p e below s C S Q T' g') : own_Go p e below s C S Q T g := by
  obtain ⟨s₂, o, h1, r⟩ := h
  exact ⟨s₂, o, k _ h1, r⟩
theorem own_end (X : Stand p l e R s m args below meth c T locs cells slots) (hk : meth.locks = false) (v : Option Value) (hv : meth.sig.returnType = none → v = none) (hC : cells ≤ C) (hS : slots ≤ S) (hq : Q v T.heap locs)
    (hst : ∀ fs, (∀ (f : JFrame) (acts : List Action), f.method = m → f.locked = none → f.entered = [] → (doReturn e (T.setTop f) acts v).1 = T.setFrames fs) → Steps p.tables e below (T.setTop g) (T.setFrames fs)) : own_Go p e below s C S Q T g := by
  obtain ⟨fs, hr, hrun, hended, hW, hsame⟩ := X.leave (v := v) hv hk
  exact ⟨_, _, hst fs hr, hrun, hended, v, locs, rfl, hq, ⟨_, rfl⟩, hW, hsame.mono hC hS⟩
theorem own_retI (X : Stand p l e R s m args below meth c T locs cells slots) (hx : p.tables.exec = Jvm.exec) (hret : meth.sig.returnType = some .int) (hk : meth.locks = false) {pc : Nat} {Ls : Array Slot} {z : Int32} {rest : List Value} (hd : decode c.code pc = .ok (.ireturn, 1)) (hC : cells ≤ C) (hS : slots ≤ S) (hq : Q (some (.int z)) T.heap locs) :
    own_Go p e below s C S Q T (mkF m pc Ls (.int z :: rest)) :=
  own_end X hk _ (fun h => by rw [hret] at h; cases h) hC hS hq fun fs hr => retOut X hx hret rfl (Or.inl ⟨rfl, Or.inl rfl, _, rfl⟩) hd hr
theorem own_retZ (X : Stand p l e R s m args below meth c T locs cells slots) (hx : p.tables.exec = Jvm.exec) (hret : meth.sig.returnType = some .boolean) (hk : meth.locks = false) {pc : Nat} {Ls : Array Slot} {z : Int32} {rest : List Value} (hz : nar .boolean z = z) (hd : decode c.code pc = .ok (.ireturn, 1)) (hC : cells ≤ C) (hS : slots ≤ S) (hq : Q (some (.int z)) T.heap locs) :
    own_Go p e below s C S Q T (mkF m pc Ls (.int z :: rest)) :=
  own_end X hk _ (fun h => by rw [hret] at h; cases h) hC hS hq fun fs hr => retN X hx (t := .boolean) hret (Or.inl rfl) hd (by rw [hz]; exact hr)
theorem own_retL (X : Stand p l e R s m args below meth c T locs cells slots) (hx : p.tables.exec = Jvm.exec) (hret : meth.sig.returnType = some .long) (hk : meth.locks = false) {pc : Nat} {Ls : Array Slot} {z : Int64} {rest : List Value} (hd : decode c.code pc = .ok (.lreturn, 1)) (hC : cells ≤ C) (hS : slots ≤ S) (hq : Q (some (.long z)) T.heap locs) :
    own_Go p e below s C S Q T (mkF m pc Ls (.long z :: rest)) :=
  own_end X hk _ (fun h => by rw [hret] at h; cases h) hC hS hq fun fs hr => retOut X hx hret rfl (Or.inr (Or.inl ⟨rfl, rfl, _, rfl⟩)) hd hr
theorem own_retA (X : Stand p l e R s m args below meth c T locs cells slots) (hx : p.tables.exec = Jvm.exec) {t : FieldType} (ht : t.isReference = true) (hret : meth.sig.returnType = some t) (hk : meth.locks = false) {pc : Nat} {Ls : Array Slot} {a : Addr} (hd : decode c.code pc = .ok (.areturn, 1)) (hC : cells ≤ C) (hS : slots ≤ S) (hq : Q (some (.ref a)) T.heap locs) :
    own_Go p e below s C S Q T (mkF m pc Ls [.ref a]) :=
  own_end X hk _ (fun h => by rw [hret] at h; cases h) hC hS hq fun fs hr => X.areturnOut hx rfl hret ht hd hr
theorem own_retV (X : Stand p l e R s m args below meth c T locs cells slots) (hx : p.tables.exec = Jvm.exec) (hret : meth.sig.returnType = none) (hk : meth.locks = false) {pc : Nat} {Ls : Array Slot} (hd : decode c.code pc = .ok (.return_, 1)) (hC : cells ≤ C) (hS : slots ≤ S) (hq : Q none T.heap locs) :
    own_Go p e below s C S Q T (mkF m pc Ls []) :=
  own_end X hk _ (fun _ => rfl) hC hS hq fun fs hr => X.returnOut hx hret hd hr
/-- the contract of one body: entered with the values as' and the heap h, it returns as Q says -/
abbrev own_Con (l : Launch) (Z : State) (y : MethodName) (bytes : ByteArray) (maxL : Nat) (ret : Option FieldType) (ws : List Jvm.Cond) (rm : Room) (as' : Array Value) (h : Heap) (Q : Option Value → Heap → List Loc → Prop) : Prop :=
  MetFree l y (head1 (Jvm.Cond.code y bytes maxL ret :: ws) rm) (fun a U => a = as' ∧ Z.Warmed39 U.vm ∧ U.heap = h) (fun _ _ _ _ _ => True) (fun _ U o U' => ∃ v L, o = .returned v ∧ Q v U'.heap L ∧ FrameEnd U o U' L rm.cells rm.slots)
theorem own_body {y : MethodName} {bytes : ByteArray} {maxL : Nat} {ret : Option FieldType} {ws : List Jvm.Cond} {rm : Room} {as' : Array Value} {h : Heap} (hp : plainFor y = true)
    (body : ∀ (p : Program) (e : Env) (s : State) (m : MethodId) (below : List Frame) (meth : Method) (c : Code) (s₁ : State), p.tables.exec = Jvm.exec → c.code = bytes → c.maxLocals = maxL → Z.Warmed39 s.vm → s.vm.findClass y.cls = some m.cls → meth.name = y.name → meth.sig.returnType = ret → meth.locks = false → s₁.heap = h →
      Stand p l e rm s m as' below meth c s₁ [] 0 0 → own_Go p e below s rm.cells rm.slots Q s₁ (entryFrame m as' maxL)) : own_Con l Z y bytes maxL ret ws rm as' h Q := by
  refine MetFree.of_bodySF hp hisR ?_
  intro p e s m args below meth c s₁ Bd hml hP hK
  obtain ⟨rfl, hZ, hh⟩ := hP
  exact body p e s m below meth c s₁ Bd.exec Bd.bytes hml hZ (findClass_of_methodNamed Bd.named) (name_of_methodNamed Bd.named Bd.method).1 Bd.returns Bd.notSynchronized (by rw [← hh, Bd.state]; rfl) (Stand.of_body Bd)
theorem own_cast {g₀ : JFrame} (q : g₀ = g) (h : own_Go p e below s C S Q T g) : own_Go p e below s C S Q T g₀ := q ▸ h
/-- a static call by its callee's contract -/
theorem own_callS (X : Stand p l e R s m args below meth c T locs cells slots) (hx : p.tables.exec = Jvm.exec) (hZ : Z.Warmed39 s.vm) {own : String} {index : Nat} {y : MethodName} {bytes : ByteArray} {maxL : Nat} {ret : Option FieldType} {rm : Room} {W : Nat} {h : Heap} {Q' : Option Value → Heap → List Loc → Prop} {argsL rest : List Value}
    (hown : s.vm.findClass own = some m.cls) (w1 : (Jvm.Cond.methodLink own index y).before a0 Z = true) (w2 : (Jvm.Cond.static y).before a0 Z = true) (w3 : (Jvm.Cond.initialized y.cls).before a0 Z = true) (w4 : (Jvm.Cond.code y bytes maxL ret).before a0 Z = true) (hy : y.cls ≠ "java/lang/invoke/MethodHandle" ∧ y.cls ≠ "java/lang/invoke/VarHandle")
    (hM : own_Con l Z y bytes maxL ret [] rm argsL.toArray h Q') (hf : rm.frames + 1 ≤ R.frames) (hl : W + (maxL + 11) + rm.locals ≤ R.locals) (eT : T.heap = h) (hc : cells + rm.cells ≤ R.cells) (hs : slots + rm.slots ≤ R.slots)
    (hg : g.method = m) (hsize : g.locals.size = c.maxLocals) (hlen : ∀ sig, parseMethodDescriptor y.desc = some sig → argsL.length = sig.parameters.length) (hstack : g.stack = argsL.reverse ++ rest) (hW : 2 * g.monitorRoom + (rest.map fun v => v.category).sum ≤ W) (hdg : decode c.code g.pc = .ok (.invokestatic index, 3))
    (k : ∀ (v : Option Value) (T' : State) (L' : List Loc), Stand p l e R s m args below meth c T' (locs ++ L') (cells + rm.cells) (slots + rm.slots) → Q' v T'.heap L' → own_Go p e below s C S Q T' { g with pc := g.pc + 3, stack := v.toList ++ rest }) :
    own_Go p e below s C S Q T g := by
  obtain ⟨v, _, ⟨T2, L2, k2, n2⟩, -, X2, ⟨Lc2, hQ2, l2, y2, z2⟩, st2⟩ := Jvm.LawKit.callS X hx (y := y) hown (mvT hZ w1) (mvT hZ w2) (mvT hZ w3) (mvT hZ w4) hy (backOf (W := W) hM hZ w4 w3 hf hl) hg hsize hlen hstack hW hdg (fun _ _ => ⟨rfl, eT, hc, hs⟩)
  dsimp only [Pt.U, Pt.locs, Pt.cells, Pt.slots] at X2 l2 y2 z2 st2 hQ2
  subst l2 y2 z2
  exact own_go st2 (k v T2 Lc2 X2 hQ2)
end Own

def own_P (val : Value) (h0 : Heap) (n0 : Nat) (v : Option Value) (h : Heap) (L : List Loc) : Prop := v = some val ∧ Fr n0 L ∧ h = h0
/-! the plain law -/
def own_q (n : Int32) : Int32 := n / 2 + 1
theorem own_mask (p : Int32) : 0 ≤ (p &&& 2147483647).toInt := (c_and p 2147483647 (by decide)).1
theorem own_pos {n : Int32} (h0 : 0 ≤ n.toInt) (h : ¬ n = 0) : 1 ≤ n.toInt := by
  have h1 : n.toInt ≠ 0 := fun q => h (Int32.toInt_inj.mp (by rw [q]; decide))
  omega
theorem own_ge {n : Int32} (h0 : 0 ≤ n.toInt) (h : ¬ n = 0) : ¬ (n < (1 : Int32)) := by
  rw [Int32.lt_iff_toInt_lt]
  have h1 := own_pos h0 h
  have e1 : (1 : Int32).toInt = 1 := by decide
  omega
theorem own_val {n : Int32} (h0 : 0 ≤ n.toInt) : (own_q n).toInt64.toInt = n.toInt / 2 + 1 := by
  have e1 : (1 : Int32).toInt = 1 := by decide
  have e2 : (2 : Int32).toInt = 2 := by decide
  have d := (c_idiv n 2 2 e2 (by decide)).1 h0
  have a := c_iadd (n / 2) 1
  have r := rng32 (n / 2 + 1)
  have r0 := rng32 n
  rw [c_i2l, own_q]
  omega
theorem own_major {n : Int32} (h0 : 0 ≤ n.toInt) : n.toInt64 < (2 : Int64) * (own_q n).toInt64 := by
  rw [Int64.lt_iff_toInt_lt]
  have v := own_val h0
  have e2 : (2 : Int64).toInt = 2 := by decide
  have a := c_lmul 2 (own_q n).toInt64
  have c2 := c_i2l n
  have r := rng64 ((2 : Int64) * (own_q n).toInt64)
  have r0 := rng32 n
  rw [e2] at a
  omega
theorem own_small {n : Int32} (h0 : 0 ≤ n.toInt) : ¬ (n.toInt64 < (2 : Int64) * ((own_q n).toInt64 - (1 : Int64))) := by
  rw [Int64.lt_iff_toInt_lt]
  have v := own_val h0
  have e1 : (1 : Int64).toInt = 1 := by decide
  have e2 : (2 : Int64).toInt = 2 := by decide
  have b := c_lsub (own_q n).toInt64 1
  have a := c_lmul 2 ((own_q n).toInt64 - 1)
  have c2 := c_i2l n
  have r1 := rng64 ((own_q n).toInt64 - (1 : Int64))
  have r := rng64 ((2 : Int64) * ((own_q n).toInt64 - (1 : Int64)))
  have r0 := rng32 n
  rw [e2] at a
  omega
theorem own_one {n : Int32} (h0 : 0 ≤ n.toInt) : ¬ ((own_q n).toInt64 < (1 : Int64)) := by
  rw [Int64.lt_iff_toInt_lt]
  have v := own_val h0
  have e1 : (1 : Int64).toInt = 1 := by decide
  omega
theorem own_in {n : Int32} (h0 : 0 ≤ n.toInt) (h : ¬ n = 0) : ¬ (n.toInt64 < (own_q n).toInt64) := by
  rw [Int64.lt_iff_toInt_lt]
  have v := own_val h0
  have c2 := c_i2l n
  have h1 := own_pos h0 h
  omega
/-! the callee -/
theorem d1_0 : decode prog_7_method_2_code 0 = .ok (.iload_n 0, 1) := by decide +kernel
theorem d1_1 : decode prog_7_method_2_code 1 = .ok (.iconst 1, 1) := by decide +kernel
theorem d1_2 : decode prog_7_method_2_code 2 = .ok (.if_icmp .ge 17, 3) := by decide +kernel
theorem d1_19 : decode prog_7_method_2_code 19 = .ok (.iload_n 0, 1) := by decide +kernel
theorem d1_20 : decode prog_7_method_2_code 20 = .ok (.iconst 2, 1) := by decide +kernel
theorem d1_21 : decode prog_7_method_2_code 21 = .ok (.idiv, 1) := by decide +kernel
theorem d1_22 : decode prog_7_method_2_code 22 = .ok (.iconst 1, 1) := by decide +kernel
theorem d1_23 : decode prog_7_method_2_code 23 = .ok (.iadd, 1) := by decide +kernel
theorem d1_24 : decode prog_7_method_2_code 24 = .ok (.ireturn, 1) := by decide +kernel
theorem pd1 : parseMethodDescriptor "(I)I" = some ⟨[.int], some .int⟩ := by decide +kernel
theorem pn1 : plainName "com/example/quorum_mutex/quorummutex/model/Quorum" = true := by first | (simp [plainName, overriddenIn]; done) | decide +kernel
theorem ef1 (m : MethodId) (x0 : Int32) : entryFrame m #[(.int x0)] 1 = mkF m 0 #[.val (.int x0)] [] := by first | (simp [entryFrame, mkF, argsToLocals, Value.category]; done) | rfl
set_option maxRecDepth 65536 in
set_option maxHeartbeats 40000000 in
theorem rm1 (l : Launch) (Z : State) (a0 : Array Value) (hw : ∀ d ∈ tables_1, d.before a0 Z = true) (ws : List Jvm.Cond) (p1 : Int32) (h0 : Heap) (n0 : Nat) (Z0 : n0 ≤ h0.size) (hp : ¬ (p1 < (1 : Int32))) :
    own_Con l Z (⟨"com/example/quorum_mutex/quorummutex/model/Quorum", "of", "(I)I"⟩ : MethodName) prog_7_method_2_code 1 (some .int) ws ({ frames := 0, cells := 0, slots := 0, locals := 0 } : Room) #[(.int p1)] h0 (own_P (.int (own_q p1)) h0 n0) := by
  refine own_body (plainFor_of_name pn1) ?_
  intro p e s m below meth c s₁ hx hby hml0 hZ hown0 hnm0 hret0 hk e0 X0
  have hown : s.vm.findClass "com/example/quorum_mutex/quorummutex/model/Quorum" = some m.cls := hown0
  have hnm : meth.name = "of" := hnm0
  have hret : meth.sig.returnType = (some .int) := hret0
  have hml : c.maxLocals = 1 := hml0
  have N0 := Fr.nil n0
  refine own_cast (ef1 m p1) ?_
  refine own_go (T' := s₁) (g' := (mkF m 24 #[.val (.int p1)] [(.int ((p1 / (2 : Int32)) + (1 : Int32)))])) (fun t_ k_ => ?_) ?_
  · refine XS.iloadN X0.here hx rfl (hb hby d1_0) rfl ?_
    show Steps p.tables e below (s₁.setTop (mkF m 1 #[.val (.int p1)] [(.int p1)])) _
    refine XS.iconst X0.here hx rfl (hb hby d1_1) ?_
    show Steps p.tables e below (s₁.setTop (mkF m 2 #[.val (.int p1)] [(.int (1 : Int32)), (.int p1)])) _
    refine XS.icmpYes X0.here hx rfl (pc0 := 2) (pc' := 19) rfl (hb hby d1_2) rfl (flt hp).2.1 (by decide) (by decide) ?_
    show Steps p.tables e below (s₁.setTop (mkF m 19 #[.val (.int p1)] [])) _
    refine XS.iloadN X0.here hx rfl (hb hby d1_19) rfl ?_
    show Steps p.tables e below (s₁.setTop (mkF m 20 #[.val (.int p1)] [(.int p1)])) _
    refine XS.iconst X0.here hx rfl (hb hby d1_20) ?_
    show Steps p.tables e below (s₁.setTop (mkF m 21 #[.val (.int p1)] [(.int (2 : Int32)), (.int p1)])) _
    refine XS.idiv X0.here hx rfl (hb hby d1_21) rfl (by decide) ?_
    show Steps p.tables e below (s₁.setTop (mkF m 22 #[.val (.int p1)] [(.int (p1 / (2 : Int32)))])) _
    refine XS.iconst X0.here hx rfl (hb hby d1_22) ?_
    show Steps p.tables e below (s₁.setTop (mkF m 23 #[.val (.int p1)] [(.int (1 : Int32)), (.int (p1 / (2 : Int32)))])) _
    refine XS.iadd X0.here hx rfl (hb hby d1_23) rfl ?_
    show Steps p.tables e below (s₁.setTop (mkF m 24 #[.val (.int p1)] [(.int ((p1 / (2 : Int32)) + (1 : Int32)))])) _
    exact k_
  exact own_retI X0 hx hret hk (hb hby d1_24) (by decide) (by decide) ⟨rfl, N0, e0⟩
/-! the law -/
theorem pn0 : plainName "com/example/quorum_mutex/quorummutex/model/QuorumOfPinLaw" = true := by first | (simp [plainName, overriddenIn]; done) | decide +kernel
theorem ef0 (m : MethodId) (x0 : Int32) : entryFrame m #[(.int x0)] maxLocals = mkF m 0 #[.val (.int x0), .unset, .unset, .unset, .unset, .unset, .unset, .unset, .unset] [] := by first | (simp [entryFrame, mkF, argsToLocals, Value.category, maxLocals]; done) | rfl
set_option maxRecDepth 65536 in
set_option maxHeartbeats 40000000 in
theorem rm0 (l : Launch) (Z : State) (a0 : Array Value) (hw : ∀ d ∈ tables_1, d.before a0 Z = true) (ws : List Jvm.Cond) (p1 : Int32) (h0 : Heap) (n0 : Nat) (Z0 : n0 ≤ h0.size) :
    own_Con l Z x code maxLocals ret ws room_1 #[(.int p1)] h0 (fun v _ L => v = some (.int (1 : Int32)) ∧ Fr n0 L) := by
  refine own_body (plainFor_of_name pn0) ?_
  intro p e s m below meth c s₁ hx hby hml0 hZ hown0 hnm0 hret0 hk e0 X0
  have hown : s.vm.findClass "com/example/quorum_mutex/quorummutex/model/QuorumOfPinLaw" = some m.cls := hown0
  have hnm : meth.name = "law" := hnm0
  have hret : meth.sig.returnType = (some .boolean) := hret0
  have hml : c.maxLocals = 9 := hml0
  have N0 := Fr.nil n0
  refine own_cast (ef0 m p1) ?_
  refine own_go (T' := s₁) (g' := (mkF m 6 #[.val (.int p1), .val (.int (p1 &&& (2147483647 : Int32))), .unset, .unset, .unset, .unset, .unset, .unset, .unset] [(.int (p1 &&& (2147483647 : Int32)))])) (fun t_ k_ => ?_) ?_
  · refine XS.iloadN X0.here hx rfl (hb hby at_0) rfl ?_
    show Steps p.tables e below (s₁.setTop (mkF m 1 #[.val (.int p1), .unset, .unset, .unset, .unset, .unset, .unset, .unset, .unset] [(.int p1)])) _
    refine X0.ldcInt hx hown (mvT hZ (hw _ (List.mem_of_getElem? (i := 0) rfl))) (g := (mkF m 1 #[.val (.int p1), .unset, .unset, .unset, .unset, .unset, .unset, .unset, .unset] [(.int p1)])) rfl (hb hby at_1) _ ?_
    show Steps p.tables e below (s₁.setTop (mkF m 3 #[.val (.int p1), .unset, .unset, .unset, .unset, .unset, .unset, .unset, .unset] [(.int (2147483647 : Int32)), (.int p1)])) _
    refine XS.iand X0.here hx rfl (hb hby at_3) rfl ?_
    show Steps p.tables e below (s₁.setTop (mkF m 4 #[.val (.int p1), .unset, .unset, .unset, .unset, .unset, .unset, .unset, .unset] [(.int (p1 &&& (2147483647 : Int32)))])) _
    refine XS.istoreN X0.here hx rfl (hb hby at_4) rfl (l' := #[.val (.int p1), .val (.int (p1 &&& (2147483647 : Int32))), .unset, .unset, .unset, .unset, .unset, .unset, .unset]) rfl ?_
    show Steps p.tables e below (s₁.setTop (mkF m 5 #[.val (.int p1), .val (.int (p1 &&& (2147483647 : Int32))), .unset, .unset, .unset, .unset, .unset, .unset, .unset] [])) _
    refine XS.iloadN X0.here hx rfl (hb hby at_5) rfl ?_
    show Steps p.tables e below (s₁.setTop (mkF m 6 #[.val (.int p1), .val (.int (p1 &&& (2147483647 : Int32))), .unset, .unset, .unset, .unset, .unset, .unset, .unset] [(.int (p1 &&& (2147483647 : Int32)))])) _
    exact k_
  by_cases h6 : (p1 &&& (2147483647 : Int32)) = (0 : Int32)
  · refine own_go (T' := s₁) (g' := (mkF m 10 #[.val (.int p1), .val (.int (p1 &&& (2147483647 : Int32))), .unset, .unset, .unset, .unset, .unset, .unset, .unset] [(.int (1 : Int32))])) (fun t_ k_ => ?_) ?_
    · refine XS.ifNo X0.here hx rfl (hb hby at_6) rfl ((if0 _ _).trans (teq h6).2) ?_
      show Steps p.tables e below (s₁.setTop (mkF m 9 #[.val (.int p1), .val (.int (p1 &&& (2147483647 : Int32))), .unset, .unset, .unset, .unset, .unset, .unset, .unset] [])) _
      refine XS.iconst X0.here hx rfl (hb hby at_9) ?_
      show Steps p.tables e below (s₁.setTop (mkF m 10 #[.val (.int p1), .val (.int (p1 &&& (2147483647 : Int32))), .unset, .unset, .unset, .unset, .unset, .unset, .unset] [(.int (1 : Int32))])) _
      exact k_
    exact own_retZ X0 hx hret hk rfl (hb hby at_10) (by decide) (by decide) ⟨rfl, N0⟩
  · refine own_go (T' := s₁) (g' := (mkF m 12 #[.val (.int p1), .val (.int (p1 &&& (2147483647 : Int32))), .unset, .unset, .unset, .unset, .unset, .unset, .unset] [(.int (p1 &&& (2147483647 : Int32)))])) (fun t_ k_ => ?_) ?_
    · refine XS.ifYes X0.here hx rfl (pc0 := 6) (pc' := 11) rfl (hb hby at_6) rfl ((if0 _ _).trans (feq h6).2) (by decide) (by decide) ?_
      show Steps p.tables e below (s₁.setTop (mkF m 11 #[.val (.int p1), .val (.int (p1 &&& (2147483647 : Int32))), .unset, .unset, .unset, .unset, .unset, .unset, .unset] [])) _
      refine XS.iloadN X0.here hx rfl (hb hby at_11) rfl ?_
      show Steps p.tables e below (s₁.setTop (mkF m 12 #[.val (.int p1), .val (.int (p1 &&& (2147483647 : Int32))), .unset, .unset, .unset, .unset, .unset, .unset, .unset] [(.int (p1 &&& (2147483647 : Int32)))])) _
      exact k_
    refine own_callS (y := (⟨"com/example/quorum_mutex/quorummutex/model/Quorum", "of", "(I)I"⟩ : MethodName)) (W := 0) (rm := ({ frames := 0, cells := 0, slots := 0, locals := 0 } : Room)) (argsL := [(.int (p1 &&& (2147483647 : Int32)))]) (rest := []) X0 hx hZ hown (hw _ (List.mem_of_getElem? (i := 1) rfl)) (hw _ (List.mem_of_getElem? (i := 2) rfl)) (hw _ (List.mem_of_getElem? (i := 3) rfl)) (hw _ (List.mem_of_getElem? (i := 4) rfl)) (by decide) (rm1 l Z a0 hw [] (p1 &&& (2147483647 : Int32)) h0 n0 Z0 (own_ge (own_mask p1) h6)) (by decide) (by decide) e0 (by decide) (by decide) rfl (by rw [hml]; rfl) (lenOf pd1 rfl) rfl (by show 2 * 0 + _ ≤ _; exact Nat.le_of_eq rfl) (hb hby at_12) ?_
    rintro _ T1 L1 X1 ⟨rfl, N1, e1⟩
    show own_Go p e below s room_1.cells room_1.slots (fun v _ L => v = some (.int (1 : Int32)) ∧ Fr n0 L) T1 (mkF m 15 #[.val (.int p1), .val (.int (p1 &&& (2147483647 : Int32))), .unset, .unset, .unset, .unset, .unset, .unset, .unset] [(.int (own_q (p1 &&& (2147483647 : Int32))))])
    refine own_go (T' := T1) (g' := (mkF m 29 #[.val (.int p1), .val (.int (p1 &&& (2147483647 : Int32))), .val (.long ((own_q (p1 &&& (2147483647 : Int32))).toInt64)), .second, .val (.long ((p1 &&& (2147483647 : Int32)).toInt64)), .second, .unset, .unset, .unset] [(.int (lcmpW ((2 : Int64) * ((own_q (p1 &&& (2147483647 : Int32))).toInt64)) ((p1 &&& (2147483647 : Int32)).toInt64)))])) (fun t_ k_ => ?_) ?_
    · refine XS.i2l X1.here hx rfl (hb hby at_15) rfl ?_
      show Steps p.tables e below (T1.setTop (mkF m 16 #[.val (.int p1), .val (.int (p1 &&& (2147483647 : Int32))), .unset, .unset, .unset, .unset, .unset, .unset, .unset] [(.long ((own_q (p1 &&& (2147483647 : Int32))).toInt64))])) _
      refine XS.lstoreN X1.here hx rfl (hb hby at_16) rfl (l' := #[.val (.int p1), .val (.int (p1 &&& (2147483647 : Int32))), .val (.long ((own_q (p1 &&& (2147483647 : Int32))).toInt64)), .second, .unset, .unset, .unset, .unset, .unset]) rfl ?_
      show Steps p.tables e below (T1.setTop (mkF m 17 #[.val (.int p1), .val (.int (p1 &&& (2147483647 : Int32))), .val (.long ((own_q (p1 &&& (2147483647 : Int32))).toInt64)), .second, .unset, .unset, .unset, .unset, .unset] [])) _
      refine XS.iloadN X1.here hx rfl (hb hby at_17) rfl ?_
      show Steps p.tables e below (T1.setTop (mkF m 18 #[.val (.int p1), .val (.int (p1 &&& (2147483647 : Int32))), .val (.long ((own_q (p1 &&& (2147483647 : Int32))).toInt64)), .second, .unset, .unset, .unset, .unset, .unset] [(.int (p1 &&& (2147483647 : Int32)))])) _
      refine XS.i2l X1.here hx rfl (hb hby at_18) rfl ?_
      show Steps p.tables e below (T1.setTop (mkF m 19 #[.val (.int p1), .val (.int (p1 &&& (2147483647 : Int32))), .val (.long ((own_q (p1 &&& (2147483647 : Int32))).toInt64)), .second, .unset, .unset, .unset, .unset, .unset] [(.long ((p1 &&& (2147483647 : Int32)).toInt64))])) _
      refine XS.lstore X1.here hx rfl (hb hby at_19) rfl (l' := #[.val (.int p1), .val (.int (p1 &&& (2147483647 : Int32))), .val (.long ((own_q (p1 &&& (2147483647 : Int32))).toInt64)), .second, .val (.long ((p1 &&& (2147483647 : Int32)).toInt64)), .second, .unset, .unset, .unset]) rfl ?_
      show Steps p.tables e below (T1.setTop (mkF m 21 #[.val (.int p1), .val (.int (p1 &&& (2147483647 : Int32))), .val (.long ((own_q (p1 &&& (2147483647 : Int32))).toInt64)), .second, .val (.long ((p1 &&& (2147483647 : Int32)).toInt64)), .second, .unset, .unset, .unset] [])) _
      refine X1.ldc2Long hx hown (mvT hZ (hw _ (List.mem_of_getElem? (i := 5) rfl))) (g := (mkF m 21 #[.val (.int p1), .val (.int (p1 &&& (2147483647 : Int32))), .val (.long ((own_q (p1 &&& (2147483647 : Int32))).toInt64)), .second, .val (.long ((p1 &&& (2147483647 : Int32)).toInt64)), .second, .unset, .unset, .unset] [])) rfl (hb hby at_21) _ ?_
      show Steps p.tables e below (T1.setTop (mkF m 24 #[.val (.int p1), .val (.int (p1 &&& (2147483647 : Int32))), .val (.long ((own_q (p1 &&& (2147483647 : Int32))).toInt64)), .second, .val (.long ((p1 &&& (2147483647 : Int32)).toInt64)), .second, .unset, .unset, .unset] [(.long (2 : Int64))])) _
      refine XS.lloadN X1.here hx rfl (hb hby at_24) rfl ?_
      show Steps p.tables e below (T1.setTop (mkF m 25 #[.val (.int p1), .val (.int (p1 &&& (2147483647 : Int32))), .val (.long ((own_q (p1 &&& (2147483647 : Int32))).toInt64)), .second, .val (.long ((p1 &&& (2147483647 : Int32)).toInt64)), .second, .unset, .unset, .unset] [(.long ((own_q (p1 &&& (2147483647 : Int32))).toInt64)), (.long (2 : Int64))])) _
      refine XS.lmul X1.here hx rfl (hb hby at_25) rfl ?_
      show Steps p.tables e below (T1.setTop (mkF m 26 #[.val (.int p1), .val (.int (p1 &&& (2147483647 : Int32))), .val (.long ((own_q (p1 &&& (2147483647 : Int32))).toInt64)), .second, .val (.long ((p1 &&& (2147483647 : Int32)).toInt64)), .second, .unset, .unset, .unset] [(.long ((2 : Int64) * ((own_q (p1 &&& (2147483647 : Int32))).toInt64)))])) _
      refine XS.lload X1.here hx rfl (hb hby at_26) rfl ?_
      show Steps p.tables e below (T1.setTop (mkF m 28 #[.val (.int p1), .val (.int (p1 &&& (2147483647 : Int32))), .val (.long ((own_q (p1 &&& (2147483647 : Int32))).toInt64)), .second, .val (.long ((p1 &&& (2147483647 : Int32)).toInt64)), .second, .unset, .unset, .unset] [(.long ((p1 &&& (2147483647 : Int32)).toInt64)), (.long ((2 : Int64) * ((own_q (p1 &&& (2147483647 : Int32))).toInt64)))])) _
      refine XS.lcmp X1.here hx rfl (hb hby at_28) rfl ?_
      show Steps p.tables e below (T1.setTop (mkF m 29 #[.val (.int p1), .val (.int (p1 &&& (2147483647 : Int32))), .val (.long ((own_q (p1 &&& (2147483647 : Int32))).toInt64)), .second, .val (.long ((p1 &&& (2147483647 : Int32)).toInt64)), .second, .unset, .unset, .unset] [(.int (lcmpW ((2 : Int64) * ((own_q (p1 &&& (2147483647 : Int32))).toInt64)) ((p1 &&& (2147483647 : Int32)).toInt64)))])) _
      exact k_
    have hf2 : ((p1 &&& (2147483647 : Int32)).toInt64) < ((2 : Int64) * ((own_q (p1 &&& (2147483647 : Int32))).toInt64)) := own_major (own_mask p1)
    refine own_go (T' := T1) (g' := (mkF m 49 #[.val (.int p1), .val (.int (p1 &&& (2147483647 : Int32))), .val (.long ((own_q (p1 &&& (2147483647 : Int32))).toInt64)), .second, .val (.long ((p1 &&& (2147483647 : Int32)).toInt64)), .second, .val (.int (1 : Int32)), .unset, .unset] [(.int (lcmpW ((2 : Int64) * (((own_q (p1 &&& (2147483647 : Int32))).toInt64) - (1 : Int64))) ((p1 &&& (2147483647 : Int32)).toInt64)))])) (fun t_ k_ => ?_) ?_
    · refine XS.ifNo X1.here hx rfl (hb hby at_29) rfl ((if0 _ _).trans (tlt ((lw_gt _ _).mpr hf2)).2.2.2) ?_
      show Steps p.tables e below (T1.setTop (mkF m 32 #[.val (.int p1), .val (.int (p1 &&& (2147483647 : Int32))), .val (.long ((own_q (p1 &&& (2147483647 : Int32))).toInt64)), .second, .val (.long ((p1 &&& (2147483647 : Int32)).toInt64)), .second, .unset, .unset, .unset] [])) _
      refine XS.iconst X1.here hx rfl (hb hby at_32) ?_
      show Steps p.tables e below (T1.setTop (mkF m 33 #[.val (.int p1), .val (.int (p1 &&& (2147483647 : Int32))), .val (.long ((own_q (p1 &&& (2147483647 : Int32))).toInt64)), .second, .val (.long ((p1 &&& (2147483647 : Int32)).toInt64)), .second, .unset, .unset, .unset] [(.int (1 : Int32))])) _
      refine XS.goto X1.here hx rfl (pc0 := 33) (pc' := 37) rfl (hb hby at_33) (by decide) (by decide) ?_
      show Steps p.tables e below (T1.setTop (mkF m 37 #[.val (.int p1), .val (.int (p1 &&& (2147483647 : Int32))), .val (.long ((own_q (p1 &&& (2147483647 : Int32))).toInt64)), .second, .val (.long ((p1 &&& (2147483647 : Int32)).toInt64)), .second, .unset, .unset, .unset] [(.int (1 : Int32))])) _
      refine XS.istore X1.here hx rfl (hb hby at_37) rfl (l' := #[.val (.int p1), .val (.int (p1 &&& (2147483647 : Int32))), .val (.long ((own_q (p1 &&& (2147483647 : Int32))).toInt64)), .second, .val (.long ((p1 &&& (2147483647 : Int32)).toInt64)), .second, .val (.int (1 : Int32)), .unset, .unset]) rfl ?_
      show Steps p.tables e below (T1.setTop (mkF m 39 #[.val (.int p1), .val (.int (p1 &&& (2147483647 : Int32))), .val (.long ((own_q (p1 &&& (2147483647 : Int32))).toInt64)), .second, .val (.long ((p1 &&& (2147483647 : Int32)).toInt64)), .second, .val (.int (1 : Int32)), .unset, .unset] [])) _
      refine X1.ldc2Long hx hown (mvT hZ (hw _ (List.mem_of_getElem? (i := 5) rfl))) (g := (mkF m 39 #[.val (.int p1), .val (.int (p1 &&& (2147483647 : Int32))), .val (.long ((own_q (p1 &&& (2147483647 : Int32))).toInt64)), .second, .val (.long ((p1 &&& (2147483647 : Int32)).toInt64)), .second, .val (.int (1 : Int32)), .unset, .unset] [])) rfl (hb hby at_39) _ ?_
      show Steps p.tables e below (T1.setTop (mkF m 42 #[.val (.int p1), .val (.int (p1 &&& (2147483647 : Int32))), .val (.long ((own_q (p1 &&& (2147483647 : Int32))).toInt64)), .second, .val (.long ((p1 &&& (2147483647 : Int32)).toInt64)), .second, .val (.int (1 : Int32)), .unset, .unset] [(.long (2 : Int64))])) _
      refine XS.lloadN X1.here hx rfl (hb hby at_42) rfl ?_
      show Steps p.tables e below (T1.setTop (mkF m 43 #[.val (.int p1), .val (.int (p1 &&& (2147483647 : Int32))), .val (.long ((own_q (p1 &&& (2147483647 : Int32))).toInt64)), .second, .val (.long ((p1 &&& (2147483647 : Int32)).toInt64)), .second, .val (.int (1 : Int32)), .unset, .unset] [(.long ((own_q (p1 &&& (2147483647 : Int32))).toInt64)), (.long (2 : Int64))])) _
      refine XS.lconst X1.here hx rfl (hb hby at_43) ?_
      show Steps p.tables e below (T1.setTop (mkF m 44 #[.val (.int p1), .val (.int (p1 &&& (2147483647 : Int32))), .val (.long ((own_q (p1 &&& (2147483647 : Int32))).toInt64)), .second, .val (.long ((p1 &&& (2147483647 : Int32)).toInt64)), .second, .val (.int (1 : Int32)), .unset, .unset] [(.long (1 : Int64)), (.long ((own_q (p1 &&& (2147483647 : Int32))).toInt64)), (.long (2 : Int64))])) _
      refine XS.lsub X1.here hx rfl (hb hby at_44) rfl ?_
      show Steps p.tables e below (T1.setTop (mkF m 45 #[.val (.int p1), .val (.int (p1 &&& (2147483647 : Int32))), .val (.long ((own_q (p1 &&& (2147483647 : Int32))).toInt64)), .second, .val (.long ((p1 &&& (2147483647 : Int32)).toInt64)), .second, .val (.int (1 : Int32)), .unset, .unset] [(.long (((own_q (p1 &&& (2147483647 : Int32))).toInt64) - (1 : Int64))), (.long (2 : Int64))])) _
      refine XS.lmul X1.here hx rfl (hb hby at_45) rfl ?_
      show Steps p.tables e below (T1.setTop (mkF m 46 #[.val (.int p1), .val (.int (p1 &&& (2147483647 : Int32))), .val (.long ((own_q (p1 &&& (2147483647 : Int32))).toInt64)), .second, .val (.long ((p1 &&& (2147483647 : Int32)).toInt64)), .second, .val (.int (1 : Int32)), .unset, .unset] [(.long ((2 : Int64) * (((own_q (p1 &&& (2147483647 : Int32))).toInt64) - (1 : Int64))))])) _
      refine XS.lload X1.here hx rfl (hb hby at_46) rfl ?_
      show Steps p.tables e below (T1.setTop (mkF m 48 #[.val (.int p1), .val (.int (p1 &&& (2147483647 : Int32))), .val (.long ((own_q (p1 &&& (2147483647 : Int32))).toInt64)), .second, .val (.long ((p1 &&& (2147483647 : Int32)).toInt64)), .second, .val (.int (1 : Int32)), .unset, .unset] [(.long ((p1 &&& (2147483647 : Int32)).toInt64)), (.long ((2 : Int64) * (((own_q (p1 &&& (2147483647 : Int32))).toInt64) - (1 : Int64))))])) _
      refine XS.lcmp X1.here hx rfl (hb hby at_48) rfl ?_
      show Steps p.tables e below (T1.setTop (mkF m 49 #[.val (.int p1), .val (.int (p1 &&& (2147483647 : Int32))), .val (.long ((own_q (p1 &&& (2147483647 : Int32))).toInt64)), .second, .val (.long ((p1 &&& (2147483647 : Int32)).toInt64)), .second, .val (.int (1 : Int32)), .unset, .unset] [(.int (lcmpW ((2 : Int64) * (((own_q (p1 &&& (2147483647 : Int32))).toInt64) - (1 : Int64))) ((p1 &&& (2147483647 : Int32)).toInt64)))])) _
      exact k_
    have hf3 : ¬ (((p1 &&& (2147483647 : Int32)).toInt64) < ((2 : Int64) * (((own_q (p1 &&& (2147483647 : Int32))).toInt64) - (1 : Int64)))) := own_small (own_mask p1)
    refine own_go (T' := T1) (g' := (mkF m 62 #[.val (.int p1), .val (.int (p1 &&& (2147483647 : Int32))), .val (.long ((own_q (p1 &&& (2147483647 : Int32))).toInt64)), .second, .val (.long ((p1 &&& (2147483647 : Int32)).toInt64)), .second, .val (.int (1 : Int32)), .val (.int (1 : Int32)), .unset] [(.int (lcmpW ((own_q (p1 &&& (2147483647 : Int32))).toInt64) (1 : Int64)))])) (fun t_ k_ => ?_) ?_
    · refine XS.ifNo X1.here hx rfl (hb hby at_49) rfl ((if0 _ _).trans (flt (mt (lw_gt _ _).mp hf3)).2.2.1) ?_
      show Steps p.tables e below (T1.setTop (mkF m 52 #[.val (.int p1), .val (.int (p1 &&& (2147483647 : Int32))), .val (.long ((own_q (p1 &&& (2147483647 : Int32))).toInt64)), .second, .val (.long ((p1 &&& (2147483647 : Int32)).toInt64)), .second, .val (.int (1 : Int32)), .unset, .unset] [])) _
      refine XS.iconst X1.here hx rfl (hb hby at_52) ?_
      show Steps p.tables e below (T1.setTop (mkF m 53 #[.val (.int p1), .val (.int (p1 &&& (2147483647 : Int32))), .val (.long ((own_q (p1 &&& (2147483647 : Int32))).toInt64)), .second, .val (.long ((p1 &&& (2147483647 : Int32)).toInt64)), .second, .val (.int (1 : Int32)), .unset, .unset] [(.int (1 : Int32))])) _
      refine XS.goto X1.here hx rfl (pc0 := 53) (pc' := 57) rfl (hb hby at_53) (by decide) (by decide) ?_
      show Steps p.tables e below (T1.setTop (mkF m 57 #[.val (.int p1), .val (.int (p1 &&& (2147483647 : Int32))), .val (.long ((own_q (p1 &&& (2147483647 : Int32))).toInt64)), .second, .val (.long ((p1 &&& (2147483647 : Int32)).toInt64)), .second, .val (.int (1 : Int32)), .unset, .unset] [(.int (1 : Int32))])) _
      refine XS.istore X1.here hx rfl (hb hby at_57) rfl (l' := #[.val (.int p1), .val (.int (p1 &&& (2147483647 : Int32))), .val (.long ((own_q (p1 &&& (2147483647 : Int32))).toInt64)), .second, .val (.long ((p1 &&& (2147483647 : Int32)).toInt64)), .second, .val (.int (1 : Int32)), .val (.int (1 : Int32)), .unset]) rfl ?_
      show Steps p.tables e below (T1.setTop (mkF m 59 #[.val (.int p1), .val (.int (p1 &&& (2147483647 : Int32))), .val (.long ((own_q (p1 &&& (2147483647 : Int32))).toInt64)), .second, .val (.long ((p1 &&& (2147483647 : Int32)).toInt64)), .second, .val (.int (1 : Int32)), .val (.int (1 : Int32)), .unset] [])) _
      refine XS.lloadN X1.here hx rfl (hb hby at_59) rfl ?_
      show Steps p.tables e below (T1.setTop (mkF m 60 #[.val (.int p1), .val (.int (p1 &&& (2147483647 : Int32))), .val (.long ((own_q (p1 &&& (2147483647 : Int32))).toInt64)), .second, .val (.long ((p1 &&& (2147483647 : Int32)).toInt64)), .second, .val (.int (1 : Int32)), .val (.int (1 : Int32)), .unset] [(.long ((own_q (p1 &&& (2147483647 : Int32))).toInt64))])) _
      refine XS.lconst X1.here hx rfl (hb hby at_60) ?_
      show Steps p.tables e below (T1.setTop (mkF m 61 #[.val (.int p1), .val (.int (p1 &&& (2147483647 : Int32))), .val (.long ((own_q (p1 &&& (2147483647 : Int32))).toInt64)), .second, .val (.long ((p1 &&& (2147483647 : Int32)).toInt64)), .second, .val (.int (1 : Int32)), .val (.int (1 : Int32)), .unset] [(.long (1 : Int64)), (.long ((own_q (p1 &&& (2147483647 : Int32))).toInt64))])) _
      refine XS.lcmp X1.here hx rfl (hb hby at_61) rfl ?_
      show Steps p.tables e below (T1.setTop (mkF m 62 #[.val (.int p1), .val (.int (p1 &&& (2147483647 : Int32))), .val (.long ((own_q (p1 &&& (2147483647 : Int32))).toInt64)), .second, .val (.long ((p1 &&& (2147483647 : Int32)).toInt64)), .second, .val (.int (1 : Int32)), .val (.int (1 : Int32)), .unset] [(.int (lcmpW ((own_q (p1 &&& (2147483647 : Int32))).toInt64) (1 : Int64)))])) _
      exact k_
    have hf4 : ¬ (((own_q (p1 &&& (2147483647 : Int32))).toInt64) < (1 : Int64)) := own_one (own_mask p1)
    refine own_go (T' := T1) (g' := (mkF m 69 #[.val (.int p1), .val (.int (p1 &&& (2147483647 : Int32))), .val (.long ((own_q (p1 &&& (2147483647 : Int32))).toInt64)), .second, .val (.long ((p1 &&& (2147483647 : Int32)).toInt64)), .second, .val (.int (1 : Int32)), .val (.int (1 : Int32)), .unset] [(.int (lcmpW ((own_q (p1 &&& (2147483647 : Int32))).toInt64) ((p1 &&& (2147483647 : Int32)).toInt64)))])) (fun t_ k_ => ?_) ?_
    · refine XS.ifNo X1.here hx rfl (hb hby at_62) rfl ((if0 _ _).trans (flt (mt (lw_lt _ _).mp hf4)).1) ?_
      show Steps p.tables e below (T1.setTop (mkF m 65 #[.val (.int p1), .val (.int (p1 &&& (2147483647 : Int32))), .val (.long ((own_q (p1 &&& (2147483647 : Int32))).toInt64)), .second, .val (.long ((p1 &&& (2147483647 : Int32)).toInt64)), .second, .val (.int (1 : Int32)), .val (.int (1 : Int32)), .unset] [])) _
      refine XS.lloadN X1.here hx rfl (hb hby at_65) rfl ?_
      show Steps p.tables e below (T1.setTop (mkF m 66 #[.val (.int p1), .val (.int (p1 &&& (2147483647 : Int32))), .val (.long ((own_q (p1 &&& (2147483647 : Int32))).toInt64)), .second, .val (.long ((p1 &&& (2147483647 : Int32)).toInt64)), .second, .val (.int (1 : Int32)), .val (.int (1 : Int32)), .unset] [(.long ((own_q (p1 &&& (2147483647 : Int32))).toInt64))])) _
      refine XS.lload X1.here hx rfl (hb hby at_66) rfl ?_
      show Steps p.tables e below (T1.setTop (mkF m 68 #[.val (.int p1), .val (.int (p1 &&& (2147483647 : Int32))), .val (.long ((own_q (p1 &&& (2147483647 : Int32))).toInt64)), .second, .val (.long ((p1 &&& (2147483647 : Int32)).toInt64)), .second, .val (.int (1 : Int32)), .val (.int (1 : Int32)), .unset] [(.long ((p1 &&& (2147483647 : Int32)).toInt64)), (.long ((own_q (p1 &&& (2147483647 : Int32))).toInt64))])) _
      refine XS.lcmp X1.here hx rfl (hb hby at_68) rfl ?_
      show Steps p.tables e below (T1.setTop (mkF m 69 #[.val (.int p1), .val (.int (p1 &&& (2147483647 : Int32))), .val (.long ((own_q (p1 &&& (2147483647 : Int32))).toInt64)), .second, .val (.long ((p1 &&& (2147483647 : Int32)).toInt64)), .second, .val (.int (1 : Int32)), .val (.int (1 : Int32)), .unset] [(.int (lcmpW ((own_q (p1 &&& (2147483647 : Int32))).toInt64) ((p1 &&& (2147483647 : Int32)).toInt64)))])) _
      exact k_
    have hf5 : ¬ (((p1 &&& (2147483647 : Int32)).toInt64) < ((own_q (p1 &&& (2147483647 : Int32))).toInt64)) := own_in (own_mask p1) h6
    refine own_go (T' := T1) (g' := (mkF m 81 #[.val (.int p1), .val (.int (p1 &&& (2147483647 : Int32))), .val (.long ((own_q (p1 &&& (2147483647 : Int32))).toInt64)), .second, .val (.long ((p1 &&& (2147483647 : Int32)).toInt64)), .second, .val (.int (1 : Int32)), .val (.int (1 : Int32)), .val (.int (1 : Int32))] [(.int (1 : Int32))])) (fun t_ k_ => ?_) ?_
    · refine XS.ifNo X1.here hx rfl (hb hby at_69) rfl ((if0 _ _).trans (flt (mt (lw_gt _ _).mp hf5)).2.2.1) ?_
      show Steps p.tables e below (T1.setTop (mkF m 72 #[.val (.int p1), .val (.int (p1 &&& (2147483647 : Int32))), .val (.long ((own_q (p1 &&& (2147483647 : Int32))).toInt64)), .second, .val (.long ((p1 &&& (2147483647 : Int32)).toInt64)), .second, .val (.int (1 : Int32)), .val (.int (1 : Int32)), .unset] [])) _
      refine XS.iconst X1.here hx rfl (hb hby at_72) ?_
      show Steps p.tables e below (T1.setTop (mkF m 73 #[.val (.int p1), .val (.int (p1 &&& (2147483647 : Int32))), .val (.long ((own_q (p1 &&& (2147483647 : Int32))).toInt64)), .second, .val (.long ((p1 &&& (2147483647 : Int32)).toInt64)), .second, .val (.int (1 : Int32)), .val (.int (1 : Int32)), .unset] [(.int (1 : Int32))])) _
      refine XS.goto X1.here hx rfl (pc0 := 73) (pc' := 77) rfl (hb hby at_73) (by decide) (by decide) ?_
      show Steps p.tables e below (T1.setTop (mkF m 77 #[.val (.int p1), .val (.int (p1 &&& (2147483647 : Int32))), .val (.long ((own_q (p1 &&& (2147483647 : Int32))).toInt64)), .second, .val (.long ((p1 &&& (2147483647 : Int32)).toInt64)), .second, .val (.int (1 : Int32)), .val (.int (1 : Int32)), .unset] [(.int (1 : Int32))])) _
      refine XS.istore X1.here hx rfl (hb hby at_77) rfl (l' := #[.val (.int p1), .val (.int (p1 &&& (2147483647 : Int32))), .val (.long ((own_q (p1 &&& (2147483647 : Int32))).toInt64)), .second, .val (.long ((p1 &&& (2147483647 : Int32)).toInt64)), .second, .val (.int (1 : Int32)), .val (.int (1 : Int32)), .val (.int (1 : Int32))]) rfl ?_
      show Steps p.tables e below (T1.setTop (mkF m 79 #[.val (.int p1), .val (.int (p1 &&& (2147483647 : Int32))), .val (.long ((own_q (p1 &&& (2147483647 : Int32))).toInt64)), .second, .val (.long ((p1 &&& (2147483647 : Int32)).toInt64)), .second, .val (.int (1 : Int32)), .val (.int (1 : Int32)), .val (.int (1 : Int32))] [])) _
      refine XS.iload X1.here hx rfl (hb hby at_79) rfl ?_
      show Steps p.tables e below (T1.setTop (mkF m 81 #[.val (.int p1), .val (.int (p1 &&& (2147483647 : Int32))), .val (.long ((own_q (p1 &&& (2147483647 : Int32))).toInt64)), .second, .val (.long ((p1 &&& (2147483647 : Int32)).toInt64)), .second, .val (.int (1 : Int32)), .val (.int (1 : Int32)), .val (.int (1 : Int32))] [(.int (1 : Int32))])) _
      exact k_
    have hf6 : ¬ ((1 : Int32) = (0 : Int32)) := by decide
    refine own_go (T' := T1) (g' := (mkF m 86 #[.val (.int p1), .val (.int (p1 &&& (2147483647 : Int32))), .val (.long ((own_q (p1 &&& (2147483647 : Int32))).toInt64)), .second, .val (.long ((p1 &&& (2147483647 : Int32)).toInt64)), .second, .val (.int (1 : Int32)), .val (.int (1 : Int32)), .val (.int (1 : Int32))] [(.int (1 : Int32))])) (fun t_ k_ => ?_) ?_
    · refine XS.ifNo X1.here hx rfl (hb hby at_81) rfl ((if0 _ _).trans (feq hf6).1) ?_
      show Steps p.tables e below (T1.setTop (mkF m 84 #[.val (.int p1), .val (.int (p1 &&& (2147483647 : Int32))), .val (.long ((own_q (p1 &&& (2147483647 : Int32))).toInt64)), .second, .val (.long ((p1 &&& (2147483647 : Int32)).toInt64)), .second, .val (.int (1 : Int32)), .val (.int (1 : Int32)), .val (.int (1 : Int32))] [])) _
      refine XS.iload X1.here hx rfl (hb hby at_84) rfl ?_
      show Steps p.tables e below (T1.setTop (mkF m 86 #[.val (.int p1), .val (.int (p1 &&& (2147483647 : Int32))), .val (.long ((own_q (p1 &&& (2147483647 : Int32))).toInt64)), .second, .val (.long ((p1 &&& (2147483647 : Int32)).toInt64)), .second, .val (.int (1 : Int32)), .val (.int (1 : Int32)), .val (.int (1 : Int32))] [(.int (1 : Int32))])) _
      exact k_
    have hf7 : ¬ ((1 : Int32) = (0 : Int32)) := by decide
    refine own_go (T' := T1) (g' := (mkF m 91 #[.val (.int p1), .val (.int (p1 &&& (2147483647 : Int32))), .val (.long ((own_q (p1 &&& (2147483647 : Int32))).toInt64)), .second, .val (.long ((p1 &&& (2147483647 : Int32)).toInt64)), .second, .val (.int (1 : Int32)), .val (.int (1 : Int32)), .val (.int (1 : Int32))] [(.int (1 : Int32))])) (fun t_ k_ => ?_) ?_
    · refine XS.ifNo X1.here hx rfl (hb hby at_86) rfl ((if0 _ _).trans (feq hf7).1) ?_
      show Steps p.tables e below (T1.setTop (mkF m 89 #[.val (.int p1), .val (.int (p1 &&& (2147483647 : Int32))), .val (.long ((own_q (p1 &&& (2147483647 : Int32))).toInt64)), .second, .val (.long ((p1 &&& (2147483647 : Int32)).toInt64)), .second, .val (.int (1 : Int32)), .val (.int (1 : Int32)), .val (.int (1 : Int32))] [])) _
      refine XS.iload X1.here hx rfl (hb hby at_89) rfl ?_
      show Steps p.tables e below (T1.setTop (mkF m 91 #[.val (.int p1), .val (.int (p1 &&& (2147483647 : Int32))), .val (.long ((own_q (p1 &&& (2147483647 : Int32))).toInt64)), .second, .val (.long ((p1 &&& (2147483647 : Int32)).toInt64)), .second, .val (.int (1 : Int32)), .val (.int (1 : Int32)), .val (.int (1 : Int32))] [(.int (1 : Int32))])) _
      exact k_
    have hf8 : ¬ ((1 : Int32) = (0 : Int32)) := by decide
    refine own_go (T' := T1) (g' := (mkF m 99 #[.val (.int p1), .val (.int (p1 &&& (2147483647 : Int32))), .val (.long ((own_q (p1 &&& (2147483647 : Int32))).toInt64)), .second, .val (.long ((p1 &&& (2147483647 : Int32)).toInt64)), .second, .val (.int (1 : Int32)), .val (.int (1 : Int32)), .val (.int (1 : Int32))] [(.int (1 : Int32))])) (fun t_ k_ => ?_) ?_
    · refine XS.ifNo X1.here hx rfl (hb hby at_91) rfl ((if0 _ _).trans (feq hf8).1) ?_
      show Steps p.tables e below (T1.setTop (mkF m 94 #[.val (.int p1), .val (.int (p1 &&& (2147483647 : Int32))), .val (.long ((own_q (p1 &&& (2147483647 : Int32))).toInt64)), .second, .val (.long ((p1 &&& (2147483647 : Int32)).toInt64)), .second, .val (.int (1 : Int32)), .val (.int (1 : Int32)), .val (.int (1 : Int32))] [])) _
      refine XS.iconst X1.here hx rfl (hb hby at_94) ?_
      show Steps p.tables e below (T1.setTop (mkF m 95 #[.val (.int p1), .val (.int (p1 &&& (2147483647 : Int32))), .val (.long ((own_q (p1 &&& (2147483647 : Int32))).toInt64)), .second, .val (.long ((p1 &&& (2147483647 : Int32)).toInt64)), .second, .val (.int (1 : Int32)), .val (.int (1 : Int32)), .val (.int (1 : Int32))] [(.int (1 : Int32))])) _
      refine XS.goto X1.here hx rfl (pc0 := 95) (pc' := 99) rfl (hb hby at_95) (by decide) (by decide) ?_
      show Steps p.tables e below (T1.setTop (mkF m 99 #[.val (.int p1), .val (.int (p1 &&& (2147483647 : Int32))), .val (.long ((own_q (p1 &&& (2147483647 : Int32))).toInt64)), .second, .val (.long ((p1 &&& (2147483647 : Int32)).toInt64)), .second, .val (.int (1 : Int32)), .val (.int (1 : Int32)), .val (.int (1 : Int32))] [(.int (1 : Int32))])) _
      exact k_
    exact own_retZ X1 hx hret hk rfl (hb hby at_99) (by decide) (by decide) ⟨rfl, Fr.app N0 N1⟩
set_option maxRecDepth 65536 in
set_option maxHeartbeats 40000000 in
theorem comes_1 {Post : Tables → Env → Array Value → State → Outcome → State → Prop} (hpost : ∀ tb e args s v u, (limb_1_1.after args s (.returned v) u = true ∧ limb_1_2.after args s (.returned v) u = true ∧ True) → FrameEnd s (.returned v) u (Jvm.fieldLocs frame_1_writes args s ++ Jvm.arrayLocs frame_1_arrays args s ++ Jvm.staticLocs frame_1_statics s) 0 0 → Post tb e args s (.returned v) u) :
    ArmFor flags0 classFile x code maxLocals ret World_1 tables_1 room_1 Calls_1 rest_1 Pre_1 Post := by
  intro l hfl _ _ p e ha hc hk s m args below hf hA hF happ hP
  obtain ⟨hcalls, hrest, hpre⟩ := hP
  obtain ⟨-, -, -, hnamed, -, -, -, hat⟩ := (Spec.applies_iff hf).mp happ
  obtain ⟨hg, hn⟩ := and_e (Cond.before_iff.mp (show (Jvm.Cond.and given_1 narrow_1).before args s = true from hpre))
  obtain ⟨gc, gr0⟩ := and_e hg
  have gk0 := gr0
  obtain ⟨w0, rfl⟩ : ∃ w0 : Value, args = #[w0] := by
    have hs : args.size = 1 := by simpa [Cond.value, given_1] using gc
    obtain ⟨L⟩ := args
    match L, hs with
    | [w0], _ => exact ⟨w0, rfl⟩
  have hw := fun d (hd : d ∈ tables_1) => atoms_spec (ws := Jvm.Cond.code x code maxLocals ret :: tables_1) hat d (List.mem_cons_of_mem _ hd)
  have hfit : Fit s := fun {y c} hc i hi => by
    obtain ⟨ha, rfl⟩ := Array.getElem?_eq_some_iff.mp hc
    have q := List.all_eq_true.mp ((Array.all_eq_true_iff_forall_mem.mp hF) _ (Array.getElem_mem ha)) i (List.mem_range.mpr hi)
    simpa [Array.getElem?_eq_getElem hi] using q
  obtain ⟨i0, ei0⟩ := is_v gk0
  obtain rfl : w0 = (.int i0) := Option.some.inj ei0
  obtain ⟨n, o, h1, h2, h3, _, L, rfl, ⟨rfl, N⟩, hq⟩ := rm0 l s _ hw tables_1 i0 s.heap s.heap.size (Nat.le_refl _) p e ha hc hk s m _ below hf ((Spec.applies_iff_loose hf).mp happ).1 ⟨rfl, State.Warmed39.refl s, rfl⟩ trivial
  refine ⟨n, _, h1, h2, h3, hpost _ _ _ _ _ _ ⟨Cond.after_iff.mpr rfl, Cond.after_iff.mpr (eq_i res_at (Term.int_eval (1)) rfl), trivial⟩ ⟨hq.1, hq.2.1, (hq.2.2.sift fun y hy => Or.inr (N y hy)).mono (by decide) (by decide)⟩⟩
theorem main_1_1 : Claimed_1_1 := comes_1 fun _ _ _ _ _ _ h hF => ⟨h.1, hF⟩
theorem main_1_2 : Claimed_1_2 := comes_1 fun _ _ _ _ _ _ h hF => ⟨h.2.1, hF⟩
end Jvm.Pilot.@@N@@
namespace Jvm.Pilot.@@N@@
open Jvm Jvm.ClassFile Sem Op Lib Jvm.Free Jvm.Stand Jvm.Pilot.@@N@@.Jvm.D
/-! MADE BY PROGRAM (witnessworld.py) out of the Statement's table words and the real class files: 7 classes; the members and pool entries that the words name. The judged class is class 1, her method 1. -/
namespace start1
open Jvm.ClassFile
def u (s : String) : CpInfo := .utf8 (stringToUtf16 s)
/-- a pool by its gaps: so many unusable entries, then the entry; so many at the end -/
def gap : Nat → List CpInfo → List CpInfo
  | 0, r => r
  | n + 1, r => .unusable :: gap n r
def poolList (es : List (Nat × CpInfo)) (last : Nat) : List CpInfo := es.foldr (fun e r => gap e.1 (e.2 :: r)) (gap last [])
def pool (es : List (Nat × CpInfo)) (last : Nat) : Array CpInfo := ⟨poolList es last⟩
def fileOf (pool : Array CpInfo) (this : Nat) (attrs : Array Attribute := #[]) (ms : Array MethodInfo := #[]) (fl : Nat := 33) (sup : Nat := 0) (ifs : Array Nat := #[]) (fds : Array FieldInfo := #[]) : ClassFile where
  minorVersion := 0
  majorVersion := 65
  constantPool := pool
  accessFlags := fl
  thisClass := this
  superClass := sup
  interfaces := ifs
  fields := fds
  methods := ms
  attributes := attrs
def plain (name : String) (sup : Option ClassId) : Class where
  name := name
  kind := .ordinary
  loader := none
  accessFlags := 33
  super := sup
  interfaces := #[]
  cf := none
  fields := #[]
  methods := #[]
  instanceTypes := #[]
  staticTypes := #[]
  resolved := #[]
  callSites := []
  init := .initialized
  statics := none
  mirror := none

def pool0 : Array CpInfo := pool [(5, u "<init>"), (0, u "()V"), (1, .class_ 10), (1, u "java/lang/Object")] 113

def k0m0 : Method := { name := "<init>", desc := "()V", sig := { parameters := [], returnType := none }, accessFlags := 1, code := none }
/-- java/lang/Object -/
def k0 : Class := { plain "java/lang/Object" none with
  accessFlags := 33
  interfaces := #[]
  cf := some (fileOf pool0 8 #[] #[{ accessFlags := 1, nameIndex := 5, descriptorIndex := 6, attributes := #[] }] 33 0 #[] #[])
  fields := #[]
  methods := #[k0m0]
  instanceTypes := #[]
  staticTypes := #[]
  resolved := Array.replicate 124 none
  statics := none }

def pool1 : Array CpInfo := pool [(2, .class_ 4), (1, u "java/lang/Object"), (0, u "<init>"), (0, u "()V"), (0, .integer 2147483647), (0, .methodref 9 10), (0, .class_ 11), (0, .nameAndType 12 13), (0, u "com/example/quorum_mutex/quorummutex/model/Quorum"), (0, u "of"), (0, u "(I)I"), (0, .long 2), (1, .class_ 17), (0, u "com/example/quorum_mutex/quorummutex/model/QuorumOfPinLaw"), (2, u "law"), (0, u "(I)Z")] 3

def k1m0 : Method := { name := "<init>", desc := "()V", sig := { parameters := [], returnType := none }, accessFlags := 1, code := none }
def k1c1 : Code := { maxStack := 6, maxLocals := 9, code := code, exceptionTable := #[], attributes := #[] }
def k1m1 : Method := { name := "law", desc := "(I)Z", sig := { parameters := [.int], returnType := some .boolean }, accessFlags := 9, code := some k1c1 }
/-- com/example/quorum_mutex/quorummutex/model/QuorumOfPinLaw -/
def k1 : Class := { plain "com/example/quorum_mutex/quorummutex/model/QuorumOfPinLaw" (some 0) with
  accessFlags := 49
  interfaces := #[]
  cf := some (fileOf pool1 16 #[] #[{ accessFlags := 1, nameIndex := 5, descriptorIndex := 6, attributes := #[] }, { accessFlags := 9, nameIndex := 20, descriptorIndex := 21, attributes := #[] }] 49 2 #[] #[])
  fields := #[]
  methods := #[k1m0, k1m1]
  instanceTypes := #[]
  staticTypes := #[]
  resolved := Array.replicate 25 none
  statics := none }

def pool2 : Array CpInfo := pool [(2, .class_ 4), (1, u "java/lang/Object"), (0, u "<init>"), (0, u "()V"), (18, .class_ 27), (1, u "com/example/quorum_mutex/quorummutex/model/Quorum"), (0, u "of"), (0, u "(I)I")] 65

def k2m0 : Method := { name := "<init>", desc := "()V", sig := { parameters := [], returnType := none }, accessFlags := 2, code := none }
def k2c1 : Code := { maxStack := 3, maxLocals := 1, code := prog_7_method_2_code, exceptionTable := #[], attributes := #[] }
def k2m1 : Method := { name := "of", desc := "(I)I", sig := { parameters := [.int], returnType := some .int }, accessFlags := 9, code := some k2c1 }
/-- com/example/quorum_mutex/quorummutex/model/Quorum -/
def k2 : Class := { plain "com/example/quorum_mutex/quorummutex/model/Quorum" (some 0) with
  accessFlags := 33
  interfaces := #[]
  cf := some (fileOf pool2 25 #[] #[{ accessFlags := 2, nameIndex := 5, descriptorIndex := 6, attributes := #[] }, { accessFlags := 9, nameIndex := 28, descriptorIndex := 29, attributes := #[] }] 33 2 #[] #[])
  fields := #[]
  methods := #[k2m0, k2m1]
  instanceTypes := #[]
  staticTypes := #[]
  resolved := Array.replicate 95 none
  statics := none }

def pool3 : Array CpInfo := pool [(1, u "java/lang/Cloneable"), (0, .class_ 1), (0, u "java/lang/Object"), (0, .class_ 3)] 3

/-- java/lang/Cloneable -/
def k3 : Class := { plain "java/lang/Cloneable" (some 0) with
  accessFlags := 1537
  interfaces := #[]
  cf := some (fileOf pool3 2 #[] #[] 1537 4 #[] #[])
  fields := #[]
  methods := #[]
  instanceTypes := #[]
  staticTypes := #[]
  resolved := Array.replicate 8 none
  statics := none }

def pool4 : Array CpInfo := pool [(1, u "java/io/Serializable"), (0, .class_ 1), (0, u "java/lang/Object"), (0, .class_ 3)] 3

/-- java/io/Serializable -/
def k4 : Class := { plain "java/io/Serializable" (some 0) with
  accessFlags := 1537
  interfaces := #[]
  cf := some (fileOf pool4 2 #[] #[] 1537 4 #[] #[])
  fields := #[]
  methods := #[]
  instanceTypes := #[]
  staticTypes := #[]
  resolved := Array.replicate 8 none
  statics := none }

/-- the primitive byte -/
def k5 : Class := { plain "byte" none with kind := .primitive 'B', accessFlags := 0x411 }
/-- [B -/
def k6 : Class := { plain "[B" (some 0) with kind := .array 5 .byte, interfaces := #[3, 4], accessFlags := 1041 }

def heap : Heap := #[]
def classes : Array Class := #[k0, k1, k2, k3, k4, k5, k6]
def interned : List (Array UInt16 × Addr) := []
def slotsUsed : Nat := 0
def theMethod : MethodId := ⟨1, 1⟩
def args0 : Array Value := #[.int 5]
def aboutOver (below : List Frame) : State where
  vm := { classes := classes, interned := interned.toArray }
  heap := heap
  slotsUsed := slotsUsed
  threads := #[{ frames := .invoking theMethod args0 :: below }]
def below0 : List Frame := [.native { method := ⟨0, 0⟩, args := #[] }]
def about1 : State := aboutOver below0
def p0 : Program := .bare "" "" ""
def e0 : Env := launch0.env 0 0 0
theorem w_frames : about1.frames = Frame.invoking theMethod args0 :: below0 := rfl
set_option maxRecDepth 65536 in
theorem w_args : argsFit about1.vm theMethod args0 = true := by decide +kernel
set_option maxRecDepth 65536 in
theorem w_heap : heapFits about1 = true := by decide +kernel
set_option maxRecDepth 65536 in
theorem w_runnable : about1.curStatus? = some .runnable := by decide +kernel
set_option maxRecDepth 65536 in
theorem w_alone : about1.alone = true := by decide +kernel
set_option maxRecDepth 65536 in
theorem w_named : about1.methodNamed? x = some theMethod := by decide +kernel
set_option maxRecDepth 65536 in
theorem w_hears : about1.hears theMethod below0 = true := by decide +kernel
set_option maxRecDepth 65536 in
theorem w_ripe : about1.ripe theMethod args0 below0 = true := by decide +kernel
theorem w_running : about1.status = .running := rfl
set_option maxRecDepth 65536 in
theorem w_room : about1.hasRoom e0.platform room_1 = true :=
  launch0.hasRoom_least _ room_1 (by decide +kernel) (by decide +kernel) (by decide +kernel) (by decide +kernel) (by decide +kernel) (by decide +kernel)
theorem allAtoms_all (ts : List Jvm.Cond) (a : Array Jvm.Value) (st : Jvm.State) : (allAtoms ts).before a st = ts.all (fun c => c.before a st) := by
  induction ts with
  | nil => rfl
  | cons c t ih =>
    show (Jvm.Cond.and c (allAtoms t)).before a st = _
    rw [Jvm.Cond.before_and, ih, List.all_cons]
def words1 : List Jvm.Cond := Jvm.Cond.code x code maxLocals ret :: tables_1
/-- a 'code' word, met by the world's own term for the bytes: nothing is compared byte by byte -/
theorem code_word {y : MethodName} {bytes : ByteArray} {mx : Nat} {rt : Option FieldType} {a : Array Value} {s : State} {m : MethodId} {meth : Method} {c : Code} (h1 : s.methodNamed? y = some m) (h2 : s.vm.method? m = some meth) (h3 : meth.code = some c) (h4 : c.code = bytes)
    (h5 : (c.maxLocals == mx && c.exceptionTable.isEmpty && decide (c.maxStack ≤ mostOperands) && decide (meth.sig.returnType = rt) && !meth.locks && decide (parseMethodDescriptor y.desc = some meth.sig)) = true) : (Jvm.Cond.code y bytes mx rt).before a s = true := by
  simp only [Bool.and_eq_true, beq_iff_eq, Bool.not_eq_true', decide_eq_true_eq] at h5
  obtain ⟨⟨⟨⟨⟨g1, g2⟩, g3⟩, g4⟩, g5⟩, g6⟩ := h5
  simp [Cond.before, Cond.holds, Cond.value, h1, h2, h3, h4, g1, g2, g3, g4, g5, g6]
def isCode : Jvm.Cond → Bool
  | .code _ _ _ _ => true
  | _ => false
theorem all_split {L : List Jvm.Cond} {P : Jvm.Cond → Bool} (h1 : L.all (fun c => isCode c || P c) = true) (h2 : ∀ c ∈ L.filter isCode, P c = true) : L.all P = true := by
  refine List.all_eq_true.mpr fun c hc => ?_
  have h := List.all_eq_true.mp h1 c hc
  rcases Bool.eq_false_or_eq_true (isCode c) with hi | hi
  · exact h2 c (List.mem_filter.mpr ⟨hc, hi⟩)
  · simpa [hi] using h
set_option maxRecDepth 65536 in
theorem w_c0 : (Jvm.Cond.code x code maxLocals ret).before args0 about1 = true := code_word (m := ⟨1, 1⟩) (meth := k1m1) (c := k1c1) (by decide +kernel) rfl rfl rfl (by decide +kernel)
set_option maxRecDepth 65536 in
theorem w_c1 : (Jvm.Cond.code ({ cls := "com/example/quorum_mutex/quorummutex/model/Quorum", name := "of", desc := "(I)I" } : Jvm.MethodName) prog_7_method_2_code (1 : Nat) (Option.some Jvm.ClassFile.FieldType.int)).before args0 about1 = true := code_word (m := ⟨2, 1⟩) (meth := k2m1) (c := k2c1) (by decide +kernel) rfl rfl rfl (by decide +kernel)
def codes1 : List Jvm.Cond := [Jvm.Cond.code x code maxLocals ret, Jvm.Cond.code ({ cls := "com/example/quorum_mutex/quorummutex/model/Quorum", name := "of", desc := "(I)I" } : Jvm.MethodName) prog_7_method_2_code (1 : Nat) (Option.some Jvm.ClassFile.FieldType.int)]
set_option maxRecDepth 65536 in
theorem codes_eq : words1.filter isCode = codes1 := rfl
theorem w_codes : ∀ c ∈ words1.filter isCode, c.before args0 about1 = true := by
  rw [codes_eq]
  intro c hc
  simp only [codes1, List.mem_cons, List.not_mem_nil, or_false] at hc
  rcases hc with rfl | rfl
  · exact w_c0
  · exact w_c1
set_option maxRecDepth 65536 in
theorem w_t1 : words1.all (fun c => isCode c || c.before args0 about1) = true := by decide +kernel
theorem w_tables : (allAtoms (Jvm.Cond.code x code maxLocals ret :: tables_1)).before args0 about1 = true := by
  rw [allAtoms_all]
  show words1.all (fun c => c.before args0 about1) = true
  refine all_split ?_ w_codes
  rw [w_t1]
set_option maxRecDepth 65536 in
theorem w_case : (Jvm.Cond.and given_1 narrow_1).before args0 about1 = true := by decide +kernel
theorem w_applies : (headSpec (Jvm.Cond.code x code maxLocals ret :: tables_1) room_1).applies x e0.platform about1 = true :=
  (Spec.applies_iff w_frames).mpr ⟨w_running, w_runnable, w_alone, w_named, w_hears, w_ripe, w_room, w_tables⟩
theorem atStart : AtStart classFile x code maxLocals ret World_1 tables_1 room_1 Calls_1 rest_1 Pre_1 launch0 p0 e0 about1 theMethod args0 below0 :=
  ⟨lists_1, trivial, launch0.admits_env _ _ _, launch0.least_env, fairChoices_fair.cas, fairChoices_fair.clock, w_frames, w_args, w_heap, w_applies, trivial, trivial, w_case⟩
end start1
theorem witness_1 : WitnessClaimed_1 := ⟨start1.p0, start1.e0, start1.about1, start1.theMethod, start1.args0, start1.below0, start1.atStart⟩
end Jvm.Pilot.@@N@@
