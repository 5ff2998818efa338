import JvmDerived
import JvmDerived.Pilot.@@N@@Statement
import JvmDerived.Pilot.@@N@@Code
set_option linter.unusedVariables false
set_option linter.unusedSimpArgs false
namespace Jvm.Pilot.@@N@@
open Jvm Jvm.ClassFile Sem Op Lib Jvm.Free Jvm.Stand Jvm.LawKit Jvm.RoadKit Bundle Jvm.Pilot.@@N@@.Jvm.D
section Own
variable {p : Program} {l : Launch} {e : Env} {R : Room} {s : State} {m : MethodId} {args : Array Value} {below : List Frame} {meth : Method} {c : Code} {T T' : State} {locs : List Loc} {cells slots : Nat} {C S : Nat} {Q : Option Value → Heap → List Loc → Prop} {g g' : JFrame} {Z : State} {a0 : Array Value}
/-- from T with the frame g on top the method runs to its end, and ends as Q says -/
def own_Go (p : Program) (e : Env) (below : List Frame) (s : State) (C S : Nat) (Q : Option Value → Heap → List Loc → Prop) (T : State) (g : JFrame) : Prop :=
  ∃ s₂ o, Steps p.tables e below (T.setTop g) s₂ ∧ s₂.status = .running ∧ Ended s₂ below o ∧ ∃ v L, o = .returned v ∧ Q v s₂.heap L ∧ FrameEnd s o s₂ L C S
theorem own_go (k : ∀ t, Steps p.tables e below (T'.setTop g') t → Steps p.tables e below (T.setTop g) t) (h : own_Go p e below s C S Q T' g') : own_Go p e below s C S Q T g := by
  obtain ⟨s₂, o, h1, r⟩ := h
  exact ⟨s₂, o, k _ h1, r⟩
theorem own_end (X : Stand p l e R s m args below meth c T locs cells slots) (hk : meth.locks = false) (v : Option Value) (hv : meth.sig.returnType = none → v = none) (hC : cells ≤ C) (hS : slots ≤ S) (hq : Q v T.heap locs)
    (hst : ∀ fs, (∀ (f : JFrame) (acts : List Action), f.method = m → f.locked = none → f.entered = [] → (doReturn e (T.setTop f) acts v).1 = T.setFrames fs) → Steps p.tables e below (T.setTop g) (T.setFrames fs)) : own_Go p e below s C S Q T g := by
  obtain ⟨fs, hr, hrun, hended, hW, hsame⟩ := X.leave (v := v) hv hk
  exact ⟨_, _, hst fs hr, hrun, hended, v, locs, rfl, hq, ⟨_, rfl⟩, hW, hsame.mono hC hS⟩
theorem own_retI (X : Stand p l e R s m args below meth c T locs cells slots) (hx : p.tables.exec = Jvm.exec) (hret : meth.sig.returnType = some .int) (hk : meth.locks = false) {pc : Nat} {Ls : Array Slot} {z : Int32} {rest : List Value} (hd : decode c.code pc = .ok (.ireturn, 1)) (hC : cells ≤ C) (hS : slots ≤ S) (hq : Q (some (.int z)) T.heap locs) :
    own_Go p e below s C S Q T (mkF m pc Ls (.int z :: rest)) :=
  own_end X hk _ (fun h => by rw [hret] at h; cases h) hC hS hq fun fs hr => retOut X hx hret rfl (Or.inl ⟨rfl, Or.inl rfl, _, rfl⟩) hd hr
theorem own_retZ (X : Stand p l e R s m args below meth c T locs cells slots) (hx : p.tables.exec = Jvm.exec) (hret : meth.sig.returnType = some .boolean) (hk : meth.locks = false) {pc : Nat} {Ls : Array Slot} {z : Int32} {rest : List Value} (hz : nar .boolean z = z) (hd : decode c.code pc = .ok (.ireturn, 1)) (hC : cells ≤ C) (hS : slots ≤ S) (hq : Q (some (.int z)) T.heap locs) :
    own_Go p e below s C S Q T (mkF m pc Ls (.int z :: rest)) :=
  own_end X hk _ (fun h => by rw [hret] at h; cases h) hC hS hq fun fs hr => retN X hx (t := .boolean) hret (Or.inl rfl) hd (by rw [hz]; exact hr)
theorem own_retL (X : Stand p l e R s m args below meth c T locs cells slots) (hx : p.tables.exec = Jvm.exec) (hret : meth.sig.returnType = some .long) (hk : meth.locks = false) {pc : Nat} {Ls : Array Slot} {z : Int64} {rest : List Value} (hd : decode c.code pc = .ok (.lreturn, 1)) (hC : cells ≤ C) (hS : slots ≤ S) (hq : Q (some (.long z)) T.heap locs) :
    own_Go p e below s C S Q T (mkF m pc Ls (.long z :: rest)) :=
  own_end X hk _ (fun h => by rw [hret] at h; cases h) hC hS hq fun fs hr => retOut X hx hret rfl (Or.inr (Or.inl ⟨rfl, rfl, _, rfl⟩)) hd hr
theorem own_retA (X : Stand p l e R s m args below meth c T locs cells slots) (hx : p.tables.exec = Jvm.exec) {t : FieldType} (ht : t.isReference = true) (hret : meth.sig.returnType = some t) (hk : meth.locks = false) {pc : Nat} {Ls : Array Slot} {a : Addr} (hd : decode c.code pc = .ok (.areturn, 1)) (hC : cells ≤ C) (hS : slots ≤ S) (hq : Q (some (.ref a)) T.heap locs) :
    own_Go p e below s C S Q T (mkF m pc Ls [.ref a]) :=
  own_end X hk _ (fun h => by rw [hret] at h; cases h) hC hS hq fun fs hr => X.areturnOut hx rfl hret ht hd hr
theorem own_retV (X : Stand p l e R s m args below meth c T locs cells slots) (hx : p.tables.exec = Jvm.exec) (hret : meth.sig.returnType = none) (hk : meth.locks = false) {pc : Nat} {Ls : Array Slot} (hd : decode c.code pc = .ok (.return_, 1)) (hC : cells ≤ C) (hS : slots ≤ S) (hq : Q none T.heap locs) :
    own_Go p e below s C S Q T (mkF m pc Ls []) :=
  own_end X hk _ (fun _ => rfl) hC hS hq fun fs hr => X.returnOut hx hret hd hr
/-- the contract of one body: entered with the values as' and the heap h, it returns as Q says -/
abbrev own_Con (l : Launch) (Z : State) (y : MethodName) (bytes : ByteArray) (maxL : Nat) (ret : Option FieldType) (ws : List Jvm.Cond) (rm : Room) (as' : Array Value) (h : Heap) (Q : Option Value → Heap → List Loc → Prop) : Prop :=
  MetFree l y (head1 (Jvm.Cond.code y bytes maxL ret :: ws) rm) (fun a U => a = as' ∧ Z.Warmed39 U.vm ∧ U.heap = h) (fun _ _ _ _ _ => True) (fun _ U o U' => ∃ v L, o = .returned v ∧ Q v U'.heap L ∧ FrameEnd U o U' L rm.cells rm.slots)
theorem own_body {y : MethodName} {bytes : ByteArray} {maxL : Nat} {ret : Option FieldType} {ws : List Jvm.Cond} {rm : Room} {as' : Array Value} {h : Heap} (hp : plainFor y = true)
    (body : ∀ (p : Program) (e : Env) (s : State) (m : MethodId) (below : List Frame) (meth : Method) (c : Code) (s₁ : State), p.tables.exec = Jvm.exec → c.code = bytes → c.maxLocals = maxL → Z.Warmed39 s.vm → s.vm.findClass y.cls = some m.cls → meth.name = y.name → meth.sig.returnType = ret → meth.locks = false → s₁.heap = h →
      Stand p l e rm s m as' below meth c s₁ [] 0 0 → own_Go p e below s rm.cells rm.slots Q s₁ (entryFrame m as' maxL)) : own_Con l Z y bytes maxL ret ws rm as' h Q := by
  refine MetFree.of_bodySF hp hisR ?_
  intro p e s m args below meth c s₁ Bd hml hP hK
  obtain ⟨rfl, hZ, hh⟩ := hP
  exact body p e s m below meth c s₁ Bd.exec Bd.bytes hml hZ (findClass_of_methodNamed Bd.named) (name_of_methodNamed Bd.named Bd.method).1 Bd.returns Bd.notSynchronized (by rw [← hh, Bd.state]; rfl) (Stand.of_body Bd)
theorem own_cast {g₀ : JFrame} (q : g₀ = g) (h : own_Go p e below s C S Q T g) : own_Go p e below s C S Q T g₀ := q ▸ h
/-- a static call by its callee's contract -/
theorem own_callS (X : Stand p l e R s m args below meth c T locs cells slots) (hx : p.tables.exec = Jvm.exec) (hZ : Z.Warmed39 s.vm) {own : String} {index : Nat} {y : MethodName} {bytes : ByteArray} {maxL : Nat} {ret : Option FieldType} {rm : Room} {W : Nat} {h : Heap} {Q' : Option Value → Heap → List Loc → Prop} {argsL rest : List Value}
    (hown : s.vm.findClass own = some m.cls) (w1 : (Jvm.Cond.methodLink own index y).before a0 Z = true) (w2 : (Jvm.Cond.static y).before a0 Z = true) (w3 : (Jvm.Cond.initialized y.cls).before a0 Z = true) (w4 : (Jvm.Cond.code y bytes maxL ret).before a0 Z = true) (hy : y.cls ≠ "java/lang/invoke/MethodHandle" ∧ y.cls ≠ "java/lang/invoke/VarHandle")
    (hM : own_Con l Z y bytes maxL ret [] rm argsL.toArray h Q') (hf : rm.frames + 1 ≤ R.frames) (hl : W + (maxL + 11) + rm.locals ≤ R.locals) (eT : T.heap = h) (hc : cells + rm.cells ≤ R.cells) (hs : slots + rm.slots ≤ R.slots)
    (hg : g.method = m) (hsize : g.locals.size = c.maxLocals) (hlen : ∀ sig, parseMethodDescriptor y.desc = some sig → argsL.length = sig.parameters.length) (hstack : g.stack = argsL.reverse ++ rest) (hW : 2 * g.monitorRoom + (rest.map fun v => v.category).sum ≤ W) (hdg : decode c.code g.pc = .ok (.invokestatic index, 3))
    (k : ∀ (v : Option Value) (T' : State) (L' : List Loc), Stand p l e R s m args below meth c T' (locs ++ L') (cells + rm.cells) (slots + rm.slots) → Q' v T'.heap L' → own_Go p e below s C S Q T' { g with pc := g.pc + 3, stack := v.toList ++ rest }) :
    own_Go p e below s C S Q T g := by
  obtain ⟨v, _, ⟨T2, L2, k2, n2⟩, -, X2, ⟨Lc2, hQ2, l2, y2, z2⟩, st2⟩ := Jvm.LawKit.callS X hx (y := y) hown (mvT hZ w1) (mvT hZ w2) (mvT hZ w3) (mvT hZ w4) hy (backOf (W := W) hM hZ w4 w3 hf hl) hg hsize hlen hstack hW hdg (fun _ _ => ⟨rfl, eT, hc, hs⟩)
  dsimp only [Pt.U, Pt.locs, Pt.cells, Pt.slots] at X2 l2 y2 z2 st2 hQ2
  subst l2 y2 z2
  exact own_go st2 (k v T2 Lc2 X2 hQ2)
end Own

def own_P (val : Value) (h0 : Heap) (n0 : Nat) (v : Option Value) (h : Heap) (L : List Loc) : Prop := v = some val ∧ Fr n0 L ∧ h = h0
/-! the plain law -/
def own_bd (p : Int32) : Int32 := if (p &&& 7) = 0 then 1000 else if (p &&& 7) = 1 then 1003 else if (p &&& 7) = 2 then 1004 else if (p &&& 7) = 3 then 1007 else if (p &&& 7) = 4 then 1014 else if (p &&& 7) = 5 then 3000 else if (p &&& 7) = 6 then 4999 else 0
def own_ok (c : Int32) : Int32 := if (¬ c < 1000 ∧ ¬ 1003 < c) ∨ (¬ c < 1007 ∧ ¬ 1014 < c) ∨ (¬ c < 3000 ∧ ¬ 4999 < c) then 1 else 0
def own_rf (c : Int32) : Int32 := if (¬ c < 3000 ∧ ¬ 4999 < c) ∨ ((¬ c < 1000 ∧ ¬ 1014 < c) ∧ ¬ c = 1004 ∧ ¬ c = 1005 ∧ ¬ c = 1006) then 1 else 0
theorem own_same (c : Int32) : own_ok c = own_rf c := by
  have q : ((¬ c < 1000 ∧ ¬ 1003 < c) ∨ (¬ c < 1007 ∧ ¬ 1014 < c) ∨ (¬ c < 3000 ∧ ¬ 4999 < c)) ↔ ((¬ c < 3000 ∧ ¬ 4999 < c) ∨ ((¬ c < 1000 ∧ ¬ 1014 < c) ∧ ¬ c = 1004 ∧ ¬ c = 1005 ∧ ¬ c = 1006)) := by
    simp only [Int32.lt_iff_toInt_lt, ← Int32.toInt_inj, show (1000 : Int32).toInt = 1000 from by decide, show (1003 : Int32).toInt = 1003 from by decide, show (1007 : Int32).toInt = 1007 from by decide, show (1014 : Int32).toInt = 1014 from by decide, show (3000 : Int32).toInt = 3000 from by decide, show (4999 : Int32).toInt = 4999 from by decide, show (1004 : Int32).toInt = 1004 from by decide, show (1005 : Int32).toInt = 1005 from by decide, show (1006 : Int32).toInt = 1006 from by decide]
    omega
  unfold own_ok own_rf
  by_cases h : ((¬ c < 1000 ∧ ¬ 1003 < c) ∨ (¬ c < 1007 ∧ ¬ 1014 < c) ∨ (¬ c < 3000 ∧ ¬ 4999 < c))
  · rw [if_pos h, if_pos (q.mp h)]
  · rw [if_neg h, if_neg fun z => h (q.mpr z)]
/-! the callees -/
theorem d1_0 : decode method_3_code 0 = .ok (.iload_n 0, 1) := by decide +kernel
theorem d1_1 : decode method_3_code 1 = .ok (.bipush 7, 2) := by decide +kernel
theorem d1_3 : decode method_3_code 3 = .ok (.iand, 1) := by decide +kernel
theorem d1_4 : decode method_3_code 4 = .ok (.istore_n 1, 1) := by decide +kernel
theorem d1_5 : decode method_3_code 5 = .ok (.iload_n 1, 1) := by decide +kernel
theorem d1_6 : decode method_3_code 6 = .ok (.ifCond .ne 7, 3) := by decide +kernel
theorem d1_9 : decode method_3_code 9 = .ok (.sipush 1000, 3) := by decide +kernel
theorem d1_12 : decode method_3_code 12 = .ok (.ireturn, 1) := by decide +kernel
theorem d1_13 : decode method_3_code 13 = .ok (.iload_n 1, 1) := by decide +kernel
theorem d1_14 : decode method_3_code 14 = .ok (.iconst 1, 1) := by decide +kernel
theorem d1_15 : decode method_3_code 15 = .ok (.if_icmp .ne 7, 3) := by decide +kernel
theorem d1_18 : decode method_3_code 18 = .ok (.sipush 1003, 3) := by decide +kernel
theorem d1_21 : decode method_3_code 21 = .ok (.ireturn, 1) := by decide +kernel
theorem d1_22 : decode method_3_code 22 = .ok (.iload_n 1, 1) := by decide +kernel
theorem d1_23 : decode method_3_code 23 = .ok (.iconst 2, 1) := by decide +kernel
theorem d1_24 : decode method_3_code 24 = .ok (.if_icmp .ne 7, 3) := by decide +kernel
theorem d1_27 : decode method_3_code 27 = .ok (.sipush 1004, 3) := by decide +kernel
theorem d1_30 : decode method_3_code 30 = .ok (.ireturn, 1) := by decide +kernel
theorem d1_31 : decode method_3_code 31 = .ok (.iload_n 1, 1) := by decide +kernel
theorem d1_32 : decode method_3_code 32 = .ok (.iconst 3, 1) := by decide +kernel
theorem d1_33 : decode method_3_code 33 = .ok (.if_icmp .ne 7, 3) := by decide +kernel
theorem d1_36 : decode method_3_code 36 = .ok (.sipush 1007, 3) := by decide +kernel
theorem d1_39 : decode method_3_code 39 = .ok (.ireturn, 1) := by decide +kernel
theorem d1_40 : decode method_3_code 40 = .ok (.iload_n 1, 1) := by decide +kernel
theorem d1_41 : decode method_3_code 41 = .ok (.iconst 4, 1) := by decide +kernel
theorem d1_42 : decode method_3_code 42 = .ok (.if_icmp .ne 7, 3) := by decide +kernel
theorem d1_45 : decode method_3_code 45 = .ok (.sipush 1014, 3) := by decide +kernel
theorem d1_48 : decode method_3_code 48 = .ok (.ireturn, 1) := by decide +kernel
theorem d1_49 : decode method_3_code 49 = .ok (.iload_n 1, 1) := by decide +kernel
theorem d1_50 : decode method_3_code 50 = .ok (.iconst 5, 1) := by decide +kernel
theorem d1_51 : decode method_3_code 51 = .ok (.if_icmp .ne 7, 3) := by decide +kernel
theorem d1_54 : decode method_3_code 54 = .ok (.sipush 3000, 3) := by decide +kernel
theorem d1_57 : decode method_3_code 57 = .ok (.ireturn, 1) := by decide +kernel
theorem d1_58 : decode method_3_code 58 = .ok (.iload_n 1, 1) := by decide +kernel
theorem d1_59 : decode method_3_code 59 = .ok (.bipush 6, 2) := by decide +kernel
theorem d1_61 : decode method_3_code 61 = .ok (.if_icmp .ne 7, 3) := by decide +kernel
theorem d1_64 : decode method_3_code 64 = .ok (.sipush 4999, 3) := by decide +kernel
theorem d1_67 : decode method_3_code 67 = .ok (.ireturn, 1) := by decide +kernel
theorem d1_68 : decode method_3_code 68 = .ok (.iconst 0, 1) := by decide +kernel
theorem d1_69 : decode method_3_code 69 = .ok (.ireturn, 1) := by decide +kernel
theorem pd1 : parseMethodDescriptor "(I)I" = some ⟨[.int], some .int⟩ := by decide +kernel
theorem pn1 : plainName "com/example/live_event_relay/liveeventrelay/WebSocketFramesIsSendablePinLaw" = true := by first | (simp [plainName, overriddenIn]; done) | decide +kernel
theorem ef1 (m : MethodId) (x0 : Int32) : entryFrame m #[(.int x0)] 2 = mkF m 0 #[.val (.int x0), .unset] [] := by first | (simp [entryFrame, mkF, argsToLocals, Value.category]; done) | rfl
set_option maxRecDepth 65536 in
set_option maxHeartbeats 40000000 in
theorem rm1 (l : Launch) (Z : State) (a0 : Array Value) (hw : ∀ d ∈ tables_1, d.before a0 Z = true) (ws : List Jvm.Cond) (p1 : Int32) (h0 : Heap) (n0 : Nat) (Z0 : n0 ≤ h0.size) :
    own_Con l Z (⟨"com/example/live_event_relay/liveeventrelay/WebSocketFramesIsSendablePinLaw", "boundary", "(I)I"⟩ : MethodName) method_3_code 2 (some .int) ws ({ frames := 0, cells := 0, slots := 0, locals := 0 } : Room) #[(.int p1)] h0 (own_P (.int (own_bd p1)) h0 n0) := by
  refine own_body (plainFor_of_name pn1) ?_
  intro p e s m below meth c s₁ hx hby hml0 hZ hown0 hnm0 hret0 hk e0 X0
  have hown : s.vm.findClass "com/example/live_event_relay/liveeventrelay/WebSocketFramesIsSendablePinLaw" = some m.cls := hown0
  have hnm : meth.name = "boundary" := hnm0
  have hret : meth.sig.returnType = (some .int) := hret0
  have hml : c.maxLocals = 2 := hml0
  have N0 := Fr.nil n0
  refine own_cast (ef1 m p1) ?_
  refine own_go (T' := s₁) (g' := (mkF m 6 #[.val (.int p1), .val (.int (p1 &&& (7 : Int32)))] [(.int (p1 &&& (7 : Int32)))])) (fun t_ k_ => ?_) ?_
  · refine XS.iloadN X0.here hx rfl (hb hby d1_0) rfl ?_
    show Steps p.tables e below (s₁.setTop (mkF m 1 #[.val (.int p1), .unset] [(.int p1)])) _
    refine XS.bipush X0.here hx rfl (hb hby d1_1) ?_
    show Steps p.tables e below (s₁.setTop (mkF m 3 #[.val (.int p1), .unset] [(.int (7 : Int32)), (.int p1)])) _
    refine XS.iand X0.here hx rfl (hb hby d1_3) rfl ?_
    show Steps p.tables e below (s₁.setTop (mkF m 4 #[.val (.int p1), .unset] [(.int (p1 &&& (7 : Int32)))])) _
    refine XS.istoreN X0.here hx rfl (hb hby d1_4) rfl (l' := #[.val (.int p1), .val (.int (p1 &&& (7 : Int32)))]) rfl ?_
    show Steps p.tables e below (s₁.setTop (mkF m 5 #[.val (.int p1), .val (.int (p1 &&& (7 : Int32)))] [])) _
    refine XS.iloadN X0.here hx rfl (hb hby d1_5) rfl ?_
    show Steps p.tables e below (s₁.setTop (mkF m 6 #[.val (.int p1), .val (.int (p1 &&& (7 : Int32)))] [(.int (p1 &&& (7 : Int32)))])) _
    exact k_
  by_cases c1 : (p1 &&& (7 : Int32)) = (0 : Int32)
  · refine own_go (T' := s₁) (g' := (mkF m 12 #[.val (.int p1), .val (.int (p1 &&& (7 : Int32)))] [(.int (1000 : Int32))])) (fun t_ k_ => ?_) ?_
    · refine XS.ifNo X0.here hx rfl (hb hby d1_6) rfl ((if0 _ _).trans (teq c1).2) ?_
      show Steps p.tables e below (s₁.setTop (mkF m 9 #[.val (.int p1), .val (.int (p1 &&& (7 : Int32)))] [])) _
      refine XS.sipush X0.here hx rfl (hb hby d1_9) ?_
      show Steps p.tables e below (s₁.setTop (mkF m 12 #[.val (.int p1), .val (.int (p1 &&& (7 : Int32)))] [(.int (1000 : Int32))])) _
      exact k_
    exact own_retI X0 hx hret hk (hb hby d1_12) (by decide) (by decide) ⟨by simp [own_bd, c1], N0, e0⟩
  · refine own_go (T' := s₁) (g' := (mkF m 15 #[.val (.int p1), .val (.int (p1 &&& (7 : Int32)))] [(.int (1 : Int32)), (.int (p1 &&& (7 : Int32)))])) (fun t_ k_ => ?_) ?_
    · refine XS.ifYes X0.here hx rfl (pc0 := 6) (pc' := 13) rfl (hb hby d1_6) rfl ((if0 _ _).trans (feq c1).2) (by decide) (by decide) ?_
      show Steps p.tables e below (s₁.setTop (mkF m 13 #[.val (.int p1), .val (.int (p1 &&& (7 : Int32)))] [])) _
      refine XS.iloadN X0.here hx rfl (hb hby d1_13) rfl ?_
      show Steps p.tables e below (s₁.setTop (mkF m 14 #[.val (.int p1), .val (.int (p1 &&& (7 : Int32)))] [(.int (p1 &&& (7 : Int32)))])) _
      refine XS.iconst X0.here hx rfl (hb hby d1_14) ?_
      show Steps p.tables e below (s₁.setTop (mkF m 15 #[.val (.int p1), .val (.int (p1 &&& (7 : Int32)))] [(.int (1 : Int32)), (.int (p1 &&& (7 : Int32)))])) _
      exact k_
    by_cases c2 : (p1 &&& (7 : Int32)) = (1 : Int32)
    · refine own_go (T' := s₁) (g' := (mkF m 21 #[.val (.int p1), .val (.int (p1 &&& (7 : Int32)))] [(.int (1003 : Int32))])) (fun t_ k_ => ?_) ?_
      · refine XS.icmpNo X0.here hx rfl (hb hby d1_15) rfl (teq c2).2 ?_
        show Steps p.tables e below (s₁.setTop (mkF m 18 #[.val (.int p1), .val (.int (p1 &&& (7 : Int32)))] [])) _
        refine XS.sipush X0.here hx rfl (hb hby d1_18) ?_
        show Steps p.tables e below (s₁.setTop (mkF m 21 #[.val (.int p1), .val (.int (p1 &&& (7 : Int32)))] [(.int (1003 : Int32))])) _
        exact k_
      exact own_retI X0 hx hret hk (hb hby d1_21) (by decide) (by decide) ⟨by simp [own_bd, c1, c2], N0, e0⟩
    · refine own_go (T' := s₁) (g' := (mkF m 24 #[.val (.int p1), .val (.int (p1 &&& (7 : Int32)))] [(.int (2 : Int32)), (.int (p1 &&& (7 : Int32)))])) (fun t_ k_ => ?_) ?_
      · refine XS.icmpYes X0.here hx rfl (pc0 := 15) (pc' := 22) rfl (hb hby d1_15) rfl (feq c2).2 (by decide) (by decide) ?_
        show Steps p.tables e below (s₁.setTop (mkF m 22 #[.val (.int p1), .val (.int (p1 &&& (7 : Int32)))] [])) _
        refine XS.iloadN X0.here hx rfl (hb hby d1_22) rfl ?_
        show Steps p.tables e below (s₁.setTop (mkF m 23 #[.val (.int p1), .val (.int (p1 &&& (7 : Int32)))] [(.int (p1 &&& (7 : Int32)))])) _
        refine XS.iconst X0.here hx rfl (hb hby d1_23) ?_
        show Steps p.tables e below (s₁.setTop (mkF m 24 #[.val (.int p1), .val (.int (p1 &&& (7 : Int32)))] [(.int (2 : Int32)), (.int (p1 &&& (7 : Int32)))])) _
        exact k_
      by_cases c3 : (p1 &&& (7 : Int32)) = (2 : Int32)
      · refine own_go (T' := s₁) (g' := (mkF m 30 #[.val (.int p1), .val (.int (p1 &&& (7 : Int32)))] [(.int (1004 : Int32))])) (fun t_ k_ => ?_) ?_
        · refine XS.icmpNo X0.here hx rfl (hb hby d1_24) rfl (teq c3).2 ?_
          show Steps p.tables e below (s₁.setTop (mkF m 27 #[.val (.int p1), .val (.int (p1 &&& (7 : Int32)))] [])) _
          refine XS.sipush X0.here hx rfl (hb hby d1_27) ?_
          show Steps p.tables e below (s₁.setTop (mkF m 30 #[.val (.int p1), .val (.int (p1 &&& (7 : Int32)))] [(.int (1004 : Int32))])) _
          exact k_
        exact own_retI X0 hx hret hk (hb hby d1_30) (by decide) (by decide) ⟨by simp [own_bd, c1, c2, c3], N0, e0⟩
      · refine own_go (T' := s₁) (g' := (mkF m 33 #[.val (.int p1), .val (.int (p1 &&& (7 : Int32)))] [(.int (3 : Int32)), (.int (p1 &&& (7 : Int32)))])) (fun t_ k_ => ?_) ?_
        · refine XS.icmpYes X0.here hx rfl (pc0 := 24) (pc' := 31) rfl (hb hby d1_24) rfl (feq c3).2 (by decide) (by decide) ?_
          show Steps p.tables e below (s₁.setTop (mkF m 31 #[.val (.int p1), .val (.int (p1 &&& (7 : Int32)))] [])) _
          refine XS.iloadN X0.here hx rfl (hb hby d1_31) rfl ?_
          show Steps p.tables e below (s₁.setTop (mkF m 32 #[.val (.int p1), .val (.int (p1 &&& (7 : Int32)))] [(.int (p1 &&& (7 : Int32)))])) _
          refine XS.iconst X0.here hx rfl (hb hby d1_32) ?_
          show Steps p.tables e below (s₁.setTop (mkF m 33 #[.val (.int p1), .val (.int (p1 &&& (7 : Int32)))] [(.int (3 : Int32)), (.int (p1 &&& (7 : Int32)))])) _
          exact k_
        by_cases c4 : (p1 &&& (7 : Int32)) = (3 : Int32)
        · refine own_go (T' := s₁) (g' := (mkF m 39 #[.val (.int p1), .val (.int (p1 &&& (7 : Int32)))] [(.int (1007 : Int32))])) (fun t_ k_ => ?_) ?_
          · refine XS.icmpNo X0.here hx rfl (hb hby d1_33) rfl (teq c4).2 ?_
            show Steps p.tables e below (s₁.setTop (mkF m 36 #[.val (.int p1), .val (.int (p1 &&& (7 : Int32)))] [])) _
            refine XS.sipush X0.here hx rfl (hb hby d1_36) ?_
            show Steps p.tables e below (s₁.setTop (mkF m 39 #[.val (.int p1), .val (.int (p1 &&& (7 : Int32)))] [(.int (1007 : Int32))])) _
            exact k_
          exact own_retI X0 hx hret hk (hb hby d1_39) (by decide) (by decide) ⟨by simp [own_bd, c1, c2, c3, c4], N0, e0⟩
        · refine own_go (T' := s₁) (g' := (mkF m 42 #[.val (.int p1), .val (.int (p1 &&& (7 : Int32)))] [(.int (4 : Int32)), (.int (p1 &&& (7 : Int32)))])) (fun t_ k_ => ?_) ?_
          · refine XS.icmpYes X0.here hx rfl (pc0 := 33) (pc' := 40) rfl (hb hby d1_33) rfl (feq c4).2 (by decide) (by decide) ?_
            show Steps p.tables e below (s₁.setTop (mkF m 40 #[.val (.int p1), .val (.int (p1 &&& (7 : Int32)))] [])) _
            refine XS.iloadN X0.here hx rfl (hb hby d1_40) rfl ?_
            show Steps p.tables e below (s₁.setTop (mkF m 41 #[.val (.int p1), .val (.int (p1 &&& (7 : Int32)))] [(.int (p1 &&& (7 : Int32)))])) _
            refine XS.iconst X0.here hx rfl (hb hby d1_41) ?_
            show Steps p.tables e below (s₁.setTop (mkF m 42 #[.val (.int p1), .val (.int (p1 &&& (7 : Int32)))] [(.int (4 : Int32)), (.int (p1 &&& (7 : Int32)))])) _
            exact k_
          by_cases c5 : (p1 &&& (7 : Int32)) = (4 : Int32)
          · refine own_go (T' := s₁) (g' := (mkF m 48 #[.val (.int p1), .val (.int (p1 &&& (7 : Int32)))] [(.int (1014 : Int32))])) (fun t_ k_ => ?_) ?_
            · refine XS.icmpNo X0.here hx rfl (hb hby d1_42) rfl (teq c5).2 ?_
              show Steps p.tables e below (s₁.setTop (mkF m 45 #[.val (.int p1), .val (.int (p1 &&& (7 : Int32)))] [])) _
              refine XS.sipush X0.here hx rfl (hb hby d1_45) ?_
              show Steps p.tables e below (s₁.setTop (mkF m 48 #[.val (.int p1), .val (.int (p1 &&& (7 : Int32)))] [(.int (1014 : Int32))])) _
              exact k_
            exact own_retI X0 hx hret hk (hb hby d1_48) (by decide) (by decide) ⟨by simp [own_bd, c1, c2, c3, c4, c5], N0, e0⟩
          · refine own_go (T' := s₁) (g' := (mkF m 51 #[.val (.int p1), .val (.int (p1 &&& (7 : Int32)))] [(.int (5 : Int32)), (.int (p1 &&& (7 : Int32)))])) (fun t_ k_ => ?_) ?_
            · refine XS.icmpYes X0.here hx rfl (pc0 := 42) (pc' := 49) rfl (hb hby d1_42) rfl (feq c5).2 (by decide) (by decide) ?_
              show Steps p.tables e below (s₁.setTop (mkF m 49 #[.val (.int p1), .val (.int (p1 &&& (7 : Int32)))] [])) _
              refine XS.iloadN X0.here hx rfl (hb hby d1_49) rfl ?_
              show Steps p.tables e below (s₁.setTop (mkF m 50 #[.val (.int p1), .val (.int (p1 &&& (7 : Int32)))] [(.int (p1 &&& (7 : Int32)))])) _
              refine XS.iconst X0.here hx rfl (hb hby d1_50) ?_
              show Steps p.tables e below (s₁.setTop (mkF m 51 #[.val (.int p1), .val (.int (p1 &&& (7 : Int32)))] [(.int (5 : Int32)), (.int (p1 &&& (7 : Int32)))])) _
              exact k_
            by_cases c6 : (p1 &&& (7 : Int32)) = (5 : Int32)
            · refine own_go (T' := s₁) (g' := (mkF m 57 #[.val (.int p1), .val (.int (p1 &&& (7 : Int32)))] [(.int (3000 : Int32))])) (fun t_ k_ => ?_) ?_
              · refine XS.icmpNo X0.here hx rfl (hb hby d1_51) rfl (teq c6).2 ?_
                show Steps p.tables e below (s₁.setTop (mkF m 54 #[.val (.int p1), .val (.int (p1 &&& (7 : Int32)))] [])) _
                refine XS.sipush X0.here hx rfl (hb hby d1_54) ?_
                show Steps p.tables e below (s₁.setTop (mkF m 57 #[.val (.int p1), .val (.int (p1 &&& (7 : Int32)))] [(.int (3000 : Int32))])) _
                exact k_
              exact own_retI X0 hx hret hk (hb hby d1_57) (by decide) (by decide) ⟨by simp [own_bd, c1, c2, c3, c4, c5, c6], N0, e0⟩
            · refine own_go (T' := s₁) (g' := (mkF m 61 #[.val (.int p1), .val (.int (p1 &&& (7 : Int32)))] [(.int (6 : Int32)), (.int (p1 &&& (7 : Int32)))])) (fun t_ k_ => ?_) ?_
              · refine XS.icmpYes X0.here hx rfl (pc0 := 51) (pc' := 58) rfl (hb hby d1_51) rfl (feq c6).2 (by decide) (by decide) ?_
                show Steps p.tables e below (s₁.setTop (mkF m 58 #[.val (.int p1), .val (.int (p1 &&& (7 : Int32)))] [])) _
                refine XS.iloadN X0.here hx rfl (hb hby d1_58) rfl ?_
                show Steps p.tables e below (s₁.setTop (mkF m 59 #[.val (.int p1), .val (.int (p1 &&& (7 : Int32)))] [(.int (p1 &&& (7 : Int32)))])) _
                refine XS.bipush X0.here hx rfl (hb hby d1_59) ?_
                show Steps p.tables e below (s₁.setTop (mkF m 61 #[.val (.int p1), .val (.int (p1 &&& (7 : Int32)))] [(.int (6 : Int32)), (.int (p1 &&& (7 : Int32)))])) _
                exact k_
              by_cases c7 : (p1 &&& (7 : Int32)) = (6 : Int32)
              · refine own_go (T' := s₁) (g' := (mkF m 67 #[.val (.int p1), .val (.int (p1 &&& (7 : Int32)))] [(.int (4999 : Int32))])) (fun t_ k_ => ?_) ?_
                · refine XS.icmpNo X0.here hx rfl (hb hby d1_61) rfl (teq c7).2 ?_
                  show Steps p.tables e below (s₁.setTop (mkF m 64 #[.val (.int p1), .val (.int (p1 &&& (7 : Int32)))] [])) _
                  refine XS.sipush X0.here hx rfl (hb hby d1_64) ?_
                  show Steps p.tables e below (s₁.setTop (mkF m 67 #[.val (.int p1), .val (.int (p1 &&& (7 : Int32)))] [(.int (4999 : Int32))])) _
                  exact k_
                exact own_retI X0 hx hret hk (hb hby d1_67) (by decide) (by decide) ⟨by simp [own_bd, c1, c2, c3, c4, c5, c6, c7], N0, e0⟩
              · refine own_go (T' := s₁) (g' := (mkF m 69 #[.val (.int p1), .val (.int (p1 &&& (7 : Int32)))] [(.int (0 : Int32))])) (fun t_ k_ => ?_) ?_
                · refine XS.icmpYes X0.here hx rfl (pc0 := 61) (pc' := 68) rfl (hb hby d1_61) rfl (feq c7).2 (by decide) (by decide) ?_
                  show Steps p.tables e below (s₁.setTop (mkF m 68 #[.val (.int p1), .val (.int (p1 &&& (7 : Int32)))] [])) _
                  refine XS.iconst X0.here hx rfl (hb hby d1_68) ?_
                  show Steps p.tables e below (s₁.setTop (mkF m 69 #[.val (.int p1), .val (.int (p1 &&& (7 : Int32)))] [(.int (0 : Int32))])) _
                  exact k_
                exact own_retI X0 hx hret hk (hb hby d1_69) (by decide) (by decide) ⟨by simp [own_bd, c1, c2, c3, c4, c5, c6, c7], N0, e0⟩
theorem d2_0 : decode prog_15_method_5_code 0 = .ok (.iload_n 0, 1) := by decide +kernel
theorem d2_1 : decode prog_15_method_5_code 1 = .ok (.sipush 1000, 3) := by decide +kernel
theorem d2_4 : decode prog_15_method_5_code 4 = .ok (.if_icmp .lt 10, 3) := by decide +kernel
theorem d2_7 : decode prog_15_method_5_code 7 = .ok (.iload_n 0, 1) := by decide +kernel
theorem d2_8 : decode prog_15_method_5_code 8 = .ok (.sipush 1003, 3) := by decide +kernel
theorem d2_11 : decode prog_15_method_5_code 11 = .ok (.if_icmp .le 31, 3) := by decide +kernel
theorem d2_14 : decode prog_15_method_5_code 14 = .ok (.iload_n 0, 1) := by decide +kernel
theorem d2_15 : decode prog_15_method_5_code 15 = .ok (.sipush 1007, 3) := by decide +kernel
theorem d2_18 : decode prog_15_method_5_code 18 = .ok (.if_icmp .lt 10, 3) := by decide +kernel
theorem d2_21 : decode prog_15_method_5_code 21 = .ok (.iload_n 0, 1) := by decide +kernel
theorem d2_22 : decode prog_15_method_5_code 22 = .ok (.sipush 1014, 3) := by decide +kernel
theorem d2_25 : decode prog_15_method_5_code 25 = .ok (.if_icmp .le 17, 3) := by decide +kernel
theorem d2_28 : decode prog_15_method_5_code 28 = .ok (.iload_n 0, 1) := by decide +kernel
theorem d2_29 : decode prog_15_method_5_code 29 = .ok (.sipush 3000, 3) := by decide +kernel
theorem d2_32 : decode prog_15_method_5_code 32 = .ok (.if_icmp .lt 14, 3) := by decide +kernel
theorem d2_35 : decode prog_15_method_5_code 35 = .ok (.iload_n 0, 1) := by decide +kernel
theorem d2_36 : decode prog_15_method_5_code 36 = .ok (.sipush 4999, 3) := by decide +kernel
theorem d2_39 : decode prog_15_method_5_code 39 = .ok (.if_icmp .gt 7, 3) := by decide +kernel
theorem d2_42 : decode prog_15_method_5_code 42 = .ok (.iconst 1, 1) := by decide +kernel
theorem d2_43 : decode prog_15_method_5_code 43 = .ok (.goto 4, 3) := by decide +kernel
theorem d2_46 : decode prog_15_method_5_code 46 = .ok (.iconst 0, 1) := by decide +kernel
theorem d2_47 : decode prog_15_method_5_code 47 = .ok (.ireturn, 1) := by decide +kernel
theorem pd2 : parseMethodDescriptor "(I)Z" = some ⟨[.int], some .boolean⟩ := by decide +kernel
theorem pn2 : plainName "com/example/live_event_relay/liveeventrelay/WebSocketFrames" = true := by first | (simp [plainName, overriddenIn]; done) | decide +kernel
theorem ef2 (m : MethodId) (x0 : Int32) : entryFrame m #[(.int x0)] 1 = mkF m 0 #[.val (.int x0)] [] := by first | (simp [entryFrame, mkF, argsToLocals, Value.category]; done) | rfl
set_option maxRecDepth 65536 in
set_option maxHeartbeats 40000000 in
theorem rm2 (l : Launch) (Z : State) (a0 : Array Value) (hw : ∀ d ∈ tables_1, d.before a0 Z = true) (ws : List Jvm.Cond) (p1 : Int32) (h0 : Heap) (n0 : Nat) (Z0 : n0 ≤ h0.size) :
    own_Con l Z (⟨"com/example/live_event_relay/liveeventrelay/WebSocketFrames", "isSendable", "(I)Z"⟩ : MethodName) prog_15_method_5_code 1 (some .boolean) ws ({ frames := 0, cells := 0, slots := 0, locals := 0 } : Room) #[(.int p1)] h0 (own_P (.int (own_ok p1)) h0 n0) := by
  refine own_body (plainFor_of_name pn2) ?_
  intro p e s m below meth c s₁ hx hby hml0 hZ hown0 hnm0 hret0 hk e0 X0
  have hown : s.vm.findClass "com/example/live_event_relay/liveeventrelay/WebSocketFrames" = some m.cls := hown0
  have hnm : meth.name = "isSendable" := hnm0
  have hret : meth.sig.returnType = (some .boolean) := hret0
  have hml : c.maxLocals = 1 := hml0
  have N0 := Fr.nil n0
  refine own_cast (ef2 m p1) ?_
  refine own_go (T' := s₁) (g' := (mkF m 4 #[.val (.int p1)] [(.int (1000 : Int32)), (.int p1)])) (fun t_ k_ => ?_) ?_
  · refine XS.iloadN X0.here hx rfl (hb hby d2_0) rfl ?_
    show Steps p.tables e below (s₁.setTop (mkF m 1 #[.val (.int p1)] [(.int p1)])) _
    refine XS.sipush X0.here hx rfl (hb hby d2_1) ?_
    show Steps p.tables e below (s₁.setTop (mkF m 4 #[.val (.int p1)] [(.int (1000 : Int32)), (.int p1)])) _
    exact k_
  by_cases c1 : p1 < (1000 : Int32)
  · refine own_go (T' := s₁) (g' := (mkF m 18 #[.val (.int p1)] [(.int (1007 : Int32)), (.int p1)])) (fun t_ k_ => ?_) ?_
    · refine XS.icmpYes X0.here hx rfl (pc0 := 4) (pc' := 14) rfl (hb hby d2_4) rfl (tlt c1).1 (by decide) (by decide) ?_
      show Steps p.tables e below (s₁.setTop (mkF m 14 #[.val (.int p1)] [])) _
      refine XS.iloadN X0.here hx rfl (hb hby d2_14) rfl ?_
      show Steps p.tables e below (s₁.setTop (mkF m 15 #[.val (.int p1)] [(.int p1)])) _
      refine XS.sipush X0.here hx rfl (hb hby d2_15) ?_
      show Steps p.tables e below (s₁.setTop (mkF m 18 #[.val (.int p1)] [(.int (1007 : Int32)), (.int p1)])) _
      exact k_
    by_cases c2 : p1 < (1007 : Int32)
    · refine own_go (T' := s₁) (g' := (mkF m 32 #[.val (.int p1)] [(.int (3000 : Int32)), (.int p1)])) (fun t_ k_ => ?_) ?_
      · refine XS.icmpYes X0.here hx rfl (pc0 := 18) (pc' := 28) rfl (hb hby d2_18) rfl (tlt c2).1 (by decide) (by decide) ?_
        show Steps p.tables e below (s₁.setTop (mkF m 28 #[.val (.int p1)] [])) _
        refine XS.iloadN X0.here hx rfl (hb hby d2_28) rfl ?_
        show Steps p.tables e below (s₁.setTop (mkF m 29 #[.val (.int p1)] [(.int p1)])) _
        refine XS.sipush X0.here hx rfl (hb hby d2_29) ?_
        show Steps p.tables e below (s₁.setTop (mkF m 32 #[.val (.int p1)] [(.int (3000 : Int32)), (.int p1)])) _
        exact k_
      by_cases c3 : p1 < (3000 : Int32)
      · refine own_go (T' := s₁) (g' := (mkF m 47 #[.val (.int p1)] [(.int (0 : Int32))])) (fun t_ k_ => ?_) ?_
        · refine XS.icmpYes X0.here hx rfl (pc0 := 32) (pc' := 46) rfl (hb hby d2_32) rfl (tlt c3).1 (by decide) (by decide) ?_
          show Steps p.tables e below (s₁.setTop (mkF m 46 #[.val (.int p1)] [])) _
          refine XS.iconst X0.here hx rfl (hb hby d2_46) ?_
          show Steps p.tables e below (s₁.setTop (mkF m 47 #[.val (.int p1)] [(.int (0 : Int32))])) _
          exact k_
        exact own_retZ X0 hx hret hk rfl (hb hby d2_47) (by decide) (by decide) ⟨by simp [own_ok, c1, c2, c3], N0, e0⟩
      · refine own_go (T' := s₁) (g' := (mkF m 39 #[.val (.int p1)] [(.int (4999 : Int32)), (.int p1)])) (fun t_ k_ => ?_) ?_
        · refine XS.icmpNo X0.here hx rfl (hb hby d2_32) rfl (flt c3).1 ?_
          show Steps p.tables e below (s₁.setTop (mkF m 35 #[.val (.int p1)] [])) _
          refine XS.iloadN X0.here hx rfl (hb hby d2_35) rfl ?_
          show Steps p.tables e below (s₁.setTop (mkF m 36 #[.val (.int p1)] [(.int p1)])) _
          refine XS.sipush X0.here hx rfl (hb hby d2_36) ?_
          show Steps p.tables e below (s₁.setTop (mkF m 39 #[.val (.int p1)] [(.int (4999 : Int32)), (.int p1)])) _
          exact k_
        by_cases c4 : (4999 : Int32) < p1
        · refine own_go (T' := s₁) (g' := (mkF m 47 #[.val (.int p1)] [(.int (0 : Int32))])) (fun t_ k_ => ?_) ?_
          · refine XS.icmpYes X0.here hx rfl (pc0 := 39) (pc' := 46) rfl (hb hby d2_39) rfl (tlt c4).2.2.1 (by decide) (by decide) ?_
            show Steps p.tables e below (s₁.setTop (mkF m 46 #[.val (.int p1)] [])) _
            refine XS.iconst X0.here hx rfl (hb hby d2_46) ?_
            show Steps p.tables e below (s₁.setTop (mkF m 47 #[.val (.int p1)] [(.int (0 : Int32))])) _
            exact k_
          exact own_retZ X0 hx hret hk rfl (hb hby d2_47) (by decide) (by decide) ⟨by simp [own_ok, c1, c2, c3, c4], N0, e0⟩
        · refine own_go (T' := s₁) (g' := (mkF m 47 #[.val (.int p1)] [(.int (1 : Int32))])) (fun t_ k_ => ?_) ?_
          · refine XS.icmpNo X0.here hx rfl (hb hby d2_39) rfl (flt c4).2.2.1 ?_
            show Steps p.tables e below (s₁.setTop (mkF m 42 #[.val (.int p1)] [])) _
            refine XS.iconst X0.here hx rfl (hb hby d2_42) ?_
            show Steps p.tables e below (s₁.setTop (mkF m 43 #[.val (.int p1)] [(.int (1 : Int32))])) _
            refine XS.goto X0.here hx rfl (pc0 := 43) (pc' := 47) rfl (hb hby d2_43) (by decide) (by decide) ?_
            show Steps p.tables e below (s₁.setTop (mkF m 47 #[.val (.int p1)] [(.int (1 : Int32))])) _
            exact k_
          exact own_retZ X0 hx hret hk rfl (hb hby d2_47) (by decide) (by decide) ⟨by simp [own_ok, c1, c2, c3, c4], N0, e0⟩
    · refine own_go (T' := s₁) (g' := (mkF m 25 #[.val (.int p1)] [(.int (1014 : Int32)), (.int p1)])) (fun t_ k_ => ?_) ?_
      · refine XS.icmpNo X0.here hx rfl (hb hby d2_18) rfl (flt c2).1 ?_
        show Steps p.tables e below (s₁.setTop (mkF m 21 #[.val (.int p1)] [])) _
        refine XS.iloadN X0.here hx rfl (hb hby d2_21) rfl ?_
        show Steps p.tables e below (s₁.setTop (mkF m 22 #[.val (.int p1)] [(.int p1)])) _
        refine XS.sipush X0.here hx rfl (hb hby d2_22) ?_
        show Steps p.tables e below (s₁.setTop (mkF m 25 #[.val (.int p1)] [(.int (1014 : Int32)), (.int p1)])) _
        exact k_
      by_cases c5 : (1014 : Int32) < p1
      · refine own_go (T' := s₁) (g' := (mkF m 32 #[.val (.int p1)] [(.int (3000 : Int32)), (.int p1)])) (fun t_ k_ => ?_) ?_
        · refine XS.icmpNo X0.here hx rfl (hb hby d2_25) rfl (tlt c5).2.2.2 ?_
          show Steps p.tables e below (s₁.setTop (mkF m 28 #[.val (.int p1)] [])) _
          refine XS.iloadN X0.here hx rfl (hb hby d2_28) rfl ?_
          show Steps p.tables e below (s₁.setTop (mkF m 29 #[.val (.int p1)] [(.int p1)])) _
          refine XS.sipush X0.here hx rfl (hb hby d2_29) ?_
          show Steps p.tables e below (s₁.setTop (mkF m 32 #[.val (.int p1)] [(.int (3000 : Int32)), (.int p1)])) _
          exact k_
        by_cases c6 : p1 < (3000 : Int32)
        · refine own_go (T' := s₁) (g' := (mkF m 47 #[.val (.int p1)] [(.int (0 : Int32))])) (fun t_ k_ => ?_) ?_
          · refine XS.icmpYes X0.here hx rfl (pc0 := 32) (pc' := 46) rfl (hb hby d2_32) rfl (tlt c6).1 (by decide) (by decide) ?_
            show Steps p.tables e below (s₁.setTop (mkF m 46 #[.val (.int p1)] [])) _
            refine XS.iconst X0.here hx rfl (hb hby d2_46) ?_
            show Steps p.tables e below (s₁.setTop (mkF m 47 #[.val (.int p1)] [(.int (0 : Int32))])) _
            exact k_
          exact own_retZ X0 hx hret hk rfl (hb hby d2_47) (by decide) (by decide) ⟨by simp [own_ok, c1, c2, c5, c6], N0, e0⟩
        · refine own_go (T' := s₁) (g' := (mkF m 39 #[.val (.int p1)] [(.int (4999 : Int32)), (.int p1)])) (fun t_ k_ => ?_) ?_
          · refine XS.icmpNo X0.here hx rfl (hb hby d2_32) rfl (flt c6).1 ?_
            show Steps p.tables e below (s₁.setTop (mkF m 35 #[.val (.int p1)] [])) _
            refine XS.iloadN X0.here hx rfl (hb hby d2_35) rfl ?_
            show Steps p.tables e below (s₁.setTop (mkF m 36 #[.val (.int p1)] [(.int p1)])) _
            refine XS.sipush X0.here hx rfl (hb hby d2_36) ?_
            show Steps p.tables e below (s₁.setTop (mkF m 39 #[.val (.int p1)] [(.int (4999 : Int32)), (.int p1)])) _
            exact k_
          by_cases c7 : (4999 : Int32) < p1
          · refine own_go (T' := s₁) (g' := (mkF m 47 #[.val (.int p1)] [(.int (0 : Int32))])) (fun t_ k_ => ?_) ?_
            · refine XS.icmpYes X0.here hx rfl (pc0 := 39) (pc' := 46) rfl (hb hby d2_39) rfl (tlt c7).2.2.1 (by decide) (by decide) ?_
              show Steps p.tables e below (s₁.setTop (mkF m 46 #[.val (.int p1)] [])) _
              refine XS.iconst X0.here hx rfl (hb hby d2_46) ?_
              show Steps p.tables e below (s₁.setTop (mkF m 47 #[.val (.int p1)] [(.int (0 : Int32))])) _
              exact k_
            exact own_retZ X0 hx hret hk rfl (hb hby d2_47) (by decide) (by decide) ⟨by simp [own_ok, c1, c2, c5, c6, c7], N0, e0⟩
          · refine own_go (T' := s₁) (g' := (mkF m 47 #[.val (.int p1)] [(.int (1 : Int32))])) (fun t_ k_ => ?_) ?_
            · refine XS.icmpNo X0.here hx rfl (hb hby d2_39) rfl (flt c7).2.2.1 ?_
              show Steps p.tables e below (s₁.setTop (mkF m 42 #[.val (.int p1)] [])) _
              refine XS.iconst X0.here hx rfl (hb hby d2_42) ?_
              show Steps p.tables e below (s₁.setTop (mkF m 43 #[.val (.int p1)] [(.int (1 : Int32))])) _
              refine XS.goto X0.here hx rfl (pc0 := 43) (pc' := 47) rfl (hb hby d2_43) (by decide) (by decide) ?_
              show Steps p.tables e below (s₁.setTop (mkF m 47 #[.val (.int p1)] [(.int (1 : Int32))])) _
              exact k_
            exact own_retZ X0 hx hret hk rfl (hb hby d2_47) (by decide) (by decide) ⟨by simp [own_ok, c1, c2, c5, c6, c7], N0, e0⟩
      · refine own_go (T' := s₁) (g' := (mkF m 47 #[.val (.int p1)] [(.int (1 : Int32))])) (fun t_ k_ => ?_) ?_
        · refine XS.icmpYes X0.here hx rfl (pc0 := 25) (pc' := 42) rfl (hb hby d2_25) rfl (flt c5).2.2.2 (by decide) (by decide) ?_
          show Steps p.tables e below (s₁.setTop (mkF m 42 #[.val (.int p1)] [])) _
          refine XS.iconst X0.here hx rfl (hb hby d2_42) ?_
          show Steps p.tables e below (s₁.setTop (mkF m 43 #[.val (.int p1)] [(.int (1 : Int32))])) _
          refine XS.goto X0.here hx rfl (pc0 := 43) (pc' := 47) rfl (hb hby d2_43) (by decide) (by decide) ?_
          show Steps p.tables e below (s₁.setTop (mkF m 47 #[.val (.int p1)] [(.int (1 : Int32))])) _
          exact k_
        exact own_retZ X0 hx hret hk rfl (hb hby d2_47) (by decide) (by decide) ⟨by simp [own_ok, c1, c2, c5], N0, e0⟩
  · refine own_go (T' := s₁) (g' := (mkF m 11 #[.val (.int p1)] [(.int (1003 : Int32)), (.int p1)])) (fun t_ k_ => ?_) ?_
    · refine XS.icmpNo X0.here hx rfl (hb hby d2_4) rfl (flt c1).1 ?_
      show Steps p.tables e below (s₁.setTop (mkF m 7 #[.val (.int p1)] [])) _
      refine XS.iloadN X0.here hx rfl (hb hby d2_7) rfl ?_
      show Steps p.tables e below (s₁.setTop (mkF m 8 #[.val (.int p1)] [(.int p1)])) _
      refine XS.sipush X0.here hx rfl (hb hby d2_8) ?_
      show Steps p.tables e below (s₁.setTop (mkF m 11 #[.val (.int p1)] [(.int (1003 : Int32)), (.int p1)])) _
      exact k_
    by_cases c8 : (1003 : Int32) < p1
    · refine own_go (T' := s₁) (g' := (mkF m 18 #[.val (.int p1)] [(.int (1007 : Int32)), (.int p1)])) (fun t_ k_ => ?_) ?_
      · refine XS.icmpNo X0.here hx rfl (hb hby d2_11) rfl (tlt c8).2.2.2 ?_
        show Steps p.tables e below (s₁.setTop (mkF m 14 #[.val (.int p1)] [])) _
        refine XS.iloadN X0.here hx rfl (hb hby d2_14) rfl ?_
        show Steps p.tables e below (s₁.setTop (mkF m 15 #[.val (.int p1)] [(.int p1)])) _
        refine XS.sipush X0.here hx rfl (hb hby d2_15) ?_
        show Steps p.tables e below (s₁.setTop (mkF m 18 #[.val (.int p1)] [(.int (1007 : Int32)), (.int p1)])) _
        exact k_
      by_cases c9 : p1 < (1007 : Int32)
      · refine own_go (T' := s₁) (g' := (mkF m 32 #[.val (.int p1)] [(.int (3000 : Int32)), (.int p1)])) (fun t_ k_ => ?_) ?_
        · refine XS.icmpYes X0.here hx rfl (pc0 := 18) (pc' := 28) rfl (hb hby d2_18) rfl (tlt c9).1 (by decide) (by decide) ?_
          show Steps p.tables e below (s₁.setTop (mkF m 28 #[.val (.int p1)] [])) _
          refine XS.iloadN X0.here hx rfl (hb hby d2_28) rfl ?_
          show Steps p.tables e below (s₁.setTop (mkF m 29 #[.val (.int p1)] [(.int p1)])) _
          refine XS.sipush X0.here hx rfl (hb hby d2_29) ?_
          show Steps p.tables e below (s₁.setTop (mkF m 32 #[.val (.int p1)] [(.int (3000 : Int32)), (.int p1)])) _
          exact k_
        by_cases c10 : p1 < (3000 : Int32)
        · refine own_go (T' := s₁) (g' := (mkF m 47 #[.val (.int p1)] [(.int (0 : Int32))])) (fun t_ k_ => ?_) ?_
          · refine XS.icmpYes X0.here hx rfl (pc0 := 32) (pc' := 46) rfl (hb hby d2_32) rfl (tlt c10).1 (by decide) (by decide) ?_
            show Steps p.tables e below (s₁.setTop (mkF m 46 #[.val (.int p1)] [])) _
            refine XS.iconst X0.here hx rfl (hb hby d2_46) ?_
            show Steps p.tables e below (s₁.setTop (mkF m 47 #[.val (.int p1)] [(.int (0 : Int32))])) _
            exact k_
          exact own_retZ X0 hx hret hk rfl (hb hby d2_47) (by decide) (by decide) ⟨by simp [own_ok, c1, c8, c9, c10], N0, e0⟩
        · refine own_go (T' := s₁) (g' := (mkF m 39 #[.val (.int p1)] [(.int (4999 : Int32)), (.int p1)])) (fun t_ k_ => ?_) ?_
          · refine XS.icmpNo X0.here hx rfl (hb hby d2_32) rfl (flt c10).1 ?_
            show Steps p.tables e below (s₁.setTop (mkF m 35 #[.val (.int p1)] [])) _
            refine XS.iloadN X0.here hx rfl (hb hby d2_35) rfl ?_
            show Steps p.tables e below (s₁.setTop (mkF m 36 #[.val (.int p1)] [(.int p1)])) _
            refine XS.sipush X0.here hx rfl (hb hby d2_36) ?_
            show Steps p.tables e below (s₁.setTop (mkF m 39 #[.val (.int p1)] [(.int (4999 : Int32)), (.int p1)])) _
            exact k_
          by_cases c11 : (4999 : Int32) < p1
          · refine own_go (T' := s₁) (g' := (mkF m 47 #[.val (.int p1)] [(.int (0 : Int32))])) (fun t_ k_ => ?_) ?_
            · refine XS.icmpYes X0.here hx rfl (pc0 := 39) (pc' := 46) rfl (hb hby d2_39) rfl (tlt c11).2.2.1 (by decide) (by decide) ?_
              show Steps p.tables e below (s₁.setTop (mkF m 46 #[.val (.int p1)] [])) _
              refine XS.iconst X0.here hx rfl (hb hby d2_46) ?_
              show Steps p.tables e below (s₁.setTop (mkF m 47 #[.val (.int p1)] [(.int (0 : Int32))])) _
              exact k_
            exact own_retZ X0 hx hret hk rfl (hb hby d2_47) (by decide) (by decide) ⟨by simp [own_ok, c1, c8, c9, c10, c11], N0, e0⟩
          · refine own_go (T' := s₁) (g' := (mkF m 47 #[.val (.int p1)] [(.int (1 : Int32))])) (fun t_ k_ => ?_) ?_
            · refine XS.icmpNo X0.here hx rfl (hb hby d2_39) rfl (flt c11).2.2.1 ?_
              show Steps p.tables e below (s₁.setTop (mkF m 42 #[.val (.int p1)] [])) _
              refine XS.iconst X0.here hx rfl (hb hby d2_42) ?_
              show Steps p.tables e below (s₁.setTop (mkF m 43 #[.val (.int p1)] [(.int (1 : Int32))])) _
              refine XS.goto X0.here hx rfl (pc0 := 43) (pc' := 47) rfl (hb hby d2_43) (by decide) (by decide) ?_
              show Steps p.tables e below (s₁.setTop (mkF m 47 #[.val (.int p1)] [(.int (1 : Int32))])) _
              exact k_
            exact own_retZ X0 hx hret hk rfl (hb hby d2_47) (by decide) (by decide) ⟨by simp [own_ok, c1, c8, c9, c10, c11], N0, e0⟩
      · refine own_go (T' := s₁) (g' := (mkF m 25 #[.val (.int p1)] [(.int (1014 : Int32)), (.int p1)])) (fun t_ k_ => ?_) ?_
        · refine XS.icmpNo X0.here hx rfl (hb hby d2_18) rfl (flt c9).1 ?_
          show Steps p.tables e below (s₁.setTop (mkF m 21 #[.val (.int p1)] [])) _
          refine XS.iloadN X0.here hx rfl (hb hby d2_21) rfl ?_
          show Steps p.tables e below (s₁.setTop (mkF m 22 #[.val (.int p1)] [(.int p1)])) _
          refine XS.sipush X0.here hx rfl (hb hby d2_22) ?_
          show Steps p.tables e below (s₁.setTop (mkF m 25 #[.val (.int p1)] [(.int (1014 : Int32)), (.int p1)])) _
          exact k_
        by_cases c12 : (1014 : Int32) < p1
        · refine own_go (T' := s₁) (g' := (mkF m 32 #[.val (.int p1)] [(.int (3000 : Int32)), (.int p1)])) (fun t_ k_ => ?_) ?_
          · refine XS.icmpNo X0.here hx rfl (hb hby d2_25) rfl (tlt c12).2.2.2 ?_
            show Steps p.tables e below (s₁.setTop (mkF m 28 #[.val (.int p1)] [])) _
            refine XS.iloadN X0.here hx rfl (hb hby d2_28) rfl ?_
            show Steps p.tables e below (s₁.setTop (mkF m 29 #[.val (.int p1)] [(.int p1)])) _
            refine XS.sipush X0.here hx rfl (hb hby d2_29) ?_
            show Steps p.tables e below (s₁.setTop (mkF m 32 #[.val (.int p1)] [(.int (3000 : Int32)), (.int p1)])) _
            exact k_
          by_cases c13 : p1 < (3000 : Int32)
          · refine own_go (T' := s₁) (g' := (mkF m 47 #[.val (.int p1)] [(.int (0 : Int32))])) (fun t_ k_ => ?_) ?_
            · refine XS.icmpYes X0.here hx rfl (pc0 := 32) (pc' := 46) rfl (hb hby d2_32) rfl (tlt c13).1 (by decide) (by decide) ?_
              show Steps p.tables e below (s₁.setTop (mkF m 46 #[.val (.int p1)] [])) _
              refine XS.iconst X0.here hx rfl (hb hby d2_46) ?_
              show Steps p.tables e below (s₁.setTop (mkF m 47 #[.val (.int p1)] [(.int (0 : Int32))])) _
              exact k_
            exact own_retZ X0 hx hret hk rfl (hb hby d2_47) (by decide) (by decide) ⟨by simp [own_ok, c1, c8, c9, c12, c13], N0, e0⟩
          · refine own_go (T' := s₁) (g' := (mkF m 39 #[.val (.int p1)] [(.int (4999 : Int32)), (.int p1)])) (fun t_ k_ => ?_) ?_
            · refine XS.icmpNo X0.here hx rfl (hb hby d2_32) rfl (flt c13).1 ?_
              show Steps p.tables e below (s₁.setTop (mkF m 35 #[.val (.int p1)] [])) _
              refine XS.iloadN X0.here hx rfl (hb hby d2_35) rfl ?_
              show Steps p.tables e below (s₁.setTop (mkF m 36 #[.val (.int p1)] [(.int p1)])) _
              refine XS.sipush X0.here hx rfl (hb hby d2_36) ?_
              show Steps p.tables e below (s₁.setTop (mkF m 39 #[.val (.int p1)] [(.int (4999 : Int32)), (.int p1)])) _
              exact k_
            by_cases c14 : (4999 : Int32) < p1
            · refine own_go (T' := s₁) (g' := (mkF m 47 #[.val (.int p1)] [(.int (0 : Int32))])) (fun t_ k_ => ?_) ?_
              · refine XS.icmpYes X0.here hx rfl (pc0 := 39) (pc' := 46) rfl (hb hby d2_39) rfl (tlt c14).2.2.1 (by decide) (by decide) ?_
                show Steps p.tables e below (s₁.setTop (mkF m 46 #[.val (.int p1)] [])) _
                refine XS.iconst X0.here hx rfl (hb hby d2_46) ?_
                show Steps p.tables e below (s₁.setTop (mkF m 47 #[.val (.int p1)] [(.int (0 : Int32))])) _
                exact k_
              exact own_retZ X0 hx hret hk rfl (hb hby d2_47) (by decide) (by decide) ⟨by simp [own_ok, c1, c8, c9, c12, c13, c14], N0, e0⟩
            · refine own_go (T' := s₁) (g' := (mkF m 47 #[.val (.int p1)] [(.int (1 : Int32))])) (fun t_ k_ => ?_) ?_
              · refine XS.icmpNo X0.here hx rfl (hb hby d2_39) rfl (flt c14).2.2.1 ?_
                show Steps p.tables e below (s₁.setTop (mkF m 42 #[.val (.int p1)] [])) _
                refine XS.iconst X0.here hx rfl (hb hby d2_42) ?_
                show Steps p.tables e below (s₁.setTop (mkF m 43 #[.val (.int p1)] [(.int (1 : Int32))])) _
                refine XS.goto X0.here hx rfl (pc0 := 43) (pc' := 47) rfl (hb hby d2_43) (by decide) (by decide) ?_
                show Steps p.tables e below (s₁.setTop (mkF m 47 #[.val (.int p1)] [(.int (1 : Int32))])) _
                exact k_
              exact own_retZ X0 hx hret hk rfl (hb hby d2_47) (by decide) (by decide) ⟨by simp [own_ok, c1, c8, c9, c12, c13, c14], N0, e0⟩
        · refine own_go (T' := s₁) (g' := (mkF m 47 #[.val (.int p1)] [(.int (1 : Int32))])) (fun t_ k_ => ?_) ?_
          · refine XS.icmpYes X0.here hx rfl (pc0 := 25) (pc' := 42) rfl (hb hby d2_25) rfl (flt c12).2.2.2 (by decide) (by decide) ?_
            show Steps p.tables e below (s₁.setTop (mkF m 42 #[.val (.int p1)] [])) _
            refine XS.iconst X0.here hx rfl (hb hby d2_42) ?_
            show Steps p.tables e below (s₁.setTop (mkF m 43 #[.val (.int p1)] [(.int (1 : Int32))])) _
            refine XS.goto X0.here hx rfl (pc0 := 43) (pc' := 47) rfl (hb hby d2_43) (by decide) (by decide) ?_
            show Steps p.tables e below (s₁.setTop (mkF m 47 #[.val (.int p1)] [(.int (1 : Int32))])) _
            exact k_
          exact own_retZ X0 hx hret hk rfl (hb hby d2_47) (by decide) (by decide) ⟨by simp [own_ok, c1, c8, c9, c12], N0, e0⟩
    · refine own_go (T' := s₁) (g' := (mkF m 47 #[.val (.int p1)] [(.int (1 : Int32))])) (fun t_ k_ => ?_) ?_
      · refine XS.icmpYes X0.here hx rfl (pc0 := 11) (pc' := 42) rfl (hb hby d2_11) rfl (flt c8).2.2.2 (by decide) (by decide) ?_
        show Steps p.tables e below (s₁.setTop (mkF m 42 #[.val (.int p1)] [])) _
        refine XS.iconst X0.here hx rfl (hb hby d2_42) ?_
        show Steps p.tables e below (s₁.setTop (mkF m 43 #[.val (.int p1)] [(.int (1 : Int32))])) _
        refine XS.goto X0.here hx rfl (pc0 := 43) (pc' := 47) rfl (hb hby d2_43) (by decide) (by decide) ?_
        show Steps p.tables e below (s₁.setTop (mkF m 47 #[.val (.int p1)] [(.int (1 : Int32))])) _
        exact k_
      exact own_retZ X0 hx hret hk rfl (hb hby d2_47) (by decide) (by decide) ⟨by simp [own_ok, c1, c8], N0, e0⟩
theorem d3_0 : decode method_2_code 0 = .ok (.iload_n 0, 1) := by decide +kernel
theorem d3_1 : decode method_2_code 1 = .ok (.sipush 3000, 3) := by decide +kernel
theorem d3_4 : decode method_2_code 4 = .ok (.if_icmp .lt 12, 3) := by decide +kernel
theorem d3_7 : decode method_2_code 7 = .ok (.iload_n 0, 1) := by decide +kernel
theorem d3_8 : decode method_2_code 8 = .ok (.sipush 4999, 3) := by decide +kernel
theorem d3_11 : decode method_2_code 11 = .ok (.if_icmp .gt 5, 3) := by decide +kernel
theorem d3_14 : decode method_2_code 14 = .ok (.iconst 1, 1) := by decide +kernel
theorem d3_15 : decode method_2_code 15 = .ok (.ireturn, 1) := by decide +kernel
theorem d3_16 : decode method_2_code 16 = .ok (.iload_n 0, 1) := by decide +kernel
theorem d3_17 : decode method_2_code 17 = .ok (.sipush 1000, 3) := by decide +kernel
theorem d3_20 : decode method_2_code 20 = .ok (.if_icmp .lt 10, 3) := by decide +kernel
theorem d3_23 : decode method_2_code 23 = .ok (.iload_n 0, 1) := by decide +kernel
theorem d3_24 : decode method_2_code 24 = .ok (.sipush 1014, 3) := by decide +kernel
theorem d3_27 : decode method_2_code 27 = .ok (.if_icmp .le 5, 3) := by decide +kernel
theorem d3_30 : decode method_2_code 30 = .ok (.iconst 0, 1) := by decide +kernel
theorem d3_31 : decode method_2_code 31 = .ok (.ireturn, 1) := by decide +kernel
theorem d3_32 : decode method_2_code 32 = .ok (.iload_n 0, 1) := by decide +kernel
theorem d3_33 : decode method_2_code 33 = .ok (.sipush 1004, 3) := by decide +kernel
theorem d3_36 : decode method_2_code 36 = .ok (.if_icmp .eq 21, 3) := by decide +kernel
theorem d3_39 : decode method_2_code 39 = .ok (.iload_n 0, 1) := by decide +kernel
theorem d3_40 : decode method_2_code 40 = .ok (.sipush 1005, 3) := by decide +kernel
theorem d3_43 : decode method_2_code 43 = .ok (.if_icmp .eq 14, 3) := by decide +kernel
theorem d3_46 : decode method_2_code 46 = .ok (.iload_n 0, 1) := by decide +kernel
theorem d3_47 : decode method_2_code 47 = .ok (.sipush 1006, 3) := by decide +kernel
theorem d3_50 : decode method_2_code 50 = .ok (.if_icmp .eq 7, 3) := by decide +kernel
theorem d3_53 : decode method_2_code 53 = .ok (.iconst 1, 1) := by decide +kernel
theorem d3_54 : decode method_2_code 54 = .ok (.goto 4, 3) := by decide +kernel
theorem d3_57 : decode method_2_code 57 = .ok (.iconst 0, 1) := by decide +kernel
theorem d3_58 : decode method_2_code 58 = .ok (.ireturn, 1) := by decide +kernel
theorem pd3 : parseMethodDescriptor "(I)Z" = some ⟨[.int], some .boolean⟩ := by decide +kernel
theorem pn3 : plainName "com/example/live_event_relay/liveeventrelay/WebSocketFramesIsSendablePinLaw" = true := by first | (simp [plainName, overriddenIn]; done) | decide +kernel
theorem ef3 (m : MethodId) (x0 : Int32) : entryFrame m #[(.int x0)] 1 = mkF m 0 #[.val (.int x0)] [] := by first | (simp [entryFrame, mkF, argsToLocals, Value.category]; done) | rfl
set_option maxRecDepth 65536 in
set_option maxHeartbeats 40000000 in
theorem rm3 (l : Launch) (Z : State) (a0 : Array Value) (hw : ∀ d ∈ tables_1, d.before a0 Z = true) (ws : List Jvm.Cond) (p1 : Int32) (h0 : Heap) (n0 : Nat) (Z0 : n0 ≤ h0.size) :
    own_Con l Z (⟨"com/example/live_event_relay/liveeventrelay/WebSocketFramesIsSendablePinLaw", "reference", "(I)Z"⟩ : MethodName) method_2_code 1 (some .boolean) ws ({ frames := 0, cells := 0, slots := 0, locals := 0 } : Room) #[(.int p1)] h0 (own_P (.int (own_rf p1)) h0 n0) := by
  refine own_body (plainFor_of_name pn3) ?_
  intro p e s m below meth c s₁ hx hby hml0 hZ hown0 hnm0 hret0 hk e0 X0
  have hown : s.vm.findClass "com/example/live_event_relay/liveeventrelay/WebSocketFramesIsSendablePinLaw" = some m.cls := hown0
  have hnm : meth.name = "reference" := hnm0
  have hret : meth.sig.returnType = (some .boolean) := hret0
  have hml : c.maxLocals = 1 := hml0
  have N0 := Fr.nil n0
  refine own_cast (ef3 m p1) ?_
  refine own_go (T' := s₁) (g' := (mkF m 4 #[.val (.int p1)] [(.int (3000 : Int32)), (.int p1)])) (fun t_ k_ => ?_) ?_
  · refine XS.iloadN X0.here hx rfl (hb hby d3_0) rfl ?_
    show Steps p.tables e below (s₁.setTop (mkF m 1 #[.val (.int p1)] [(.int p1)])) _
    refine XS.sipush X0.here hx rfl (hb hby d3_1) ?_
    show Steps p.tables e below (s₁.setTop (mkF m 4 #[.val (.int p1)] [(.int (3000 : Int32)), (.int p1)])) _
    exact k_
  by_cases c1 : p1 < (3000 : Int32)
  · refine own_go (T' := s₁) (g' := (mkF m 20 #[.val (.int p1)] [(.int (1000 : Int32)), (.int p1)])) (fun t_ k_ => ?_) ?_
    · refine XS.icmpYes X0.here hx rfl (pc0 := 4) (pc' := 16) rfl (hb hby d3_4) rfl (tlt c1).1 (by decide) (by decide) ?_
      show Steps p.tables e below (s₁.setTop (mkF m 16 #[.val (.int p1)] [])) _
      refine XS.iloadN X0.here hx rfl (hb hby d3_16) rfl ?_
      show Steps p.tables e below (s₁.setTop (mkF m 17 #[.val (.int p1)] [(.int p1)])) _
      refine XS.sipush X0.here hx rfl (hb hby d3_17) ?_
      show Steps p.tables e below (s₁.setTop (mkF m 20 #[.val (.int p1)] [(.int (1000 : Int32)), (.int p1)])) _
      exact k_
    by_cases c2 : p1 < (1000 : Int32)
    · refine own_go (T' := s₁) (g' := (mkF m 31 #[.val (.int p1)] [(.int (0 : Int32))])) (fun t_ k_ => ?_) ?_
      · refine XS.icmpYes X0.here hx rfl (pc0 := 20) (pc' := 30) rfl (hb hby d3_20) rfl (tlt c2).1 (by decide) (by decide) ?_
        show Steps p.tables e below (s₁.setTop (mkF m 30 #[.val (.int p1)] [])) _
        refine XS.iconst X0.here hx rfl (hb hby d3_30) ?_
        show Steps p.tables e below (s₁.setTop (mkF m 31 #[.val (.int p1)] [(.int (0 : Int32))])) _
        exact k_
      exact own_retZ X0 hx hret hk rfl (hb hby d3_31) (by decide) (by decide) ⟨by simp [own_rf, c1, c2], N0, e0⟩
    · refine own_go (T' := s₁) (g' := (mkF m 27 #[.val (.int p1)] [(.int (1014 : Int32)), (.int p1)])) (fun t_ k_ => ?_) ?_
      · refine XS.icmpNo X0.here hx rfl (hb hby d3_20) rfl (flt c2).1 ?_
        show Steps p.tables e below (s₁.setTop (mkF m 23 #[.val (.int p1)] [])) _
        refine XS.iloadN X0.here hx rfl (hb hby d3_23) rfl ?_
        show Steps p.tables e below (s₁.setTop (mkF m 24 #[.val (.int p1)] [(.int p1)])) _
        refine XS.sipush X0.here hx rfl (hb hby d3_24) ?_
        show Steps p.tables e below (s₁.setTop (mkF m 27 #[.val (.int p1)] [(.int (1014 : Int32)), (.int p1)])) _
        exact k_
      by_cases c3 : (1014 : Int32) < p1
      · refine own_go (T' := s₁) (g' := (mkF m 31 #[.val (.int p1)] [(.int (0 : Int32))])) (fun t_ k_ => ?_) ?_
        · refine XS.icmpNo X0.here hx rfl (hb hby d3_27) rfl (tlt c3).2.2.2 ?_
          show Steps p.tables e below (s₁.setTop (mkF m 30 #[.val (.int p1)] [])) _
          refine XS.iconst X0.here hx rfl (hb hby d3_30) ?_
          show Steps p.tables e below (s₁.setTop (mkF m 31 #[.val (.int p1)] [(.int (0 : Int32))])) _
          exact k_
        exact own_retZ X0 hx hret hk rfl (hb hby d3_31) (by decide) (by decide) ⟨by simp [own_rf, c1, c2, c3], N0, e0⟩
      · refine own_go (T' := s₁) (g' := (mkF m 36 #[.val (.int p1)] [(.int (1004 : Int32)), (.int p1)])) (fun t_ k_ => ?_) ?_
        · refine XS.icmpYes X0.here hx rfl (pc0 := 27) (pc' := 32) rfl (hb hby d3_27) rfl (flt c3).2.2.2 (by decide) (by decide) ?_
          show Steps p.tables e below (s₁.setTop (mkF m 32 #[.val (.int p1)] [])) _
          refine XS.iloadN X0.here hx rfl (hb hby d3_32) rfl ?_
          show Steps p.tables e below (s₁.setTop (mkF m 33 #[.val (.int p1)] [(.int p1)])) _
          refine XS.sipush X0.here hx rfl (hb hby d3_33) ?_
          show Steps p.tables e below (s₁.setTop (mkF m 36 #[.val (.int p1)] [(.int (1004 : Int32)), (.int p1)])) _
          exact k_
        by_cases c4 : p1 = (1004 : Int32)
        · refine own_go (T' := s₁) (g' := (mkF m 58 #[.val (.int p1)] [(.int (0 : Int32))])) (fun t_ k_ => ?_) ?_
          · refine XS.icmpYes X0.here hx rfl (pc0 := 36) (pc' := 57) rfl (hb hby d3_36) rfl (teq c4).1 (by decide) (by decide) ?_
            show Steps p.tables e below (s₁.setTop (mkF m 57 #[.val (.int p1)] [])) _
            refine XS.iconst X0.here hx rfl (hb hby d3_57) ?_
            show Steps p.tables e below (s₁.setTop (mkF m 58 #[.val (.int p1)] [(.int (0 : Int32))])) _
            exact k_
          exact own_retZ X0 hx hret hk rfl (hb hby d3_58) (by decide) (by decide) ⟨by simp [own_rf, c1, c2, c3, c4], N0, e0⟩
        · refine own_go (T' := s₁) (g' := (mkF m 43 #[.val (.int p1)] [(.int (1005 : Int32)), (.int p1)])) (fun t_ k_ => ?_) ?_
          · refine XS.icmpNo X0.here hx rfl (hb hby d3_36) rfl (feq c4).1 ?_
            show Steps p.tables e below (s₁.setTop (mkF m 39 #[.val (.int p1)] [])) _
            refine XS.iloadN X0.here hx rfl (hb hby d3_39) rfl ?_
            show Steps p.tables e below (s₁.setTop (mkF m 40 #[.val (.int p1)] [(.int p1)])) _
            refine XS.sipush X0.here hx rfl (hb hby d3_40) ?_
            show Steps p.tables e below (s₁.setTop (mkF m 43 #[.val (.int p1)] [(.int (1005 : Int32)), (.int p1)])) _
            exact k_
          by_cases c5 : p1 = (1005 : Int32)
          · refine own_go (T' := s₁) (g' := (mkF m 58 #[.val (.int p1)] [(.int (0 : Int32))])) (fun t_ k_ => ?_) ?_
            · refine XS.icmpYes X0.here hx rfl (pc0 := 43) (pc' := 57) rfl (hb hby d3_43) rfl (teq c5).1 (by decide) (by decide) ?_
              show Steps p.tables e below (s₁.setTop (mkF m 57 #[.val (.int p1)] [])) _
              refine XS.iconst X0.here hx rfl (hb hby d3_57) ?_
              show Steps p.tables e below (s₁.setTop (mkF m 58 #[.val (.int p1)] [(.int (0 : Int32))])) _
              exact k_
            exact own_retZ X0 hx hret hk rfl (hb hby d3_58) (by decide) (by decide) ⟨by simp [own_rf, c1, c2, c3, c4, c5], N0, e0⟩
          · refine own_go (T' := s₁) (g' := (mkF m 50 #[.val (.int p1)] [(.int (1006 : Int32)), (.int p1)])) (fun t_ k_ => ?_) ?_
            · refine XS.icmpNo X0.here hx rfl (hb hby d3_43) rfl (feq c5).1 ?_
              show Steps p.tables e below (s₁.setTop (mkF m 46 #[.val (.int p1)] [])) _
              refine XS.iloadN X0.here hx rfl (hb hby d3_46) rfl ?_
              show Steps p.tables e below (s₁.setTop (mkF m 47 #[.val (.int p1)] [(.int p1)])) _
              refine XS.sipush X0.here hx rfl (hb hby d3_47) ?_
              show Steps p.tables e below (s₁.setTop (mkF m 50 #[.val (.int p1)] [(.int (1006 : Int32)), (.int p1)])) _
              exact k_
            by_cases c6 : p1 = (1006 : Int32)
            · refine own_go (T' := s₁) (g' := (mkF m 58 #[.val (.int p1)] [(.int (0 : Int32))])) (fun t_ k_ => ?_) ?_
              · refine XS.icmpYes X0.here hx rfl (pc0 := 50) (pc' := 57) rfl (hb hby d3_50) rfl (teq c6).1 (by decide) (by decide) ?_
                show Steps p.tables e below (s₁.setTop (mkF m 57 #[.val (.int p1)] [])) _
                refine XS.iconst X0.here hx rfl (hb hby d3_57) ?_
                show Steps p.tables e below (s₁.setTop (mkF m 58 #[.val (.int p1)] [(.int (0 : Int32))])) _
                exact k_
              exact own_retZ X0 hx hret hk rfl (hb hby d3_58) (by decide) (by decide) ⟨by simp [own_rf, c1, c2, c3, c4, c5, c6], N0, e0⟩
            · refine own_go (T' := s₁) (g' := (mkF m 58 #[.val (.int p1)] [(.int (1 : Int32))])) (fun t_ k_ => ?_) ?_
              · refine XS.icmpNo X0.here hx rfl (hb hby d3_50) rfl (feq c6).1 ?_
                show Steps p.tables e below (s₁.setTop (mkF m 53 #[.val (.int p1)] [])) _
                refine XS.iconst X0.here hx rfl (hb hby d3_53) ?_
                show Steps p.tables e below (s₁.setTop (mkF m 54 #[.val (.int p1)] [(.int (1 : Int32))])) _
                refine XS.goto X0.here hx rfl (pc0 := 54) (pc' := 58) rfl (hb hby d3_54) (by decide) (by decide) ?_
                show Steps p.tables e below (s₁.setTop (mkF m 58 #[.val (.int p1)] [(.int (1 : Int32))])) _
                exact k_
              exact own_retZ X0 hx hret hk rfl (hb hby d3_58) (by decide) (by decide) ⟨by simp [own_rf, c1, c2, c3, c4, c5, c6], N0, e0⟩
  · refine own_go (T' := s₁) (g' := (mkF m 11 #[.val (.int p1)] [(.int (4999 : Int32)), (.int p1)])) (fun t_ k_ => ?_) ?_
    · refine XS.icmpNo X0.here hx rfl (hb hby d3_4) rfl (flt c1).1 ?_
      show Steps p.tables e below (s₁.setTop (mkF m 7 #[.val (.int p1)] [])) _
      refine XS.iloadN X0.here hx rfl (hb hby d3_7) rfl ?_
      show Steps p.tables e below (s₁.setTop (mkF m 8 #[.val (.int p1)] [(.int p1)])) _
      refine XS.sipush X0.here hx rfl (hb hby d3_8) ?_
      show Steps p.tables e below (s₁.setTop (mkF m 11 #[.val (.int p1)] [(.int (4999 : Int32)), (.int p1)])) _
      exact k_
    by_cases c7 : (4999 : Int32) < p1
    · refine own_go (T' := s₁) (g' := (mkF m 20 #[.val (.int p1)] [(.int (1000 : Int32)), (.int p1)])) (fun t_ k_ => ?_) ?_
      · refine XS.icmpYes X0.here hx rfl (pc0 := 11) (pc' := 16) rfl (hb hby d3_11) rfl (tlt c7).2.2.1 (by decide) (by decide) ?_
        show Steps p.tables e below (s₁.setTop (mkF m 16 #[.val (.int p1)] [])) _
        refine XS.iloadN X0.here hx rfl (hb hby d3_16) rfl ?_
        show Steps p.tables e below (s₁.setTop (mkF m 17 #[.val (.int p1)] [(.int p1)])) _
        refine XS.sipush X0.here hx rfl (hb hby d3_17) ?_
        show Steps p.tables e below (s₁.setTop (mkF m 20 #[.val (.int p1)] [(.int (1000 : Int32)), (.int p1)])) _
        exact k_
      by_cases c8 : p1 < (1000 : Int32)
      · refine own_go (T' := s₁) (g' := (mkF m 31 #[.val (.int p1)] [(.int (0 : Int32))])) (fun t_ k_ => ?_) ?_
        · refine XS.icmpYes X0.here hx rfl (pc0 := 20) (pc' := 30) rfl (hb hby d3_20) rfl (tlt c8).1 (by decide) (by decide) ?_
          show Steps p.tables e below (s₁.setTop (mkF m 30 #[.val (.int p1)] [])) _
          refine XS.iconst X0.here hx rfl (hb hby d3_30) ?_
          show Steps p.tables e below (s₁.setTop (mkF m 31 #[.val (.int p1)] [(.int (0 : Int32))])) _
          exact k_
        exact own_retZ X0 hx hret hk rfl (hb hby d3_31) (by decide) (by decide) ⟨by simp [own_rf, c1, c7, c8], N0, e0⟩
      · refine own_go (T' := s₁) (g' := (mkF m 27 #[.val (.int p1)] [(.int (1014 : Int32)), (.int p1)])) (fun t_ k_ => ?_) ?_
        · refine XS.icmpNo X0.here hx rfl (hb hby d3_20) rfl (flt c8).1 ?_
          show Steps p.tables e below (s₁.setTop (mkF m 23 #[.val (.int p1)] [])) _
          refine XS.iloadN X0.here hx rfl (hb hby d3_23) rfl ?_
          show Steps p.tables e below (s₁.setTop (mkF m 24 #[.val (.int p1)] [(.int p1)])) _
          refine XS.sipush X0.here hx rfl (hb hby d3_24) ?_
          show Steps p.tables e below (s₁.setTop (mkF m 27 #[.val (.int p1)] [(.int (1014 : Int32)), (.int p1)])) _
          exact k_
        by_cases c9 : (1014 : Int32) < p1
        · refine own_go (T' := s₁) (g' := (mkF m 31 #[.val (.int p1)] [(.int (0 : Int32))])) (fun t_ k_ => ?_) ?_
          · refine XS.icmpNo X0.here hx rfl (hb hby d3_27) rfl (tlt c9).2.2.2 ?_
            show Steps p.tables e below (s₁.setTop (mkF m 30 #[.val (.int p1)] [])) _
            refine XS.iconst X0.here hx rfl (hb hby d3_30) ?_
            show Steps p.tables e below (s₁.setTop (mkF m 31 #[.val (.int p1)] [(.int (0 : Int32))])) _
            exact k_
          exact own_retZ X0 hx hret hk rfl (hb hby d3_31) (by decide) (by decide) ⟨by simp [own_rf, c1, c7, c8, c9], N0, e0⟩
        · refine own_go (T' := s₁) (g' := (mkF m 36 #[.val (.int p1)] [(.int (1004 : Int32)), (.int p1)])) (fun t_ k_ => ?_) ?_
          · refine XS.icmpYes X0.here hx rfl (pc0 := 27) (pc' := 32) rfl (hb hby d3_27) rfl (flt c9).2.2.2 (by decide) (by decide) ?_
            show Steps p.tables e below (s₁.setTop (mkF m 32 #[.val (.int p1)] [])) _
            refine XS.iloadN X0.here hx rfl (hb hby d3_32) rfl ?_
            show Steps p.tables e below (s₁.setTop (mkF m 33 #[.val (.int p1)] [(.int p1)])) _
            refine XS.sipush X0.here hx rfl (hb hby d3_33) ?_
            show Steps p.tables e below (s₁.setTop (mkF m 36 #[.val (.int p1)] [(.int (1004 : Int32)), (.int p1)])) _
            exact k_
          by_cases c10 : p1 = (1004 : Int32)
          · refine own_go (T' := s₁) (g' := (mkF m 58 #[.val (.int p1)] [(.int (0 : Int32))])) (fun t_ k_ => ?_) ?_
            · refine XS.icmpYes X0.here hx rfl (pc0 := 36) (pc' := 57) rfl (hb hby d3_36) rfl (teq c10).1 (by decide) (by decide) ?_
              show Steps p.tables e below (s₁.setTop (mkF m 57 #[.val (.int p1)] [])) _
              refine XS.iconst X0.here hx rfl (hb hby d3_57) ?_
              show Steps p.tables e below (s₁.setTop (mkF m 58 #[.val (.int p1)] [(.int (0 : Int32))])) _
              exact k_
            exact own_retZ X0 hx hret hk rfl (hb hby d3_58) (by decide) (by decide) ⟨by simp [own_rf, c1, c7, c8, c9, c10], N0, e0⟩
          · refine own_go (T' := s₁) (g' := (mkF m 43 #[.val (.int p1)] [(.int (1005 : Int32)), (.int p1)])) (fun t_ k_ => ?_) ?_
            · refine XS.icmpNo X0.here hx rfl (hb hby d3_36) rfl (feq c10).1 ?_
              show Steps p.tables e below (s₁.setTop (mkF m 39 #[.val (.int p1)] [])) _
              refine XS.iloadN X0.here hx rfl (hb hby d3_39) rfl ?_
              show Steps p.tables e below (s₁.setTop (mkF m 40 #[.val (.int p1)] [(.int p1)])) _
              refine XS.sipush X0.here hx rfl (hb hby d3_40) ?_
              show Steps p.tables e below (s₁.setTop (mkF m 43 #[.val (.int p1)] [(.int (1005 : Int32)), (.int p1)])) _
              exact k_
            by_cases c11 : p1 = (1005 : Int32)
            · refine own_go (T' := s₁) (g' := (mkF m 58 #[.val (.int p1)] [(.int (0 : Int32))])) (fun t_ k_ => ?_) ?_
              · refine XS.icmpYes X0.here hx rfl (pc0 := 43) (pc' := 57) rfl (hb hby d3_43) rfl (teq c11).1 (by decide) (by decide) ?_
                show Steps p.tables e below (s₁.setTop (mkF m 57 #[.val (.int p1)] [])) _
                refine XS.iconst X0.here hx rfl (hb hby d3_57) ?_
                show Steps p.tables e below (s₁.setTop (mkF m 58 #[.val (.int p1)] [(.int (0 : Int32))])) _
                exact k_
              exact own_retZ X0 hx hret hk rfl (hb hby d3_58) (by decide) (by decide) ⟨by simp [own_rf, c1, c7, c8, c9, c10, c11], N0, e0⟩
            · refine own_go (T' := s₁) (g' := (mkF m 50 #[.val (.int p1)] [(.int (1006 : Int32)), (.int p1)])) (fun t_ k_ => ?_) ?_
              · refine XS.icmpNo X0.here hx rfl (hb hby d3_43) rfl (feq c11).1 ?_
                show Steps p.tables e below (s₁.setTop (mkF m 46 #[.val (.int p1)] [])) _
                refine XS.iloadN X0.here hx rfl (hb hby d3_46) rfl ?_
                show Steps p.tables e below (s₁.setTop (mkF m 47 #[.val (.int p1)] [(.int p1)])) _
                refine XS.sipush X0.here hx rfl (hb hby d3_47) ?_
                show Steps p.tables e below (s₁.setTop (mkF m 50 #[.val (.int p1)] [(.int (1006 : Int32)), (.int p1)])) _
                exact k_
              by_cases c12 : p1 = (1006 : Int32)
              · refine own_go (T' := s₁) (g' := (mkF m 58 #[.val (.int p1)] [(.int (0 : Int32))])) (fun t_ k_ => ?_) ?_
                · refine XS.icmpYes X0.here hx rfl (pc0 := 50) (pc' := 57) rfl (hb hby d3_50) rfl (teq c12).1 (by decide) (by decide) ?_
                  show Steps p.tables e below (s₁.setTop (mkF m 57 #[.val (.int p1)] [])) _
                  refine XS.iconst X0.here hx rfl (hb hby d3_57) ?_
                  show Steps p.tables e below (s₁.setTop (mkF m 58 #[.val (.int p1)] [(.int (0 : Int32))])) _
                  exact k_
                exact own_retZ X0 hx hret hk rfl (hb hby d3_58) (by decide) (by decide) ⟨by simp [own_rf, c1, c7, c8, c9, c10, c11, c12], N0, e0⟩
              · refine own_go (T' := s₁) (g' := (mkF m 58 #[.val (.int p1)] [(.int (1 : Int32))])) (fun t_ k_ => ?_) ?_
                · refine XS.icmpNo X0.here hx rfl (hb hby d3_50) rfl (feq c12).1 ?_
                  show Steps p.tables e below (s₁.setTop (mkF m 53 #[.val (.int p1)] [])) _
                  refine XS.iconst X0.here hx rfl (hb hby d3_53) ?_
                  show Steps p.tables e below (s₁.setTop (mkF m 54 #[.val (.int p1)] [(.int (1 : Int32))])) _
                  refine XS.goto X0.here hx rfl (pc0 := 54) (pc' := 58) rfl (hb hby d3_54) (by decide) (by decide) ?_
                  show Steps p.tables e below (s₁.setTop (mkF m 58 #[.val (.int p1)] [(.int (1 : Int32))])) _
                  exact k_
                exact own_retZ X0 hx hret hk rfl (hb hby d3_58) (by decide) (by decide) ⟨by simp [own_rf, c1, c7, c8, c9, c10, c11, c12], N0, e0⟩
    · refine own_go (T' := s₁) (g' := (mkF m 15 #[.val (.int p1)] [(.int (1 : Int32))])) (fun t_ k_ => ?_) ?_
      · refine XS.icmpNo X0.here hx rfl (hb hby d3_11) rfl (flt c7).2.2.1 ?_
        show Steps p.tables e below (s₁.setTop (mkF m 14 #[.val (.int p1)] [])) _
        refine XS.iconst X0.here hx rfl (hb hby d3_14) ?_
        show Steps p.tables e below (s₁.setTop (mkF m 15 #[.val (.int p1)] [(.int (1 : Int32))])) _
        exact k_
      exact own_retZ X0 hx hret hk rfl (hb hby d3_15) (by decide) (by decide) ⟨by simp [own_rf, c1, c7], N0, e0⟩
/-! the law -/
theorem pn0 : plainName "com/example/live_event_relay/liveeventrelay/WebSocketFramesIsSendablePinLaw" = true := by first | (simp [plainName, overriddenIn]; done) | decide +kernel
theorem ef0 (m : MethodId) (x0 : Int32) (x1 : Int32) (x2 : Int32) : entryFrame m #[(.int x0), (.int x1), (.int x2)] maxLocals = mkF m 0 #[.val (.int x0), .val (.int x1), .val (.int x2), .unset, .unset, .unset] [] := by first | (simp [entryFrame, mkF, argsToLocals, Value.category, maxLocals]; done) | rfl
set_option maxRecDepth 65536 in
set_option maxHeartbeats 40000000 in
theorem rm0 (l : Launch) (Z : State) (a0 : Array Value) (hw : ∀ d ∈ tables_1, d.before a0 Z = true) (ws : List Jvm.Cond) (p1 : Int32) (p2 : Int32) (p3 : Int32) (h0 : Heap) (n0 : Nat) (Z0 : n0 ≤ h0.size) :
    own_Con l Z x code maxLocals ret ws room_1 #[(.int p1), (.int p2), (.int p3)] h0 (fun v _ L => v = some (.int (1 : Int32)) ∧ Fr n0 L) := by
  refine own_body (plainFor_of_name pn0) ?_
  intro p e s m below meth c s₁ hx hby hml0 hZ hown0 hnm0 hret0 hk e0 X0
  have hown : s.vm.findClass "com/example/live_event_relay/liveeventrelay/WebSocketFramesIsSendablePinLaw" = some m.cls := hown0
  have hnm : meth.name = "law" := hnm0
  have hret : meth.sig.returnType = (some .boolean) := hret0
  have hml : c.maxLocals = 6 := hml0
  have N0 := Fr.nil n0
  refine own_cast (ef0 m p1 p2 p3) ?_
  refine own_go (T' := s₁) (g' := (mkF m 1 #[.val (.int p1), .val (.int p2), .val (.int p3), .unset, .unset, .unset] [(.int p2)])) (fun t_ k_ => ?_) ?_
  · refine XS.iloadN X0.here hx rfl (hb hby at_0) rfl ?_
    show Steps p.tables e below (s₁.setTop (mkF m 1 #[.val (.int p1), .val (.int p2), .val (.int p3), .unset, .unset, .unset] [(.int p2)])) _
    exact k_
  refine own_callS (y := (⟨"com/example/live_event_relay/liveeventrelay/WebSocketFramesIsSendablePinLaw", "boundary", "(I)I"⟩ : MethodName)) (W := 0) (rm := ({ frames := 0, cells := 0, slots := 0, locals := 0 } : Room)) (argsL := [(.int p2)]) (rest := []) X0 hx hZ hown (hw _ (List.mem_of_getElem? (i := 0) rfl)) (hw _ (List.mem_of_getElem? (i := 1) rfl)) (hw _ (List.mem_of_getElem? (i := 2) rfl)) (hw _ (List.mem_of_getElem? (i := 3) rfl)) (by decide) (rm1 l Z a0 hw [] p2 h0 n0 Z0) (by decide) (by decide) e0 (by decide) (by decide) rfl (by rw [hml]; rfl) (lenOf pd1 rfl) rfl (by show 2 * 0 + _ ≤ _; exact Nat.le_of_eq rfl) (hb hby at_1) ?_
  rintro _ T1 L1 X1 ⟨rfl, N1, e1⟩
  show own_Go p e below s room_1.cells room_1.slots (fun v _ L => v = some (.int (1 : Int32)) ∧ Fr n0 L) T1 (mkF m 4 #[.val (.int p1), .val (.int p2), .val (.int p3), .unset, .unset, .unset] [(.int (own_bd p2))])
  refine own_go (T' := T1) (g' := (mkF m 12 #[.val (.int p1), .val (.int p2), .val (.int p3), .val (.int ((own_bd p2) + ((p3 &&& (3 : Int32)) - (1 : Int32)))), .unset, .unset] [(.int p1)])) (fun t_ k_ => ?_) ?_
  · refine XS.iloadN X1.here hx rfl (hb hby at_4) rfl ?_
    show Steps p.tables e below (T1.setTop (mkF m 5 #[.val (.int p1), .val (.int p2), .val (.int p3), .unset, .unset, .unset] [(.int p3), (.int (own_bd p2))])) _
    refine XS.iconst X1.here hx rfl (hb hby at_5) ?_
    show Steps p.tables e below (T1.setTop (mkF m 6 #[.val (.int p1), .val (.int p2), .val (.int p3), .unset, .unset, .unset] [(.int (3 : Int32)), (.int p3), (.int (own_bd p2))])) _
    refine XS.iand X1.here hx rfl (hb hby at_6) rfl ?_
    show Steps p.tables e below (T1.setTop (mkF m 7 #[.val (.int p1), .val (.int p2), .val (.int p3), .unset, .unset, .unset] [(.int (p3 &&& (3 : Int32))), (.int (own_bd p2))])) _
    refine XS.iconst X1.here hx rfl (hb hby at_7) ?_
    show Steps p.tables e below (T1.setTop (mkF m 8 #[.val (.int p1), .val (.int p2), .val (.int p3), .unset, .unset, .unset] [(.int (1 : Int32)), (.int (p3 &&& (3 : Int32))), (.int (own_bd p2))])) _
    refine XS.isub X1.here hx rfl (hb hby at_8) rfl ?_
    show Steps p.tables e below (T1.setTop (mkF m 9 #[.val (.int p1), .val (.int p2), .val (.int p3), .unset, .unset, .unset] [(.int ((p3 &&& (3 : Int32)) - (1 : Int32))), (.int (own_bd p2))])) _
    refine XS.iadd X1.here hx rfl (hb hby at_9) rfl ?_
    show Steps p.tables e below (T1.setTop (mkF m 10 #[.val (.int p1), .val (.int p2), .val (.int p3), .unset, .unset, .unset] [(.int ((own_bd p2) + ((p3 &&& (3 : Int32)) - (1 : Int32))))])) _
    refine XS.istoreN X1.here hx rfl (hb hby at_10) rfl (l' := #[.val (.int p1), .val (.int p2), .val (.int p3), .val (.int ((own_bd p2) + ((p3 &&& (3 : Int32)) - (1 : Int32)))), .unset, .unset]) rfl ?_
    show Steps p.tables e below (T1.setTop (mkF m 11 #[.val (.int p1), .val (.int p2), .val (.int p3), .val (.int ((own_bd p2) + ((p3 &&& (3 : Int32)) - (1 : Int32)))), .unset, .unset] [])) _
    refine XS.iloadN X1.here hx rfl (hb hby at_11) rfl ?_
    show Steps p.tables e below (T1.setTop (mkF m 12 #[.val (.int p1), .val (.int p2), .val (.int p3), .val (.int ((own_bd p2) + ((p3 &&& (3 : Int32)) - (1 : Int32)))), .unset, .unset] [(.int p1)])) _
    exact k_
  obtain ⟨near, hnear⟩ : ∃ z : Int32, z = ((own_bd p2) + ((p3 &&& (3 : Int32)) - (1 : Int32))) := ⟨_, rfl⟩
  rw [← hnear]
  refine own_callS (y := (⟨"com/example/live_event_relay/liveeventrelay/WebSocketFrames", "isSendable", "(I)Z"⟩ : MethodName)) (W := 0) (rm := ({ frames := 0, cells := 0, slots := 0, locals := 0 } : Room)) (argsL := [(.int p1)]) (rest := []) X1 hx hZ hown (hw _ (List.mem_of_getElem? (i := 4) rfl)) (hw _ (List.mem_of_getElem? (i := 5) rfl)) (hw _ (List.mem_of_getElem? (i := 6) rfl)) (hw _ (List.mem_of_getElem? (i := 7) rfl)) (by decide) (rm2 l Z a0 hw [] p1 h0 n0 Z0) (by decide) (by decide) e1 (by decide) (by decide) rfl (by rw [hml]; rfl) (lenOf pd2 rfl) rfl (by show 2 * 0 + _ ≤ _; exact Nat.le_of_eq rfl) (hb hby at_12) ?_
  rintro _ T2 L2 X2 ⟨rfl, N2, e2⟩
  show own_Go p e below s room_1.cells room_1.slots (fun v _ L => v = some (.int (1 : Int32)) ∧ Fr n0 L) T2 (mkF m 15 #[.val (.int p1), .val (.int p2), .val (.int p3), .val (.int near), .unset, .unset] [(.int (own_ok p1))])
  refine own_go (T' := T2) (g' := (mkF m 16 #[.val (.int p1), .val (.int p2), .val (.int p3), .val (.int near), .unset, .unset] [(.int p1), (.int (own_ok p1))])) (fun t_ k_ => ?_) ?_
  · refine XS.iloadN X2.here hx rfl (hb hby at_15) rfl ?_
    show Steps p.tables e below (T2.setTop (mkF m 16 #[.val (.int p1), .val (.int p2), .val (.int p3), .val (.int near), .unset, .unset] [(.int p1), (.int (own_ok p1))])) _
    exact k_
  refine own_callS (y := (⟨"com/example/live_event_relay/liveeventrelay/WebSocketFramesIsSendablePinLaw", "reference", "(I)Z"⟩ : MethodName)) (W := 1) (rm := ({ frames := 0, cells := 0, slots := 0, locals := 0 } : Room)) (argsL := [(.int p1)]) (rest := [(.int (own_ok p1))]) X2 hx hZ hown (hw _ (List.mem_of_getElem? (i := 8) rfl)) (hw _ (List.mem_of_getElem? (i := 9) rfl)) (hw _ (List.mem_of_getElem? (i := 2) rfl)) (hw _ (List.mem_of_getElem? (i := 10) rfl)) (by decide) (rm3 l Z a0 hw [] p1 h0 n0 Z0) (by decide) (by decide) e2 (by decide) (by decide) rfl (by rw [hml]; rfl) (lenOf pd3 rfl) rfl (by show 2 * 0 + _ ≤ _; exact Nat.le_of_eq rfl) (hb hby at_16) ?_
  rintro _ T3 L3 X3 ⟨rfl, N3, e3⟩
  show own_Go p e below s room_1.cells room_1.slots (fun v _ L => v = some (.int (1 : Int32)) ∧ Fr n0 L) T3 (mkF m 19 #[.val (.int p1), .val (.int p2), .val (.int p3), .val (.int near), .unset, .unset] [(.int (own_rf p1)), (.int (own_ok p1))])
  have hf4 : (own_ok p1) = (own_rf p1) := own_same p1
  refine own_go (T' := T3) (g' := (mkF m 30 #[.val (.int p1), .val (.int p2), .val (.int p3), .val (.int near), .val (.int (1 : Int32)), .unset] [(.int near)])) (fun t_ k_ => ?_) ?_
  · refine XS.icmpNo X3.here hx rfl (hb hby at_19) rfl (teq hf4).2 ?_
    show Steps p.tables e below (T3.setTop (mkF m 22 #[.val (.int p1), .val (.int p2), .val (.int p3), .val (.int near), .unset, .unset] [])) _
    refine XS.iconst X3.here hx rfl (hb hby at_22) ?_
    show Steps p.tables e below (T3.setTop (mkF m 23 #[.val (.int p1), .val (.int p2), .val (.int p3), .val (.int near), .unset, .unset] [(.int (1 : Int32))])) _
    refine XS.goto X3.here hx rfl (pc0 := 23) (pc' := 27) rfl (hb hby at_23) (by decide) (by decide) ?_
    show Steps p.tables e below (T3.setTop (mkF m 27 #[.val (.int p1), .val (.int p2), .val (.int p3), .val (.int near), .unset, .unset] [(.int (1 : Int32))])) _
    refine XS.istore X3.here hx rfl (hb hby at_27) rfl (l' := #[.val (.int p1), .val (.int p2), .val (.int p3), .val (.int near), .val (.int (1 : Int32)), .unset]) rfl ?_
    show Steps p.tables e below (T3.setTop (mkF m 29 #[.val (.int p1), .val (.int p2), .val (.int p3), .val (.int near), .val (.int (1 : Int32)), .unset] [])) _
    refine XS.iloadN X3.here hx rfl (hb hby at_29) rfl ?_
    show Steps p.tables e below (T3.setTop (mkF m 30 #[.val (.int p1), .val (.int p2), .val (.int p3), .val (.int near), .val (.int (1 : Int32)), .unset] [(.int near)])) _
    exact k_
  refine own_callS (y := (⟨"com/example/live_event_relay/liveeventrelay/WebSocketFrames", "isSendable", "(I)Z"⟩ : MethodName)) (W := 0) (rm := ({ frames := 0, cells := 0, slots := 0, locals := 0 } : Room)) (argsL := [(.int near)]) (rest := []) X3 hx hZ hown (hw _ (List.mem_of_getElem? (i := 4) rfl)) (hw _ (List.mem_of_getElem? (i := 5) rfl)) (hw _ (List.mem_of_getElem? (i := 6) rfl)) (hw _ (List.mem_of_getElem? (i := 7) rfl)) (by decide) (rm2 l Z a0 hw [] near h0 n0 Z0) (by decide) (by decide) e3 (by decide) (by decide) rfl (by rw [hml]; rfl) (lenOf pd2 rfl) rfl (by show 2 * 0 + _ ≤ _; exact Nat.le_of_eq rfl) (hb hby at_30) ?_
  rintro _ T5 L5 X5 ⟨rfl, N5, e5⟩
  show own_Go p e below s room_1.cells room_1.slots (fun v _ L => v = some (.int (1 : Int32)) ∧ Fr n0 L) T5 (mkF m 33 #[.val (.int p1), .val (.int p2), .val (.int p3), .val (.int near), .val (.int (1 : Int32)), .unset] [(.int (own_ok near))])
  refine own_go (T' := T5) (g' := (mkF m 34 #[.val (.int p1), .val (.int p2), .val (.int p3), .val (.int near), .val (.int (1 : Int32)), .unset] [(.int near), (.int (own_ok near))])) (fun t_ k_ => ?_) ?_
  · refine XS.iloadN X5.here hx rfl (hb hby at_33) rfl ?_
    show Steps p.tables e below (T5.setTop (mkF m 34 #[.val (.int p1), .val (.int p2), .val (.int p3), .val (.int near), .val (.int (1 : Int32)), .unset] [(.int near), (.int (own_ok near))])) _
    exact k_
  refine own_callS (y := (⟨"com/example/live_event_relay/liveeventrelay/WebSocketFramesIsSendablePinLaw", "reference", "(I)Z"⟩ : MethodName)) (W := 1) (rm := ({ frames := 0, cells := 0, slots := 0, locals := 0 } : Room)) (argsL := [(.int near)]) (rest := [(.int (own_ok near))]) X5 hx hZ hown (hw _ (List.mem_of_getElem? (i := 8) rfl)) (hw _ (List.mem_of_getElem? (i := 9) rfl)) (hw _ (List.mem_of_getElem? (i := 2) rfl)) (hw _ (List.mem_of_getElem? (i := 10) rfl)) (by decide) (rm3 l Z a0 hw [] near h0 n0 Z0) (by decide) (by decide) e5 (by decide) (by decide) rfl (by rw [hml]; rfl) (lenOf pd3 rfl) rfl (by show 2 * 0 + _ ≤ _; exact Nat.le_of_eq rfl) (hb hby at_34) ?_
  rintro _ T6 L6 X6 ⟨rfl, N6, e6⟩
  show own_Go p e below s room_1.cells room_1.slots (fun v _ L => v = some (.int (1 : Int32)) ∧ Fr n0 L) T6 (mkF m 37 #[.val (.int p1), .val (.int p2), .val (.int p3), .val (.int near), .val (.int (1 : Int32)), .unset] [(.int (own_rf near)), (.int (own_ok near))])
  have hf7 : (own_ok near) = (own_rf near) := own_same near
  refine own_go (T' := T6) (g' := (mkF m 49 #[.val (.int p1), .val (.int p2), .val (.int p3), .val (.int near), .val (.int (1 : Int32)), .val (.int (1 : Int32))] [(.int (1 : Int32))])) (fun t_ k_ => ?_) ?_
  · refine XS.icmpNo X6.here hx rfl (hb hby at_37) rfl (teq hf7).2 ?_
    show Steps p.tables e below (T6.setTop (mkF m 40 #[.val (.int p1), .val (.int p2), .val (.int p3), .val (.int near), .val (.int (1 : Int32)), .unset] [])) _
    refine XS.iconst X6.here hx rfl (hb hby at_40) ?_
    show Steps p.tables e below (T6.setTop (mkF m 41 #[.val (.int p1), .val (.int p2), .val (.int p3), .val (.int near), .val (.int (1 : Int32)), .unset] [(.int (1 : Int32))])) _
    refine XS.goto X6.here hx rfl (pc0 := 41) (pc' := 45) rfl (hb hby at_41) (by decide) (by decide) ?_
    show Steps p.tables e below (T6.setTop (mkF m 45 #[.val (.int p1), .val (.int p2), .val (.int p3), .val (.int near), .val (.int (1 : Int32)), .unset] [(.int (1 : Int32))])) _
    refine XS.istore X6.here hx rfl (hb hby at_45) rfl (l' := #[.val (.int p1), .val (.int p2), .val (.int p3), .val (.int near), .val (.int (1 : Int32)), .val (.int (1 : Int32))]) rfl ?_
    show Steps p.tables e below (T6.setTop (mkF m 47 #[.val (.int p1), .val (.int p2), .val (.int p3), .val (.int near), .val (.int (1 : Int32)), .val (.int (1 : Int32))] [])) _
    refine XS.iload X6.here hx rfl (hb hby at_47) rfl ?_
    show Steps p.tables e below (T6.setTop (mkF m 49 #[.val (.int p1), .val (.int p2), .val (.int p3), .val (.int near), .val (.int (1 : Int32)), .val (.int (1 : Int32))] [(.int (1 : Int32))])) _
    exact k_
  have hf8 : ¬ ((1 : Int32) = (0 : Int32)) := by decide
  refine own_go (T' := T6) (g' := (mkF m 54 #[.val (.int p1), .val (.int p2), .val (.int p3), .val (.int near), .val (.int (1 : Int32)), .val (.int (1 : Int32))] [(.int (1 : Int32))])) (fun t_ k_ => ?_) ?_
  · refine XS.ifNo X6.here hx rfl (hb hby at_49) rfl ((if0 _ _).trans (feq hf8).1) ?_
    show Steps p.tables e below (T6.setTop (mkF m 52 #[.val (.int p1), .val (.int p2), .val (.int p3), .val (.int near), .val (.int (1 : Int32)), .val (.int (1 : Int32))] [])) _
    refine XS.iload X6.here hx rfl (hb hby at_52) rfl ?_
    show Steps p.tables e below (T6.setTop (mkF m 54 #[.val (.int p1), .val (.int p2), .val (.int p3), .val (.int near), .val (.int (1 : Int32)), .val (.int (1 : Int32))] [(.int (1 : Int32))])) _
    exact k_
  have hf9 : ¬ ((1 : Int32) = (0 : Int32)) := by decide
  refine own_go (T' := T6) (g' := (mkF m 62 #[.val (.int p1), .val (.int p2), .val (.int p3), .val (.int near), .val (.int (1 : Int32)), .val (.int (1 : Int32))] [(.int (1 : Int32))])) (fun t_ k_ => ?_) ?_
  · refine XS.ifNo X6.here hx rfl (hb hby at_54) rfl ((if0 _ _).trans (feq hf9).1) ?_
    show Steps p.tables e below (T6.setTop (mkF m 57 #[.val (.int p1), .val (.int p2), .val (.int p3), .val (.int near), .val (.int (1 : Int32)), .val (.int (1 : Int32))] [])) _
    refine XS.iconst X6.here hx rfl (hb hby at_57) ?_
    show Steps p.tables e below (T6.setTop (mkF m 58 #[.val (.int p1), .val (.int p2), .val (.int p3), .val (.int near), .val (.int (1 : Int32)), .val (.int (1 : Int32))] [(.int (1 : Int32))])) _
    refine XS.goto X6.here hx rfl (pc0 := 58) (pc' := 62) rfl (hb hby at_58) (by decide) (by decide) ?_
    show Steps p.tables e below (T6.setTop (mkF m 62 #[.val (.int p1), .val (.int p2), .val (.int p3), .val (.int near), .val (.int (1 : Int32)), .val (.int (1 : Int32))] [(.int (1 : Int32))])) _
    exact k_
  exact own_retZ X6 hx hret hk rfl (hb hby at_62) (by decide) (by decide) ⟨rfl, (Fr.app (Fr.app (Fr.app (Fr.app (Fr.app N0 N1) N2) N3) N5) N6)⟩
set_option maxRecDepth 65536 in
set_option maxHeartbeats 40000000 in
theorem comes_1 {Post : Tables → Env → Array Value → State → Outcome → State → Prop} (hpost : ∀ tb e args s v u, (limb_1_1.after args s (.returned v) u = true ∧ limb_1_2.after args s (.returned v) u = true ∧ True) → FrameEnd s (.returned v) u (Jvm.fieldLocs frame_1_writes args s ++ Jvm.arrayLocs frame_1_arrays args s ++ Jvm.staticLocs frame_1_statics s) 0 0 → Post tb e args s (.returned v) u) :
    ArmFor flags0 classFile x code maxLocals ret World_1 tables_1 room_1 Calls_1 rest_1 Pre_1 Post := by
  intro l hfl _ _ p e ha hc hk s m args below hf hA hF happ hP
  obtain ⟨hcalls, hrest, hpre⟩ := hP
  obtain ⟨-, -, -, hnamed, -, -, -, hat⟩ := (Spec.applies_iff hf).mp happ
  obtain ⟨hg, hn⟩ := and_e (Cond.before_iff.mp (show (Jvm.Cond.and given_1 narrow_1).before args s = true from hpre))
  obtain ⟨gc, gr0⟩ := and_e hg
  obtain ⟨gk0, gr1⟩ := and_e gr0
  obtain ⟨gk1, gr2⟩ := and_e gr1
  have gk2 := gr2
  obtain ⟨w0, w1, w2, rfl⟩ : ∃ w0 w1 w2 : Value, args = #[w0, w1, w2] := by
    have hs : args.size = 3 := by simpa [Cond.value, given_1] using gc
    obtain ⟨L⟩ := args
    match L, hs with
    | [w0, w1, w2], _ => exact ⟨w0, w1, w2, rfl⟩
  have hw := fun d (hd : d ∈ tables_1) => atoms_spec (ws := Jvm.Cond.code x code maxLocals ret :: tables_1) hat d (List.mem_cons_of_mem _ hd)
  have hfit : Fit s := fun {y c} hc i hi => by
    obtain ⟨ha, rfl⟩ := Array.getElem?_eq_some_iff.mp hc
    have q := List.all_eq_true.mp ((Array.all_eq_true_iff_forall_mem.mp hF) _ (Array.getElem_mem ha)) i (List.mem_range.mpr hi)
    simpa [Array.getElem?_eq_getElem hi] using q
  obtain ⟨i0, ei0⟩ := is_v gk0
  obtain rfl : w0 = (.int i0) := Option.some.inj ei0
  obtain ⟨i1, ei1⟩ := is_v gk1
  obtain rfl : w1 = (.int i1) := Option.some.inj ei1
  obtain ⟨i2, ei2⟩ := is_v gk2
  obtain rfl : w2 = (.int i2) := Option.some.inj ei2
  obtain ⟨n, o, h1, h2, h3, _, L, rfl, ⟨rfl, N⟩, hq⟩ := rm0 l s _ hw tables_1 i0 i1 i2 s.heap s.heap.size (Nat.le_refl _) p e ha hc hk s m _ below hf ((Spec.applies_iff_loose hf).mp happ).1 ⟨rfl, State.Warmed39.refl s, rfl⟩ trivial
  refine ⟨n, _, h1, h2, h3, hpost _ _ _ _ _ _ ⟨Cond.after_iff.mpr rfl, Cond.after_iff.mpr (eq_i res_at (Term.int_eval (1)) rfl), trivial⟩ ⟨hq.1, hq.2.1, (hq.2.2.sift fun y hy => Or.inr (N y hy)).mono (by decide) (by decide)⟩⟩
theorem main_1_1 : Claimed_1_1 := comes_1 fun _ _ _ _ _ _ h hF => ⟨h.1, hF⟩
theorem main_1_2 : Claimed_1_2 := comes_1 fun _ _ _ _ _ _ h hF => ⟨h.2.1, hF⟩
end Jvm.Pilot.@@N@@
namespace Jvm.Pilot.@@N@@
open Jvm Jvm.ClassFile Sem Op Lib Jvm.Free Jvm.Stand Jvm.Pilot.@@N@@.Jvm.D
/-! MADE BY PROGRAM (witnessworld.py) out of the Statement's table words and the real class files: 7 classes; the members and pool entries that the words name. The judged class is class 1, her method 3. -/
namespace start1
open Jvm.ClassFile
def u (s : String) : CpInfo := .utf8 (stringToUtf16 s)
/-- a pool by its gaps: so many unusable entries, then the entry; so many at the end -/
def gap : Nat → List CpInfo → List CpInfo
  | 0, r => r
  | n + 1, r => .unusable :: gap n r
def poolList (es : List (Nat × CpInfo)) (last : Nat) : List CpInfo := es.foldr (fun e r => gap e.1 (e.2 :: r)) (gap last [])
def pool (es : List (Nat × CpInfo)) (last : Nat) : Array CpInfo := ⟨poolList es last⟩
def fileOf (pool : Array CpInfo) (this : Nat) (attrs : Array Attribute := #[]) (ms : Array MethodInfo := #[]) (fl : Nat := 33) (sup : Nat := 0) (ifs : Array Nat := #[]) (fds : Array FieldInfo := #[]) : ClassFile where
  minorVersion := 0
  majorVersion := 65
  constantPool := pool
  accessFlags := fl
  thisClass := this
  superClass := sup
  interfaces := ifs
  fields := fds
  methods := ms
  attributes := attrs
def plain (name : String) (sup : Option ClassId) : Class where
  name := name
  kind := .ordinary
  loader := none
  accessFlags := 33
  super := sup
  interfaces := #[]
  cf := none
  fields := #[]
  methods := #[]
  instanceTypes := #[]
  staticTypes := #[]
  resolved := #[]
  callSites := []
  init := .initialized
  statics := none
  mirror := none

def pool0 : Array CpInfo := pool [(5, u "<init>"), (0, u "()V"), (1, .class_ 10), (1, u "java/lang/Object")] 113

def k0m0 : Method := { name := "<init>", desc := "()V", sig := { parameters := [], returnType := none }, accessFlags := 1, code := none }
/-- java/lang/Object -/
def k0 : Class := { plain "java/lang/Object" none with
  accessFlags := 33
  interfaces := #[]
  cf := some (fileOf pool0 8 #[] #[{ accessFlags := 1, nameIndex := 5, descriptorIndex := 6, attributes := #[] }] 33 0 #[] #[])
  fields := #[]
  methods := #[k0m0]
  instanceTypes := #[]
  staticTypes := #[]
  resolved := Array.replicate 124 none
  statics := none }

def pool1 : Array CpInfo := pool [(2, .class_ 4), (1, u "java/lang/Object"), (0, u "<init>"), (0, u "()V"), (0, .methodref 8 9), (0, .class_ 10), (0, .nameAndType 11 12), (0, u "com/example/live_event_relay/liveeventrelay/WebSocketFramesIsSendablePinLaw"), (0, u "boundary"), (0, u "(I)I"), (0, .methodref 14 15), (0, .class_ 16), (0, .nameAndType 17 18), (0, u "com/example/live_event_relay/liveeventrelay/WebSocketFrames"), (0, u "isSendable"), (0, u "(I)Z"), (0, .methodref 8 20), (0, .nameAndType 21 18), (0, u "reference"), (3, u "law"), (0, u "(III)Z")] 2

def k1m0 : Method := { name := "<init>", desc := "()V", sig := { parameters := [], returnType := none }, accessFlags := 2, code := none }
def k1c1 : Code := { maxStack := 2, maxLocals := 1, code := method_2_code, exceptionTable := #[], attributes := #[] }
def k1m1 : Method := { name := "reference", desc := "(I)Z", sig := { parameters := [.int], returnType := some .boolean }, accessFlags := 10, code := some k1c1 }
def k1c2 : Code := { maxStack := 2, maxLocals := 2, code := method_3_code, exceptionTable := #[], attributes := #[] }
def k1m2 : Method := { name := "boundary", desc := "(I)I", sig := { parameters := [.int], returnType := some .int }, accessFlags := 10, code := some k1c2 }
def k1c3 : Code := { maxStack := 3, maxLocals := 6, code := code, exceptionTable := #[], attributes := #[] }
def k1m3 : Method := { name := "law", desc := "(III)Z", sig := { parameters := [.int, .int, .int], returnType := some .boolean }, accessFlags := 9, code := some k1c3 }
/-- com/example/live_event_relay/liveeventrelay/WebSocketFramesIsSendablePinLaw -/
def k1 : Class := { plain "com/example/live_event_relay/liveeventrelay/WebSocketFramesIsSendablePinLaw" (some 0) with
  accessFlags := 49
  interfaces := #[]
  cf := some (fileOf pool1 8 #[] #[{ accessFlags := 2, nameIndex := 5, descriptorIndex := 6, attributes := #[] }, { accessFlags := 10, nameIndex := 21, descriptorIndex := 18, attributes := #[] }, { accessFlags := 10, nameIndex := 11, descriptorIndex := 12, attributes := #[] }, { accessFlags := 9, nameIndex := 25, descriptorIndex := 26, attributes := #[] }] 49 2 #[] #[])
  fields := #[]
  methods := #[k1m0, k1m1, k1m2, k1m3]
  instanceTypes := #[]
  staticTypes := #[]
  resolved := Array.replicate 29 none
  statics := none }

def pool2 : Array CpInfo := pool [(2, .class_ 4), (1, u "java/lang/Object"), (0, u "<init>"), (0, u "()V"), (0, .class_ 8), (0, u "com/example/live_event_relay/liveeventrelay/WebSocketFrames"), (81, u "CONTINUATION"), (0, u "I"), (2, u "TEXT"), (1, u "BINARY"), (1, u "CLOSE"), (1, u "PING"), (1, u "PONG"), (1, u "NO_STATUS"), (1, u "PROTOCOL_ERROR"), (1, u "INVALID_DATA"), (1, u "MAX_CONTROL"), (1, u "FIN"), (1, u "RESERVED"), (1, u "OPCODE"), (1, u "MASKED"), (0, u "LENGTH"), (1, u "LENGTH_16"), (1, u "LENGTH_64"), (0, u "MASK_BYTES"), (1, u "LONGEST_HEAD"), (6, u "isSendable"), (0, u "(I)Z"), (3, .class_ 139), (0, u "com/example/live_event_relay/liveeventrelay/WebSocketFrames$Reader"), (0, .class_ 141), (0, u "com/example/live_event_relay/liveeventrelay/WebSocketFrames$Listener")] 3

def k2m0 : Method := { name := "<init>", desc := "()V", sig := { parameters := [], returnType := none }, accessFlags := 2, code := none }
def k2c1 : Code := { maxStack := 2, maxLocals := 1, code := prog_15_method_5_code, exceptionTable := #[], attributes := #[] }
def k2m1 : Method := { name := "isSendable", desc := "(I)Z", sig := { parameters := [.int], returnType := some .boolean }, accessFlags := 8, code := some k2c1 }
/-- com/example/live_event_relay/liveeventrelay/WebSocketFrames -/
def k2 : Class := { plain "com/example/live_event_relay/liveeventrelay/WebSocketFrames" (some 0) with
  accessFlags := 32
  interfaces := #[]
  cf := some (fileOf pool2 7 #[.nestMembers #[138, 140]] #[{ accessFlags := 2, nameIndex := 5, descriptorIndex := 6, attributes := #[] }, { accessFlags := 8, nameIndex := 133, descriptorIndex := 134, attributes := #[] }] 32 2 #[] #[{ accessFlags := 24, nameIndex := 90, descriptorIndex := 91, attributes := #[] }, { accessFlags := 24, nameIndex := 94, descriptorIndex := 91, attributes := #[] }, { accessFlags := 24, nameIndex := 96, descriptorIndex := 91, attributes := #[] }, { accessFlags := 24, nameIndex := 98, descriptorIndex := 91, attributes := #[] }, { accessFlags := 24, nameIndex := 100, descriptorIndex := 91, attributes := #[] }, { accessFlags := 24, nameIndex := 102, descriptorIndex := 91, attributes := #[] }, { accessFlags := 24, nameIndex := 104, descriptorIndex := 91, attributes := #[] }, { accessFlags := 24, nameIndex := 106, descriptorIndex := 91, attributes := #[] }, { accessFlags := 24, nameIndex := 108, descriptorIndex := 91, attributes := #[] }, { accessFlags := 24, nameIndex := 110, descriptorIndex := 91, attributes := #[] }, { accessFlags := 26, nameIndex := 112, descriptorIndex := 91, attributes := #[] }, { accessFlags := 26, nameIndex := 114, descriptorIndex := 91, attributes := #[] }, { accessFlags := 26, nameIndex := 116, descriptorIndex := 91, attributes := #[] }, { accessFlags := 26, nameIndex := 118, descriptorIndex := 91, attributes := #[] }, { accessFlags := 26, nameIndex := 119, descriptorIndex := 91, attributes := #[] }, { accessFlags := 26, nameIndex := 121, descriptorIndex := 91, attributes := #[] }, { accessFlags := 26, nameIndex := 123, descriptorIndex := 91, attributes := #[] }, { accessFlags := 26, nameIndex := 124, descriptorIndex := 91, attributes := #[] }, { accessFlags := 26, nameIndex := 126, descriptorIndex := 91, attributes := #[] }])
  fields := #[{ name := "CONTINUATION", type := .int, accessFlags := 24, slot := 0, constantValue := 0 }, { name := "TEXT", type := .int, accessFlags := 24, slot := 1, constantValue := 0 }, { name := "BINARY", type := .int, accessFlags := 24, slot := 2, constantValue := 0 }, { name := "CLOSE", type := .int, accessFlags := 24, slot := 3, constantValue := 0 }, { name := "PING", type := .int, accessFlags := 24, slot := 4, constantValue := 0 }, { name := "PONG", type := .int, accessFlags := 24, slot := 5, constantValue := 0 }, { name := "NO_STATUS", type := .int, accessFlags := 24, slot := 6, constantValue := 0 }, { name := "PROTOCOL_ERROR", type := .int, accessFlags := 24, slot := 7, constantValue := 0 }, { name := "INVALID_DATA", type := .int, accessFlags := 24, slot := 8, constantValue := 0 }, { name := "MAX_CONTROL", type := .int, accessFlags := 24, slot := 9, constantValue := 0 }, { name := "FIN", type := .int, accessFlags := 26, slot := 10, constantValue := 0 }, { name := "RESERVED", type := .int, accessFlags := 26, slot := 11, constantValue := 0 }, { name := "OPCODE", type := .int, accessFlags := 26, slot := 12, constantValue := 0 }, { name := "MASKED", type := .int, accessFlags := 26, slot := 13, constantValue := 0 }, { name := "LENGTH", type := .int, accessFlags := 26, slot := 14, constantValue := 0 }, { name := "LENGTH_16", type := .int, accessFlags := 26, slot := 15, constantValue := 0 }, { name := "LENGTH_64", type := .int, accessFlags := 26, slot := 16, constantValue := 0 }, { name := "MASK_BYTES", type := .int, accessFlags := 26, slot := 17, constantValue := 0 }, { name := "LONGEST_HEAD", type := .int, accessFlags := 26, slot := 18, constantValue := 0 }]
  methods := #[k2m0, k2m1]
  instanceTypes := #[]
  staticTypes := #[.int, .int, .int, .int, .int, .int, .int, .int, .int, .int, .int, .int, .int, .int, .int, .int, .int, .int, .int]
  resolved := Array.replicate 145 none
  statics := none }

def pool3 : Array CpInfo := pool [(1, u "java/lang/Cloneable"), (0, .class_ 1), (0, u "java/lang/Object"), (0, .class_ 3)] 3

/-- java/lang/Cloneable -/
def k3 : Class := { plain "java/lang/Cloneable" (some 0) with
  accessFlags := 1537
  interfaces := #[]
  cf := some (fileOf pool3 2 #[] #[] 1537 4 #[] #[])
  fields := #[]
  methods := #[]
  instanceTypes := #[]
  staticTypes := #[]
  resolved := Array.replicate 8 none
  statics := none }

def pool4 : Array CpInfo := pool [(1, u "java/io/Serializable"), (0, .class_ 1), (0, u "java/lang/Object"), (0, .class_ 3)] 3

/-- java/io/Serializable -/
def k4 : Class := { plain "java/io/Serializable" (some 0) with
  accessFlags := 1537
  interfaces := #[]
  cf := some (fileOf pool4 2 #[] #[] 1537 4 #[] #[])
  fields := #[]
  methods := #[]
  instanceTypes := #[]
  staticTypes := #[]
  resolved := Array.replicate 8 none
  statics := none }

/-- the primitive byte -/
def k5 : Class := { plain "byte" none with kind := .primitive 'B', accessFlags := 0x411 }
/-- [B -/
def k6 : Class := { plain "[B" (some 0) with kind := .array 5 .byte, interfaces := #[3, 4], accessFlags := 1041 }

def heap : Heap := #[]
def classes : Array Class := #[k0, k1, k2, k3, k4, k5, k6]
def interned : List (Array UInt16 × Addr) := []
def slotsUsed : Nat := 0
def theMethod : MethodId := ⟨1, 3⟩
def args0 : Array Value := #[.int 5, .int 6, .int 7]
def aboutOver (below : List Frame) : State where
  vm := { classes := classes, interned := interned.toArray }
  heap := heap
  slotsUsed := slotsUsed
  threads := #[{ frames := .invoking theMethod args0 :: below }]
def below0 : List Frame := [.native { method := ⟨0, 0⟩, args := #[] }]
def about1 : State := aboutOver below0
def p0 : Program := .bare "" "" ""
def e0 : Env := launch0.env 0 0 0
theorem w_frames : about1.frames = Frame.invoking theMethod args0 :: below0 := rfl
set_option maxRecDepth 65536 in
theorem w_args : argsFit about1.vm theMethod args0 = true := by decide +kernel
set_option maxRecDepth 65536 in
theorem w_heap : heapFits about1 = true := by decide +kernel
set_option maxRecDepth 65536 in
theorem w_runnable : about1.curStatus? = some .runnable := by decide +kernel
set_option maxRecDepth 65536 in
theorem w_alone : about1.alone = true := by decide +kernel
set_option maxRecDepth 65536 in
theorem w_named : about1.methodNamed? x = some theMethod := by decide +kernel
set_option maxRecDepth 65536 in
theorem w_hears : about1.hears theMethod below0 = true := by decide +kernel
set_option maxRecDepth 65536 in
theorem w_ripe : about1.ripe theMethod args0 below0 = true := by decide +kernel
theorem w_running : about1.status = .running := rfl
set_option maxRecDepth 65536 in
theorem w_room : about1.hasRoom e0.platform room_1 = true :=
  launch0.hasRoom_least _ room_1 (by decide +kernel) (by decide +kernel) (by decide +kernel) (by decide +kernel) (by decide +kernel) (by decide +kernel)
theorem allAtoms_all (ts : List Jvm.Cond) (a : Array Jvm.Value) (st : Jvm.State) : (allAtoms ts).before a st = ts.all (fun c => c.before a st) := by
  induction ts with
  | nil => rfl
  | cons c t ih =>
    show (Jvm.Cond.and c (allAtoms t)).before a st = _
    rw [Jvm.Cond.before_and, ih, List.all_cons]
def words1 : List Jvm.Cond := Jvm.Cond.code x code maxLocals ret :: tables_1
/-- a 'code' word, met by the world's own term for the bytes: nothing is compared byte by byte -/
theorem code_word {y : MethodName} {bytes : ByteArray} {mx : Nat} {rt : Option FieldType} {a : Array Value} {s : State} {m : MethodId} {meth : Method} {c : Code} (h1 : s.methodNamed? y = some m) (h2 : s.vm.method? m = some meth) (h3 : meth.code = some c) (h4 : c.code = bytes)
    (h5 : (c.maxLocals == mx && c.exceptionTable.isEmpty && decide (c.maxStack ≤ mostOperands) && decide (meth.sig.returnType = rt) && !meth.locks && decide (parseMethodDescriptor y.desc = some meth.sig)) = true) : (Jvm.Cond.code y bytes mx rt).before a s = true := by
  simp only [Bool.and_eq_true, beq_iff_eq, Bool.not_eq_true', decide_eq_true_eq] at h5
  obtain ⟨⟨⟨⟨⟨g1, g2⟩, g3⟩, g4⟩, g5⟩, g6⟩ := h5
  simp [Cond.before, Cond.holds, Cond.value, h1, h2, h3, h4, g1, g2, g3, g4, g5, g6]
def isCode : Jvm.Cond → Bool
  | .code _ _ _ _ => true
  | _ => false
theorem all_split {L : List Jvm.Cond} {P : Jvm.Cond → Bool} (h1 : L.all (fun c => isCode c || P c) = true) (h2 : ∀ c ∈ L.filter isCode, P c = true) : L.all P = true := by
  refine List.all_eq_true.mpr fun c hc => ?_
  have h := List.all_eq_true.mp h1 c hc
  rcases Bool.eq_false_or_eq_true (isCode c) with hi | hi
  · exact h2 c (List.mem_filter.mpr ⟨hc, hi⟩)
  · simpa [hi] using h
set_option maxRecDepth 65536 in
theorem w_c0 : (Jvm.Cond.code x code maxLocals ret).before args0 about1 = true := code_word (m := ⟨1, 3⟩) (meth := k1m3) (c := k1c3) (by decide +kernel) rfl rfl rfl (by decide +kernel)
set_option maxRecDepth 65536 in
theorem w_c1 : (Jvm.Cond.code ({ cls := "com/example/live_event_relay/liveeventrelay/WebSocketFramesIsSendablePinLaw", name := "boundary", desc := "(I)I" } : Jvm.MethodName) method_3_code (2 : Nat) (Option.some Jvm.ClassFile.FieldType.int)).before args0 about1 = true := code_word (m := ⟨1, 2⟩) (meth := k1m2) (c := k1c2) (by decide +kernel) rfl rfl rfl (by decide +kernel)
set_option maxRecDepth 65536 in
theorem w_c2 : (Jvm.Cond.code ({ cls := "com/example/live_event_relay/liveeventrelay/WebSocketFrames", name := "isSendable", desc := "(I)Z" } : Jvm.MethodName) prog_15_method_5_code (1 : Nat) (Option.some Jvm.ClassFile.FieldType.boolean)).before args0 about1 = true := code_word (m := ⟨2, 1⟩) (meth := k2m1) (c := k2c1) (by decide +kernel) rfl rfl rfl (by decide +kernel)
set_option maxRecDepth 65536 in
theorem w_c3 : (Jvm.Cond.code ({ cls := "com/example/live_event_relay/liveeventrelay/WebSocketFramesIsSendablePinLaw", name := "reference", desc := "(I)Z" } : Jvm.MethodName) method_2_code (1 : Nat) (Option.some Jvm.ClassFile.FieldType.boolean)).before args0 about1 = true := code_word (m := ⟨1, 1⟩) (meth := k1m1) (c := k1c1) (by decide +kernel) rfl rfl rfl (by decide +kernel)
def codes1 : List Jvm.Cond := [Jvm.Cond.code x code maxLocals ret, Jvm.Cond.code ({ cls := "com/example/live_event_relay/liveeventrelay/WebSocketFramesIsSendablePinLaw", name := "boundary", desc := "(I)I" } : Jvm.MethodName) method_3_code (2 : Nat) (Option.some Jvm.ClassFile.FieldType.int), Jvm.Cond.code ({ cls := "com/example/live_event_relay/liveeventrelay/WebSocketFrames", name := "isSendable", desc := "(I)Z" } : Jvm.MethodName) prog_15_method_5_code (1 : Nat) (Option.some Jvm.ClassFile.FieldType.boolean), Jvm.Cond.code ({ cls := "com/example/live_event_relay/liveeventrelay/WebSocketFramesIsSendablePinLaw", name := "reference", desc := "(I)Z" } : Jvm.MethodName) method_2_code (1 : Nat) (Option.some Jvm.ClassFile.FieldType.boolean)]
set_option maxRecDepth 65536 in
theorem codes_eq : words1.filter isCode = codes1 := rfl
theorem w_codes : ∀ c ∈ words1.filter isCode, c.before args0 about1 = true := by
  rw [codes_eq]
  intro c hc
  simp only [codes1, List.mem_cons, List.not_mem_nil, or_false] at hc
  rcases hc with rfl | rfl | rfl | rfl
  · exact w_c0
  · exact w_c1
  · exact w_c2
  · exact w_c3
set_option maxRecDepth 65536 in
theorem w_t1 : words1.all (fun c => isCode c || c.before args0 about1) = true := by decide +kernel
theorem w_tables : (allAtoms (Jvm.Cond.code x code maxLocals ret :: tables_1)).before args0 about1 = true := by
  rw [allAtoms_all]
  show words1.all (fun c => c.before args0 about1) = true
  refine all_split ?_ w_codes
  rw [w_t1]
set_option maxRecDepth 65536 in
theorem w_case : (Jvm.Cond.and given_1 narrow_1).before args0 about1 = true := by decide +kernel
theorem w_applies : (headSpec (Jvm.Cond.code x code maxLocals ret :: tables_1) room_1).applies x e0.platform about1 = true :=
  (Spec.applies_iff w_frames).mpr ⟨w_running, w_runnable, w_alone, w_named, w_hears, w_ripe, w_room, w_tables⟩
theorem atStart : AtStart classFile x code maxLocals ret World_1 tables_1 room_1 Calls_1 rest_1 Pre_1 launch0 p0 e0 about1 theMethod args0 below0 :=
  ⟨lists_1, trivial, launch0.admits_env _ _ _, launch0.least_env, fairChoices_fair.cas, fairChoices_fair.clock, w_frames, w_args, w_heap, w_applies, trivial, trivial, w_case⟩
end start1
theorem witness_1 : WitnessClaimed_1 := ⟨start1.p0, start1.e0, start1.about1, start1.theMethod, start1.args0, start1.below0, start1.atStart⟩
end Jvm.Pilot.@@N@@
