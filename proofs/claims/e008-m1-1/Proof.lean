import JvmDerived
import JvmDerived.Pilot.@@N@@Statement
import JvmDerived.Pilot.@@N@@Code
set_option linter.unusedVariables false
set_option linter.unusedSimpArgs false
namespace Jvm.OwnGo
open Sem ClassFile Op Lib Jvm.Stand Jvm.Free Jvm.LawKit Jvm.RoadKit
/-- from the state T with the frame g on top the run comes to the body's end, what is left there meets Q, and the end is framed as E says -/
def Go (p : Program) (e : Env) (below : List Frame) (E : Outcome → State → List Loc → Prop) (Q : Option Value → Heap → List Loc → Prop) (T : State) (g : JFrame) : Prop :=
  ∃ s₂ o, Steps p.tables e below (T.setTop g) s₂ ∧ s₂.status = .running ∧ Ended s₂ below o ∧ ∃ v L, o = .returned v ∧ Q v s₂.heap L ∧ E o s₂ L
abbrev En (s : State) (kc ks : Nat) : Outcome → State → List Loc → Prop := fun o t L => FrameEnd s o t L kc ks
/-- the wide end: the run may have interned its literals -/
abbrev EnW (s : State) (kc ks : Nat) : Outcome → State → List Loc → Prop := fun o t L => ReturnedEndW s o t L kc ks
/-- what a body promises, at one heap and one row of arguments -/
def Ctr (l : Launch) (Z : State) (y : MethodName) (bytes : ByteArray) (maxL : Nat) (ret : Option FieldType) (rm : Room) (as : Array Value) (h : Heap) (Q : Option Value → Heap → List Loc → Prop) : Prop :=
  ∀ ws : List Jvm.Cond, MetFree l y (head1 (Jvm.Cond.code y bytes maxL ret :: ws) rm) (fun a U => a = as ∧ Z.Warmed39 U.vm ∧ U.heap = h) (fun _ _ _ _ _ => True) (fun _ U o U' => ∃ v L, o = .returned v ∧ Q v U'.heap L ∧ FrameEnd U o U' L rm.cells rm.slots)
/-- the same of a body that may intern its literals -/
def CtrW (l : Launch) (Z : State) (y : MethodName) (bytes : ByteArray) (maxL : Nat) (ret : Option FieldType) (rm : Room) (as : Array Value) (h : Heap) (Q : Option Value → Heap → List Loc → Prop) : Prop :=
  ∀ ws : List Jvm.Cond, MetFree l y (head1 (Jvm.Cond.code y bytes maxL ret :: ws) rm) (fun a U => a = as ∧ Z.Warmed39 U.vm ∧ U.heap = h) (fun _ _ _ _ _ => True) (fun _ U o U' => ∃ v L, o = .returned v ∧ Q v U'.heap L ∧ ReturnedEndW U o U' L rm.cells rm.slots)
/-- how a walk that stands here may leave -/
def Lv (e : Env) (m : MethodId) (meth : Method) (below : List Frame) (E : Outcome → State → List Loc → Prop) (T : State) (locs : List Loc) : Prop :=
  ∀ v : Option Value, (meth.sig.returnType = none → v = none) → ∃ fs, (∀ (f : JFrame) (acts : List Action), f.method = m → f.locked = none → f.entered = [] → (doReturn e (T.setTop f) acts v).1 = T.setFrames fs) ∧ (T.setFrames fs).status = .running ∧ Ended (T.setFrames fs) below (.returned v) ∧ E (.returned v) (T.setFrames fs) locs
abbrev us (x y : Int32) : Int32 := (x.toUInt32 >>> (y &&& 31).toUInt32).toInt32
abbrev usL (x : Int64) (y : Int32) : Int64 := (x.toUInt64 >>> (y &&& 0x3f).toInt64.toUInt64).toInt64
section G
variable {p : Program} {l : Launch} {e : Env} {R : Room} {s : State} {m : MethodId} {args : Array Value} {below : List Frame} {meth : Method} {c : Code} {T T' : State} {locs : List Loc} {cells slots : Nat} {E : Outcome → State → List Loc → Prop} {Q : Option Value → Heap → List Loc → Prop} {kc ks : Nat} {g g' : JFrame} {Z : State} {a0 : Array Value} {h : Heap}
/-- another state that stands as this one does -/
abbrev Same (X : Stand p l e R s m args below meth c T locs cells slots) (T' : State) : Prop := Stand p l e R s m args below meth c T' locs cells slots
theorem Go.by (st : ∀ t, Steps p.tables e below (T'.setTop g') t → Steps p.tables e below (T.setTop g) t) (k : Go p e below E Q T' g') : Go p e below E Q T g := by
  obtain ⟨s₂, o, h1, h2⟩ := k
  exact ⟨s₂, o, st _ h1, h2⟩
theorem Lv.narrow (X : Stand p l e R s m args below meth c T locs cells slots) (hlk : meth.locks = false) (hc : cells ≤ kc) (hs : slots ≤ ks) : Lv e m meth below (En s kc ks) T locs := by
  intro v hv
  obtain ⟨fs, hr, hrun, hended, hW, hsame⟩ := X.leave (v := v) hv hlk
  exact ⟨fs, hr, hrun, hended, ⟨_, rfl⟩, hW, hsame.mono hc hs⟩
theorem Lv.wide {vm0 : Vm} {k0 : Nat} (X : Stand p l e R (s.setVm vm0) m args below meth c T locs cells slots) (hlk : meth.locks = false) (hS : s.Since vm0 k0) (hk : k0 ≤ T.heap.size) (hc : cells ≤ kc) (hs : slots ≤ ks) : Lv e m meth below (EnW s kc ks) T locs := by
  intro v hv
  obtain ⟨fs, hr, hrun, hended, h1, h2, h3, hsame⟩ := X.leaveW hS hk (v := v) hv hlk
  exact ⟨fs, hr, hrun, hended, h1, h2, h3, hsame.mono hc hs⟩
theorem Go.out (lv : Lv e m meth below E T locs) {v : Option Value} (hv : meth.sig.returnType = none → v = none) (hQ : Q v T.heap locs)
    (st : ∀ fs, (∀ (f : JFrame) (acts : List Action), f.method = m → f.locked = none → f.entered = [] → (doReturn e (T.setTop f) acts v).1 = T.setFrames fs) → Steps p.tables e below (T.setTop g) (T.setFrames fs)) : Go p e below E Q T g := by
  obtain ⟨fs, hr, hrun, hended, hE⟩ := lv v hv
  exact ⟨_, _, st fs hr, hrun, hended, v, locs, rfl, hQ, hE⟩
theorem Go.outV (X : Stand p l e R s m args below meth c T locs cells slots) (hx : p.tables.exec = Jvm.exec) {t : FieldType} {w : Value} {i : Instr} {pc : Nat} {Ls : Array Slot} {rest : List Value} (hret : meth.sig.returnType = some t) (lv : Lv e m meth below E T locs)
    (hn : narrow t w = w)
    (hi : (i = .ireturn ∧ (t = .int ∨ t = .boolean ∨ t = .byte ∨ t = .char ∨ t = .short) ∧ ∃ z, w = .int z) ∨ (i = .lreturn ∧ t = .long ∧ ∃ z, w = .long z) ∨ (i = .dreturn ∧ t = .double ∧ ∃ z, w = .double z) ∨ (i = .freturn ∧ t = .float ∧ ∃ z, w = .float z) ∨ (i = .areturn ∧ t.isReference = true ∧ w.isRef = true))
    (hd : decode c.code pc = .ok (i, 1)) (hQ : Q (some w) T.heap locs) : Go p e below E Q T (mkF m pc Ls (w :: rest)) :=
  Go.out lv (fun h => by rw [hret] at h; cases h) hQ (fun fs hr => retOut X hx hret hn hi hd hr)
theorem Go.outI (X : Stand p l e R s m args below meth c T locs cells slots) (hx : p.tables.exec = Jvm.exec) {z : Int32} {pc : Nat} {Ls : Array Slot} {rest : List Value} (hret : meth.sig.returnType = some .int) (lv : Lv e m meth below E T locs)
    (hd : decode c.code pc = .ok (.ireturn, 1)) (hQ : Q (some (.int z)) T.heap locs) : Go p e below E Q T (mkF m pc Ls (.int z :: rest)) :=
  Go.outV X hx hret lv rfl (Or.inl ⟨rfl, Or.inl rfl, z, rfl⟩) hd hQ
theorem Go.outZ (X : Stand p l e R s m args below meth c T locs cells slots) (hx : p.tables.exec = Jvm.exec) {z : Int32} {pc : Nat} {Ls : Array Slot} {rest : List Value} (hret : meth.sig.returnType = some .boolean) (lv : Lv e m meth below E T locs)
    (hd : decode c.code pc = .ok (.ireturn, 1)) (hz : z = 0 ∨ z = 1) (hQ : Q (some (.int z)) T.heap locs) : Go p e below E Q T (mkF m pc Ls (.int z :: rest)) :=
  Go.outV X hx hret lv (by rcases hz with rfl | rfl <;> rfl) (Or.inl ⟨rfl, Or.inr (Or.inl rfl), z, rfl⟩) hd hQ
theorem Go.outJ (X : Stand p l e R s m args below meth c T locs cells slots) (hx : p.tables.exec = Jvm.exec) {z : Int64} {pc : Nat} {Ls : Array Slot} {rest : List Value} (hret : meth.sig.returnType = some .long) (lv : Lv e m meth below E T locs)
    (hd : decode c.code pc = .ok (.lreturn, 1)) (hQ : Q (some (.long z)) T.heap locs) : Go p e below E Q T (mkF m pc Ls (.long z :: rest)) :=
  Go.outV X hx hret lv rfl (Or.inr (Or.inl ⟨rfl, rfl, z, rfl⟩)) hd hQ
theorem nar_ref {t : FieldType} {w : Value} (ht : t.isReference = true) : narrow t w = w := by cases t <;> first | rfl | (simp [FieldType.isReference] at ht)
theorem Go.outA (X : Stand p l e R s m args below meth c T locs cells slots) (hx : p.tables.exec = Jvm.exec) {w : Value} {t : FieldType} {pc : Nat} {Ls : Array Slot} {rest : List Value} (hret : meth.sig.returnType = some t) (lv : Lv e m meth below E T locs) (ht : t.isReference = true) (hw : w.isRef = true)
    (hd : decode c.code pc = .ok (.areturn, 1)) (hQ : Q (some w) T.heap locs) : Go p e below E Q T (mkF m pc Ls (w :: rest)) :=
  Go.outV X hx hret lv (nar_ref ht) (Or.inr (Or.inr (Or.inr (Or.inr ⟨rfl, ht, hw⟩)))) hd hQ
theorem Go.outN (X : Stand p l e R s m args below meth c T locs cells slots) (hx : p.tables.exec = Jvm.exec) {pc : Nat} {Ls : Array Slot} (hret : meth.sig.returnType = none) (lv : Lv e m meth below E T locs)
    (hd : decode c.code pc = .ok (.return_, 1)) (hQ : Q none T.heap locs) : Go p e below E Q T (mkF m pc Ls []) :=
  Go.out lv (fun _ => rfl) hQ (fun fs hr => X.returnOut hx hret hd hr)
theorem Ctr.of {y : MethodName} {bytes : ByteArray} {maxL : Nat} {ret : Option FieldType} {rm : Room} {as : Array Value} {Ls : Array Slot} (hpn : plainFor y = true) (hef : ∀ m, entryFrame m as maxL = mkF m 0 Ls [])
    (body : ∀ (p : Program) (e : Env) (s : State) (m : MethodId) (below : List Frame) (meth : Method) (c : Code) (T0 : State), p.tables.exec = Jvm.exec → c.code = bytes → c.maxLocals = maxL → meth.sig.returnType = ret → meth.locks = false → meth.name = y.name → Z.Warmed39 s.vm → s.vm.findClass y.cls = some m.cls → T0.heap = h → Stand p l e rm s m as below meth c T0 [] 0 0 → Go p e below (En s rm.cells rm.slots) Q T0 (mkF m 0 Ls [])) :
    Ctr l Z y bytes maxL ret rm as h Q := by
  intro ws
  refine MetFree.of_bodySF hpn hisR ?_
  intro p e s m args below meth c s₁ Bd hml0 hP hK
  obtain ⟨ha, hZ, hh⟩ := hP
  subst ha
  have X0 : Stand p l e rm s m args below meth c s₁ [] 0 0 := Stand.of_body Bd
  obtain ⟨s₂, o, h1, h2⟩ := body p e s m below meth c s₁ Bd.exec Bd.bytes hml0 Bd.returns (BodyLoose.notSynchronized Bd) (name_of_methodNamed Bd.named Bd.method).1 hZ (findClass_of_methodNamed Bd.named) (by rw [← hh, Bd.state]; rfl) X0
  exact ⟨s₂, o, castTop (hef m) h1, h2⟩
theorem CtrW.of {y : MethodName} {bytes : ByteArray} {maxL : Nat} {ret : Option FieldType} {rm : Room} {as : Array Value} {Ls : Array Slot} (hpn : plainFor y = true) (hef : ∀ m, entryFrame m as maxL = mkF m 0 Ls [])
    (body : ∀ (p : Program) (e : Env) (s : State) (vm0 : Vm) (m : MethodId) (below : List Frame) (meth : Method) (c : Code) (T0 : State), p.tables.exec = Jvm.exec → c.code = bytes → c.maxLocals = maxL → meth.sig.returnType = ret → meth.locks = false → meth.name = y.name → s.Since vm0 0 → Z.Warmed39 (s.setVm vm0).vm → (s.setVm vm0).vm.findClass y.cls = some m.cls → T0.heap = h → Stand p l e rm (s.setVm vm0) m as below meth c T0 [] 0 0 → Go p e below (EnW s rm.cells rm.slots) Q T0 (mkF m 0 Ls [])) :
    CtrW l Z y bytes maxL ret rm as h Q := by
  intro ws
  refine MetFree.of_bodySF hpn hisR ?_
  intro p e s m args below meth c s₁ Bd hml0 hP hK
  obtain ⟨ha, hZ, hh⟩ := hP
  subst ha
  have X0 : Stand p l e rm s m args below meth c s₁ [] 0 0 := Stand.of_body Bd
  obtain ⟨s₂, o, h1, h2⟩ := body p e s s.vm m below meth c s₁ Bd.exec Bd.bytes hml0 Bd.returns (BodyLoose.notSynchronized Bd) (name_of_methodNamed Bd.named Bd.method).1 (State.WarmedH.since (State.WarmedH.refl s) 0) hZ (findClass_of_methodNamed Bd.named) (by rw [← hh, Bd.state]; rfl) X0
  exact ⟨s₂, o, castTop (hef m) h1, h2⟩
/-- a contract may promise less -/
theorem Ctr.weaken {y : MethodName} {bytes : ByteArray} {maxL : Nat} {ret : Option FieldType} {rm : Room} {as : Array Value} {Q' : Option Value → Heap → List Loc → Prop} (K : Ctr l Z y bytes maxL ret rm as h Q) (q : ∀ v h' L, Q v h' L → Q' v h' L) : Ctr l Z y bytes maxL ret rm as h Q' := by
  intro ws p e ha hc hk s m args below hf happ hP hK
  obtain ⟨n, o, h1, h2, h3, v, L, h4, h5, h6⟩ := K ws p e ha hc hk s m args below hf happ hP hK
  exact ⟨n, o, h1, h2, h3, v, L, h4, q _ _ _ h5, h6⟩
theorem Go.ldc {vm0 : Vm} {k0 : Nat} (X : Stand p l e R (s.setVm vm0) m args below meth c T locs cells slots) (hx : p.tables.exec = Jvm.exec) (hZ : Z.Warmed39 (s.setVm vm0).vm) {own text : String} {index : Nat} (hown : (s.setVm vm0).vm.findClass own = some m.cls) (w : (Cond.stringLink own index text).before a0 Z = true) (wS : ∀ a ∈ Bundle.stringAtoms, a.before a0 Z = true)
    (eT : T.heap = h) (hS : s.Since vm0 k0) (hk : k0 ≤ h.size) {g : JFrame} (hg : g.method = m) (hd : decode c.code g.pc = .ok (.ldc index, 2)) {n : Nat} (hn : 4 * text.toList.length ≤ n) (hbig : n ≤ 536870912) (hc : cells + 2 ≤ R.cells) (hl : slots + (n + 4) ≤ R.slots)
    (k : ∀ (a : Addr) (T' : State) (h' : Heap) (k1 : Nat), Stand p l e R (s.setVm T'.vm) m args below meth c T' locs (cells + 2) (slots + (n + 4)) → T'.heap = h' → Ext h h' → s.Since T'.vm k1 → k1 ≤ h'.size → Z.Warmed39 (s.setVm T'.vm).vm → (s.setVm T'.vm).vm.findClass own = some m.cls → Go p e below E Q T' { g with pc := g.pc + 2, stack := .ref a :: g.stack }) : Go p e below E Q T g := by
  obtain ⟨a, T', h', k1, X', e', E', hS', hk', hZ', hown', st⟩ := ldcS X hx hZ hown w wS eT hS hk hg hd hn hbig hc hl
  exact Go.by st (k a T' h' k1 X' e' E' hS' hk' hZ' hown')
theorem Go.callS (X : Stand p l e R s m args below meth c T locs cells slots) (hx : p.tables.exec = Jvm.exec) (hZ : Z.Warmed39 s.vm) {own : String} {index : Nat} {y : MethodName} {bytes : ByteArray} {maxL : Nat} {ret : Option FieldType}
    (hown : s.vm.findClass own = some m.cls) (w1 : (Cond.methodLink own index y).before a0 Z = true) (w2 : (Cond.static y).before a0 Z = true) (w3 : (Cond.initialized y.cls).before a0 Z = true)
    (w4 : (Cond.code y bytes maxL ret).before a0 Z = true) (hy : y.cls ≠ "java/lang/invoke/MethodHandle" ∧ y.cls ≠ "java/lang/invoke/VarHandle")
    {W : Nat} {rm : Room} {argsL rest : List Value} {Qc : Option Value → Heap → List Loc → Prop} (hM : Ctr l Z y bytes maxL ret rm argsL.toArray h Qc) (hf : rm.frames + 1 ≤ R.frames) (hl : W + (maxL + 11) + rm.locals ≤ R.locals) (hc : cells + rm.cells ≤ R.cells) (hs : slots + rm.slots ≤ R.slots)
    {g : JFrame} (hg : g.method = m) (hsize : g.locals.size = c.maxLocals) (hlen : ∀ sig, parseMethodDescriptor y.desc = some sig → argsL.length = sig.parameters.length)
    (hstack : g.stack = argsL.reverse ++ rest) (hW : 2 * g.monitorRoom + (rest.map fun v => v.category).sum ≤ W) (hdg : decode c.code g.pc = .ok (.invokestatic index, 3)) (eT : T.heap = h)
    (k : ∀ T' L v, Stand p l e R s m args below meth c T' (locs ++ L) (cells + rm.cells) (slots + rm.slots) → Qc v T'.heap L → Go p e below E Q T' { g with pc := g.pc + 3, stack := v.toList ++ rest }) : Go p e below E Q T g := by
  obtain ⟨v, _, ⟨T3, L3, k3, n3⟩, -, X3, ⟨Lc3, hQ3, l3, y3, z3⟩, st3⟩ := Jvm.LawKit.callS X hx (y := y) hown (mvT hZ w1) (mvT hZ w2) (mvT hZ w3) (mvT hZ w4) hy (backOf (W := W) (hM []) hZ w4 w3 hf hl) (g := g) hg hsize (argsL := argsL) (rest := rest) hlen hstack hW hdg (fun _ _ => ⟨rfl, eT, hc, hs⟩)
  dsimp only [Pt.U, Pt.locs, Pt.cells, Pt.slots] at X3 l3 y3 z3 st3 hQ3
  subst l3 y3 z3
  exact Go.by st3 (k _ _ _ X3 hQ3)
theorem Go.callI (X : Stand p l e R s m args below meth c T locs cells slots) (hx : p.tables.exec = Jvm.exec) (hZ : Z.Warmed39 s.vm) {own : String} {index : Nat} {y : MethodName} {bytes : ByteArray} {maxL : Nat} (hy1 : y.name = "<init>")
    (hown : s.vm.findClass own = some m.cls) (w1 : (Cond.methodLink own index y).before a0 Z = true) (w2 : (Cond.instanceMethod y).before a0 Z = true) (w3 : (Cond.initialized y.cls).before a0 Z = true)
    (w4 : (Cond.code y bytes maxL none).before a0 Z = true) (hy : y.cls ≠ "java/lang/invoke/MethodHandle" ∧ y.cls ≠ "java/lang/invoke/VarHandle")
    {W : Nat} {rm : Room} {a : Addr} {argsL rest : List Value} {Qc : Option Value → Heap → List Loc → Prop} (hM : Ctr l Z y bytes maxL none rm (.ref a :: argsL).toArray h Qc) (hf : rm.frames + 1 ≤ R.frames) (hl : W + (maxL + 11) + rm.locals ≤ R.locals) (hc : cells + rm.cells ≤ R.cells) (hs : slots + rm.slots ≤ R.slots)
    {g : JFrame} (hg : g.method = m) (hsize : g.locals.size = c.maxLocals) (hlen : ∀ sig, parseMethodDescriptor y.desc = some sig → argsL.length = sig.parameters.length)
    (hstack : g.stack = argsL.reverse ++ .ref a :: rest) (hW : 2 * g.monitorRoom + (rest.map fun v => v.category).sum ≤ W) (hdg : decode c.code g.pc = .ok (.invokespecial index, 3)) (eT : T.heap = h)
    (k : ∀ T' L v, Stand p l e R s m args below meth c T' (locs ++ L) (cells + rm.cells) (slots + rm.slots) → Qc v T'.heap L → Go p e below E Q T' { g with pc := g.pc + 3, stack := v.toList ++ rest }) : Go p e below E Q T g := by
  obtain ⟨v, _, ⟨T3, L3, k3, n3⟩, -, X3, ⟨Lc3, hQ3, l3, y3, z3⟩, st3⟩ := X.specialBack hx (y := y) hy1 hown (mvT hZ w1) (mvT hZ w2) (mvT hZ w4) hy (backOf (W := W) (hM []) hZ w4 w3 hf hl) (g := g) hg hsize (Steps.refl _) (a := a) (argsL := argsL) (rest := rest) hlen hstack hW hdg (fun _ _ => ⟨rfl, eT, hc, hs⟩)
  dsimp only [Pt.U, Pt.locs, Pt.cells, Pt.slots] at X3 l3 y3 z3 st3 hQ3
  subst l3 y3 z3
  exact Go.by (fun _ q => st3.trans q) (k _ _ _ X3 hQ3)
/-- invokevirtual, the class that declares the method is a class (hnf) -/
theorem Go.callV (X : Stand p l e R s m args below meth c T locs cells slots) (hx : p.tables.exec = Jvm.exec) (hZ : Z.Warmed39 s.vm) {own C : String} {index : Nat} {y z : MethodName} {bytes : ByteArray} {maxL : Nat} {ret : Option FieldType}
    (hown : s.vm.findClass own = some m.cls) (w1 : (Cond.methodLink own index y).before a0 Z = true) (w2 : (Cond.declares y).before a0 Z = true) (hnf : NotFace s y) (w5 : (Cond.selects C y z).before a0 Z = true) (w6 : (Cond.instanceMethod z).before a0 Z = true) (w3 : (Cond.initialized z.cls).before a0 Z = true)
    (w4 : (Cond.code z bytes maxL ret).before a0 Z = true) (hy : y.cls ≠ "java/lang/invoke/MethodHandle" ∧ y.cls ≠ "java/lang/invoke/VarHandle")
    {W : Nat} {rm : Room} {a : Addr} {argsL rest : List Value} {Qc : Option Value → Heap → List Loc → Prop} (Ex : Exa Z h a C) (hM : Ctr l Z z bytes maxL ret rm (.ref a :: argsL).toArray h Qc) (hf : rm.frames + 1 ≤ R.frames) (hl : W + (maxL + 11) + rm.locals ≤ R.locals) (hc : cells + rm.cells ≤ R.cells) (hs : slots + rm.slots ≤ R.slots)
    {g : JFrame} (hg : g.method = m) (hsize : g.locals.size = c.maxLocals) (hlen : ∀ sig, parseMethodDescriptor y.desc = some sig → argsL.length = sig.parameters.length)
    (hstack : g.stack = argsL.reverse ++ .ref a :: rest) (hW : 2 * g.monitorRoom + (rest.map fun v => v.category).sum ≤ W) (hdg : decode c.code g.pc = .ok (.invokevirtual index, 3)) (eT : T.heap = h)
    (k : ∀ T' L v, Stand p l e R s m args below meth c T' (locs ++ L) (cells + rm.cells) (slots + rm.slots) → Qc v T'.heap L → Go p e below E Q T' { g with pc := g.pc + 3, stack := v.toList ++ rest }) : Go p e below E Q T g := by
  obtain ⟨cq, kq, qa, qb, qc⟩ := isOf hZ eT Ex
  obtain ⟨v, _, ⟨T3, L3, k3, n3⟩, -, X3, ⟨Lc3, hQ3, l3, y3, z3⟩, st3⟩ := X.virtualBack hx (y := y) (z := z) hown (mvT hZ w1) (mvT hZ w2) hnf (mvT hZ w5) (mvT hZ w6) hy (backOf (W := W) (hM []) hZ w4 w3 hf hl) qa qc (g := g) hg hsize (Steps.refl _) (argsL := argsL) (rest := rest) hlen hstack hW hdg (fun _ _ => ⟨rfl, eT, hc, hs⟩)
  dsimp only [Pt.U, Pt.locs, Pt.cells, Pt.slots] at X3 l3 y3 z3 st3 hQ3
  subst l3 y3 z3
  exact Go.by (fun _ q => st3.trans q) (k _ _ _ X3 hQ3)
/-- a private method, by invokevirtual -/
theorem Go.callP (X : Stand p l e R s m args below meth c T locs cells slots) (hx : p.tables.exec = Jvm.exec) (hZ : Z.Warmed39 s.vm) {own C : String} {index : Nat} {y : MethodName} {bytes : ByteArray} {maxL : Nat} {ret : Option FieldType}
    (hown : s.vm.findClass own = some m.cls) (w1 : (Cond.methodLink own index y).before a0 Z = true) (w2 : (Cond.instanceMethod y).before a0 Z = true) (w5 : (Cond.selects y.cls y y).before a0 Z = true) (w6 : (Cond.privateMethod y).before a0 Z = true) (w3 : (Cond.initialized y.cls).before a0 Z = true)
    (w4 : (Cond.code y bytes maxL ret).before a0 Z = true) (hy : y.cls ≠ "java/lang/invoke/MethodHandle" ∧ y.cls ≠ "java/lang/invoke/VarHandle")
    {W : Nat} {rm : Room} {a : Addr} {argsL rest : List Value} {Qc : Option Value → Heap → List Loc → Prop} (Ex : Exa Z h a C) (hM : Ctr l Z y bytes maxL ret rm (.ref a :: argsL).toArray h Qc) (hf : rm.frames + 1 ≤ R.frames) (hl : W + (maxL + 11) + rm.locals ≤ R.locals) (hc : cells + rm.cells ≤ R.cells) (hs : slots + rm.slots ≤ R.slots)
    {g : JFrame} (hg : g.method = m) (hsize : g.locals.size = c.maxLocals) (hlen : ∀ sig, parseMethodDescriptor y.desc = some sig → argsL.length = sig.parameters.length)
    (hstack : g.stack = argsL.reverse ++ .ref a :: rest) (hW : 2 * g.monitorRoom + (rest.map fun v => v.category).sum ≤ W) (hdg : decode c.code g.pc = .ok (.invokevirtual index, 3)) (eT : T.heap = h)
    (k : ∀ T' L v, Stand p l e R s m args below meth c T' (locs ++ L) (cells + rm.cells) (slots + rm.slots) → Qc v T'.heap L → Go p e below E Q T' { g with pc := g.pc + 3, stack := v.toList ++ rest }) : Go p e below E Q T g := by
  obtain ⟨cq, q1, q2⟩ := Ex.cell
  obtain ⟨v, _, ⟨T3, L3, k3, n3⟩, -, X3, ⟨Lc3, hQ3, l3, y3, z3⟩, st3⟩ := X.privateBack hx (y := y) hown (mvT hZ w1) (mvT hZ w2) (mvT hZ w5) (Cond.privateMethod_at (mvP hZ w6 (args := #[]))) (mvT hZ w4) hy (backOf (W := W) (hM []) hZ w4 w3 hf hl) (g := g) hg hsize (Steps.refl _) (a := a) (by rw [eT]; exact q1) q2 (argsL := argsL) (rest := rest) hlen hstack hW hdg (fun _ _ => ⟨rfl, eT, hc, hs⟩)
  dsimp only [Pt.U, Pt.locs, Pt.cells, Pt.slots] at X3 l3 y3 z3 st3 hQ3
  subst l3 y3 z3
  exact Go.by (fun _ q => st3.trans q) (k _ _ _ X3 hQ3)
/-- invokeinterface -/
theorem Go.callF (X : Stand p l e R s m args below meth c T locs cells slots) (hx : p.tables.exec = Jvm.exec) (hZ : Z.Warmed39 s.vm) {own C : String} {index count : Nat} {y z : MethodName} {bytes : ByteArray} {maxL : Nat} {ret : Option FieldType}
    (hown : s.vm.findClass own = some m.cls) (w1 : (Cond.methodLink own index y).before a0 Z = true) (w2 : (Cond.declares y).before a0 Z = true) (w7 : (Cond.interfaceMethod y.cls y.cls y.name y.desc).before args s = true) (w5 : (Cond.selects C y z).before a0 Z = true) (w6 : (Cond.instanceMethod z).before a0 Z = true) (w8 : (Cond.publicMethod z).before a0 Z = true) (w9 : (Cond.unhidden C y.name y.desc).before a0 Z = true) (w10 : (Cond.castable C y.cls).before a0 Z = true) (w3 : (Cond.initialized z.cls).before a0 Z = true)
    (w4 : (Cond.code z bytes maxL ret).before a0 Z = true) (hy : y.cls ≠ "java/lang/invoke/MethodHandle" ∧ y.cls ≠ "java/lang/invoke/VarHandle")
    {W : Nat} {rm : Room} {a : Addr} {argsL rest : List Value} {Qc : Option Value → Heap → List Loc → Prop} (Ex : Exa Z h a C) (hM : Ctr l Z z bytes maxL ret rm (.ref a :: argsL).toArray h Qc) (hf : rm.frames + 1 ≤ R.frames) (hl : W + (maxL + 11) + rm.locals ≤ R.locals) (hc : cells + rm.cells ≤ R.cells) (hs : slots + rm.slots ≤ R.slots)
    {g : JFrame} (hg : g.method = m) (hsize : g.locals.size = c.maxLocals) (hlen : ∀ sig, parseMethodDescriptor y.desc = some sig → argsL.length = sig.parameters.length)
    (hstack : g.stack = argsL.reverse ++ .ref a :: rest) (hW : 2 * g.monitorRoom + (rest.map fun v => v.category).sum ≤ W) (hdg : decode c.code g.pc = .ok (.invokeinterface index count, 5)) (eT : T.heap = h)
    (k : ∀ T' L v, Stand p l e R s m args below meth c T' (locs ++ L) (cells + rm.cells) (slots + rm.slots) → Qc v T'.heap L → Go p e below E Q T' { g with pc := g.pc + 5, stack := v.toList ++ rest }) : Go p e below E Q T g := by
  obtain ⟨cq, kq, qa, qb, qc⟩ := isOf hZ eT Ex
  obtain ⟨v, _, ⟨T3, L3, k3, n3⟩, -, X3, ⟨Lc3, hQ3, l3, y3, z3⟩, st3⟩ := X.interfaceBack hx (xi := y) (y := z) hown (mvT hZ w1) (mvT hZ w2) w7 (mvT hZ w5) (mvT hZ w6) (mvT hZ w8) (mvT hZ w9) (mvT hZ w10) hy (backOf (W := W) (hM []) hZ w4 w3 hf hl) qa qb qc (g := g) hg hsize (Steps.refl _) (argsL := argsL) (rest := rest) hlen hstack hW hdg (fun _ _ => ⟨rfl, eT, hc, hs⟩)
  dsimp only [Pt.U, Pt.locs, Pt.cells, Pt.slots] at X3 l3 y3 z3 st3 hQ3
  subst l3 y3 z3
  exact Go.by (fun _ q => st3.trans q) (k _ _ _ X3 hQ3)
/-- a callee that may intern: invokevirtual -/
theorem Go.callVW {vm0 : Vm} {k0 : Nat} (X : Stand p l e R (s.setVm vm0) m args below meth c T locs cells slots) (hx : p.tables.exec = Jvm.exec) (hS : s.Since vm0 k0) (hk : k0 ≤ h.size) (hZ : Z.Warmed39 (s.setVm vm0).vm) {own C : String} {index : Nat} {y z : MethodName} {bytes : ByteArray} {maxL : Nat} {ret : Option FieldType}
    (hown : (s.setVm vm0).vm.findClass own = some m.cls) (w1 : (Cond.methodLink own index y).before a0 Z = true) (w2 : (Cond.declares y).before a0 Z = true) (hnf : NotFace (s.setVm vm0) y) (w5 : (Cond.selects C y z).before a0 Z = true) (w6 : (Cond.instanceMethod z).before a0 Z = true) (w3 : (Cond.initialized z.cls).before a0 Z = true)
    (w4 : (Cond.code z bytes maxL ret).before a0 Z = true) (hy : y.cls ≠ "java/lang/invoke/MethodHandle" ∧ y.cls ≠ "java/lang/invoke/VarHandle")
    {W : Nat} {rm : Room} {a : Addr} {argsL rest : List Value} {Qc : Option Value → Heap → List Loc → Prop} (Ex : Exa Z h a C) (hM : CtrW l Z z bytes maxL ret rm (.ref a :: argsL).toArray h Qc) (hf : rm.frames + 1 ≤ R.frames) (hl : W + (maxL + 11) + rm.locals ≤ R.locals) (hc : cells + rm.cells ≤ R.cells) (hs : slots + rm.slots ≤ R.slots)
    {g : JFrame} (hg : g.method = m) (hsize : g.locals.size = c.maxLocals) (hlen : ∀ sig, parseMethodDescriptor y.desc = some sig → argsL.length = sig.parameters.length)
    (hstack : g.stack = argsL.reverse ++ .ref a :: rest) (hW : 2 * g.monitorRoom + (rest.map fun v => v.category).sum ≤ W) (hdg : decode c.code g.pc = .ok (.invokevirtual index, 3)) (eT : T.heap = h)
    (k : ∀ T' L v, Stand p l e R (s.setVm T'.vm) m args below meth c T' (locs ++ L) (cells + rm.cells) (slots + rm.slots) → s.Since T'.vm T'.heap.size → Z.Warmed39 (s.setVm T'.vm).vm → (s.setVm T'.vm).vm.findClass own = some m.cls → Qc v T'.heap L → Go p e below E Q T' { g with pc := g.pc + 3, stack := v.toList ++ rest }) : Go p e below E Q T g := by
  obtain ⟨cq, kq, qa, qb, qc⟩ := isOf hZ eT Ex
  obtain ⟨v, _, ⟨T3, L3, k3, n3⟩, -, X3, hS3, hgr, ⟨Lc3, hQ3, l3, y3, z3⟩, st3⟩ := X.virtualBackS hx (y := y) (z := z) hown (mvT hZ w1) (mvT hZ w2) hnf (mvT hZ w5) (mvT hZ w6) hy (backOfS (W := W) (hM []) hZ w4 w3 hf hl) qa qc (g := g) hg hsize (Steps.refl _) (argsL := argsL) (rest := rest) hlen hstack hW hdg (fun _ _ => ⟨rfl, eT, hc, hs⟩)
  dsimp only [Pt.U, Pt.locs, Pt.cells, Pt.slots] at X3 l3 y3 z3 st3 hQ3 hS3 hgr
  subst l3 y3 z3
  obtain ⟨X4, hS4, hZ4, hown4⟩ := rebS hS (by rw [eT]; exact hk) X3 hS3 hgr hZ hown
  exact Go.by (fun _ q => st3.trans q) (k _ _ _ X4 hS4 hZ4 hown4 hQ3)
/-- a callee that may intern: a constructor -/
theorem Go.callIW {vm0 : Vm} {k0 : Nat} (X : Stand p l e R (s.setVm vm0) m args below meth c T locs cells slots) (hx : p.tables.exec = Jvm.exec) (hS : s.Since vm0 k0) (hk : k0 ≤ h.size) (hZ : Z.Warmed39 (s.setVm vm0).vm) {own : String} {index : Nat} {y : MethodName} {bytes : ByteArray} {maxL : Nat} (hy1 : y.name = "<init>")
    (hown : (s.setVm vm0).vm.findClass own = some m.cls) (w1 : (Cond.methodLink own index y).before a0 Z = true) (w2 : (Cond.instanceMethod y).before a0 Z = true) (w3 : (Cond.initialized y.cls).before a0 Z = true)
    (w4 : (Cond.code y bytes maxL none).before a0 Z = true) (hy : y.cls ≠ "java/lang/invoke/MethodHandle" ∧ y.cls ≠ "java/lang/invoke/VarHandle")
    {W : Nat} {rm : Room} {a : Addr} {argsL rest : List Value} {Qc : Option Value → Heap → List Loc → Prop} (hM : CtrW l Z y bytes maxL none rm (.ref a :: argsL).toArray h Qc) (hf : rm.frames + 1 ≤ R.frames) (hl : W + (maxL + 11) + rm.locals ≤ R.locals) (hc : cells + rm.cells ≤ R.cells) (hs : slots + rm.slots ≤ R.slots)
    {g : JFrame} (hg : g.method = m) (hsize : g.locals.size = c.maxLocals) (hlen : ∀ sig, parseMethodDescriptor y.desc = some sig → argsL.length = sig.parameters.length)
    (hstack : g.stack = argsL.reverse ++ .ref a :: rest) (hW : 2 * g.monitorRoom + (rest.map fun v => v.category).sum ≤ W) (hdg : decode c.code g.pc = .ok (.invokespecial index, 3)) (eT : T.heap = h)
    (k : ∀ T' L v, Stand p l e R (s.setVm T'.vm) m args below meth c T' (locs ++ L) (cells + rm.cells) (slots + rm.slots) → s.Since T'.vm T'.heap.size → Z.Warmed39 (s.setVm T'.vm).vm → (s.setVm T'.vm).vm.findClass own = some m.cls → Qc v T'.heap L → Go p e below E Q T' { g with pc := g.pc + 3, stack := v.toList ++ rest }) : Go p e below E Q T g := by
  obtain ⟨v, _, ⟨T3, L3, k3, n3⟩, -, X3, hS3, hgr, ⟨Lc3, hQ3, l3, y3, z3⟩, st3⟩ := X.specialBackS hx (y := y) hy1 hown (mvT hZ w1) (mvT hZ w2) (mvT hZ w4) hy (backOfS (W := W) (hM []) hZ w4 w3 hf hl) (g := g) hg hsize (Steps.refl _) (a := a) (argsL := argsL) (rest := rest) hlen hstack hW hdg (fun _ _ => ⟨rfl, eT, hc, hs⟩)
  dsimp only [Pt.U, Pt.locs, Pt.cells, Pt.slots] at X3 l3 y3 z3 st3 hQ3 hS3 hgr
  subst l3 y3 z3
  obtain ⟨X4, hS4, hZ4, hown4⟩ := rebS hS (by rw [eT]; exact hk) X3 hS3 hgr hZ hown
  exact Go.by (fun _ q => st3.trans q) (k _ _ _ X4 hS4 hZ4 hown4 hQ3)
/-- a callee that may intern: a static method -/
theorem Go.callSW {vm0 : Vm} {k0 : Nat} (X : Stand p l e R (s.setVm vm0) m args below meth c T locs cells slots) (hx : p.tables.exec = Jvm.exec) (hS : s.Since vm0 k0) (hk : k0 ≤ h.size) (hZ : Z.Warmed39 (s.setVm vm0).vm) {own : String} {index : Nat} {y : MethodName} {bytes : ByteArray} {maxL : Nat} {ret : Option FieldType}
    (hown : (s.setVm vm0).vm.findClass own = some m.cls) (w1 : (Cond.methodLink own index y).before a0 Z = true) (w2 : (Cond.static y).before a0 Z = true) (w3 : (Cond.initialized y.cls).before a0 Z = true)
    (w4 : (Cond.code y bytes maxL ret).before a0 Z = true) (hy : y.cls ≠ "java/lang/invoke/MethodHandle" ∧ y.cls ≠ "java/lang/invoke/VarHandle")
    {W : Nat} {rm : Room} {argsL rest : List Value} {Qc : Option Value → Heap → List Loc → Prop} (hM : CtrW l Z y bytes maxL ret rm argsL.toArray h Qc) (hf : rm.frames + 1 ≤ R.frames) (hl : W + (maxL + 11) + rm.locals ≤ R.locals) (hc : cells + rm.cells ≤ R.cells) (hs : slots + rm.slots ≤ R.slots)
    {g : JFrame} (hg : g.method = m) (hsize : g.locals.size = c.maxLocals) (hlen : ∀ sig, parseMethodDescriptor y.desc = some sig → argsL.length = sig.parameters.length)
    (hstack : g.stack = argsL.reverse ++ rest) (hW : 2 * g.monitorRoom + (rest.map fun v => v.category).sum ≤ W) (hdg : decode c.code g.pc = .ok (.invokestatic index, 3)) (eT : T.heap = h)
    (k : ∀ T' L v, Stand p l e R (s.setVm T'.vm) m args below meth c T' (locs ++ L) (cells + rm.cells) (slots + rm.slots) → s.Since T'.vm T'.heap.size → Z.Warmed39 (s.setVm T'.vm).vm → (s.setVm T'.vm).vm.findClass own = some m.cls → Qc v T'.heap L → Go p e below E Q T' { g with pc := g.pc + 3, stack := v.toList ++ rest }) : Go p e below E Q T g := by
  obtain ⟨v, _, ⟨T3, L3, k3, n3⟩, -, X3, hS3, hgr, ⟨Lc3, hQ3, l3, y3, z3⟩, st3⟩ := Jvm.RoadKit.callSS X hx (y := y) hown (mvT hZ w1) (mvT hZ w2) (mvT hZ w3) (mvT hZ w4) hy (backOfS (W := W) (hM []) hZ w4 w3 hf hl) (g := g) hg hsize (argsL := argsL) (rest := rest) hlen hstack hW hdg (fun _ _ => ⟨rfl, eT, hc, hs⟩)
  dsimp only [Pt.U, Pt.locs, Pt.cells, Pt.slots] at X3 l3 y3 z3 st3 hQ3 hS3 hgr
  subst l3 y3 z3
  obtain ⟨X4, hS4, hZ4, hown4⟩ := rebS hS (by rw [eT]; exact hk) X3 hS3 hgr hZ hown
  exact Go.by (fun _ q => st3.trans q) (k _ _ _ X4 hS4 hZ4 hown4 hQ3)
end G
section A
variable {p : Program} {l : Launch} {e : Env} {R : Room} {s : State} {m : MethodId} {args : Array Value} {below : List Frame} {meth : Method} {c : Code} {T : State} {locs : List Loc} {cells slots : Nat} {Z : State} {h : Heap} {a : Addr} {k : ClassId} {n : Int32} {vs : List Value} {d : Value}
theorem stIA (X : Stand p l e R s m args below meth c T locs cells slots) (hx : p.tables.exec = Jvm.exec) (hZ : Z.Warmed39 s.vm) (eT : T.heap = h) (V : Arv Z h a k .int n vs d) {j x : Int32} (i : Nat) (hj : j.toNatClampNeg = i) (hj0 : ¬ j < 0) (hjn : j < n) (hi : i < vs.length) {g : JFrame} (hg : g.method = m) {rest : List Value} (hs : g.stack = .int x :: .int j :: .ref a :: rest) (hd : decode c.code g.pc = .ok (.iastore, 1)) :
    ∃ T' h', Stand p l e R s m args below meth c T' (locs ++ [⟨a, j.toNatClampNeg⟩]) cells slots ∧ T'.heap = h' ∧ Wr h h' a j.toNatClampNeg (.int x) ∧ Arv Z h' a k .int n (vs.set i (.int x)) d ∧ ∀ target, Steps p.tables e below (T'.setTop { g with pc := g.pc + 1, stack := rest }) target → Steps p.tables e below (T.setTop g) target := by
  obtain ⟨cl, Ar, q, S, M, H, U⟩ := V
  obtain ⟨T', h', X', e', W', st'⟩ := stI X hx hZ eT Ar (j := j) (inb_of S ⟨hj0, hjn⟩) hg hs hd
  exact ⟨T', h', X', e', W', Arv.set Ar q S M H U rfl W' i hj hi, st'⟩
theorem stBA (X : Stand p l e R s m args below meth c T locs cells slots) (hx : p.tables.exec = Jvm.exec) (hZ : Z.Warmed39 s.vm) (eT : T.heap = h) (V : Arv Z h a k .byte n vs d) {j x : Int32} (i : Nat) (hj : j.toNatClampNeg = i) (hj0 : ¬ j < 0) (hjn : j < n) (hi : i < vs.length) {g : JFrame} (hg : g.method = m) {rest : List Value} (hs : g.stack = .int x :: .int j :: .ref a :: rest) (hd : decode c.code g.pc = .ok (.bastore, 1)) :
    ∃ T' h', Stand p l e R s m args below meth c T' (locs ++ [⟨a, j.toNatClampNeg⟩]) cells slots ∧ T'.heap = h' ∧ Wr h h' a j.toNatClampNeg (.int x.toInt8.toInt32) ∧ Arv Z h' a k .byte n (vs.set i (.int x.toInt8.toInt32)) d ∧ ∀ target, Steps p.tables e below (T'.setTop { g with pc := g.pc + 1, stack := rest }) target → Steps p.tables e below (T.setTop g) target := by
  obtain ⟨cl, Ar, q, S, M, H, U⟩ := V
  obtain ⟨T', h', X', e', W', st'⟩ := stB X hx hZ eT Ar (j := j) (inb_of S ⟨hj0, hjn⟩) hg hs hd
  exact ⟨T', h', X', e', W', Arv.set Ar q S M H U (fits_nar_byte x) W' i hj hi, st'⟩
theorem ldIA (X : Stand p l e R s m args below meth c T locs cells slots) (hx : p.tables.exec = Jvm.exec) (hZ : Z.Warmed39 s.vm) (eT : T.heap = h) (V : Arv Z h a k .int n vs d) {j : Int32} {v : Value} (hj0 : ¬ j < 0) (hjn : j < n) (hv : vs.getD j.toNatClampNeg d = v) {g : JFrame} (hg : g.method = m) {rest : List Value} (hs : g.stack = .int j :: .ref a :: rest) (hd : decode c.code g.pc = .ok (.iaload, 1)) :
    ∀ target, Steps p.tables e below (T.setTop { g with pc := g.pc + 1, stack := v :: rest }) target → Steps p.tables e below (T.setTop g) target := by
  obtain ⟨cl, Ar, q, S, M, H, U⟩ := V
  have hin := inb_of S ⟨hj0, hjn⟩
  intro target kt
  exact X.iaload hx (j := j) (v := v) (by rw [eT]; exact Ar.1) (State.isArrayOf_alike hZ.alike Ar.2.1) Ar.2.2 hin (H.at hin hv) hg hs hd _ kt
theorem ldBA (X : Stand p l e R s m args below meth c T locs cells slots) (hx : p.tables.exec = Jvm.exec) (hZ : Z.Warmed39 s.vm) (eT : T.heap = h) (V : Arv Z h a k .byte n vs d) {j : Int32} {v : Value} (hj0 : ¬ j < 0) (hjn : j < n) (hv : vs.getD j.toNatClampNeg d = v) {g : JFrame} (hg : g.method = m) {rest : List Value} (hs : g.stack = .int j :: .ref a :: rest) (hd : decode c.code g.pc = .ok (.baload, 1)) :
    ∀ target, Steps p.tables e below (T.setTop { g with pc := g.pc + 1, stack := v :: rest }) target → Steps p.tables e below (T.setTop g) target := by
  obtain ⟨cl, Ar, q, S, M, H, U⟩ := V
  have hin := inb_of S ⟨hj0, hjn⟩
  intro target kt
  exact X.baloadBytes hx (j := j) (v := v) (by rw [eT]; exact Ar.1) (State.isArrayOf_alike hZ.alike Ar.2.1) Ar.2.2 hin (H.at hin hv) hg hs hd _ kt
theorem lnA {ty : FieldType} (X : Stand p l e R s m args below meth c T locs cells slots) (hx : p.tables.exec = Jvm.exec) (hZ : Z.Warmed39 s.vm) (eT : T.heap = h) (V : Arv Z h a k ty n vs d) {g : JFrame} (hg : g.method = m) {rest : List Value} (hs : g.stack = .ref a :: rest) (hd : decode c.code g.pc = .ok (.arraylength, 1)) :
    ∀ target, Steps p.tables e below (T.setTop { g with pc := g.pc + 1, stack := .int n :: rest }) target → Steps p.tables e below (T.setTop g) target := by
  obtain ⟨cl, Ar, q, S, M, H, U⟩ := V
  intro target kt
  refine X.arraylength hx (by rw [eT]; exact Ar.1) (State.isArrayOf_alike hZ.alike Ar.2.1) hg hs hd _ ?_
  rw [len_of S M]
  exact kt
theorem fitsR {ty : FieldType} {y : Addr} (hty : ty.isReference = true) : fits ty (.ref y) = true := by cases ty <;> first | rfl | (simp [FieldType.isReference] at hty)
theorem stRA {ty : FieldType} {C : String} (X : Stand p l e R s m args below meth c T locs cells slots) (hx : p.tables.exec = Jvm.exec) (hZ : Z.Warmed39 s.vm) (eT : T.heap = h) (V : Arv Z h a k ty n vs d) (O : Ovr Z k C) {y : Addr} (I : Ins Z h y C true) (hty : ty.isReference = true) {j : Int32} (i : Nat) (hj : j.toNatClampNeg = i) (hj0 : ¬ j < 0) (hjn : j < n) (hi : i < vs.length) {g : JFrame} (hg : g.method = m) {rest : List Value} (hs : g.stack = .ref y :: .int j :: .ref a :: rest) (hd : decode c.code g.pc = .ok (.aastore, 1)) :
    ∃ T' h', Stand p l e R s m args below meth c T' (locs ++ [⟨a, j.toNatClampNeg⟩]) cells slots ∧ T'.heap = h' ∧ Wr h h' a j.toNatClampNeg (.ref y) ∧ Arv Z h' a k ty n (vs.set i (.ref y)) d ∧ ∀ target, Steps p.tables e below (T'.setTop { g with pc := g.pc + 1, stack := rest }) target → Steps p.tables e below (T.setTop g) target := by
  obtain ⟨cl, Ar, q, S, M, H, U⟩ := V
  obtain ⟨T', h', X', e', W', st'⟩ := stR X hx hZ eT Ar (j := j) (inb_of S ⟨hj0, hjn⟩) hty (Sto.ofV Ar q O I) hg hs hd
  exact ⟨T', h', X', e', W', Arv.set Ar q S M H U (fitsR hty) W' i hj hi, st'⟩
theorem ldRA {ty : FieldType} (X : Stand p l e R s m args below meth c T locs cells slots) (hx : p.tables.exec = Jvm.exec) (hZ : Z.Warmed39 s.vm) (eT : T.heap = h) (V : Arv Z h a k ty n vs d) (hty : ty.isReference = true) {j : Int32} {v : Value} (hj0 : ¬ j < 0) (hjn : j < n) (hv : vs.getD j.toNatClampNeg d = v) {g : JFrame} (hg : g.method = m) {rest : List Value} (hs : g.stack = .int j :: .ref a :: rest) (hd : decode c.code g.pc = .ok (.aaload, 1)) :
    ∀ target, Steps p.tables e below (T.setTop { g with pc := g.pc + 1, stack := v :: rest }) target → Steps p.tables e below (T.setTop g) target := by
  obtain ⟨cl, Ar, q, S, M, H, U⟩ := V
  have hin := inb_of S ⟨hj0, hjn⟩
  intro target kt
  exact X.aaload hx (j := j) (v := v) (by rw [eT]; exact Ar.1) (State.isArrayOf_alike hZ.alike Ar.2.1) hty Ar.2.2 hin (H.at hin hv) hg hs hd _ kt
end A
end Jvm.OwnGo
namespace Jvm.Pilot.@@N@@
open Jvm Jvm.ClassFile Sem Op Lib Jvm.Free Jvm.Stand Jvm.LawKit Jvm.RoadKit Jvm.OwnGo Bundle Jvm.Pilot.@@N@@.Jvm.D

theorem pn_0 : plainName "com/example/pinakas/pinakas/ConstraintAttributesEqualsPinLaw" = true := by first | (simp [plainName, overriddenIn]; done) | decide +kernel
theorem pf_0 : plainFor x = true := plainFor_of_name pn_0
theorem pd_0 : parseMethodDescriptor "(II)Z" = some ⟨[.int, .int], (some .boolean)⟩ := by decide +kernel
theorem d1_0 : decode method_3_code 0 = .ok (.new 20, 3) := by decide +kernel
theorem d1_3 : decode method_3_code 3 = .ok (.dup, 1) := by decide +kernel
theorem d1_4 : decode method_3_code 4 = .ok (.iload_n 0, 1) := by decide +kernel
theorem d1_5 : decode method_3_code 5 = .ok (.iconst 1, 1) := by decide +kernel
theorem d1_6 : decode method_3_code 6 = .ok (.iand, 1) := by decide +kernel
theorem d1_7 : decode method_3_code 7 = .ok (.ifCond .eq 7, 3) := by decide +kernel
theorem d1_10 : decode method_3_code 10 = .ok (.iconst 1, 1) := by decide +kernel
theorem d1_11 : decode method_3_code 11 = .ok (.goto 4, 3) := by decide +kernel
theorem d1_14 : decode method_3_code 14 = .ok (.iconst 0, 1) := by decide +kernel
theorem d1_15 : decode method_3_code 15 = .ok (.iload_n 0, 1) := by decide +kernel
theorem d1_16 : decode method_3_code 16 = .ok (.iconst 2, 1) := by decide +kernel
theorem d1_17 : decode method_3_code 17 = .ok (.iand, 1) := by decide +kernel
theorem d1_18 : decode method_3_code 18 = .ok (.ifCond .eq 7, 3) := by decide +kernel
theorem d1_21 : decode method_3_code 21 = .ok (.iconst 1, 1) := by decide +kernel
theorem d1_22 : decode method_3_code 22 = .ok (.goto 4, 3) := by decide +kernel
theorem d1_25 : decode method_3_code 25 = .ok (.iconst 0, 1) := by decide +kernel
theorem d1_26 : decode method_3_code 26 = .ok (.iload_n 0, 1) := by decide +kernel
theorem d1_27 : decode method_3_code 27 = .ok (.iconst 4, 1) := by decide +kernel
theorem d1_28 : decode method_3_code 28 = .ok (.iand, 1) := by decide +kernel
theorem d1_29 : decode method_3_code 29 = .ok (.ifCond .eq 7, 3) := by decide +kernel
theorem d1_32 : decode method_3_code 32 = .ok (.iconst 1, 1) := by decide +kernel
theorem d1_33 : decode method_3_code 33 = .ok (.goto 4, 3) := by decide +kernel
theorem d1_36 : decode method_3_code 36 = .ok (.iconst 0, 1) := by decide +kernel
theorem d1_37 : decode method_3_code 37 = .ok (.iload_n 0, 1) := by decide +kernel
theorem d1_38 : decode method_3_code 38 = .ok (.bipush 8, 2) := by decide +kernel
theorem d1_40 : decode method_3_code 40 = .ok (.iand, 1) := by decide +kernel
theorem d1_41 : decode method_3_code 41 = .ok (.ifCond .eq 7, 3) := by decide +kernel
theorem d1_44 : decode method_3_code 44 = .ok (.iconst 1, 1) := by decide +kernel
theorem d1_45 : decode method_3_code 45 = .ok (.goto 4, 3) := by decide +kernel
theorem d1_48 : decode method_3_code 48 = .ok (.iconst 0, 1) := by decide +kernel
theorem d1_49 : decode method_3_code 49 = .ok (.invokespecial 25, 3) := by decide +kernel
theorem d1_52 : decode method_3_code 52 = .ok (.areturn, 1) := by decide +kernel
theorem pn_1 : plainName "com/example/pinakas/pinakas/ConstraintAttributesEqualsPinLaw" = true := by first | (simp [plainName, overriddenIn]; done) | decide +kernel
theorem pf_1 : plainFor (⟨"com/example/pinakas/pinakas/ConstraintAttributesEqualsPinLaw", "make", "(I)Lcom/example/pinakas/pinakas/ConstraintAttributes;"⟩ : MethodName) = true := plainFor_of_name pn_1
theorem pd_1 : parseMethodDescriptor "(I)Lcom/example/pinakas/pinakas/ConstraintAttributes;" = some ⟨[.int], (some (.object "com/example/pinakas/pinakas/ConstraintAttributes"))⟩ := by decide +kernel
theorem d2_0 : decode prog_63_method_1_code 0 = .ok (.aload_n 0, 1) := by decide +kernel
theorem d2_1 : decode prog_63_method_1_code 1 = .ok (.invokespecial 1, 3) := by decide +kernel
theorem d2_4 : decode prog_63_method_1_code 4 = .ok (.aload_n 0, 1) := by decide +kernel
theorem d2_5 : decode prog_63_method_1_code 5 = .ok (.iload_n 1, 1) := by decide +kernel
theorem d2_6 : decode prog_63_method_1_code 6 = .ok (.putfield 7, 3) := by decide +kernel
theorem d2_9 : decode prog_63_method_1_code 9 = .ok (.aload_n 0, 1) := by decide +kernel
theorem d2_10 : decode prog_63_method_1_code 10 = .ok (.iload_n 2, 1) := by decide +kernel
theorem d2_11 : decode prog_63_method_1_code 11 = .ok (.putfield 13, 3) := by decide +kernel
theorem d2_14 : decode prog_63_method_1_code 14 = .ok (.aload_n 0, 1) := by decide +kernel
theorem d2_15 : decode prog_63_method_1_code 15 = .ok (.iload_n 3, 1) := by decide +kernel
theorem d2_16 : decode prog_63_method_1_code 16 = .ok (.putfield 16, 3) := by decide +kernel
theorem d2_19 : decode prog_63_method_1_code 19 = .ok (.aload_n 0, 1) := by decide +kernel
theorem d2_20 : decode prog_63_method_1_code 20 = .ok (.iload 4, 2) := by decide +kernel
theorem d2_22 : decode prog_63_method_1_code 22 = .ok (.putfield 19, 3) := by decide +kernel
theorem d2_25 : decode prog_63_method_1_code 25 = .ok (.return_, 1) := by decide +kernel
theorem pn_2 : plainName "com/example/pinakas/pinakas/ConstraintAttributes" = true := by first | (simp [plainName, overriddenIn]; done) | decide +kernel
theorem pf_2 : plainFor (⟨"com/example/pinakas/pinakas/ConstraintAttributes", "<init>", "(ZZZZ)V"⟩ : MethodName) = true := plainFor_of_name pn_2
theorem pd_2 : parseMethodDescriptor "(ZZZZ)V" = some ⟨[.boolean, .boolean, .boolean, .boolean], none⟩ := by decide +kernel
theorem d4_0 : decode jdk_33_method_22_code 0 = .ok (.iload_n 0, 1) := by decide +kernel
theorem d4_1 : decode jdk_33_method_22_code 1 = .ok (.bipush (-128), 2) := by decide +kernel
theorem d4_3 : decode jdk_33_method_22_code 3 = .ok (.if_icmp .lt 20, 3) := by decide +kernel
theorem d4_6 : decode jdk_33_method_22_code 6 = .ok (.iload_n 0, 1) := by decide +kernel
theorem d4_7 : decode jdk_33_method_22_code 7 = .ok (.getstatic 191, 3) := by decide +kernel
theorem d4_10 : decode jdk_33_method_22_code 10 = .ok (.if_icmp .gt 13, 3) := by decide +kernel
theorem d4_13 : decode jdk_33_method_22_code 13 = .ok (.getstatic 195, 3) := by decide +kernel
theorem d4_16 : decode jdk_33_method_22_code 16 = .ok (.iload_n 0, 1) := by decide +kernel
theorem d4_17 : decode jdk_33_method_22_code 17 = .ok (.sipush 128, 3) := by decide +kernel
theorem d4_20 : decode jdk_33_method_22_code 20 = .ok (.iadd, 1) := by decide +kernel
theorem d4_21 : decode jdk_33_method_22_code 21 = .ok (.aaload, 1) := by decide +kernel
theorem d4_22 : decode jdk_33_method_22_code 22 = .ok (.areturn, 1) := by decide +kernel
theorem d4_23 : decode jdk_33_method_22_code 23 = .ok (.new 1, 3) := by decide +kernel
theorem d4_26 : decode jdk_33_method_22_code 26 = .ok (.dup, 1) := by decide +kernel
theorem d4_27 : decode jdk_33_method_22_code 27 = .ok (.iload_n 0, 1) := by decide +kernel
theorem d4_28 : decode jdk_33_method_22_code 28 = .ok (.invokespecial 199, 3) := by decide +kernel
theorem d4_31 : decode jdk_33_method_22_code 31 = .ok (.areturn, 1) := by decide +kernel
theorem pn_4 : plainName "java/lang/Integer" = true := by first | (simp [plainName, overriddenIn]; done) | decide +kernel
theorem pf_4 : plainFor (⟨"java/lang/Integer", "valueOf", "(I)Ljava/lang/Integer;"⟩ : MethodName) = true := plainFor_of_name pn_4
theorem pd_4 : parseMethodDescriptor "(I)Ljava/lang/Integer;" = some ⟨[.int], (some (.object "java/lang/Integer"))⟩ := by decide +kernel
theorem d5_0 : decode prog_63_method_10_code 0 = .ok (.aload_n 1, 1) := by decide +kernel
theorem d5_1 : decode prog_63_method_10_code 1 = .ok (.instanceof 8, 3) := by decide +kernel
theorem d5_4 : decode prog_63_method_10_code 4 = .ok (.ifCond .eq 56, 3) := by decide +kernel
theorem d5_7 : decode prog_63_method_10_code 7 = .ok (.aload_n 1, 1) := by decide +kernel
theorem d5_8 : decode prog_63_method_10_code 8 = .ok (.checkcast 8, 3) := by decide +kernel
theorem d5_11 : decode prog_63_method_10_code 11 = .ok (.astore_n 2, 1) := by decide +kernel
theorem d5_12 : decode prog_63_method_10_code 12 = .ok (.aload_n 0, 1) := by decide +kernel
theorem d5_13 : decode prog_63_method_10_code 13 = .ok (.getfield 7, 3) := by decide +kernel
theorem d5_16 : decode prog_63_method_10_code 16 = .ok (.aload_n 2, 1) := by decide +kernel
theorem d5_17 : decode prog_63_method_10_code 17 = .ok (.getfield 7, 3) := by decide +kernel
theorem d5_20 : decode prog_63_method_10_code 20 = .ok (.if_icmp .ne 40, 3) := by decide +kernel
theorem d5_23 : decode prog_63_method_10_code 23 = .ok (.aload_n 0, 1) := by decide +kernel
theorem d5_24 : decode prog_63_method_10_code 24 = .ok (.getfield 13, 3) := by decide +kernel
theorem d5_27 : decode prog_63_method_10_code 27 = .ok (.aload_n 2, 1) := by decide +kernel
theorem d5_28 : decode prog_63_method_10_code 28 = .ok (.getfield 13, 3) := by decide +kernel
theorem d5_31 : decode prog_63_method_10_code 31 = .ok (.if_icmp .ne 29, 3) := by decide +kernel
theorem d5_34 : decode prog_63_method_10_code 34 = .ok (.aload_n 0, 1) := by decide +kernel
theorem d5_35 : decode prog_63_method_10_code 35 = .ok (.getfield 16, 3) := by decide +kernel
theorem d5_38 : decode prog_63_method_10_code 38 = .ok (.aload_n 2, 1) := by decide +kernel
theorem d5_39 : decode prog_63_method_10_code 39 = .ok (.getfield 16, 3) := by decide +kernel
theorem d5_42 : decode prog_63_method_10_code 42 = .ok (.if_icmp .ne 18, 3) := by decide +kernel
theorem d5_45 : decode prog_63_method_10_code 45 = .ok (.aload_n 0, 1) := by decide +kernel
theorem d5_46 : decode prog_63_method_10_code 46 = .ok (.getfield 19, 3) := by decide +kernel
theorem d5_49 : decode prog_63_method_10_code 49 = .ok (.aload_n 2, 1) := by decide +kernel
theorem d5_50 : decode prog_63_method_10_code 50 = .ok (.getfield 19, 3) := by decide +kernel
theorem d5_53 : decode prog_63_method_10_code 53 = .ok (.if_icmp .ne 7, 3) := by decide +kernel
theorem d5_56 : decode prog_63_method_10_code 56 = .ok (.iconst 1, 1) := by decide +kernel
theorem d5_57 : decode prog_63_method_10_code 57 = .ok (.goto 4, 3) := by decide +kernel
theorem d5_60 : decode prog_63_method_10_code 60 = .ok (.iconst 0, 1) := by decide +kernel
theorem d5_61 : decode prog_63_method_10_code 61 = .ok (.ireturn, 1) := by decide +kernel
theorem pn_5 : plainName "com/example/pinakas/pinakas/ConstraintAttributes" = true := by first | (simp [plainName, overriddenIn]; done) | decide +kernel
theorem pf_5 : plainFor (⟨"com/example/pinakas/pinakas/ConstraintAttributes", "equals", "(Ljava/lang/Object;)Z"⟩ : MethodName) = true := plainFor_of_name pn_5
theorem pd_5 : parseMethodDescriptor "(Ljava/lang/Object;)Z" = some ⟨[(.object "java/lang/Object")], (some .boolean)⟩ := by decide +kernel
theorem d6_0 : decode jdk_33_method_23_code 0 = .ok (.aload_n 0, 1) := by decide +kernel
theorem d6_1 : decode jdk_33_method_23_code 1 = .ok (.invokespecial 202, 3) := by decide +kernel
theorem d6_4 : decode jdk_33_method_23_code 4 = .ok (.aload_n 0, 1) := by decide +kernel
theorem d6_5 : decode jdk_33_method_23_code 5 = .ok (.iload_n 1, 1) := by decide +kernel
theorem d6_6 : decode jdk_33_method_23_code 6 = .ok (.putfield 205, 3) := by decide +kernel
theorem d6_9 : decode jdk_33_method_23_code 9 = .ok (.return_, 1) := by decide +kernel
theorem pn_6 : plainName "java/lang/Integer" = true := by first | (simp [plainName, overriddenIn]; done) | decide +kernel
theorem pf_6 : plainFor (⟨"java/lang/Integer", "<init>", "(I)V"⟩ : MethodName) = true := plainFor_of_name pn_6
theorem pd_6 : parseMethodDescriptor "(I)V" = some ⟨[.int], none⟩ := by decide +kernel
theorem d7_0 : decode jdk_18_method_1_code 0 = .ok (.aload_n 0, 1) := by decide +kernel
theorem d7_1 : decode jdk_18_method_1_code 1 = .ok (.invokespecial 1, 3) := by decide +kernel
theorem d7_4 : decode jdk_18_method_1_code 4 = .ok (.return_, 1) := by decide +kernel
theorem pn_7 : plainName "java/lang/Number" = true := by first | (simp [plainName, overriddenIn]; done) | decide +kernel
theorem pf_7 : plainFor (⟨"java/lang/Number", "<init>", "()V"⟩ : MethodName) = true := plainFor_of_name pn_7
theorem pd_7 : parseMethodDescriptor "()V" = some ⟨[], none⟩ := by decide +kernel
/-! the plain law on the four flags -/
def fl (p m : Int32) : Int32 := if (p &&& m) = 0 then 0 else 1
theorem fl01 (p m : Int32) : fl p m = 0 ∨ fl p m = 1 := by unfold fl; split <;> first | exact Or.inl rfl | exact Or.inr rfl
def eq4 (a b c d a' b' c' d' : Int32) : Int32 := if a = a' then (if b = b' then (if c = c' then (if d = d' then 1 else 0) else 0) else 0) else 0
def exV (p q : Int32) : Int32 := if (p &&& 15) = (q &&& 15) then 1 else 0
theorem and15 (p q : Int32) : ((p &&& 15) = (q &&& 15)) ↔ (∀ i, i < 4 → p.toBitVec.getLsbD i = q.toBitVec.getLsbD i) := by
  have h15 : ∀ i, i < 32 → (15#32).getLsbD i = decide (i < 4) := by
    have : ∀ j : Fin 32, (15#32).getLsbD j.val = decide (j.val < 4) := by decide
    exact fun i hi => this ⟨i, hi⟩
  constructor
  · intro h i hi
    have h1 : (p.toBitVec &&& 15#32) = (q.toBitVec &&& 15#32) := congrArg Int32.toBitVec h
    have h2 := congrArg (fun z => BitVec.getLsbD z i) h1
    simp only [BitVec.getLsbD_and, h15 i (by omega), hi, decide_true, Bool.and_true] at h2
    exact h2
  · intro h
    apply Int32.toBitVec_inj.mp
    show (p.toBitVec &&& 15#32) = (q.toBitVec &&& 15#32)
    apply BitVec.eq_of_getLsbD_eq
    intro i hi
    rw [BitVec.getLsbD_and, BitVec.getLsbD_and, h15 i hi]
    by_cases h4 : i < 4
    · rw [h i h4]
    · simp [h4]
theorem fl_bit (p m : Int32) (k : Nat) (hm : m.toBitVec = BitVec.twoPow 32 k) (hk : k < 32) : fl p m = if p.toBitVec.getLsbD k then 1 else 0 := by
  have h : ((p &&& m) = 0) ↔ p.toBitVec.getLsbD k = false := by
    rw [← Int32.toBitVec_inj]
    show (p.toBitVec &&& m.toBitVec) = 0#32 ↔ _
    rw [hm, BitVec.and_twoPow]
    cases hb : p.toBitVec.getLsbD k
    · simp
    · simp only [if_true, Bool.true_eq_false, iff_false]
      intro e
      have e2 := congrArg (fun z => BitVec.getLsbD z k) e
      simp [BitVec.getLsbD_twoPow, hk] at e2
  unfold fl
  cases hb : p.toBitVec.getLsbD k
  · rw [if_pos (h.mpr hb)]; rfl
  · rw [if_neg (fun e => by rw [h.mp e] at hb; cases hb)]; rfl
theorem bit_of {b c : Bool} (h : (if b then (1 : Int32) else 0) = (if c then 1 else 0)) : b = c := by
  cases b <;> cases c <;> first | rfl | (exact absurd h (by decide))
theorem eq4_ex (p q : Int32) : eq4 (fl p 1) (fl p 2) (fl p 4) (fl p 8) (fl q 1) (fl q 2) (fl q 4) (fl q 8) = exV p q := by
  have f := fun x => fl_bit x 1 0 (by decide) (by decide)
  have g := fun x => fl_bit x 2 1 (by decide) (by decide)
  have h := fun x => fl_bit x 4 2 (by decide) (by decide)
  have k := fun x => fl_bit x 8 3 (by decide) (by decide)
  unfold exV eq4
  by_cases e : (p &&& 15) = (q &&& 15)
  · have b := (and15 p q).mp e
    rw [if_pos e, f p, f q, g p, g q, h p, h q, k p, k q, b 0 (by omega), b 1 (by omega), b 2 (by omega), b 3 (by omega), if_pos rfl, if_pos rfl, if_pos rfl, if_pos rfl]
  · rw [if_neg e]
    by_cases e1 : fl p 1 = fl q 1
    · by_cases e2 : fl p 2 = fl q 2
      · by_cases e3 : fl p 4 = fl q 4
        · by_cases e4 : fl p 8 = fl q 8
          · refine absurd ((and15 p q).mpr fun i hi => ?_) e
            rw [f p, f q] at e1; rw [g p, g q] at e2; rw [h p, h q] at e3; rw [k p, k q] at e4
            have c : i = 0 ∨ i = 1 ∨ i = 2 ∨ i = 3 := by omega
            rcases c with rfl | rfl | rfl | rfl
            · exact bit_of e1
            · exact bit_of e2
            · exact bit_of e3
            · exact bit_of e4
          · rw [if_pos e1, if_pos e2, if_pos e3, if_neg e4]
        · rw [if_pos e1, if_pos e2, if_neg e3]
      · rw [if_pos e1, if_neg e2]
    · rw [if_neg e1]
theorem exV_comm (p q : Int32) : exV q p = exV p q := by
  unfold exV
  by_cases e : (p &&& 15) = (q &&& 15)
  · rw [if_pos e, if_pos e.symm]
  · rw [if_neg e, if_neg (fun h => e h.symm)]
theorem eq4_self (a b c d : Int32) : eq4 a b c d a b c d = 1 := by
  unfold eq4; rw [if_pos rfl, if_pos rfl, if_pos rfl, if_pos rfl]
theorem eq4_01 (a b c d a' b' c' d' : Int32) : eq4 a b c d a' b' c' d' = 0 ∨ eq4 a b c d a' b' c' d' = 1 := by
  unfold eq4; repeat' split
  all_goals first | exact Or.inl rfl | exact Or.inr rfl

theorem own_sub {args : Array Value} {first s : State} {o : Option Outcome} {idx : List Nat} {a b : Term} {x y : Int32} (ha : a.eval args first o idx s = some (.int x)) (hb : b.eval args first o idx s = some (.int y)) : (Term.sub a b).eval args first o idx s = some (.int (x - y)) := by simp [Term.eval, ha, hb]
theorem own_root {Z : State} {a0 : Array Value} {O K : String} {n : Nat} (w : (Cond.noSuperclass O).before a0 Z = true) (wi : (Cond.instantiable K n).before a0 Z = true) (hn : O ≠ K) : NS Z O K := by
  obtain ⟨c, k, h1, h2, h3, -, -⟩ := Cond.noSuperclass_spec w
  obtain ⟨t, k2, g1, -⟩ := Cond.instantiable_spec wi
  have ne := ids_ne h1 g1 hn
  refine ⟨c, t, h1, g1, fun fuel => ?_⟩
  cases fuel with
  | zero => rfl
  | succ f => simp [Vm.isSubclassAux, ne, h2, h3]
theorem own_no {Z : State} {a0 : Array Value} {C S K : String} {m : Nat} (w : (Cond.superclass C S).before a0 Z = true) (wi : (Cond.instantiable K m).before a0 Z = true) (n : NS Z C K) (hn : C ≠ K) : ∃ c t, Z.vm.findClass C = some c ∧ Z.vm.findClass K = some t ∧ Z.vm.assignable c t = false := by
  obtain ⟨c, t, h0, g0, n3⟩ := n
  obtain ⟨p, k, kp, h1, h2, h3, h4, h5, -, h7⟩ := Cond.superclass_spec h0 w
  obtain ⟨t2, k2, g1, g2, g3, g4, -⟩ := Cond.instantiable_spec wi
  cases g0.symm.trans g1
  simp only [Bool.or_eq_false_iff] at g4
  have ne := ids_ne h0 g0 hn
  refine ⟨c, t, h0, g0, ?_⟩
  show Z.vm.assignableAux (255 + 1) c t = false
  simp [Vm.assignableAux, ne, h2, g2, h5, g3, g4.1, Vm.isSubclass, n3]
theorem own_len {Z : State} {args : Array Value} {t : Term} {a : Addr} {c : Cell} {z : Int32} {ty : FieldType} (et : t.eval args Z none [] Z = some (.ref a)) (A : Arr Z Z.heap a c ty) (h : (Term.length t).eval args Z none [] Z = some (.int z)) : c.slots.size < 2 ^ 31 ∧ c.slots.size.toInt32 = z := by
  have ha := A.fin (Vm.Alike.refl _)
  by_cases q : c.slots.size < 2 ^ 31
  · rw [len_f et ha q] at h; exact ⟨q, by simpa using h⟩
  · simp [Term.eval, et, ha, q] at h
theorem own_in {p : Int32} (h1 : ¬ p < -128) (h2 : ¬ 127 < p) : ¬ (p + 128) < 0 ∧ (p + 128) < 256 := by
  have a := c_iadd p 128
  have b := rng32 (p + 128)
  have e1 : (-128 : Int32).toInt = -128 := by decide
  have e2 : (127 : Int32).toInt = 127 := by decide
  have e3 : (128 : Int32).toInt = 128 := by decide
  have e4 : (0 : Int32).toInt = 0 := by decide
  have e5 : (256 : Int32).toInt = 256 := by decide
  rw [Int32.lt_iff_toInt_lt, e1] at h1
  rw [Int32.lt_iff_toInt_lt, e2] at h2
  rw [e3] at a
  rw [Int32.lt_iff_toInt_lt, Int32.lt_iff_toInt_lt, e4, e5]
  omega
theorem ef_2 (a1 : Addr) (p2 : Int32) (p3 : Int32) (p4 : Int32) (p5 : Int32) (m : MethodId) : entryFrame m #[(.ref a1), (.int p2), (.int p3), (.int p4), (.int p5)] 5 = mkF m 0 #[.val (.ref a1), .val (.int p2), .val (.int p3), .val (.int p4), .val (.int p5)] [] := by first | (simp [entryFrame, mkF, argsToLocals, Value.category]; done) | rfl
set_option maxRecDepth 65536 in
set_option maxHeartbeats 40000000 in
theorem rm2 (l : Launch) (Z : State) (a0 : Array Value) (hw : ∀ d ∈ tables_1, d.before a0 Z = true) (a1 : Addr) (p2 : Int32) (p3 : Int32) (p4 : Int32) (p5 : Int32) (h0 : Heap) (n0 : Nat) (u1 u2 u3 u4 : Value) (Ea : Exa Z h0 a1 "com/example/pinakas/pinakas/ConstraintAttributes") (F1 : Fld Z h0 a1 "com/example/pinakas/pinakas/ConstraintAttributes" "deferrable" "Z" u1) (F2 : Fld Z h0 a1 "com/example/pinakas/pinakas/ConstraintAttributes" "initiallyDeferred" "Z" u2) (F3 : Fld Z h0 a1 "com/example/pinakas/pinakas/ConstraintAttributes" "enforced" "Z" u3) (F4 : Fld Z h0 a1 "com/example/pinakas/pinakas/ConstraintAttributes" "noInherit" "Z" u4) (g1 : n0 ≤ a1) (b2 : p2 = 0 ∨ p2 = 1) (b3 : p3 = 0 ∨ p3 = 1) (b4 : p4 = 0 ∨ p4 = 1) (b5 : p5 = 0 ∨ p5 = 1) :
    Ctr l Z (⟨"com/example/pinakas/pinakas/ConstraintAttributes", "<init>", "(ZZZZ)V"⟩ : MethodName) prog_63_method_1_code 5 none ({ frames := 1, cells := 0, slots := 0, locals := 12 } : Room) #[(.ref a1), (.int p2), (.int p3), (.int p4), (.int p5)] h0 (fun v h L => v = none ∧ Fr n0 L ∧ Keep h0 h [a1] ∧ Fld Z h a1 "com/example/pinakas/pinakas/ConstraintAttributes" "deferrable" "Z" (.int p2) ∧ Fld Z h a1 "com/example/pinakas/pinakas/ConstraintAttributes" "initiallyDeferred" "Z" (.int p3) ∧ Fld Z h a1 "com/example/pinakas/pinakas/ConstraintAttributes" "enforced" "Z" (.int p4) ∧ Fld Z h a1 "com/example/pinakas/pinakas/ConstraintAttributes" "noInherit" "Z" (.int p5)) := by
  refine Ctr.of pf_2 (ef_2 a1 p2 p3 p4 p5) ?_
  intro p e s m below meth c T0 hx hby hml hret hlk hnm hZ hown e0 X0
  refine Go.by (g' := (mkF m 1 #[.val (.ref a1), .val (.int p2), .val (.int p3), .val (.int p4), .val (.int p5)] [(.ref a1)])) (fun _ k => XS.aloadN X0.here hx rfl (hb hby d2_0) rfl rfl k) ?_
  obtain ⟨T1, X1, e1, st1⟩ := initO X0 hx hZ hown (hw _ (List.mem_of_getElem? (i := 10) rfl)) (hw _ (List.mem_of_getElem? (i := 11) rfl)) (hw _ (List.mem_of_getElem? (i := 12) rfl)) e0 (g := (mkF m 1 #[.val (.ref a1), .val (.int p2), .val (.int p3), .val (.int p4), .val (.int p5)] [(.ref a1)])) rfl (by rw [hml]; rfl) rfl (hb hby d2_1) (by decide) (W := 0) (by show 2 * 0 + _ ≤ _; exact Nat.le_of_eq rfl) (by decide)
  refine Go.by (g' := (mkF m 4 #[.val (.ref a1), .val (.int p2), .val (.int p3), .val (.int p4), .val (.int p5)] [])) st1 ?_
  refine Go.by (g' := (mkF m 5 #[.val (.ref a1), .val (.int p2), .val (.int p3), .val (.int p4), .val (.int p5)] [(.ref a1)])) (fun _ k => XS.aloadN X1.here hx rfl (hb hby d2_4) rfl rfl k) ?_
  refine Go.by (g' := (mkF m 6 #[.val (.ref a1), .val (.int p2), .val (.int p3), .val (.int p4), .val (.int p5)] [(.int p2), (.ref a1)])) (fun _ k => XS.iloadN X1.here hx rfl (hb hby d2_5) rfl k) ?_
  obtain ⟨T2, h2, X2, e2, W2, st2⟩ := putFN X1 hx hZ hown (hw _ (List.mem_of_getElem? (i := 13) rfl)) Via.refl e1 F1 Ea (Or.inr ⟨(hw _ (List.mem_of_getElem? (i := 14) rfl)), rfl, hnm⟩) (hw _ (List.mem_of_getElem? (i := 5) rfl)) (ty := .boolean) (v' := (.int p2)) (by decide) (by rcases b2 with rfl | rfl <;> rfl) (by rcases b2 with rfl | rfl <;> rfl) (g := (mkF m 6 #[.val (.ref a1), .val (.int p2), .val (.int p3), .val (.int p4), .val (.int p5)] [(.int p2), (.ref a1)])) rfl rfl (hb hby d2_6)
  have M2 := Fr.snoc X2 (Fr.nil n0) g1
  have KP2 : Keep h0 h2 [a1] := (Keep.refl h0 [a1]).wr W2 (Or.inl (List.mem_of_getElem? (i := 0) rfl))
  have F2_F1 := F1.same W2
  refine Go.by (g' := (mkF m 9 #[.val (.ref a1), .val (.int p2), .val (.int p3), .val (.int p4), .val (.int p5)] [])) st2 ?_
  refine Go.by (g' := (mkF m 10 #[.val (.ref a1), .val (.int p2), .val (.int p3), .val (.int p4), .val (.int p5)] [(.ref a1)])) (fun _ k => XS.aloadN X2.here hx rfl (hb hby d2_9) rfl rfl k) ?_
  refine Go.by (g' := (mkF m 11 #[.val (.ref a1), .val (.int p2), .val (.int p3), .val (.int p4), .val (.int p5)] [(.int p3), (.ref a1)])) (fun _ k => XS.iloadN X2.here hx rfl (hb hby d2_10) rfl k) ?_
  have f3_F2 := (F2.other W2 (Or.inr (slot_ne (Or.inr (hw _ (List.mem_of_getElem? (i := 16) rfl))) (Or.inr (hw _ (List.mem_of_getElem? (i := 14) rfl))) (by decide) (t := .boolean) (t' := .boolean) (by decide) (by decide))))
  have f4_Ea := (Ea.wr W2)
  obtain ⟨T5, h5, X5, e5, W5, st5⟩ := putFN X2 hx hZ hown (hw _ (List.mem_of_getElem? (i := 15) rfl)) Via.refl e2 f3_F2 f4_Ea (Or.inr ⟨(hw _ (List.mem_of_getElem? (i := 16) rfl)), rfl, hnm⟩) (hw _ (List.mem_of_getElem? (i := 5) rfl)) (ty := .boolean) (v' := (.int p3)) (by decide) (by rcases b3 with rfl | rfl <;> rfl) (by rcases b3 with rfl | rfl <;> rfl) (g := (mkF m 11 #[.val (.ref a1), .val (.int p2), .val (.int p3), .val (.int p4), .val (.int p5)] [(.int p3), (.ref a1)])) rfl rfl (hb hby d2_11)
  have M5 := Fr.snoc X5 M2 g1
  have KP5 : Keep h0 h5 [a1] := KP2.wr W5 (Or.inl (List.mem_of_getElem? (i := 0) rfl))
  have F5_F2 := f3_F2.same W5
  refine Go.by (g' := (mkF m 14 #[.val (.ref a1), .val (.int p2), .val (.int p3), .val (.int p4), .val (.int p5)] [])) st5 ?_
  refine Go.by (g' := (mkF m 15 #[.val (.ref a1), .val (.int p2), .val (.int p3), .val (.int p4), .val (.int p5)] [(.ref a1)])) (fun _ k => XS.aloadN X5.here hx rfl (hb hby d2_14) rfl rfl k) ?_
  refine Go.by (g' := (mkF m 16 #[.val (.ref a1), .val (.int p2), .val (.int p3), .val (.int p4), .val (.int p5)] [(.int p4), (.ref a1)])) (fun _ k => XS.iloadN X5.here hx rfl (hb hby d2_15) rfl k) ?_
  have f6_F3 := ((F3.other W2 (Or.inr (slot_ne (Or.inr (hw _ (List.mem_of_getElem? (i := 18) rfl))) (Or.inr (hw _ (List.mem_of_getElem? (i := 14) rfl))) (by decide) (t := .boolean) (t' := .boolean) (by decide) (by decide)))).other W5 (Or.inr (slot_ne (Or.inr (hw _ (List.mem_of_getElem? (i := 18) rfl))) (Or.inr (hw _ (List.mem_of_getElem? (i := 16) rfl))) (by decide) (t := .boolean) (t' := .boolean) (by decide) (by decide))))
  have f7_Ea := (f4_Ea.wr W5)
  obtain ⟨T8, h8, X8, e8, W8, st8⟩ := putFN X5 hx hZ hown (hw _ (List.mem_of_getElem? (i := 17) rfl)) Via.refl e5 f6_F3 f7_Ea (Or.inr ⟨(hw _ (List.mem_of_getElem? (i := 18) rfl)), rfl, hnm⟩) (hw _ (List.mem_of_getElem? (i := 5) rfl)) (ty := .boolean) (v' := (.int p4)) (by decide) (by rcases b4 with rfl | rfl <;> rfl) (by rcases b4 with rfl | rfl <;> rfl) (g := (mkF m 16 #[.val (.ref a1), .val (.int p2), .val (.int p3), .val (.int p4), .val (.int p5)] [(.int p4), (.ref a1)])) rfl rfl (hb hby d2_16)
  have M8 := Fr.snoc X8 M5 g1
  have KP8 : Keep h0 h8 [a1] := KP5.wr W8 (Or.inl (List.mem_of_getElem? (i := 0) rfl))
  have F8_F3 := f6_F3.same W8
  refine Go.by (g' := (mkF m 19 #[.val (.ref a1), .val (.int p2), .val (.int p3), .val (.int p4), .val (.int p5)] [])) st8 ?_
  refine Go.by (g' := (mkF m 20 #[.val (.ref a1), .val (.int p2), .val (.int p3), .val (.int p4), .val (.int p5)] [(.ref a1)])) (fun _ k => XS.aloadN X8.here hx rfl (hb hby d2_19) rfl rfl k) ?_
  refine Go.by (g' := (mkF m 22 #[.val (.ref a1), .val (.int p2), .val (.int p3), .val (.int p4), .val (.int p5)] [(.int p5), (.ref a1)])) (fun _ k => XS.iload X8.here hx rfl (hb hby d2_20) rfl k) ?_
  have f9_F4 := (((F4.other W2 (Or.inr (slot_ne (Or.inr (hw _ (List.mem_of_getElem? (i := 20) rfl))) (Or.inr (hw _ (List.mem_of_getElem? (i := 14) rfl))) (by decide) (t := .boolean) (t' := .boolean) (by decide) (by decide)))).other W5 (Or.inr (slot_ne (Or.inr (hw _ (List.mem_of_getElem? (i := 20) rfl))) (Or.inr (hw _ (List.mem_of_getElem? (i := 16) rfl))) (by decide) (t := .boolean) (t' := .boolean) (by decide) (by decide)))).other W8 (Or.inr (slot_ne (Or.inr (hw _ (List.mem_of_getElem? (i := 20) rfl))) (Or.inr (hw _ (List.mem_of_getElem? (i := 18) rfl))) (by decide) (t := .boolean) (t' := .boolean) (by decide) (by decide))))
  have f10_Ea := (f7_Ea.wr W8)
  obtain ⟨T11, h11, X11, e11, W11, st11⟩ := putFN X8 hx hZ hown (hw _ (List.mem_of_getElem? (i := 19) rfl)) Via.refl e8 f9_F4 f10_Ea (Or.inr ⟨(hw _ (List.mem_of_getElem? (i := 20) rfl)), rfl, hnm⟩) (hw _ (List.mem_of_getElem? (i := 5) rfl)) (ty := .boolean) (v' := (.int p5)) (by decide) (by rcases b5 with rfl | rfl <;> rfl) (by rcases b5 with rfl | rfl <;> rfl) (g := (mkF m 22 #[.val (.ref a1), .val (.int p2), .val (.int p3), .val (.int p4), .val (.int p5)] [(.int p5), (.ref a1)])) rfl rfl (hb hby d2_22)
  have M11 := Fr.snoc X11 M8 g1
  have KP11 : Keep h0 h11 [a1] := KP8.wr W11 (Or.inl (List.mem_of_getElem? (i := 0) rfl))
  have F11_F4 := f9_F4.same W11
  refine Go.by (g' := (mkF m 25 #[.val (.ref a1), .val (.int p2), .val (.int p3), .val (.int p4), .val (.int p5)] [])) st11 ?_
  have f12_F1 := (((F2_F1.other W5 (Or.inr (slot_ne (Or.inr (hw _ (List.mem_of_getElem? (i := 14) rfl))) (Or.inr (hw _ (List.mem_of_getElem? (i := 16) rfl))) (by decide) (t := .boolean) (t' := .boolean) (by decide) (by decide)))).other W8 (Or.inr (slot_ne (Or.inr (hw _ (List.mem_of_getElem? (i := 14) rfl))) (Or.inr (hw _ (List.mem_of_getElem? (i := 18) rfl))) (by decide) (t := .boolean) (t' := .boolean) (by decide) (by decide)))).other W11 (Or.inr (slot_ne (Or.inr (hw _ (List.mem_of_getElem? (i := 14) rfl))) (Or.inr (hw _ (List.mem_of_getElem? (i := 20) rfl))) (by decide) (t := .boolean) (t' := .boolean) (by decide) (by decide))))
  have f13_F2 := ((F5_F2.other W8 (Or.inr (slot_ne (Or.inr (hw _ (List.mem_of_getElem? (i := 16) rfl))) (Or.inr (hw _ (List.mem_of_getElem? (i := 18) rfl))) (by decide) (t := .boolean) (t' := .boolean) (by decide) (by decide)))).other W11 (Or.inr (slot_ne (Or.inr (hw _ (List.mem_of_getElem? (i := 16) rfl))) (Or.inr (hw _ (List.mem_of_getElem? (i := 20) rfl))) (by decide) (t := .boolean) (t' := .boolean) (by decide) (by decide))))
  have f14_F3 := (F8_F3.other W11 (Or.inr (slot_ne (Or.inr (hw _ (List.mem_of_getElem? (i := 18) rfl))) (Or.inr (hw _ (List.mem_of_getElem? (i := 20) rfl))) (by decide) (t := .boolean) (t' := .boolean) (by decide) (by decide))))
  exact Go.outN X11 hx hret (Lv.narrow X11 hlk (by decide) (by decide)) (hb hby d2_25) (by rw [e11]; exact ⟨rfl, M11, KP11, f12_F1, f13_F2, f14_F3, F11_F4⟩)
theorem ef_1 (p1 : Int32) (m : MethodId) : entryFrame m #[(.int p1)] 1 = mkF m 0 #[.val (.int p1)] [] := by first | (simp [entryFrame, mkF, argsToLocals, Value.category]; done) | rfl
set_option maxRecDepth 65536 in
set_option maxHeartbeats 40000000 in
theorem rm1 (l : Launch) (Z : State) (a0 : Array Value) (hw : ∀ d ∈ tables_1, d.before a0 Z = true) (p1 : Int32) (h0 : Heap) (n0 : Nat) (Z0 : n0 ≤ h0.size)   :
    Ctr l Z (⟨"com/example/pinakas/pinakas/ConstraintAttributesEqualsPinLaw", "make", "(I)Lcom/example/pinakas/pinakas/ConstraintAttributes;"⟩ : MethodName) method_3_code 1 (some (.object "com/example/pinakas/pinakas/ConstraintAttributes")) ({ frames := 2, cells := 1, slots := 4, locals := 29 } : Room) #[(.int p1)] h0 (fun v h L => ∃ b, v = some (.ref b) ∧ Fr n0 L ∧ Keep h0 h [] ∧ h0.size ≤ b ∧ Exa Z h b "com/example/pinakas/pinakas/ConstraintAttributes" ∧ Fld Z h b "com/example/pinakas/pinakas/ConstraintAttributes" "deferrable" "Z" (.int (fl p1 (1 : Int32))) ∧ Fld Z h b "com/example/pinakas/pinakas/ConstraintAttributes" "initiallyDeferred" "Z" (.int (fl p1 (2 : Int32))) ∧ Fld Z h b "com/example/pinakas/pinakas/ConstraintAttributes" "enforced" "Z" (.int (fl p1 (4 : Int32))) ∧ Fld Z h b "com/example/pinakas/pinakas/ConstraintAttributes" "noInherit" "Z" (.int (fl p1 (8 : Int32)))) := by
  refine Ctr.of pf_1 (ef_1 p1) ?_
  intro p e s m below meth c T0 hx hby hml hret hlk hnm hZ hown e0 X0
  obtain ⟨T15, h15, X15, e15, E15, A15, D15, -, st15⟩ := newO X0 hx hZ hown (hw _ (List.mem_of_getElem? (i := 4) rfl)) (hw _ (List.mem_of_getElem? (i := 5) rfl)) (hw _ (List.mem_of_getElem? (i := 6) rfl)) e0 (g := (mkF m 0 #[.val (.int p1)] [])) rfl (hb hby d1_0) (by decide) (by decide)
  obtain ⟨b, g15⟩ : ∃ z, z = h0.size := ⟨_, rfl⟩
  rw [← g15] at A15 D15 st15
  have ge_b : n0 ≤ b := Nat.le_trans Z0 (Nat.le_of_eq g15.symm)
  have sz_b : h0.size ≤ b := Nat.le_trans (Keep.refl h0 []).1 (Nat.le_of_eq g15.symm)
  have Z15 : n0 ≤ h15.size := Nat.le_trans Z0 E15.1
  have KP15 : Keep h0 h15 [] := (Keep.refl h0 []).ext E15
  refine Go.by (g' := (mkF m 3 #[.val (.int p1)] [(.ref b)])) st15 ?_
  have F1 : Fld Z h15 b "com/example/pinakas/pinakas/ConstraintAttributes" "deferrable" "Z" (.int 0) := (D15 (Or.inr (hw _ (List.mem_of_getElem? (i := 14) rfl))) (ty := .boolean) (by decide))
  have F2 : Fld Z h15 b "com/example/pinakas/pinakas/ConstraintAttributes" "initiallyDeferred" "Z" (.int 0) := (D15 (Or.inr (hw _ (List.mem_of_getElem? (i := 16) rfl))) (ty := .boolean) (by decide))
  have F3 : Fld Z h15 b "com/example/pinakas/pinakas/ConstraintAttributes" "enforced" "Z" (.int 0) := (D15 (Or.inr (hw _ (List.mem_of_getElem? (i := 18) rfl))) (ty := .boolean) (by decide))
  have F4 : Fld Z h15 b "com/example/pinakas/pinakas/ConstraintAttributes" "noInherit" "Z" (.int 0) := (D15 (Or.inr (hw _ (List.mem_of_getElem? (i := 20) rfl))) (ty := .boolean) (by decide))
  refine Go.by (g' := (mkF m 4 #[.val (.int p1)] [(.ref b), (.ref b)])) (fun _ k => XS.dup X15.here hx rfl (hb hby d1_3) rfl rfl k) ?_
  have k49 : ∀ f : Int32, f = (fl p1 (8 : Int32)) → Go p e below (En s ({ frames := 2, cells := 1, slots := 4, locals := 29 } : Room).cells ({ frames := 2, cells := 1, slots := 4, locals := 29 } : Room).slots) (fun v h L => ∃ b, v = some (.ref b) ∧ Fr n0 L ∧ Keep h0 h [] ∧ h0.size ≤ b ∧ Exa Z h b "com/example/pinakas/pinakas/ConstraintAttributes" ∧ Fld Z h b "com/example/pinakas/pinakas/ConstraintAttributes" "deferrable" "Z" (.int (fl p1 (1 : Int32))) ∧ Fld Z h b "com/example/pinakas/pinakas/ConstraintAttributes" "initiallyDeferred" "Z" (.int (fl p1 (2 : Int32))) ∧ Fld Z h b "com/example/pinakas/pinakas/ConstraintAttributes" "enforced" "Z" (.int (fl p1 (4 : Int32))) ∧ Fld Z h b "com/example/pinakas/pinakas/ConstraintAttributes" "noInherit" "Z" (.int (fl p1 (8 : Int32)))) T15 (mkF m 49 #[.val (.int p1)] [(.int f), (.int (fl p1 (4 : Int32))), (.int (fl p1 (2 : Int32))), (.int (fl p1 (1 : Int32))), (.ref b), (.ref b)]) := by
    intro f hf
    subst hf
    refine Go.callI X15 hx hZ (y := (⟨"com/example/pinakas/pinakas/ConstraintAttributes", "<init>", "(ZZZZ)V"⟩ : MethodName)) rfl hown (hw _ (List.mem_of_getElem? (i := 7) rfl)) (hw _ (List.mem_of_getElem? (i := 8) rfl)) (hw _ (List.mem_of_getElem? (i := 6) rfl)) (hw _ (List.mem_of_getElem? (i := 9) rfl)) (by decide) (W := 1) (a := b) (argsL := [(.int (fl p1 (1 : Int32))), (.int (fl p1 (2 : Int32))), (.int (fl p1 (4 : Int32))), (.int (fl p1 (8 : Int32)))]) (rest := [(.ref b)]) (rm2 l Z a0 hw b (fl p1 (1 : Int32)) (fl p1 (2 : Int32)) (fl p1 (4 : Int32)) (fl p1 (8 : Int32)) h15 n0 (.int 0) (.int 0) (.int 0) (.int 0) A15 F1 F2 F3 F4 ge_b (fl01 _ _) (fl01 _ _) (fl01 _ _) (fl01 _ _)) (by decide) (by decide) (by decide) (by decide) (g := (mkF m 49 #[.val (.int p1)] [(.int (fl p1 (8 : Int32))), (.int (fl p1 (4 : Int32))), (.int (fl p1 (2 : Int32))), (.int (fl p1 (1 : Int32))), (.ref b), (.ref b)])) rfl (by rw [hml]; rfl) (lenOf pd_2 rfl) rfl (by show 2 * 0 + _ ≤ _; exact Nat.le_of_eq rfl) (hb hby d1_49) e15 ?_
    rintro T16 L16 _ X16 ⟨rfl, N16, K16, G1, G2, G3, G4⟩
    have M16 := Fr.app (Fr.nil n0) N16
    have Z16 : n0 ≤ T16.heap.size := Nat.le_trans Z15 K16.1
    have KP16 : Keep h0 T16.heap [] := KP15.trans K16 (allS (Or.inr sz_b) all0)
    show Go p e below _ _ T16 (mkF m 52 #[.val (.int p1)] [(.ref b)])
    have f17_E1 := (A15.keep K16)
    exact Go.outA X16 hx hret (Lv.narrow X16 hlk (by decide) (by decide)) rfl rfl (hb hby d1_52) ⟨b, rfl, M16, KP16, sz_b, f17_E1, G1, G2, G3, G4⟩
  have k37 : ∀ f : Int32, f = (fl p1 (4 : Int32)) → Go p e below (En s ({ frames := 2, cells := 1, slots := 4, locals := 29 } : Room).cells ({ frames := 2, cells := 1, slots := 4, locals := 29 } : Room).slots) (fun v h L => ∃ b, v = some (.ref b) ∧ Fr n0 L ∧ Keep h0 h [] ∧ h0.size ≤ b ∧ Exa Z h b "com/example/pinakas/pinakas/ConstraintAttributes" ∧ Fld Z h b "com/example/pinakas/pinakas/ConstraintAttributes" "deferrable" "Z" (.int (fl p1 (1 : Int32))) ∧ Fld Z h b "com/example/pinakas/pinakas/ConstraintAttributes" "initiallyDeferred" "Z" (.int (fl p1 (2 : Int32))) ∧ Fld Z h b "com/example/pinakas/pinakas/ConstraintAttributes" "enforced" "Z" (.int (fl p1 (4 : Int32))) ∧ Fld Z h b "com/example/pinakas/pinakas/ConstraintAttributes" "noInherit" "Z" (.int (fl p1 (8 : Int32)))) T15 (mkF m 37 #[.val (.int p1)] [(.int f), (.int (fl p1 (2 : Int32))), (.int (fl p1 (1 : Int32))), (.ref b), (.ref b)]) := by
    intro f hf
    subst hf
    refine Go.by (g' := (mkF m 38 #[.val (.int p1)] [(.int p1), (.int (fl p1 (4 : Int32))), (.int (fl p1 (2 : Int32))), (.int (fl p1 (1 : Int32))), (.ref b), (.ref b)])) (fun _ k => XS.iloadN X15.here hx rfl (hb hby d1_37) rfl k) ?_
    refine Go.by (g' := (mkF m 40 #[.val (.int p1)] [(.int (8 : Int32)), (.int p1), (.int (fl p1 (4 : Int32))), (.int (fl p1 (2 : Int32))), (.int (fl p1 (1 : Int32))), (.ref b), (.ref b)])) (fun _ k => XS.bipush X15.here hx rfl (hb hby d1_38) k) ?_
    refine Go.by (g' := (mkF m 41 #[.val (.int p1)] [(.int (p1 &&& (8 : Int32))), (.int (fl p1 (4 : Int32))), (.int (fl p1 (2 : Int32))), (.int (fl p1 (1 : Int32))), (.ref b), (.ref b)])) (fun _ k => XS.iand X15.here hx rfl (hb hby d1_40) rfl k) ?_
    by_cases hbit : (p1 &&& (8 : Int32)) = (0 : Int32)
    · refine Go.by (g' := (mkF m 48 #[.val (.int p1)] [(.int (fl p1 (4 : Int32))), (.int (fl p1 (2 : Int32))), (.int (fl p1 (1 : Int32))), (.ref b), (.ref b)])) (fun _ k => XS.ifYes X15.here hx rfl (pc0 := 41) (pc' := 48) rfl (hb hby d1_41) rfl ((if0 _ _).trans (teq hbit).1) (by decide) (by decide) k) ?_
      refine Go.by (g' := (mkF m 49 #[.val (.int p1)] [(.int (0 : Int32)), (.int (fl p1 (4 : Int32))), (.int (fl p1 (2 : Int32))), (.int (fl p1 (1 : Int32))), (.ref b), (.ref b)])) (fun _ k => XS.iconst X15.here hx rfl (hb hby d1_48) k) ?_
      exact k49 _ (by rw [fl, if_pos hbit])
    · refine Go.by (g' := (mkF m 44 #[.val (.int p1)] [(.int (fl p1 (4 : Int32))), (.int (fl p1 (2 : Int32))), (.int (fl p1 (1 : Int32))), (.ref b), (.ref b)])) (fun _ k => XS.ifNo X15.here hx rfl (hb hby d1_41) rfl ((if0 _ _).trans (feq hbit).1) k) ?_
      refine Go.by (g' := (mkF m 45 #[.val (.int p1)] [(.int (1 : Int32)), (.int (fl p1 (4 : Int32))), (.int (fl p1 (2 : Int32))), (.int (fl p1 (1 : Int32))), (.ref b), (.ref b)])) (fun _ k => XS.iconst X15.here hx rfl (hb hby d1_44) k) ?_
      refine Go.by (g' := (mkF m 49 #[.val (.int p1)] [(.int (1 : Int32)), (.int (fl p1 (4 : Int32))), (.int (fl p1 (2 : Int32))), (.int (fl p1 (1 : Int32))), (.ref b), (.ref b)])) (fun _ k => XS.goto X15.here hx rfl (pc0 := 45) (pc' := 49) rfl (hb hby d1_45) (by decide) (by decide) k) ?_
      exact k49 _ (by rw [fl, if_neg hbit])
  have k26 : ∀ f : Int32, f = (fl p1 (2 : Int32)) → Go p e below (En s ({ frames := 2, cells := 1, slots := 4, locals := 29 } : Room).cells ({ frames := 2, cells := 1, slots := 4, locals := 29 } : Room).slots) (fun v h L => ∃ b, v = some (.ref b) ∧ Fr n0 L ∧ Keep h0 h [] ∧ h0.size ≤ b ∧ Exa Z h b "com/example/pinakas/pinakas/ConstraintAttributes" ∧ Fld Z h b "com/example/pinakas/pinakas/ConstraintAttributes" "deferrable" "Z" (.int (fl p1 (1 : Int32))) ∧ Fld Z h b "com/example/pinakas/pinakas/ConstraintAttributes" "initiallyDeferred" "Z" (.int (fl p1 (2 : Int32))) ∧ Fld Z h b "com/example/pinakas/pinakas/ConstraintAttributes" "enforced" "Z" (.int (fl p1 (4 : Int32))) ∧ Fld Z h b "com/example/pinakas/pinakas/ConstraintAttributes" "noInherit" "Z" (.int (fl p1 (8 : Int32)))) T15 (mkF m 26 #[.val (.int p1)] [(.int f), (.int (fl p1 (1 : Int32))), (.ref b), (.ref b)]) := by
    intro f hf
    subst hf
    refine Go.by (g' := (mkF m 27 #[.val (.int p1)] [(.int p1), (.int (fl p1 (2 : Int32))), (.int (fl p1 (1 : Int32))), (.ref b), (.ref b)])) (fun _ k => XS.iloadN X15.here hx rfl (hb hby d1_26) rfl k) ?_
    refine Go.by (g' := (mkF m 28 #[.val (.int p1)] [(.int (4 : Int32)), (.int p1), (.int (fl p1 (2 : Int32))), (.int (fl p1 (1 : Int32))), (.ref b), (.ref b)])) (fun _ k => XS.iconst X15.here hx rfl (hb hby d1_27) k) ?_
    refine Go.by (g' := (mkF m 29 #[.val (.int p1)] [(.int (p1 &&& (4 : Int32))), (.int (fl p1 (2 : Int32))), (.int (fl p1 (1 : Int32))), (.ref b), (.ref b)])) (fun _ k => XS.iand X15.here hx rfl (hb hby d1_28) rfl k) ?_
    by_cases hbit : (p1 &&& (4 : Int32)) = (0 : Int32)
    · refine Go.by (g' := (mkF m 36 #[.val (.int p1)] [(.int (fl p1 (2 : Int32))), (.int (fl p1 (1 : Int32))), (.ref b), (.ref b)])) (fun _ k => XS.ifYes X15.here hx rfl (pc0 := 29) (pc' := 36) rfl (hb hby d1_29) rfl ((if0 _ _).trans (teq hbit).1) (by decide) (by decide) k) ?_
      refine Go.by (g' := (mkF m 37 #[.val (.int p1)] [(.int (0 : Int32)), (.int (fl p1 (2 : Int32))), (.int (fl p1 (1 : Int32))), (.ref b), (.ref b)])) (fun _ k => XS.iconst X15.here hx rfl (hb hby d1_36) k) ?_
      exact k37 _ (by rw [fl, if_pos hbit])
    · refine Go.by (g' := (mkF m 32 #[.val (.int p1)] [(.int (fl p1 (2 : Int32))), (.int (fl p1 (1 : Int32))), (.ref b), (.ref b)])) (fun _ k => XS.ifNo X15.here hx rfl (hb hby d1_29) rfl ((if0 _ _).trans (feq hbit).1) k) ?_
      refine Go.by (g' := (mkF m 33 #[.val (.int p1)] [(.int (1 : Int32)), (.int (fl p1 (2 : Int32))), (.int (fl p1 (1 : Int32))), (.ref b), (.ref b)])) (fun _ k => XS.iconst X15.here hx rfl (hb hby d1_32) k) ?_
      refine Go.by (g' := (mkF m 37 #[.val (.int p1)] [(.int (1 : Int32)), (.int (fl p1 (2 : Int32))), (.int (fl p1 (1 : Int32))), (.ref b), (.ref b)])) (fun _ k => XS.goto X15.here hx rfl (pc0 := 33) (pc' := 37) rfl (hb hby d1_33) (by decide) (by decide) k) ?_
      exact k37 _ (by rw [fl, if_neg hbit])
  have k15 : ∀ f : Int32, f = (fl p1 (1 : Int32)) → Go p e below (En s ({ frames := 2, cells := 1, slots := 4, locals := 29 } : Room).cells ({ frames := 2, cells := 1, slots := 4, locals := 29 } : Room).slots) (fun v h L => ∃ b, v = some (.ref b) ∧ Fr n0 L ∧ Keep h0 h [] ∧ h0.size ≤ b ∧ Exa Z h b "com/example/pinakas/pinakas/ConstraintAttributes" ∧ Fld Z h b "com/example/pinakas/pinakas/ConstraintAttributes" "deferrable" "Z" (.int (fl p1 (1 : Int32))) ∧ Fld Z h b "com/example/pinakas/pinakas/ConstraintAttributes" "initiallyDeferred" "Z" (.int (fl p1 (2 : Int32))) ∧ Fld Z h b "com/example/pinakas/pinakas/ConstraintAttributes" "enforced" "Z" (.int (fl p1 (4 : Int32))) ∧ Fld Z h b "com/example/pinakas/pinakas/ConstraintAttributes" "noInherit" "Z" (.int (fl p1 (8 : Int32)))) T15 (mkF m 15 #[.val (.int p1)] [(.int f), (.ref b), (.ref b)]) := by
    intro f hf
    subst hf
    refine Go.by (g' := (mkF m 16 #[.val (.int p1)] [(.int p1), (.int (fl p1 (1 : Int32))), (.ref b), (.ref b)])) (fun _ k => XS.iloadN X15.here hx rfl (hb hby d1_15) rfl k) ?_
    refine Go.by (g' := (mkF m 17 #[.val (.int p1)] [(.int (2 : Int32)), (.int p1), (.int (fl p1 (1 : Int32))), (.ref b), (.ref b)])) (fun _ k => XS.iconst X15.here hx rfl (hb hby d1_16) k) ?_
    refine Go.by (g' := (mkF m 18 #[.val (.int p1)] [(.int (p1 &&& (2 : Int32))), (.int (fl p1 (1 : Int32))), (.ref b), (.ref b)])) (fun _ k => XS.iand X15.here hx rfl (hb hby d1_17) rfl k) ?_
    by_cases hbit : (p1 &&& (2 : Int32)) = (0 : Int32)
    · refine Go.by (g' := (mkF m 25 #[.val (.int p1)] [(.int (fl p1 (1 : Int32))), (.ref b), (.ref b)])) (fun _ k => XS.ifYes X15.here hx rfl (pc0 := 18) (pc' := 25) rfl (hb hby d1_18) rfl ((if0 _ _).trans (teq hbit).1) (by decide) (by decide) k) ?_
      refine Go.by (g' := (mkF m 26 #[.val (.int p1)] [(.int (0 : Int32)), (.int (fl p1 (1 : Int32))), (.ref b), (.ref b)])) (fun _ k => XS.iconst X15.here hx rfl (hb hby d1_25) k) ?_
      exact k26 _ (by rw [fl, if_pos hbit])
    · refine Go.by (g' := (mkF m 21 #[.val (.int p1)] [(.int (fl p1 (1 : Int32))), (.ref b), (.ref b)])) (fun _ k => XS.ifNo X15.here hx rfl (hb hby d1_18) rfl ((if0 _ _).trans (feq hbit).1) k) ?_
      refine Go.by (g' := (mkF m 22 #[.val (.int p1)] [(.int (1 : Int32)), (.int (fl p1 (1 : Int32))), (.ref b), (.ref b)])) (fun _ k => XS.iconst X15.here hx rfl (hb hby d1_21) k) ?_
      refine Go.by (g' := (mkF m 26 #[.val (.int p1)] [(.int (1 : Int32)), (.int (fl p1 (1 : Int32))), (.ref b), (.ref b)])) (fun _ k => XS.goto X15.here hx rfl (pc0 := 22) (pc' := 26) rfl (hb hby d1_22) (by decide) (by decide) k) ?_
      exact k26 _ (by rw [fl, if_neg hbit])
  refine Go.by (g' := (mkF m 5 #[.val (.int p1)] [(.int p1), (.ref b), (.ref b)])) (fun _ k => XS.iloadN X15.here hx rfl (hb hby d1_4) rfl k) ?_
  refine Go.by (g' := (mkF m 6 #[.val (.int p1)] [(.int (1 : Int32)), (.int p1), (.ref b), (.ref b)])) (fun _ k => XS.iconst X15.here hx rfl (hb hby d1_5) k) ?_
  refine Go.by (g' := (mkF m 7 #[.val (.int p1)] [(.int (p1 &&& (1 : Int32))), (.ref b), (.ref b)])) (fun _ k => XS.iand X15.here hx rfl (hb hby d1_6) rfl k) ?_
  by_cases hbit : (p1 &&& (1 : Int32)) = (0 : Int32)
  · refine Go.by (g' := (mkF m 14 #[.val (.int p1)] [(.ref b), (.ref b)])) (fun _ k => XS.ifYes X15.here hx rfl (pc0 := 7) (pc' := 14) rfl (hb hby d1_7) rfl ((if0 _ _).trans (teq hbit).1) (by decide) (by decide) k) ?_
    refine Go.by (g' := (mkF m 15 #[.val (.int p1)] [(.int (0 : Int32)), (.ref b), (.ref b)])) (fun _ k => XS.iconst X15.here hx rfl (hb hby d1_14) k) ?_
    exact k15 _ (by rw [fl, if_pos hbit])
  · refine Go.by (g' := (mkF m 10 #[.val (.int p1)] [(.ref b), (.ref b)])) (fun _ k => XS.ifNo X15.here hx rfl (hb hby d1_7) rfl ((if0 _ _).trans (feq hbit).1) k) ?_
    refine Go.by (g' := (mkF m 11 #[.val (.int p1)] [(.int (1 : Int32)), (.ref b), (.ref b)])) (fun _ k => XS.iconst X15.here hx rfl (hb hby d1_10) k) ?_
    refine Go.by (g' := (mkF m 15 #[.val (.int p1)] [(.int (1 : Int32)), (.ref b), (.ref b)])) (fun _ k => XS.goto X15.here hx rfl (pc0 := 11) (pc' := 15) rfl (hb hby d1_11) (by decide) (by decide) k) ?_
    exact k15 _ (by rw [fl, if_neg hbit])
theorem ef_7 (a1 : Addr) (m : MethodId) : entryFrame m #[(.ref a1)] 1 = mkF m 0 #[.val (.ref a1)] [] := by first | (simp [entryFrame, mkF, argsToLocals, Value.category]; done) | rfl
set_option maxRecDepth 65536 in
set_option maxHeartbeats 40000000 in
theorem rm7 (l : Launch) (Z : State) (a0 : Array Value) (hw : ∀ d ∈ tables_1, d.before a0 Z = true) (a1 : Addr) (h0 : Heap) (n0 : Nat)   :
    Ctr l Z (⟨"java/lang/Number", "<init>", "()V"⟩ : MethodName) jdk_18_method_1_code 1 none ({ frames := 1, cells := 0, slots := 0, locals := 12 } : Room) #[(.ref a1)] h0 (fun v h L => v = none ∧ Fr n0 L ∧ h = h0) := by
  refine Ctr.of pf_7 (ef_7 a1) ?_
  intro p e s m below meth c T0 hx hby hml hret hlk hnm hZ hown e0 X0
  refine Go.by (g' := (mkF m 1 #[.val (.ref a1)] [(.ref a1)])) (fun _ k => XS.aloadN X0.here hx rfl (hb hby d7_0) rfl rfl k) ?_
  obtain ⟨T18, X18, e18, st18⟩ := initO X0 hx hZ hown (hw _ (List.mem_of_getElem? (i := 50) rfl)) (hw _ (List.mem_of_getElem? (i := 11) rfl)) (hw _ (List.mem_of_getElem? (i := 12) rfl)) e0 (g := (mkF m 1 #[.val (.ref a1)] [(.ref a1)])) rfl (by rw [hml]; rfl) rfl (hb hby d7_1) (by decide) (W := 0) (by show 2 * 0 + _ ≤ _; exact Nat.le_of_eq rfl) (by decide)
  refine Go.by (g' := (mkF m 4 #[.val (.ref a1)] [])) st18 ?_
  exact Go.outN X18 hx hret (Lv.narrow X18 hlk (by decide) (by decide)) (hb hby d7_4) (by rw [e18]; exact ⟨rfl, Fr.nil _, rfl⟩)
theorem ef_6 (a1 : Addr) (p2 : Int32) (m : MethodId) : entryFrame m #[(.ref a1), (.int p2)] 2 = mkF m 0 #[.val (.ref a1), .val (.int p2)] [] := by first | (simp [entryFrame, mkF, argsToLocals, Value.category]; done) | rfl
set_option maxRecDepth 65536 in
set_option maxHeartbeats 40000000 in
theorem rm6 (l : Launch) (Z : State) (a0 : Array Value) (hw : ∀ d ∈ tables_1, d.before a0 Z = true) (a1 : Addr) (p2 : Int32) (h0 : Heap) (n0 : Nat) (u1 : Value) (Ea : Exa Z h0 a1 "java/lang/Integer") (F1 : Fld Z h0 a1 "java/lang/Integer" "value" "I" u1) (g1 : n0 ≤ a1) :
    Ctr l Z (⟨"java/lang/Integer", "<init>", "(I)V"⟩ : MethodName) jdk_33_method_23_code 2 none ({ frames := 2, cells := 0, slots := 0, locals := 24 } : Room) #[(.ref a1), (.int p2)] h0 (fun v h L => v = none ∧ Fr n0 L ∧ Keep h0 h [a1]) := by
  refine Ctr.of pf_6 (ef_6 a1 p2) ?_
  intro p e s m below meth c T0 hx hby hml hret hlk hnm hZ hown e0 X0
  refine Go.by (g' := (mkF m 1 #[.val (.ref a1), .val (.int p2)] [(.ref a1)])) (fun _ k => XS.aloadN X0.here hx rfl (hb hby d6_0) rfl rfl k) ?_
  refine Go.callI X0 hx hZ (y := (⟨"java/lang/Number", "<init>", "()V"⟩ : MethodName)) rfl hown (hw _ (List.mem_of_getElem? (i := 44) rfl)) (hw _ (List.mem_of_getElem? (i := 45) rfl)) (hw _ (List.mem_of_getElem? (i := 48) rfl)) (hw _ (List.mem_of_getElem? (i := 49) rfl)) (by decide) (W := 0) (a := a1) (argsL := []) (rest := []) (rm7 l Z a0 hw a1 h0 n0) (by decide) (by decide) (by decide) (by decide) (g := (mkF m 1 #[.val (.ref a1), .val (.int p2)] [(.ref a1)])) rfl (by rw [hml]; rfl) (lenOf pd_7 rfl) rfl (by show 2 * 0 + _ ≤ _; exact Nat.le_of_eq rfl) (hb hby d6_1) e0 ?_
  rintro T19 L19 _ X19 ⟨rfl, N19, q19⟩
  have M19 := Fr.app (Fr.nil n0) N19
  show Go p e below _ _ T19 (mkF m 4 #[.val (.ref a1), .val (.int p2)] [])
  refine Go.by (g' := (mkF m 5 #[.val (.ref a1), .val (.int p2)] [(.ref a1)])) (fun _ k => XS.aloadN X19.here hx rfl (hb hby d6_4) rfl rfl k) ?_
  refine Go.by (g' := (mkF m 6 #[.val (.ref a1), .val (.int p2)] [(.int p2), (.ref a1)])) (fun _ k => XS.iloadN X19.here hx rfl (hb hby d6_5) rfl k) ?_
  obtain ⟨T20, h20, X20, e20, W20, st20⟩ := putF X19 hx hZ hown (host := "") (Or.inl (hw _ (List.mem_of_getElem? (i := 51) rfl))) Via.refl q19 F1 Ea (Or.inr ⟨(hw _ (List.mem_of_getElem? (i := 52) rfl)), rfl, hnm⟩) (hw _ (List.mem_of_getElem? (i := 39) rfl)) (ty := .int) (by decide) rfl rfl (g := (mkF m 6 #[.val (.ref a1), .val (.int p2)] [(.int p2), (.ref a1)])) rfl rfl (hb hby d6_6)
  have M20 := Fr.snoc X20 M19 g1
  have KP20 : Keep h0 h20 [a1] := (Keep.refl h0 [a1]).wr W20 (Or.inl (List.mem_of_getElem? (i := 0) rfl))
  have F20_F1 := F1.same W20
  refine Go.by (g' := (mkF m 9 #[.val (.ref a1), .val (.int p2)] [])) st20 ?_
  exact Go.outN X20 hx hret (Lv.narrow X20 hlk (by decide) (by decide)) (hb hby d6_9) (by rw [e20]; exact ⟨rfl, M20, KP20⟩)
theorem ef_4 (p1 : Int32) (m : MethodId) : entryFrame m #[(.int p1)] 1 = mkF m 0 #[.val (.int p1)] [] := by first | (simp [entryFrame, mkF, argsToLocals, Value.category]; done) | rfl
set_option maxRecDepth 65536 in
set_option maxHeartbeats 40000000 in
theorem rm4 (l : Launch) (Z : State) (a0 : Array Value) (hw : ∀ d ∈ tables_1, d.before a0 Z = true) (p1 : Int32) (h0 : Heap) (n0 : Nat) (Z0 : n0 ≤ h0.size) (aC : Addr) (cC : Cell) (vl : Int32 → Value) (OL : Old Z n0 h0) (SH : Sta Z Z.heap "java/lang/Integer$IntegerCache" "high" "I" (.int 127)) (SC : Sta Z Z.heap "java/lang/Integer$IntegerCache" "cache" "[Ljava/lang/Integer;" (.ref aC)) (BX : Bxs Z aC cC "java/lang/Integer" "I" 256 vl) :
    Ctr l Z (⟨"java/lang/Integer", "valueOf", "(I)Ljava/lang/Integer;"⟩ : MethodName) jdk_33_method_22_code 1 (some (.object "java/lang/Integer")) ({ frames := 3, cells := 1, slots := 1, locals := 38 } : Room) #[(.int p1)] h0 (fun v h L => ∃ b, v = some (.ref b) ∧ Fr n0 L ∧ Keep h0 h [] ∧ Exa Z h b "java/lang/Integer") := by
  refine Ctr.of pf_4 (ef_4 p1) ?_
  intro p e s m below meth c T0 hx hby hml hret hlk hnm hZ hown e0 X0
  have k23 : ∀ (T21 : State), Same X0 T21 → T21.heap = h0 → Go p e below (En s ({ frames := 3, cells := 1, slots := 1, locals := 38 } : Room).cells ({ frames := 3, cells := 1, slots := 1, locals := 38 } : Room).slots) (fun v h L => ∃ b, v = some (.ref b) ∧ Fr n0 L ∧ Keep h0 h [] ∧ Exa Z h b "java/lang/Integer") T21 (mkF m 23 #[.val (.int p1)] []) := by
    intro T21 X21 e21 
    obtain ⟨T22, h22, X22, e22, E22, A22, D22, -, st22⟩ := newO X21 hx hZ hown (hw _ (List.mem_of_getElem? (i := 38) rfl)) (hw _ (List.mem_of_getElem? (i := 39) rfl)) (hw _ (List.mem_of_getElem? (i := 23) rfl)) e21 (g := (mkF m 23 #[.val (.int p1)] [])) rfl (hb hby d4_23) (by decide) (by decide)
    obtain ⟨b, g22⟩ : ∃ z, z = h0.size := ⟨_, rfl⟩
    rw [← g22] at A22 D22 st22
    have ge_b : n0 ≤ b := Nat.le_trans Z0 (Nat.le_of_eq g22.symm)
    have sz_b : h0.size ≤ b := Nat.le_trans (Keep.refl h0 []).1 (Nat.le_of_eq g22.symm)
    have Z22 : n0 ≤ h22.size := Nat.le_trans Z0 E22.1
    have KP22 : Keep h0 h22 [] := (Keep.refl h0 []).ext E22
    refine Go.by (g' := (mkF m 26 #[.val (.int p1)] [(.ref b)])) st22 ?_
    have F1 : Fld Z h22 b "java/lang/Integer" "value" "I" (.int 0) := (D22 (Or.inr (hw _ (List.mem_of_getElem? (i := 52) rfl))) (ty := .int) (by decide))
    refine Go.by (g' := (mkF m 27 #[.val (.int p1)] [(.ref b), (.ref b)])) (fun _ k => XS.dup X22.here hx rfl (hb hby d4_26) rfl rfl k) ?_
    refine Go.by (g' := (mkF m 28 #[.val (.int p1)] [(.int p1), (.ref b), (.ref b)])) (fun _ k => XS.iloadN X22.here hx rfl (hb hby d4_27) rfl k) ?_
    refine Go.callI X22 hx hZ (y := (⟨"java/lang/Integer", "<init>", "(I)V"⟩ : MethodName)) rfl hown (hw _ (List.mem_of_getElem? (i := 40) rfl)) (hw _ (List.mem_of_getElem? (i := 41) rfl)) (hw _ (List.mem_of_getElem? (i := 23) rfl)) (hw _ (List.mem_of_getElem? (i := 43) rfl)) (by decide) (W := 1) (a := b) (argsL := [(.int p1)]) (rest := [(.ref b)]) (rm6 l Z a0 hw b p1 h22 n0 (.int 0) A22 F1 ge_b) (by decide) (by decide) (by decide) (by decide) (g := (mkF m 28 #[.val (.int p1)] [(.int p1), (.ref b), (.ref b)])) rfl (by rw [hml]; rfl) (lenOf pd_6 rfl) rfl (by show 2 * 0 + _ ≤ _; exact Nat.le_of_eq rfl) (hb hby d4_28) e22 ?_
    rintro T23 L23 _ X23 ⟨rfl, N23, K23⟩
    have M23 := Fr.app (Fr.nil n0) N23
    have Z23 : n0 ≤ T23.heap.size := Nat.le_trans Z22 K23.1
    have KP23 : Keep h0 T23.heap [] := KP22.trans K23 (allS (Or.inr sz_b) all0)
    show Go p e below _ _ T23 (mkF m 31 #[.val (.int p1)] [(.ref b)])
    have f24_E1 := (A22.keep K23)
    exact Go.outA X23 hx hret (Lv.narrow X23 hlk (by decide) (by decide)) rfl rfl (hb hby d4_31) ⟨b, rfl, M23, KP23, f24_E1⟩
  refine Go.by (g' := (mkF m 1 #[.val (.int p1)] [(.int p1)])) (fun _ k => XS.iloadN X0.here hx rfl (hb hby d4_0) rfl k) ?_
  refine Go.by (g' := (mkF m 3 #[.val (.int p1)] [(.int (-128 : Int32)), (.int p1)])) (fun _ k => XS.bipush X0.here hx rfl (hb hby d4_1) k) ?_
  by_cases h3 : p1 < (-128 : Int32)
  · refine Go.by (g' := (mkF m 23 #[.val (.int p1)] [])) (fun _ k => XS.icmpYes X0.here hx rfl (pc0 := 3) (pc' := 23) rfl (hb hby d4_3) rfl (tlt h3).1 (by decide) (by decide) k) ?_
    exact k23 T0 X0 e0
  · refine Go.by (g' := (mkF m 6 #[.val (.int p1)] [])) (fun _ k => XS.icmpNo X0.here hx rfl (hb hby d4_3) rfl (flt h3).1 k) ?_
    refine Go.by (g' := (mkF m 7 #[.val (.int p1)] [(.int p1)])) (fun _ k => XS.iloadN X0.here hx rfl (hb hby d4_6) rfl k) ?_
    obtain ⟨T25, X25, e25, st25⟩ := getS2 X0 hx hZ hown (host := "") (Or.inl (hw _ (List.mem_of_getElem? (i := 25) rfl))) Via.refl e0 (SH.ext OL.2) (g := (mkF m 7 #[.val (.int p1)] [(.int p1)])) rfl (hb hby d4_7)
    refine Go.by (g' := (mkF m 10 #[.val (.int p1)] [(.int (127 : Int32)), (.int p1)])) st25 ?_
    by_cases h10 : (127 : Int32) < p1
    · refine Go.by (g' := (mkF m 23 #[.val (.int p1)] [])) (fun _ k => XS.icmpYes X25.here hx rfl (pc0 := 10) (pc' := 23) rfl (hb hby d4_10) rfl (tlt h10).2.2.1 (by decide) (by decide) k) ?_
      exact k23 T25 X25 e25
    · refine Go.by (g' := (mkF m 13 #[.val (.int p1)] [])) (fun _ k => XS.icmpNo X25.here hx rfl (hb hby d4_10) rfl (flt h10).2.2.1 k) ?_
      obtain ⟨T26, X26, e26, st26⟩ := getS2 X25 hx hZ hown (host := "") (Or.inl (hw _ (List.mem_of_getElem? (i := 27) rfl))) Via.refl e25 (SC.ext OL.2) (g := (mkF m 13 #[.val (.int p1)] [])) rfl (hb hby d4_13)
      refine Go.by (g' := (mkF m 16 #[.val (.int p1)] [(.ref aC)])) st26 ?_
      refine Go.by (g' := (mkF m 17 #[.val (.int p1)] [(.int p1), (.ref aC)])) (fun _ k => XS.iloadN X26.here hx rfl (hb hby d4_16) rfl k) ?_
      refine Go.by (g' := (mkF m 20 #[.val (.int p1)] [(.int (128 : Int32)), (.int p1), (.ref aC)])) (fun _ k => XS.sipush X26.here hx rfl (hb hby d4_17) k) ?_
      refine Go.by (g' := (mkF m 21 #[.val (.int p1)] [(.int (p1 + (128 : Int32))), (.ref aC)])) (fun _ k => XS.iadd X26.here hx rfl (hb hby d4_20) rfl k) ?_
      have hin := inb_of BX.2.1 (own_in h3 h10)
      obtain ⟨bx, hat, Ebx, -⟩ := BX.2.2.2 _ hin
      have Ar := BX.1.ext OL.2
      refine Go.by (g' := (mkF m 22 #[.val (.int p1)] [(.ref bx)])) (X26.aaload hx (j := (p1 + (128 : Int32))) (v := (.ref bx)) (by rw [e26]; exact Ar.1) (State.isArrayOf_alike hZ.alike Ar.2.1) rfl Ar.2.2 hin hat (g := (mkF m 21 #[.val (.int p1)] [(.int (p1 + (128 : Int32))), (.ref aC)])) rfl rfl (hb hby d4_21)) ?_
      exact Go.outA X26 hx hret (Lv.narrow X26 hlk (by decide) (by decide)) rfl rfl (hb hby d4_22) (by rw [e26]; exact ⟨bx, rfl, Fr.nil _, Keep.refl _ _, Ebx.ext OL.2⟩)
theorem ef_5a (a1 : Addr) (a2 : Addr) (m : MethodId) : entryFrame m #[(.ref a1), (.ref a2)] 3 = mkF m 0 #[.val (.ref a1), .val (.ref a2), .unset] [] := by first | (simp [entryFrame, mkF, argsToLocals, Value.category]; done) | rfl
set_option maxRecDepth 65536 in
set_option maxHeartbeats 40000000 in
theorem rm5a (l : Launch) (Z : State) (a0 : Array Value) (hw : ∀ d ∈ tables_1, d.before a0 Z = true) (a1 : Addr) (a2 : Addr) (h0 : Heap) (n0 : Nat) (f1 f2 f3 f4 g1 g2 g3 g4 : Int32) (E2 : Exa Z h0 a2 "com/example/pinakas/pinakas/ConstraintAttributes") (F1 : Fld Z h0 a1 "com/example/pinakas/pinakas/ConstraintAttributes" "deferrable" "Z" (.int f1)) (G1 : Fld Z h0 a2 "com/example/pinakas/pinakas/ConstraintAttributes" "deferrable" "Z" (.int g1)) (F2 : Fld Z h0 a1 "com/example/pinakas/pinakas/ConstraintAttributes" "initiallyDeferred" "Z" (.int f2)) (G2 : Fld Z h0 a2 "com/example/pinakas/pinakas/ConstraintAttributes" "initiallyDeferred" "Z" (.int g2)) (F3 : Fld Z h0 a1 "com/example/pinakas/pinakas/ConstraintAttributes" "enforced" "Z" (.int f3)) (G3 : Fld Z h0 a2 "com/example/pinakas/pinakas/ConstraintAttributes" "enforced" "Z" (.int g3)) (F4 : Fld Z h0 a1 "com/example/pinakas/pinakas/ConstraintAttributes" "noInherit" "Z" (.int f4)) (G4 : Fld Z h0 a2 "com/example/pinakas/pinakas/ConstraintAttributes" "noInherit" "Z" (.int g4)) :
    Ctr l Z (⟨"com/example/pinakas/pinakas/ConstraintAttributes", "equals", "(Ljava/lang/Object;)Z"⟩ : MethodName) prog_63_method_10_code 3 (some .boolean) ({ frames := 0, cells := 0, slots := 0, locals := 0 } : Room) #[(.ref a1), (.ref a2)] h0 (fun v h L => v = some (.int (eq4 f1 f2 f3 f4 g1 g2 g3 g4)) ∧ Fr n0 L ∧ h = h0) := by
  refine Ctr.of pf_5 (ef_5a a1 a2) ?_
  intro p e s m below meth c T0 hx hby hml hret hlk hnm hZ hown e0 X0
  refine Go.by (g' := (mkF m 1 #[.val (.ref a1), .val (.ref a2), .unset] [(.ref a2)])) (fun _ k => XS.aloadN X0.here hx rfl (hb hby d5_0) rfl rfl k) ?_
  obtain ⟨T27, X27, e27, st27⟩ := instY X0 hx hZ hown (hw _ (List.mem_of_getElem? (i := 33) rfl)) e0 (Ins.self E2) (g := (mkF m 1 #[.val (.ref a1), .val (.ref a2), .unset] [(.ref a2)])) rfl rfl (hb hby d5_1)
  refine Go.by (g' := (mkF m 4 #[.val (.ref a1), .val (.ref a2), .unset] [(.int (1 : Int32))])) st27 ?_
  refine Go.by (g' := (mkF m 7 #[.val (.ref a1), .val (.ref a2), .unset] [])) (fun _ k => XS.ifNo X27.here hx rfl (hb hby d5_4) rfl ((if0 _ _).trans (feq (by decide)).1) k) ?_
  refine Go.by (g' := (mkF m 8 #[.val (.ref a1), .val (.ref a2), .unset] [(.ref a2)])) (fun _ k => XS.aloadN X27.here hx rfl (hb hby d5_7) rfl rfl k) ?_
  obtain ⟨T28, X28, e28, st28⟩ := castY X27 hx hZ hown (hw _ (List.mem_of_getElem? (i := 33) rfl)) e27 (Ins.self E2) (g := (mkF m 8 #[.val (.ref a1), .val (.ref a2), .unset] [(.ref a2)])) rfl rfl (hb hby d5_8)
  refine Go.by (g' := (mkF m 11 #[.val (.ref a1), .val (.ref a2), .unset] [(.ref a2)])) st28 ?_
  refine Go.by (g' := (mkF m 12 #[.val (.ref a1), .val (.ref a2), .val (.ref a2)] [])) (fun _ k => XS.astoreN X28.here hx rfl (hb hby d5_11) rfl rfl (l' := #[.val (.ref a1), .val (.ref a2), .val (.ref a2)]) rfl k) ?_
  refine Go.by (g' := (mkF m 13 #[.val (.ref a1), .val (.ref a2), .val (.ref a2)] [(.ref a1)])) (fun _ k => XS.aloadN X28.here hx rfl (hb hby d5_12) rfl rfl k) ?_
  obtain ⟨T29, X29, e29, st29⟩ := getF X28 hx hZ hown (host := "") (Or.inl (hw _ (List.mem_of_getElem? (i := 13) rfl))) Via.refl e28 F1 (g := (mkF m 13 #[.val (.ref a1), .val (.ref a2), .val (.ref a2)] [(.ref a1)])) rfl rfl (hb hby d5_13)
  refine Go.by (g' := (mkF m 16 #[.val (.ref a1), .val (.ref a2), .val (.ref a2)] [(.int f1)])) st29 ?_
  refine Go.by (g' := (mkF m 17 #[.val (.ref a1), .val (.ref a2), .val (.ref a2)] [(.ref a2), (.int f1)])) (fun _ k => XS.aloadN X29.here hx rfl (hb hby d5_16) rfl rfl k) ?_
  obtain ⟨T30, X30, e30, st30⟩ := getF X29 hx hZ hown (host := "") (Or.inl (hw _ (List.mem_of_getElem? (i := 13) rfl))) Via.refl e29 G1 (g := (mkF m 17 #[.val (.ref a1), .val (.ref a2), .val (.ref a2)] [(.ref a2), (.int f1)])) rfl rfl (hb hby d5_17)
  refine Go.by (g' := (mkF m 20 #[.val (.ref a1), .val (.ref a2), .val (.ref a2)] [(.int g1), (.int f1)])) st30 ?_
  by_cases h0 : f1 = g1
  · refine Go.by (g' := (mkF m 23 #[.val (.ref a1), .val (.ref a2), .val (.ref a2)] [])) (fun _ k => XS.icmpNo X30.here hx rfl (hb hby d5_20) rfl (teq h0).2 k) ?_
    refine Go.by (g' := (mkF m 24 #[.val (.ref a1), .val (.ref a2), .val (.ref a2)] [(.ref a1)])) (fun _ k => XS.aloadN X30.here hx rfl (hb hby d5_23) rfl rfl k) ?_
    obtain ⟨T31, X31, e31, st31⟩ := getF X30 hx hZ hown (host := "") (Or.inl (hw _ (List.mem_of_getElem? (i := 15) rfl))) Via.refl e30 F2 (g := (mkF m 24 #[.val (.ref a1), .val (.ref a2), .val (.ref a2)] [(.ref a1)])) rfl rfl (hb hby d5_24)
    refine Go.by (g' := (mkF m 27 #[.val (.ref a1), .val (.ref a2), .val (.ref a2)] [(.int f2)])) st31 ?_
    refine Go.by (g' := (mkF m 28 #[.val (.ref a1), .val (.ref a2), .val (.ref a2)] [(.ref a2), (.int f2)])) (fun _ k => XS.aloadN X31.here hx rfl (hb hby d5_27) rfl rfl k) ?_
    obtain ⟨T32, X32, e32, st32⟩ := getF X31 hx hZ hown (host := "") (Or.inl (hw _ (List.mem_of_getElem? (i := 15) rfl))) Via.refl e31 G2 (g := (mkF m 28 #[.val (.ref a1), .val (.ref a2), .val (.ref a2)] [(.ref a2), (.int f2)])) rfl rfl (hb hby d5_28)
    refine Go.by (g' := (mkF m 31 #[.val (.ref a1), .val (.ref a2), .val (.ref a2)] [(.int g2), (.int f2)])) st32 ?_
    by_cases h1 : f2 = g2
    · refine Go.by (g' := (mkF m 34 #[.val (.ref a1), .val (.ref a2), .val (.ref a2)] [])) (fun _ k => XS.icmpNo X32.here hx rfl (hb hby d5_31) rfl (teq h1).2 k) ?_
      refine Go.by (g' := (mkF m 35 #[.val (.ref a1), .val (.ref a2), .val (.ref a2)] [(.ref a1)])) (fun _ k => XS.aloadN X32.here hx rfl (hb hby d5_34) rfl rfl k) ?_
      obtain ⟨T33, X33, e33, st33⟩ := getF X32 hx hZ hown (host := "") (Or.inl (hw _ (List.mem_of_getElem? (i := 17) rfl))) Via.refl e32 F3 (g := (mkF m 35 #[.val (.ref a1), .val (.ref a2), .val (.ref a2)] [(.ref a1)])) rfl rfl (hb hby d5_35)
      refine Go.by (g' := (mkF m 38 #[.val (.ref a1), .val (.ref a2), .val (.ref a2)] [(.int f3)])) st33 ?_
      refine Go.by (g' := (mkF m 39 #[.val (.ref a1), .val (.ref a2), .val (.ref a2)] [(.ref a2), (.int f3)])) (fun _ k => XS.aloadN X33.here hx rfl (hb hby d5_38) rfl rfl k) ?_
      obtain ⟨T34, X34, e34, st34⟩ := getF X33 hx hZ hown (host := "") (Or.inl (hw _ (List.mem_of_getElem? (i := 17) rfl))) Via.refl e33 G3 (g := (mkF m 39 #[.val (.ref a1), .val (.ref a2), .val (.ref a2)] [(.ref a2), (.int f3)])) rfl rfl (hb hby d5_39)
      refine Go.by (g' := (mkF m 42 #[.val (.ref a1), .val (.ref a2), .val (.ref a2)] [(.int g3), (.int f3)])) st34 ?_
      by_cases h2 : f3 = g3
      · refine Go.by (g' := (mkF m 45 #[.val (.ref a1), .val (.ref a2), .val (.ref a2)] [])) (fun _ k => XS.icmpNo X34.here hx rfl (hb hby d5_42) rfl (teq h2).2 k) ?_
        refine Go.by (g' := (mkF m 46 #[.val (.ref a1), .val (.ref a2), .val (.ref a2)] [(.ref a1)])) (fun _ k => XS.aloadN X34.here hx rfl (hb hby d5_45) rfl rfl k) ?_
        obtain ⟨T35, X35, e35, st35⟩ := getF X34 hx hZ hown (host := "") (Or.inl (hw _ (List.mem_of_getElem? (i := 19) rfl))) Via.refl e34 F4 (g := (mkF m 46 #[.val (.ref a1), .val (.ref a2), .val (.ref a2)] [(.ref a1)])) rfl rfl (hb hby d5_46)
        refine Go.by (g' := (mkF m 49 #[.val (.ref a1), .val (.ref a2), .val (.ref a2)] [(.int f4)])) st35 ?_
        refine Go.by (g' := (mkF m 50 #[.val (.ref a1), .val (.ref a2), .val (.ref a2)] [(.ref a2), (.int f4)])) (fun _ k => XS.aloadN X35.here hx rfl (hb hby d5_49) rfl rfl k) ?_
        obtain ⟨T36, X36, e36, st36⟩ := getF X35 hx hZ hown (host := "") (Or.inl (hw _ (List.mem_of_getElem? (i := 19) rfl))) Via.refl e35 G4 (g := (mkF m 50 #[.val (.ref a1), .val (.ref a2), .val (.ref a2)] [(.ref a2), (.int f4)])) rfl rfl (hb hby d5_50)
        refine Go.by (g' := (mkF m 53 #[.val (.ref a1), .val (.ref a2), .val (.ref a2)] [(.int g4), (.int f4)])) st36 ?_
        by_cases h3 : f4 = g4
        · refine Go.by (g' := (mkF m 56 #[.val (.ref a1), .val (.ref a2), .val (.ref a2)] [])) (fun _ k => XS.icmpNo X36.here hx rfl (hb hby d5_53) rfl (teq h3).2 k) ?_
          refine Go.by (g' := (mkF m 57 #[.val (.ref a1), .val (.ref a2), .val (.ref a2)] [(.int (1 : Int32))])) (fun _ k => XS.iconst X36.here hx rfl (hb hby d5_56) k) ?_
          refine Go.by (g' := (mkF m 61 #[.val (.ref a1), .val (.ref a2), .val (.ref a2)] [(.int (1 : Int32))])) (fun _ k => XS.goto X36.here hx rfl (pc0 := 57) (pc' := 61) rfl (hb hby d5_57) (by decide) (by decide) k) ?_
          exact Go.outZ X36 hx hret (Lv.narrow X36 hlk (by decide) (by decide)) (hb hby d5_61) (by decide) (by rw [e36]; exact ⟨by rw [eq4, if_pos h0, if_pos h1, if_pos h2, if_pos h3], Fr.nil _, rfl⟩)
        · refine Go.by (g' := (mkF m 60 #[.val (.ref a1), .val (.ref a2), .val (.ref a2)] [])) (fun _ k => XS.icmpYes X36.here hx rfl (pc0 := 53) (pc' := 60) rfl (hb hby d5_53) rfl (feq h3).2 (by decide) (by decide) k) ?_
          refine Go.by (g' := (mkF m 61 #[.val (.ref a1), .val (.ref a2), .val (.ref a2)] [(.int (0 : Int32))])) (fun _ k => XS.iconst X36.here hx rfl (hb hby d5_60) k) ?_
          exact Go.outZ X36 hx hret (Lv.narrow X36 hlk (by decide) (by decide)) (hb hby d5_61) (by decide) (by rw [e36]; exact ⟨by rw [eq4, if_pos h0, if_pos h1, if_pos h2, if_neg h3], Fr.nil _, rfl⟩)
      · refine Go.by (g' := (mkF m 60 #[.val (.ref a1), .val (.ref a2), .val (.ref a2)] [])) (fun _ k => XS.icmpYes X34.here hx rfl (pc0 := 42) (pc' := 60) rfl (hb hby d5_42) rfl (feq h2).2 (by decide) (by decide) k) ?_
        refine Go.by (g' := (mkF m 61 #[.val (.ref a1), .val (.ref a2), .val (.ref a2)] [(.int (0 : Int32))])) (fun _ k => XS.iconst X34.here hx rfl (hb hby d5_60) k) ?_
        exact Go.outZ X34 hx hret (Lv.narrow X34 hlk (by decide) (by decide)) (hb hby d5_61) (by decide) (by rw [e34]; exact ⟨by rw [eq4, if_pos h0, if_pos h1, if_neg h2], Fr.nil _, rfl⟩)
    · refine Go.by (g' := (mkF m 60 #[.val (.ref a1), .val (.ref a2), .val (.ref a2)] [])) (fun _ k => XS.icmpYes X32.here hx rfl (pc0 := 31) (pc' := 60) rfl (hb hby d5_31) rfl (feq h1).2 (by decide) (by decide) k) ?_
      refine Go.by (g' := (mkF m 61 #[.val (.ref a1), .val (.ref a2), .val (.ref a2)] [(.int (0 : Int32))])) (fun _ k => XS.iconst X32.here hx rfl (hb hby d5_60) k) ?_
      exact Go.outZ X32 hx hret (Lv.narrow X32 hlk (by decide) (by decide)) (hb hby d5_61) (by decide) (by rw [e32]; exact ⟨by rw [eq4, if_pos h0, if_neg h1], Fr.nil _, rfl⟩)
  · refine Go.by (g' := (mkF m 60 #[.val (.ref a1), .val (.ref a2), .val (.ref a2)] [])) (fun _ k => XS.icmpYes X30.here hx rfl (pc0 := 20) (pc' := 60) rfl (hb hby d5_20) rfl (feq h0).2 (by decide) (by decide) k) ?_
    refine Go.by (g' := (mkF m 61 #[.val (.ref a1), .val (.ref a2), .val (.ref a2)] [(.int (0 : Int32))])) (fun _ k => XS.iconst X30.here hx rfl (hb hby d5_60) k) ?_
    exact Go.outZ X30 hx hret (Lv.narrow X30 hlk (by decide) (by decide)) (hb hby d5_61) (by decide) (by rw [e30]; exact ⟨by rw [eq4, if_neg h0], Fr.nil _, rfl⟩)
theorem ef_5b (a1 : Addr) (m : MethodId) : entryFrame m #[(.ref a1), .null] 3 = mkF m 0 #[.val (.ref a1), .val .null, .unset] [] := by first | (simp [entryFrame, mkF, argsToLocals, Value.category]; done) | rfl
set_option maxRecDepth 65536 in
set_option maxHeartbeats 40000000 in
theorem rm5b (l : Launch) (Z : State) (a0 : Array Value) (hw : ∀ d ∈ tables_1, d.before a0 Z = true) (a1 : Addr) (h0 : Heap) (n0 : Nat)   :
    Ctr l Z (⟨"com/example/pinakas/pinakas/ConstraintAttributes", "equals", "(Ljava/lang/Object;)Z"⟩ : MethodName) prog_63_method_10_code 3 (some .boolean) ({ frames := 0, cells := 0, slots := 0, locals := 0 } : Room) #[(.ref a1), .null] h0 (fun v h L => v = some (.int 0) ∧ Fr n0 L ∧ h = h0) := by
  refine Ctr.of pf_5 (ef_5b a1) ?_
  intro p e s m below meth c T0 hx hby hml hret hlk hnm hZ hown e0 X0
  refine Go.by (g' := (mkF m 1 #[.val (.ref a1), .val .null, .unset] [.null])) (fun _ k => XS.aloadN X0.here hx rfl (hb hby d5_0) rfl rfl k) ?_
  refine Go.by (g' := (mkF m 4 #[.val (.ref a1), .val .null, .unset] [(.int (0 : Int32))])) (X0.instanceofNull hx (g := (mkF m 1 #[.val (.ref a1), .val .null, .unset] [.null])) rfl rfl (hb hby d5_1)) ?_
  refine Go.by (g' := (mkF m 60 #[.val (.ref a1), .val .null, .unset] [])) (fun _ k => XS.ifYes X0.here hx rfl (pc0 := 4) (pc' := 60) rfl (hb hby d5_4) rfl ((if0 _ _).trans (teq rfl).1) (by decide) (by decide) k) ?_
  refine Go.by (g' := (mkF m 61 #[.val (.ref a1), .val .null, .unset] [(.int (0 : Int32))])) (fun _ k => XS.iconst X0.here hx rfl (hb hby d5_60) k) ?_
  exact Go.outZ X0 hx hret (Lv.narrow X0 hlk (by decide) (by decide)) (hb hby d5_61) (by decide) (by rw [e0]; exact ⟨rfl, Fr.nil _, rfl⟩)
theorem ef_5c (a1 : Addr) (a2 : Addr) (m : MethodId) : entryFrame m #[(.ref a1), (.ref a2)] 3 = mkF m 0 #[.val (.ref a1), .val (.ref a2), .unset] [] := by first | (simp [entryFrame, mkF, argsToLocals, Value.category]; done) | rfl
set_option maxRecDepth 65536 in
set_option maxHeartbeats 40000000 in
theorem rm5c (l : Launch) (Z : State) (a0 : Array Value) (hw : ∀ d ∈ tables_1, d.before a0 Z = true) (a1 : Addr) (a2 : Addr) (h0 : Heap) (n0 : Nat)  (E2 : Exa Z h0 a2 "java/lang/Integer") :
    Ctr l Z (⟨"com/example/pinakas/pinakas/ConstraintAttributes", "equals", "(Ljava/lang/Object;)Z"⟩ : MethodName) prog_63_method_10_code 3 (some .boolean) ({ frames := 0, cells := 0, slots := 0, locals := 0 } : Room) #[(.ref a1), (.ref a2)] h0 (fun v h L => v = some (.int 0) ∧ Fr n0 L ∧ h = h0) := by
  refine Ctr.of pf_5 (ef_5c a1 a2) ?_
  intro p e s m below meth c T0 hx hby hml hret hlk hnm hZ hown e0 X0
  refine Go.by (g' := (mkF m 1 #[.val (.ref a1), .val (.ref a2), .unset] [(.ref a2)])) (fun _ k => XS.aloadN X0.here hx rfl (hb hby d5_0) rfl rfl k) ?_
  obtain ⟨T37, X37, e37, st37⟩ := instNo X0 hx hZ hown (hw _ (List.mem_of_getElem? (i := 33) rfl)) e0 E2 (own_no (hw _ (List.mem_of_getElem? (i := 35) rfl)) (hw _ (List.mem_of_getElem? (i := 5) rfl)) (NS.step (hw _ (List.mem_of_getElem? (i := 35) rfl)) (NS.step (hw _ (List.mem_of_getElem? (i := 36) rfl)) (own_root (hw _ (List.mem_of_getElem? (i := 37) rfl)) (hw _ (List.mem_of_getElem? (i := 5) rfl)) (by decide)) (by decide)) (by decide)) (by decide)) (g := (mkF m 1 #[.val (.ref a1), .val (.ref a2), .unset] [(.ref a2)])) rfl rfl (hb hby d5_1)
  refine Go.by (g' := (mkF m 4 #[.val (.ref a1), .val (.ref a2), .unset] [(.int (0 : Int32))])) st37 ?_
  refine Go.by (g' := (mkF m 60 #[.val (.ref a1), .val (.ref a2), .unset] [])) (fun _ k => XS.ifYes X37.here hx rfl (pc0 := 4) (pc' := 60) rfl (hb hby d5_4) rfl ((if0 _ _).trans (teq rfl).1) (by decide) (by decide) k) ?_
  refine Go.by (g' := (mkF m 61 #[.val (.ref a1), .val (.ref a2), .unset] [(.int (0 : Int32))])) (fun _ k => XS.iconst X37.here hx rfl (hb hby d5_60) k) ?_
  exact Go.outZ X37 hx hret (Lv.narrow X37 hlk (by decide) (by decide)) (hb hby d5_61) (by decide) (by rw [e37]; exact ⟨rfl, Fr.nil _, rfl⟩)
theorem ef_0 (p1 : Int32) (p2 : Int32) (m : MethodId) : entryFrame m #[(.int p1), (.int p2)] maxLocals = mkF m 0 #[.val (.int p1), .val (.int p2), .unset, .unset, .unset, .unset, .unset] [] := by first | (simp [entryFrame, mkF, argsToLocals, Value.category, maxLocals]; done) | rfl
set_option maxRecDepth 65536 in
set_option maxHeartbeats 40000000 in
theorem rm0 (l : Launch) (Z : State) (a0 : Array Value) (hw : ∀ d ∈ tables_1, d.before a0 Z = true) (p1 : Int32) (p2 : Int32) (h0 : Heap) (n0 : Nat) (Z0 : n0 ≤ h0.size) (aC : Addr) (cC : Cell) (vl : Int32 → Value) (OL : Old Z n0 h0) (SH : Sta Z Z.heap "java/lang/Integer$IntegerCache" "high" "I" (.int 127)) (SC : Sta Z Z.heap "java/lang/Integer$IntegerCache" "cache" "[Ljava/lang/Integer;" (.ref aC)) (BX : Bxs Z aC cC "java/lang/Integer" "I" 256 vl) :
    Ctr l Z x code maxLocals ret room_1 #[(.int p1), (.int p2)] h0 (fun v h L => v = some (.int 1) ∧ Fr n0 L) := by
  refine Ctr.of pf_0 (ef_0 p1 p2) ?_
  intro p e s m below meth c T0 hx hby hml hret hlk hnm hZ hown e0 X0
  refine Go.by (g' := (mkF m 1 #[.val (.int p1), .val (.int p2), .unset, .unset, .unset, .unset, .unset] [(.int p1)])) (fun _ k => XS.iloadN X0.here hx rfl (hb hby at_0) rfl k) ?_
  refine Go.callS X0 hx hZ (y := (⟨"com/example/pinakas/pinakas/ConstraintAttributesEqualsPinLaw", "make", "(I)Lcom/example/pinakas/pinakas/ConstraintAttributes;"⟩ : MethodName)) hown (hw _ (List.mem_of_getElem? (i := 0) rfl)) (hw _ (List.mem_of_getElem? (i := 1) rfl)) (hw _ (List.mem_of_getElem? (i := 2) rfl)) (hw _ (List.mem_of_getElem? (i := 3) rfl)) (by decide) (W := 0) (argsL := [(.int p1)]) (rest := []) (rm1 l Z a0 hw p1 h0 n0 Z0) (by decide) (by decide) (by decide) (by decide) (g := (mkF m 1 #[.val (.int p1), .val (.int p2), .unset, .unset, .unset, .unset, .unset] [(.int p1)])) rfl (by rw [hml]; rfl) (lenOf pd_1 rfl) rfl (by show 2 * 0 + _ ≤ _; exact Nat.le_of_eq rfl) (hb hby at_1) e0 ?_
  rintro T38 L38 _ X38 ⟨b1, rfl, N38, K38, sz1, E38, A38, B38, C38, D38⟩
  have M38 := Fr.app (Fr.nil n0) N38
  have Z38 : n0 ≤ T38.heap.size := Nat.le_trans Z0 K38.1
  show Go p e below _ _ T38 (mkF m 4 #[.val (.int p1), .val (.int p2), .unset, .unset, .unset, .unset, .unset] [(.ref b1)])
  have ge_b1 : n0 ≤ b1 := Nat.le_trans Z0 sz1
  refine Go.by (g' := (mkF m 5 #[.val (.int p1), .val (.int p2), .val (.ref b1), .unset, .unset, .unset, .unset] [])) (fun _ k => XS.astoreN X38.here hx rfl (hb hby at_4) rfl rfl (l' := #[.val (.int p1), .val (.int p2), .val (.ref b1), .unset, .unset, .unset, .unset]) rfl k) ?_
  refine Go.by (g' := (mkF m 6 #[.val (.int p1), .val (.int p2), .val (.ref b1), .unset, .unset, .unset, .unset] [(.int p2)])) (fun _ k => XS.iloadN X38.here hx rfl (hb hby at_5) rfl k) ?_
  refine Go.callS X38 hx hZ (y := (⟨"com/example/pinakas/pinakas/ConstraintAttributesEqualsPinLaw", "make", "(I)Lcom/example/pinakas/pinakas/ConstraintAttributes;"⟩ : MethodName)) hown (hw _ (List.mem_of_getElem? (i := 0) rfl)) (hw _ (List.mem_of_getElem? (i := 1) rfl)) (hw _ (List.mem_of_getElem? (i := 2) rfl)) (hw _ (List.mem_of_getElem? (i := 3) rfl)) (by decide) (W := 0) (argsL := [(.int p2)]) (rest := []) (rm1 l Z a0 hw p2 T38.heap n0 Z38) (by decide) (by decide) (by decide) (by decide) (g := (mkF m 6 #[.val (.int p1), .val (.int p2), .val (.ref b1), .unset, .unset, .unset, .unset] [(.int p2)])) rfl (by rw [hml]; rfl) (lenOf pd_1 rfl) rfl (by show 2 * 0 + _ ≤ _; exact Nat.le_of_eq rfl) (hb hby at_6) rfl ?_
  rintro T39 L39 _ X39 ⟨b2, rfl, N39, K39, sz2, E39, A39, B39, C39, D39⟩
  have M39 := Fr.app M38 N39
  have Z39 : n0 ≤ T39.heap.size := Nat.le_trans Z38 K39.1
  show Go p e below _ _ T39 (mkF m 9 #[.val (.int p1), .val (.int p2), .val (.ref b1), .unset, .unset, .unset, .unset] [(.ref b2)])
  have ne_b1_b2 : b1 ≠ b2 := Nat.ne_of_lt (Nat.lt_of_lt_of_le E38.lt sz2)
  have ge_b2 : n0 ≤ b2 := Nat.le_trans Z38 sz2
  refine Go.by (g' := (mkF m 10 #[.val (.int p1), .val (.int p2), .val (.ref b1), .val (.ref b2), .unset, .unset, .unset] [])) (fun _ k => XS.astoreN X39.here hx rfl (hb hby at_9) rfl rfl (l' := #[.val (.int p1), .val (.int p2), .val (.ref b1), .val (.ref b2), .unset, .unset, .unset]) rfl k) ?_
  refine Go.by (g' := (mkF m 11 #[.val (.int p1), .val (.int p2), .val (.ref b1), .val (.ref b2), .unset, .unset, .unset] [(.int p1)])) (fun _ k => XS.iloadN X39.here hx rfl (hb hby at_10) rfl k) ?_
  refine Go.by (g' := (mkF m 13 #[.val (.int p1), .val (.int p2), .val (.ref b1), .val (.ref b2), .unset, .unset, .unset] [(.int (15 : Int32)), (.int p1)])) (fun _ k => XS.bipush X39.here hx rfl (hb hby at_11) k) ?_
  refine Go.by (g' := (mkF m 14 #[.val (.int p1), .val (.int p2), .val (.ref b1), .val (.ref b2), .unset, .unset, .unset] [(.int (p1 &&& (15 : Int32)))])) (fun _ k => XS.iand X39.here hx rfl (hb hby at_13) rfl k) ?_
  refine Go.by (g' := (mkF m 15 #[.val (.int p1), .val (.int p2), .val (.ref b1), .val (.ref b2), .unset, .unset, .unset] [(.int p2), (.int (p1 &&& (15 : Int32)))])) (fun _ k => XS.iloadN X39.here hx rfl (hb hby at_14) rfl k) ?_
  refine Go.by (g' := (mkF m 17 #[.val (.int p1), .val (.int p2), .val (.ref b1), .val (.ref b2), .unset, .unset, .unset] [(.int (15 : Int32)), (.int p2), (.int (p1 &&& (15 : Int32)))])) (fun _ k => XS.bipush X39.here hx rfl (hb hby at_15) k) ?_
  refine Go.by (g' := (mkF m 18 #[.val (.int p1), .val (.int p2), .val (.ref b1), .val (.ref b2), .unset, .unset, .unset] [(.int (p2 &&& (15 : Int32))), (.int (p1 &&& (15 : Int32)))])) (fun _ k => XS.iand X39.here hx rfl (hb hby at_17) rfl k) ?_
  have k26 : ∀ ev : Int32, ev = exV p1 p2 → Go p e below (En s room_1.cells room_1.slots) (fun v h L => v = some (.int 1) ∧ Fr n0 L) T39 (mkF m 26 #[.val (.int p1), .val (.int p2), .val (.ref b1), .val (.ref b2), .unset, .unset, .unset] [(.int ev)]) := by
    intro ev hev
    subst hev
    refine Go.by (g' := (mkF m 28 #[.val (.int p1), .val (.int p2), .val (.ref b1), .val (.ref b2), .val (.int (exV p1 p2)), .unset, .unset] [])) (fun _ k => XS.istore X39.here hx rfl (hb hby at_26) rfl (l' := #[.val (.int p1), .val (.int p2), .val (.ref b1), .val (.ref b2), .val (.int (exV p1 p2)), .unset, .unset]) rfl k) ?_
    refine Go.by (g' := (mkF m 29 #[.val (.int p1), .val (.int p2), .val (.ref b1), .val (.ref b2), .val (.int (exV p1 p2)), .unset, .unset] [.null])) (fun _ k => XS.aconstNull X39.here hx rfl (hb hby at_28) k) ?_
    refine Go.by (g' := (mkF m 31 #[.val (.int p1), .val (.int p2), .val (.ref b1), .val (.ref b2), .val (.int (exV p1 p2)), .val .null, .unset] [])) (fun _ k => XS.astore X39.here hx rfl (hb hby at_29) rfl rfl (l' := #[.val (.int p1), .val (.int p2), .val (.ref b1), .val (.ref b2), .val (.int (exV p1 p2)), .val .null, .unset]) rfl k) ?_
    refine Go.by (g' := (mkF m 32 #[.val (.int p1), .val (.int p2), .val (.ref b1), .val (.ref b2), .val (.int (exV p1 p2)), .val .null, .unset] [(.int p1)])) (fun _ k => XS.iloadN X39.here hx rfl (hb hby at_31) rfl k) ?_
    have f40_OL := ((OL.keep K38 all0).keep K39 all0)
    refine Go.callS X39 hx hZ (y := (⟨"java/lang/Integer", "valueOf", "(I)Ljava/lang/Integer;"⟩ : MethodName)) hown (hw _ (List.mem_of_getElem? (i := 21) rfl)) (hw _ (List.mem_of_getElem? (i := 22) rfl)) (hw _ (List.mem_of_getElem? (i := 23) rfl)) (hw _ (List.mem_of_getElem? (i := 24) rfl)) (by decide) (W := 0) (argsL := [(.int p1)]) (rest := []) (rm4 l Z a0 hw p1 T39.heap n0 Z39 aC cC vl f40_OL SH SC BX) (by decide) (by decide) (by decide) (by decide) (g := (mkF m 32 #[.val (.int p1), .val (.int p2), .val (.ref b1), .val (.ref b2), .val (.int (exV p1 p2)), .val .null, .unset] [(.int p1)])) rfl (by rw [hml]; rfl) (lenOf pd_4 rfl) rfl (by show 2 * 0 + _ ≤ _; exact Nat.le_of_eq rfl) (hb hby at_32) rfl ?_
    rintro T41 L41 _ X41 ⟨b3, rfl, N41, K41, E3⟩
    have M41 := Fr.app M39 N41
    have Z41 : n0 ≤ T41.heap.size := Nat.le_trans Z39 K41.1
    show Go p e below _ _ T41 (mkF m 35 #[.val (.int p1), .val (.int p2), .val (.ref b1), .val (.ref b2), .val (.int (exV p1 p2)), .val .null, .unset] [(.ref b3)])
    refine Go.by (g' := (mkF m 37 #[.val (.int p1), .val (.int p2), .val (.ref b1), .val (.ref b2), .val (.int (exV p1 p2)), .val .null, .val (.ref b3)] [])) (fun _ k => XS.astore X41.here hx rfl (hb hby at_35) rfl rfl (l' := #[.val (.int p1), .val (.int p2), .val (.ref b1), .val (.ref b2), .val (.int (exV p1 p2)), .val .null, .val (.ref b3)]) rfl k) ?_
    refine Go.by (g' := (mkF m 38 #[.val (.int p1), .val (.int p2), .val (.ref b1), .val (.ref b2), .val (.int (exV p1 p2)), .val .null, .val (.ref b3)] [(.ref b1)])) (fun _ k => XS.aloadN X41.here hx rfl (hb hby at_37) rfl rfl k) ?_
    refine Go.by (g' := (mkF m 39 #[.val (.int p1), .val (.int p2), .val (.ref b1), .val (.ref b2), .val (.int (exV p1 p2)), .val .null, .val (.ref b3)] [(.ref b2), (.ref b1)])) (fun _ k => XS.aloadN X41.here hx rfl (hb hby at_38) rfl rfl k) ?_
    have f42_E_1 := ((E38.keep K39).keep K41)
    have f43_E_2 := (E39.keep K41)
    have f44_A_1 := ((A38.keep K39 nin0).keep K41 nin0)
    have f45_A_2 := (A39.keep K41 nin0)
    have f46_B_1 := ((B38.keep K39 nin0).keep K41 nin0)
    have f47_B_2 := (B39.keep K41 nin0)
    have f48_C_1 := ((C38.keep K39 nin0).keep K41 nin0)
    have f49_C_2 := (C39.keep K41 nin0)
    have f50_D_1 := ((D38.keep K39 nin0).keep K41 nin0)
    have f51_D_2 := (D39.keep K41 nin0)
    refine Go.callV X41 hx hZ (y := (⟨"com/example/pinakas/pinakas/ConstraintAttributes", "equals", "(Ljava/lang/Object;)Z"⟩ : MethodName)) (z := (⟨"com/example/pinakas/pinakas/ConstraintAttributes", "equals", "(Ljava/lang/Object;)Z"⟩ : MethodName)) hown (hw _ (List.mem_of_getElem? (i := 28) rfl)) (hw _ (List.mem_of_getElem? (i := 29) rfl)) (notFace_of_selects (args := #[]) (mvT hZ (hw _ (List.mem_of_getElem? (i := 31) rfl)))) (hw _ (List.mem_of_getElem? (i := 31) rfl)) (hw _ (List.mem_of_getElem? (i := 30) rfl)) (hw _ (List.mem_of_getElem? (i := 6) rfl)) (hw _ (List.mem_of_getElem? (i := 32) rfl)) (by decide) (W := 0) (a := b1) (argsL := [(.ref b2)]) (rest := []) f42_E_1 (rm5a l Z a0 hw b1 b2 T41.heap n0 (fl p1 (1 : Int32)) (fl p1 (2 : Int32)) (fl p1 (4 : Int32)) (fl p1 (8 : Int32)) (fl p2 (1 : Int32)) (fl p2 (2 : Int32)) (fl p2 (4 : Int32)) (fl p2 (8 : Int32)) f43_E_2 f44_A_1 f45_A_2 f46_B_1 f47_B_2 f48_C_1 f49_C_2 f50_D_1 f51_D_2) (by decide) (by decide) (by decide) (by decide) (g := (mkF m 39 #[.val (.int p1), .val (.int p2), .val (.ref b1), .val (.ref b2), .val (.int (exV p1 p2)), .val .null, .val (.ref b3)] [(.ref b2), (.ref b1)])) rfl (by rw [hml]; rfl) (lenOf pd_5 rfl) rfl (by show 2 * 0 + _ ≤ _; exact Nat.le_of_eq rfl) (hb hby at_39) rfl ?_
    rintro T52 L52 _ X52 ⟨rfl, N52, q52⟩
    have M52 := Fr.app M41 N52
    show Go p e below _ _ T52 (mkF m 42 #[.val (.int p1), .val (.int p2), .val (.ref b1), .val (.ref b2), .val (.int (exV p1 p2)), .val .null, .val (.ref b3)] [(.int (eq4 (fl p1 (1 : Int32)) (fl p1 (2 : Int32)) (fl p1 (4 : Int32)) (fl p1 (8 : Int32)) (fl p2 (1 : Int32)) (fl p2 (2 : Int32)) (fl p2 (4 : Int32)) (fl p2 (8 : Int32))))])
    refine Go.by (g' := (mkF m 44 #[.val (.int p1), .val (.int p2), .val (.ref b1), .val (.ref b2), .val (.int (exV p1 p2)), .val .null, .val (.ref b3)] [(.int (exV p1 p2)), (.int (eq4 (fl p1 (1 : Int32)) (fl p1 (2 : Int32)) (fl p1 (4 : Int32)) (fl p1 (8 : Int32)) (fl p2 (1 : Int32)) (fl p2 (2 : Int32)) (fl p2 (4 : Int32)) (fl p2 (8 : Int32))))])) (fun _ k => XS.iload X52.here hx rfl (hb hby at_42) rfl k) ?_
    refine Go.by (g' := (mkF m 47 #[.val (.int p1), .val (.int p2), .val (.ref b1), .val (.ref b2), .val (.int (exV p1 p2)), .val .null, .val (.ref b3)] [])) (fun _ k => XS.icmpNo X52.here hx rfl (hb hby at_44) rfl (teq (eq4_ex p1 p2)).2 k) ?_
    refine Go.by (g' := (mkF m 48 #[.val (.int p1), .val (.int p2), .val (.ref b1), .val (.ref b2), .val (.int (exV p1 p2)), .val .null, .val (.ref b3)] [(.ref b2)])) (fun _ k => XS.aloadN X52.here hx rfl (hb hby at_47) rfl rfl k) ?_
    refine Go.by (g' := (mkF m 49 #[.val (.int p1), .val (.int p2), .val (.ref b1), .val (.ref b2), .val (.int (exV p1 p2)), .val .null, .val (.ref b3)] [(.ref b1), (.ref b2)])) (fun _ k => XS.aloadN X52.here hx rfl (hb hby at_48) rfl rfl k) ?_
    refine Go.callV X52 hx hZ (y := (⟨"com/example/pinakas/pinakas/ConstraintAttributes", "equals", "(Ljava/lang/Object;)Z"⟩ : MethodName)) (z := (⟨"com/example/pinakas/pinakas/ConstraintAttributes", "equals", "(Ljava/lang/Object;)Z"⟩ : MethodName)) hown (hw _ (List.mem_of_getElem? (i := 28) rfl)) (hw _ (List.mem_of_getElem? (i := 29) rfl)) (notFace_of_selects (args := #[]) (mvT hZ (hw _ (List.mem_of_getElem? (i := 31) rfl)))) (hw _ (List.mem_of_getElem? (i := 31) rfl)) (hw _ (List.mem_of_getElem? (i := 30) rfl)) (hw _ (List.mem_of_getElem? (i := 6) rfl)) (hw _ (List.mem_of_getElem? (i := 32) rfl)) (by decide) (W := 0) (a := b2) (argsL := [(.ref b1)]) (rest := []) f43_E_2 (rm5a l Z a0 hw b2 b1 T41.heap n0 (fl p2 (1 : Int32)) (fl p2 (2 : Int32)) (fl p2 (4 : Int32)) (fl p2 (8 : Int32)) (fl p1 (1 : Int32)) (fl p1 (2 : Int32)) (fl p1 (4 : Int32)) (fl p1 (8 : Int32)) f42_E_1 f45_A_2 f44_A_1 f47_B_2 f46_B_1 f49_C_2 f48_C_1 f51_D_2 f50_D_1) (by decide) (by decide) (by decide) (by decide) (g := (mkF m 49 #[.val (.int p1), .val (.int p2), .val (.ref b1), .val (.ref b2), .val (.int (exV p1 p2)), .val .null, .val (.ref b3)] [(.ref b1), (.ref b2)])) rfl (by rw [hml]; rfl) (lenOf pd_5 rfl) rfl (by show 2 * 0 + _ ≤ _; exact Nat.le_of_eq rfl) (hb hby at_49) q52 ?_
    rintro T53 L53 _ X53 ⟨rfl, N53, q53⟩
    have M53 := Fr.app M52 N53
    show Go p e below _ _ T53 (mkF m 52 #[.val (.int p1), .val (.int p2), .val (.ref b1), .val (.ref b2), .val (.int (exV p1 p2)), .val .null, .val (.ref b3)] [(.int (eq4 (fl p2 (1 : Int32)) (fl p2 (2 : Int32)) (fl p2 (4 : Int32)) (fl p2 (8 : Int32)) (fl p1 (1 : Int32)) (fl p1 (2 : Int32)) (fl p1 (4 : Int32)) (fl p1 (8 : Int32))))])
    refine Go.by (g' := (mkF m 54 #[.val (.int p1), .val (.int p2), .val (.ref b1), .val (.ref b2), .val (.int (exV p1 p2)), .val .null, .val (.ref b3)] [(.int (exV p1 p2)), (.int (eq4 (fl p2 (1 : Int32)) (fl p2 (2 : Int32)) (fl p2 (4 : Int32)) (fl p2 (8 : Int32)) (fl p1 (1 : Int32)) (fl p1 (2 : Int32)) (fl p1 (4 : Int32)) (fl p1 (8 : Int32))))])) (fun _ k => XS.iload X53.here hx rfl (hb hby at_52) rfl k) ?_
    refine Go.by (g' := (mkF m 57 #[.val (.int p1), .val (.int p2), .val (.ref b1), .val (.ref b2), .val (.int (exV p1 p2)), .val .null, .val (.ref b3)] [])) (fun _ k => XS.icmpNo X53.here hx rfl (hb hby at_54) rfl (teq ((eq4_ex p2 p1).trans (exV_comm p1 p2))).2 k) ?_
    refine Go.by (g' := (mkF m 58 #[.val (.int p1), .val (.int p2), .val (.ref b1), .val (.ref b2), .val (.int (exV p1 p2)), .val .null, .val (.ref b3)] [(.ref b1)])) (fun _ k => XS.aloadN X53.here hx rfl (hb hby at_57) rfl rfl k) ?_
    refine Go.by (g' := (mkF m 59 #[.val (.int p1), .val (.int p2), .val (.ref b1), .val (.ref b2), .val (.int (exV p1 p2)), .val .null, .val (.ref b3)] [(.ref b1), (.ref b1)])) (fun _ k => XS.aloadN X53.here hx rfl (hb hby at_58) rfl rfl k) ?_
    refine Go.callV X53 hx hZ (y := (⟨"com/example/pinakas/pinakas/ConstraintAttributes", "equals", "(Ljava/lang/Object;)Z"⟩ : MethodName)) (z := (⟨"com/example/pinakas/pinakas/ConstraintAttributes", "equals", "(Ljava/lang/Object;)Z"⟩ : MethodName)) hown (hw _ (List.mem_of_getElem? (i := 28) rfl)) (hw _ (List.mem_of_getElem? (i := 29) rfl)) (notFace_of_selects (args := #[]) (mvT hZ (hw _ (List.mem_of_getElem? (i := 31) rfl)))) (hw _ (List.mem_of_getElem? (i := 31) rfl)) (hw _ (List.mem_of_getElem? (i := 30) rfl)) (hw _ (List.mem_of_getElem? (i := 6) rfl)) (hw _ (List.mem_of_getElem? (i := 32) rfl)) (by decide) (W := 0) (a := b1) (argsL := [(.ref b1)]) (rest := []) f42_E_1 (rm5a l Z a0 hw b1 b1 T41.heap n0 (fl p1 (1 : Int32)) (fl p1 (2 : Int32)) (fl p1 (4 : Int32)) (fl p1 (8 : Int32)) (fl p1 (1 : Int32)) (fl p1 (2 : Int32)) (fl p1 (4 : Int32)) (fl p1 (8 : Int32)) f42_E_1 f44_A_1 f44_A_1 f46_B_1 f46_B_1 f48_C_1 f48_C_1 f50_D_1 f50_D_1) (by decide) (by decide) (by decide) (by decide) (g := (mkF m 59 #[.val (.int p1), .val (.int p2), .val (.ref b1), .val (.ref b2), .val (.int (exV p1 p2)), .val .null, .val (.ref b3)] [(.ref b1), (.ref b1)])) rfl (by rw [hml]; rfl) (lenOf pd_5 rfl) rfl (by show 2 * 0 + _ ≤ _; exact Nat.le_of_eq rfl) (hb hby at_59) q53 ?_
    rintro T54 L54 _ X54 ⟨rfl, N54, q54⟩
    have M54 := Fr.app M53 N54
    show Go p e below _ _ T54 (mkF m 62 #[.val (.int p1), .val (.int p2), .val (.ref b1), .val (.ref b2), .val (.int (exV p1 p2)), .val .null, .val (.ref b3)] [(.int (eq4 (fl p1 (1 : Int32)) (fl p1 (2 : Int32)) (fl p1 (4 : Int32)) (fl p1 (8 : Int32)) (fl p1 (1 : Int32)) (fl p1 (2 : Int32)) (fl p1 (4 : Int32)) (fl p1 (8 : Int32))))])
    refine Go.by (g' := (mkF m 65 #[.val (.int p1), .val (.int p2), .val (.ref b1), .val (.ref b2), .val (.int (exV p1 p2)), .val .null, .val (.ref b3)] [])) (fun _ k => XS.ifNo X54.here hx rfl (hb hby at_62) rfl ((if0 _ _).trans (feq (by rw [eq4_self]; decide)).1) k) ?_
    refine Go.by (g' := (mkF m 66 #[.val (.int p1), .val (.int p2), .val (.ref b1), .val (.ref b2), .val (.int (exV p1 p2)), .val .null, .val (.ref b3)] [(.ref b1)])) (fun _ k => XS.aloadN X54.here hx rfl (hb hby at_65) rfl rfl k) ?_
    refine Go.by (g' := (mkF m 68 #[.val (.int p1), .val (.int p2), .val (.ref b1), .val (.ref b2), .val (.int (exV p1 p2)), .val .null, .val (.ref b3)] [.null, (.ref b1)])) (fun _ k => XS.aload X54.here hx rfl (hb hby at_66) rfl rfl k) ?_
    refine Go.callV X54 hx hZ (y := (⟨"com/example/pinakas/pinakas/ConstraintAttributes", "equals", "(Ljava/lang/Object;)Z"⟩ : MethodName)) (z := (⟨"com/example/pinakas/pinakas/ConstraintAttributes", "equals", "(Ljava/lang/Object;)Z"⟩ : MethodName)) hown (hw _ (List.mem_of_getElem? (i := 28) rfl)) (hw _ (List.mem_of_getElem? (i := 29) rfl)) (notFace_of_selects (args := #[]) (mvT hZ (hw _ (List.mem_of_getElem? (i := 31) rfl)))) (hw _ (List.mem_of_getElem? (i := 31) rfl)) (hw _ (List.mem_of_getElem? (i := 30) rfl)) (hw _ (List.mem_of_getElem? (i := 6) rfl)) (hw _ (List.mem_of_getElem? (i := 32) rfl)) (by decide) (W := 0) (a := b1) (argsL := [.null]) (rest := []) f42_E_1 (rm5b l Z a0 hw b1 T41.heap n0) (by decide) (by decide) (by decide) (by decide) (g := (mkF m 68 #[.val (.int p1), .val (.int p2), .val (.ref b1), .val (.ref b2), .val (.int (exV p1 p2)), .val .null, .val (.ref b3)] [.null, (.ref b1)])) rfl (by rw [hml]; rfl) (lenOf pd_5 rfl) rfl (by show 2 * 0 + _ ≤ _; exact Nat.le_of_eq rfl) (hb hby at_68) q54 ?_
    rintro T55 L55 _ X55 ⟨rfl, N55, q55⟩
    have M55 := Fr.app M54 N55
    show Go p e below _ _ T55 (mkF m 71 #[.val (.int p1), .val (.int p2), .val (.ref b1), .val (.ref b2), .val (.int (exV p1 p2)), .val .null, .val (.ref b3)] [(.int (0 : Int32))])
    refine Go.by (g' := (mkF m 74 #[.val (.int p1), .val (.int p2), .val (.ref b1), .val (.ref b2), .val (.int (exV p1 p2)), .val .null, .val (.ref b3)] [])) (fun _ k => XS.ifNo X55.here hx rfl (hb hby at_71) rfl ((if0 _ _).trans (teq rfl).2) k) ?_
    refine Go.by (g' := (mkF m 75 #[.val (.int p1), .val (.int p2), .val (.ref b1), .val (.ref b2), .val (.int (exV p1 p2)), .val .null, .val (.ref b3)] [(.ref b1)])) (fun _ k => XS.aloadN X55.here hx rfl (hb hby at_74) rfl rfl k) ?_
    refine Go.by (g' := (mkF m 77 #[.val (.int p1), .val (.int p2), .val (.ref b1), .val (.ref b2), .val (.int (exV p1 p2)), .val .null, .val (.ref b3)] [(.ref b3), (.ref b1)])) (fun _ k => XS.aload X55.here hx rfl (hb hby at_75) rfl rfl k) ?_
    refine Go.callV X55 hx hZ (y := (⟨"com/example/pinakas/pinakas/ConstraintAttributes", "equals", "(Ljava/lang/Object;)Z"⟩ : MethodName)) (z := (⟨"com/example/pinakas/pinakas/ConstraintAttributes", "equals", "(Ljava/lang/Object;)Z"⟩ : MethodName)) hown (hw _ (List.mem_of_getElem? (i := 28) rfl)) (hw _ (List.mem_of_getElem? (i := 29) rfl)) (notFace_of_selects (args := #[]) (mvT hZ (hw _ (List.mem_of_getElem? (i := 31) rfl)))) (hw _ (List.mem_of_getElem? (i := 31) rfl)) (hw _ (List.mem_of_getElem? (i := 30) rfl)) (hw _ (List.mem_of_getElem? (i := 6) rfl)) (hw _ (List.mem_of_getElem? (i := 32) rfl)) (by decide) (W := 0) (a := b1) (argsL := [(.ref b3)]) (rest := []) f42_E_1 (rm5c l Z a0 hw b1 b3 T41.heap n0 E3) (by decide) (by decide) (by decide) (by decide) (g := (mkF m 77 #[.val (.int p1), .val (.int p2), .val (.ref b1), .val (.ref b2), .val (.int (exV p1 p2)), .val .null, .val (.ref b3)] [(.ref b3), (.ref b1)])) rfl (by rw [hml]; rfl) (lenOf pd_5 rfl) rfl (by show 2 * 0 + _ ≤ _; exact Nat.le_of_eq rfl) (hb hby at_77) q55 ?_
    rintro T56 L56 _ X56 ⟨rfl, N56, q56⟩
    have M56 := Fr.app M55 N56
    show Go p e below _ _ T56 (mkF m 80 #[.val (.int p1), .val (.int p2), .val (.ref b1), .val (.ref b2), .val (.int (exV p1 p2)), .val .null, .val (.ref b3)] [(.int (0 : Int32))])
    refine Go.by (g' := (mkF m 83 #[.val (.int p1), .val (.int p2), .val (.ref b1), .val (.ref b2), .val (.int (exV p1 p2)), .val .null, .val (.ref b3)] [])) (fun _ k => XS.ifNo X56.here hx rfl (hb hby at_80) rfl ((if0 _ _).trans (teq rfl).2) k) ?_
    refine Go.by (g' := (mkF m 84 #[.val (.int p1), .val (.int p2), .val (.ref b1), .val (.ref b2), .val (.int (exV p1 p2)), .val .null, .val (.ref b3)] [(.int (1 : Int32))])) (fun _ k => XS.iconst X56.here hx rfl (hb hby at_83) k) ?_
    refine Go.by (g' := (mkF m 88 #[.val (.int p1), .val (.int p2), .val (.ref b1), .val (.ref b2), .val (.int (exV p1 p2)), .val .null, .val (.ref b3)] [(.int (1 : Int32))])) (fun _ k => XS.goto X56.here hx rfl (pc0 := 84) (pc' := 88) rfl (hb hby at_84) (by decide) (by decide) k) ?_
    exact Go.outZ X56 hx hret (Lv.narrow X56 hlk (by decide) (by decide)) (hb hby at_88) (by decide) ⟨rfl, M56⟩
  by_cases h18 : (p1 &&& (15 : Int32)) = (p2 &&& (15 : Int32))
  · refine Go.by (g' := (mkF m 21 #[.val (.int p1), .val (.int p2), .val (.ref b1), .val (.ref b2), .unset, .unset, .unset] [])) (fun _ k => XS.icmpNo X39.here hx rfl (hb hby at_18) rfl (teq h18).2 k) ?_
    refine Go.by (g' := (mkF m 22 #[.val (.int p1), .val (.int p2), .val (.ref b1), .val (.ref b2), .unset, .unset, .unset] [(.int (1 : Int32))])) (fun _ k => XS.iconst X39.here hx rfl (hb hby at_21) k) ?_
    refine Go.by (g' := (mkF m 26 #[.val (.int p1), .val (.int p2), .val (.ref b1), .val (.ref b2), .unset, .unset, .unset] [(.int (1 : Int32))])) (fun _ k => XS.goto X39.here hx rfl (pc0 := 22) (pc' := 26) rfl (hb hby at_22) (by decide) (by decide) k) ?_
    exact k26 _ (by rw [exV, if_pos h18])
  · refine Go.by (g' := (mkF m 25 #[.val (.int p1), .val (.int p2), .val (.ref b1), .val (.ref b2), .unset, .unset, .unset] [])) (fun _ k => XS.icmpYes X39.here hx rfl (pc0 := 18) (pc' := 25) rfl (hb hby at_18) rfl (feq h18).2 (by decide) (by decide) k) ?_
    refine Go.by (g' := (mkF m 26 #[.val (.int p1), .val (.int p2), .val (.ref b1), .val (.ref b2), .unset, .unset, .unset] [(.int (0 : Int32))])) (fun _ k => XS.iconst X39.here hx rfl (hb hby at_25) k) ?_
    exact k26 _ (by rw [exV, if_neg h18])
set_option maxRecDepth 65536 in
set_option maxHeartbeats 40000000 in
theorem comes_1 {Post : Tables → Env → Array Value → State → Outcome → State → Prop} (hpost : ∀ tb e args s v u, (limb_1_1.after args s (.returned v) u = true ∧ limb_1_2.after args s (.returned v) u = true ∧ True) → FrameEnd s (.returned v) u (Jvm.fieldLocs frame_1_writes args s ++ Jvm.arrayLocs frame_1_arrays args s ++ Jvm.staticLocs frame_1_statics s) 16 128 → Post tb e args s (.returned v) u) :
    ArmFor flags0 classFile x code maxLocals ret World_1 tables_1 room_1 Calls_1 rest_1 Pre_1 Post := by
  intro l hfl _ _ p e ha hc hk s m args below hf hA hF happ hP
  obtain ⟨hcalls, hrest, hpre⟩ := hP
  obtain ⟨-, -, -, hnamed, -, -, -, hat⟩ := (Spec.applies_iff hf).mp happ
  obtain ⟨hg, hn⟩ := and_e (Cond.before_iff.mp (show (Jvm.Cond.and given_1 narrow_1).before args s = true from hpre))
  obtain ⟨h1, q0⟩ := and_e hg
  obtain ⟨p0, q1⟩ := and_e q0
  obtain ⟨w0, w1, rfl⟩ : ∃ w0 w1 : Value, args = #[w0, w1] := by
    have hs : args.size = 2 := by simpa [Cond.value, given_1] using h1
    obtain ⟨L⟩ := args
    match L, hs with
    | [w0, w1], _ => exact ⟨w0, w1, rfl⟩
  have hw := fun d (hd : d ∈ tables_1) => atoms_spec (ws := Jvm.Cond.code x code maxLocals ret :: tables_1) hat d (List.mem_cons_of_mem _ hd)
  have hfit : Fit s := fun {y c} hc i hi => by
    obtain ⟨ha, rfl⟩ := Array.getElem?_eq_some_iff.mp hc
    have q := List.all_eq_true.mp ((Array.all_eq_true_iff_forall_mem.mp hF) _ (Array.getElem_mem ha)) i (List.mem_range.mpr hi)
    simpa [Array.getElem?_eq_getElem hi] using q
  obtain ⟨hsets, hown0⟩ := atoms_of _ (rest_1_c_eq ▸ (show rest_1_c.before _ s = true from hrest))
  obtain ⟨i0, ee0⟩ := is_v p0
  obtain rfl : w0 = (.int i0) := Option.some.inj ee0
  obtain ⟨i1, ee1⟩ := is_v q1
  obtain rfl : w1 = (.int i1) := Option.some.inj ee1
  have eh := eqv_i (Term.int_eval (127)) (Cond.before_iff.mp (hsets _ (List.mem_of_getElem? (i := 3) rfl)))
  have SH : Sta s s.heap "java/lang/Integer$IntegerCache" "high" "I" (.int 127) := Sta.start eh (Or.inr ⟨(hw _ (List.mem_of_getElem? (i := 26) rfl)), (hsets _ (List.mem_of_getElem? (i := 0) rfl))⟩)
  have hAr := Cond.before_iff.mp (hsets _ (List.mem_of_getElem? (i := 4) rfl))
  obtain ⟨aC, eC⟩ := arr_v hAr
  have SC : Sta s s.heap "java/lang/Integer$IntegerCache" "cache" "[Ljava/lang/Integer;" (.ref aC) := Sta.start eC (Or.inr ⟨(hw _ (List.mem_of_getElem? (i := 26) rfl)), (hsets _ (List.mem_of_getElem? (i := 2) rfl))⟩)
  obtain ⟨cC, AC⟩ := Arr.start eC hAr
  obtain ⟨sz1, sz2⟩ := own_len eC AC (eqv_i (Term.int_eval (256)) (Cond.before_iff.mp (hsets _ (List.mem_of_getElem? (i := 6) rfl))))
  have BX : Bxs s aC cC "java/lang/Integer" "I" 256 (fun j => .int (j - 128)) := Bxs.start (fun _ => eC) AC sz1 sz2 (by decide) (Cond.before_iff.mp (hsets _ (List.mem_of_getElem? (i := 7) rfl))) (fun X j hj h => eqv_i (own_sub (idx_at hj) (Term.int_eval (128))) h)
  obtain ⟨n, o, h1, h2, h3, _, L, rfl, ⟨rfl, N⟩, hq⟩ := rm0 l s _ hw i0 i1 s.heap s.heap.size (Nat.le_refl _) aC cC _ (Old.start s) SH SC BX tables_1 p e ha hc hk s m _ below hf ((Spec.applies_iff_loose hf).mp happ).1 ⟨rfl, State.Warmed39.refl s, rfl⟩ trivial
  refine ⟨n, _, h1, h2, h3, hpost _ _ _ _ _ _ ⟨Cond.after_iff.mpr rfl, Cond.after_iff.mpr (eq_i res_at (Term.int_eval (1)) rfl), trivial⟩ ⟨hq.1, hq.2.1, (hq.2.2.sift fun y hy => Or.inr (N y hy)).mono (by decide) (by decide)⟩⟩
theorem main_1_1 : Claimed_1_1 := comes_1 fun _ _ _ _ _ _ h hF => ⟨h.1, hF⟩
theorem main_1_2 : Claimed_1_2 := comes_1 fun _ _ _ _ _ _ h hF => ⟨h.2.1, hF⟩
end Jvm.Pilot.@@N@@
namespace Jvm.Pilot.@@N@@
open Jvm Jvm.ClassFile Sem Op Lib Jvm.Free Jvm.Stand Jvm.Pilot.@@N@@.Jvm.D
/-! MADE BY PROGRAM (witnessworld.py) out of the Statement's table words and the real class files: 16 classes; the members and pool entries that the words name. The judged class is class 1, her method 1. -/
namespace start1
open Jvm.ClassFile
def u (s : String) : CpInfo := .utf8 (stringToUtf16 s)
/-- a pool by its gaps: so many unusable entries, then the entry; so many at the end -/
def gap : Nat → List CpInfo → List CpInfo
  | 0, r => r
  | n + 1, r => .unusable :: gap n r
def poolList (es : List (Nat × CpInfo)) (last : Nat) : List CpInfo := es.foldr (fun e r => gap e.1 (e.2 :: r)) (gap last [])
def pool (es : List (Nat × CpInfo)) (last : Nat) : Array CpInfo := ⟨poolList es last⟩
def fileOf (pool : Array CpInfo) (this : Nat) (attrs : Array Attribute := #[]) (ms : Array MethodInfo := #[]) (fl : Nat := 33) (sup : Nat := 0) (ifs : Array Nat := #[]) (fds : Array FieldInfo := #[]) : ClassFile where
  minorVersion := 0
  majorVersion := 65
  constantPool := pool
  accessFlags := fl
  thisClass := this
  superClass := sup
  interfaces := ifs
  fields := fds
  methods := ms
  attributes := attrs
def plain (name : String) (sup : Option ClassId) : Class where
  name := name
  kind := .ordinary
  loader := none
  accessFlags := 33
  super := sup
  interfaces := #[]
  cf := none
  fields := #[]
  methods := #[]
  instanceTypes := #[]
  staticTypes := #[]
  resolved := #[]
  callSites := []
  init := .initialized
  statics := none
  mirror := none

def pool0 : Array CpInfo := pool [(5, u "<init>"), (0, u "()V"), (1, .class_ 10), (1, u "java/lang/Object")] 113

def k0c0 : Code := { maxStack := 0, maxLocals := 1, code := object_method_1_code, exceptionTable := #[], attributes := #[] }
def k0m0 : Method := { name := "<init>", desc := "()V", sig := { parameters := [], returnType := none }, accessFlags := 1, code := some k0c0 }
/-- java/lang/Object -/
def k0 : Class := { plain "java/lang/Object" none with
  accessFlags := 33
  interfaces := #[]
  cf := some (fileOf pool0 8 #[] #[{ accessFlags := 1, nameIndex := 5, descriptorIndex := 6, attributes := #[] }] 33 0 #[] #[])
  fields := #[]
  methods := #[k0m0]
  instanceTypes := #[]
  staticTypes := #[]
  resolved := Array.replicate 124 none
  statics := none }

def pool1 : Array CpInfo := pool [(2, .class_ 4), (1, u "java/lang/Object"), (0, u "<init>"), (0, u "()V"), (0, .methodref 8 9), (0, .class_ 10), (0, .nameAndType 11 12), (0, u "com/example/pinakas/pinakas/ConstraintAttributesEqualsPinLaw"), (0, u "make"), (0, u "(I)Lcom/example/pinakas/pinakas/ConstraintAttributes;"), (0, .methodref 14 15), (0, .class_ 16), (0, .nameAndType 17 18), (0, u "java/lang/Integer"), (0, u "valueOf"), (0, u "(I)Ljava/lang/Integer;"), (0, .methodref 20 21), (0, .class_ 22), (0, .nameAndType 23 24), (0, u "com/example/pinakas/pinakas/ConstraintAttributes"), (0, u "equals"), (0, u "(Ljava/lang/Object;)Z"), (0, .methodref 20 26), (0, .nameAndType 5 27), (0, u "(ZZZZ)V"), (2, u "law"), (0, u "(II)Z")] 3

def k1m0 : Method := { name := "<init>", desc := "()V", sig := { parameters := [], returnType := none }, accessFlags := 1, code := none }
def k1c1 : Code := { maxStack := 3, maxLocals := 7, code := code, exceptionTable := #[], attributes := #[] }
def k1m1 : Method := { name := "law", desc := "(II)Z", sig := { parameters := [.int, .int], returnType := some .boolean }, accessFlags := 9, code := some k1c1 }
def k1c2 : Code := { maxStack := 7, maxLocals := 1, code := method_3_code, exceptionTable := #[], attributes := #[] }
def k1m2 : Method := { name := "make", desc := "(I)Lcom/example/pinakas/pinakas/ConstraintAttributes;", sig := { parameters := [.int], returnType := some (.object "com/example/pinakas/pinakas/ConstraintAttributes") }, accessFlags := 10, code := some k1c2 }
/-- com/example/pinakas/pinakas/ConstraintAttributesEqualsPinLaw -/
def k1 : Class := { plain "com/example/pinakas/pinakas/ConstraintAttributesEqualsPinLaw" (some 0) with
  accessFlags := 49
  interfaces := #[]
  cf := some (fileOf pool1 8 #[] #[{ accessFlags := 1, nameIndex := 5, descriptorIndex := 6, attributes := #[] }, { accessFlags := 9, nameIndex := 30, descriptorIndex := 31, attributes := #[] }, { accessFlags := 10, nameIndex := 11, descriptorIndex := 12, attributes := #[] }] 49 2 #[] #[])
  fields := #[]
  methods := #[k1m0, k1m1, k1m2]
  instanceTypes := #[]
  staticTypes := #[]
  resolved := Array.replicate 35 none
  statics := none }

def pool2 : Array CpInfo := pool [(1, .methodref 2 3), (0, .class_ 4), (0, .nameAndType 5 6), (0, u "java/lang/Object"), (0, u "<init>"), (0, u "()V"), (0, .fieldref 8 9), (0, .class_ 10), (0, .nameAndType 11 12), (0, u "com/example/pinakas/pinakas/ConstraintAttributes"), (0, u "deferrable"), (0, u "Z"), (0, .fieldref 8 14), (0, .nameAndType 15 12), (0, u "initiallyDeferred"), (0, .fieldref 8 17), (0, .nameAndType 18 12), (0, u "enforced"), (0, .fieldref 8 20), (0, .nameAndType 21 12), (0, u "noInherit"), (1, .class_ 25), (1, u "com/example/pinakas/pinakas/ConstraintAttributes$Clause"), (7, u "(Ljava/lang/Object;)Z"), (31, .class_ 67), (1, u "com/example/pinakas/pinakas/ConstraintAttributes$Attribute"), (33, u "(ZZZZ)V"), (33, u "NONE"), (0, u "Lcom/example/pinakas/pinakas/ConstraintAttributes;"), (0, u "DEFERRED_NOT_DEFERRABLE"), (0, u "Ljava/lang/String;"), (17, u "equals")] 28

def k2c0 : Code := { maxStack := 2, maxLocals := 5, code := prog_63_method_1_code, exceptionTable := #[], attributes := #[] }
def k2m0 : Method := { name := "<init>", desc := "(ZZZZ)V", sig := { parameters := [.boolean, .boolean, .boolean, .boolean], returnType := none }, accessFlags := 0, code := some k2c0 }
def k2c1 : Code := { maxStack := 2, maxLocals := 3, code := prog_63_method_10_code, exceptionTable := #[], attributes := #[] }
def k2m1 : Method := { name := "equals", desc := "(Ljava/lang/Object;)Z", sig := { parameters := [(.object "java/lang/Object")], returnType := some .boolean }, accessFlags := 1, code := some k2c1 }
/-- com/example/pinakas/pinakas/ConstraintAttributes -/
def k2 : Class := { plain "com/example/pinakas/pinakas/ConstraintAttributes" (some 0) with
  accessFlags := 48
  interfaces := #[]
  cf := some (fileOf pool2 8 #[.nestMembers #[23, 65]] #[{ accessFlags := 0, nameIndex := 5, descriptorIndex := 101, attributes := #[] }, { accessFlags := 1, nameIndex := 156, descriptorIndex := 33, attributes := #[] }] 48 2 #[] #[{ accessFlags := 24, nameIndex := 137, descriptorIndex := 138, attributes := #[] }, { accessFlags := 24, nameIndex := 135, descriptorIndex := 136, attributes := #[] }, { accessFlags := 18, nameIndex := 11, descriptorIndex := 12, attributes := #[] }, { accessFlags := 18, nameIndex := 15, descriptorIndex := 12, attributes := #[] }, { accessFlags := 18, nameIndex := 18, descriptorIndex := 12, attributes := #[] }, { accessFlags := 18, nameIndex := 21, descriptorIndex := 12, attributes := #[] }])
  fields := #[{ name := "DEFERRED_NOT_DEFERRABLE", type := (.object "java/lang/String"), accessFlags := 24, slot := 0, constantValue := 0 }, { name := "NONE", type := (.object "com/example/pinakas/pinakas/ConstraintAttributes"), accessFlags := 24, slot := 1, constantValue := 0 }, { name := "deferrable", type := .boolean, accessFlags := 18, slot := 0, constantValue := 0 }, { name := "initiallyDeferred", type := .boolean, accessFlags := 18, slot := 1, constantValue := 0 }, { name := "enforced", type := .boolean, accessFlags := 18, slot := 2, constantValue := 0 }, { name := "noInherit", type := .boolean, accessFlags := 18, slot := 3, constantValue := 0 }]
  methods := #[k2m0, k2m1]
  instanceTypes := #[.boolean, .boolean, .boolean, .boolean]
  staticTypes := #[(.object "java/lang/String"), (.object "com/example/pinakas/pinakas/ConstraintAttributes")]
  resolved := Array.replicate 185 none
  statics := none }

def pool3 : Array CpInfo := pool [(1, .class_ 2), (0, u "java/io/Serializable"), (0, .class_ 4), (0, u "java/lang/Object")] 2

/-- java/io/Serializable -/
def k3 : Class := { plain "java/io/Serializable" (some 0) with
  accessFlags := 1537
  interfaces := #[]
  cf := some (fileOf pool3 1 #[] #[] 1537 3 #[] #[])
  fields := #[]
  methods := #[]
  instanceTypes := #[]
  staticTypes := #[]
  resolved := Array.replicate 7 none
  statics := none }

def pool4 : Array CpInfo := pool [(1, .methodref 2 3), (0, .class_ 4), (0, .nameAndType 5 6), (0, u "java/lang/Object"), (0, u "<init>"), (0, u "()V"), (1, .class_ 10), (1, u "java/lang/Number"), (2, .class_ 14), (0, u "java/io/Serializable"), (0, u "serialVersionUID"), (0, u "J")] 20

def k4c0 : Code := { maxStack := 1, maxLocals := 1, code := jdk_18_method_1_code, exceptionTable := #[], attributes := #[] }
def k4m0 : Method := { name := "<init>", desc := "()V", sig := { parameters := [], returnType := none }, accessFlags := 1, code := some k4c0 }
/-- java/lang/Number -/
def k4 : Class := { plain "java/lang/Number" (some 0) with
  accessFlags := 1057
  interfaces := #[3]
  cf := some (fileOf pool4 8 #[] #[{ accessFlags := 1, nameIndex := 5, descriptorIndex := 6, attributes := #[] }] 1057 2 #[13] #[{ accessFlags := 26, nameIndex := 15, descriptorIndex := 16, attributes := #[] }])
  fields := #[{ name := "serialVersionUID", type := .long, accessFlags := 26, slot := 0, constantValue := 0 }]
  methods := #[k4m0]
  instanceTypes := #[]
  staticTypes := #[.long]
  resolved := Array.replicate 37 none
  statics := none }

def pool5 : Array CpInfo := pool [(1, .class_ 2), (0, u "java/lang/Comparable"), (0, .class_ 4), (0, u "java/lang/Object")] 7

/-- java/lang/Comparable -/
def k5 : Class := { plain "java/lang/Comparable" (some 0) with
  accessFlags := 1537
  interfaces := #[]
  cf := some (fileOf pool5 1 #[] #[] 1537 3 #[] #[])
  fields := #[]
  methods := #[]
  instanceTypes := #[]
  staticTypes := #[]
  resolved := Array.replicate 12 none
  statics := none }

def pool6 : Array CpInfo := pool [(1, .class_ 2), (0, u "java/lang/constant/Constable"), (0, .class_ 4), (0, u "java/lang/Object")] 6

/-- java/lang/constant/Constable -/
def k6 : Class := { plain "java/lang/constant/Constable" (some 0) with
  accessFlags := 1537
  interfaces := #[]
  cf := some (fileOf pool6 1 #[] #[] 1537 3 #[] #[])
  fields := #[]
  methods := #[]
  instanceTypes := #[]
  staticTypes := #[]
  resolved := Array.replicate 11 none
  statics := none }

def pool7 : Array CpInfo := pool [(1, .class_ 2), (0, u "java/lang/constant/ConstantDesc"), (0, .class_ 4), (0, u "java/lang/Object")] 32

/-- java/lang/constant/ConstantDesc -/
def k7 : Class := { plain "java/lang/constant/ConstantDesc" (some 0) with
  accessFlags := 1537
  interfaces := #[]
  cf := some (fileOf pool7 1 #[] #[] 1537 3 #[] #[])
  fields := #[]
  methods := #[]
  instanceTypes := #[]
  staticTypes := #[]
  resolved := Array.replicate 37 none
  statics := none }

def pool8 : Array CpInfo := pool [(1, .class_ 2), (0, u "java/lang/Integer"), (16, u "digits"), (0, u "[C"), (46, u "<init>"), (17, u "DigitOnes"), (0, u "[B"), (2, u "DigitTens"), (10, .nameAndType 67 101), (0, u "()V"), (85, u "valueOf"), (0, u "(I)Ljava/lang/Integer;"), (0, .class_ 190), (0, u "java/lang/Integer$IntegerCache"), (0, .fieldref 189 192), (0, .nameAndType 193 194), (0, u "high"), (0, u "I"), (0, .fieldref 189 196), (0, .nameAndType 197 198), (0, u "cache"), (0, u "[Ljava/lang/Integer;"), (0, .methodref 1 200), (0, .nameAndType 67 201), (0, u "(I)V"), (0, .methodref 203 100), (0, .class_ 204), (0, u "java/lang/Number"), (0, .fieldref 1 206), (0, .nameAndType 207 194), (0, u "value"), (94, u "TYPE"), (0, u "Ljava/lang/Class;"), (0, .class_ 305), (0, u "java/lang/Comparable"), (0, .class_ 307), (0, u "java/lang/constant/Constable"), (0, .class_ 309), (0, u "java/lang/constant/ConstantDesc"), (0, u "MIN_VALUE"), (1, u "MAX_VALUE"), (3, u "SIZE"), (1, u "BYTES"), (1, u "serialVersionUID"), (0, u "J")] 131

def k8c0 : Code := { maxStack := 3, maxLocals := 1, code := jdk_33_method_22_code, exceptionTable := #[], attributes := #[] }
def k8m0 : Method := { name := "valueOf", desc := "(I)Ljava/lang/Integer;", sig := { parameters := [.int], returnType := some (.object "java/lang/Integer") }, accessFlags := 9, code := some k8c0 }
def k8c1 : Code := { maxStack := 2, maxLocals := 2, code := jdk_33_method_23_code, exceptionTable := #[], attributes := #[] }
def k8m1 : Method := { name := "<init>", desc := "(I)V", sig := { parameters := [.int], returnType := none }, accessFlags := 1, code := some k8c1 }
/-- java/lang/Integer -/
def k8 : Class := { plain "java/lang/Integer" (some 4) with
  accessFlags := 49
  interfaces := #[5, 6, 7]
  cf := some (fileOf pool8 1 #[.nestMembers #[189]] #[{ accessFlags := 9, nameIndex := 187, descriptorIndex := 188, attributes := #[] }, { accessFlags := 1, nameIndex := 67, descriptorIndex := 201, attributes := #[] }] 49 203 #[304, 306, 308] #[{ accessFlags := 25, nameIndex := 310, descriptorIndex := 194, attributes := #[] }, { accessFlags := 25, nameIndex := 312, descriptorIndex := 194, attributes := #[] }, { accessFlags := 25, nameIndex := 302, descriptorIndex := 303, attributes := #[] }, { accessFlags := 24, nameIndex := 19, descriptorIndex := 20, attributes := #[] }, { accessFlags := 24, nameIndex := 89, descriptorIndex := 86, attributes := #[] }, { accessFlags := 24, nameIndex := 85, descriptorIndex := 86, attributes := #[] }, { accessFlags := 18, nameIndex := 207, descriptorIndex := 194, attributes := #[] }, { accessFlags := 25, nameIndex := 316, descriptorIndex := 194, attributes := #[] }, { accessFlags := 25, nameIndex := 318, descriptorIndex := 194, attributes := #[] }, { accessFlags := 26, nameIndex := 320, descriptorIndex := 321, attributes := #[] }])
  fields := #[{ name := "MIN_VALUE", type := .int, accessFlags := 25, slot := 0, constantValue := 0 }, { name := "MAX_VALUE", type := .int, accessFlags := 25, slot := 1, constantValue := 0 }, { name := "TYPE", type := (.object "java/lang/Class"), accessFlags := 25, slot := 2, constantValue := 0 }, { name := "digits", type := (.array .char), accessFlags := 24, slot := 3, constantValue := 0 }, { name := "DigitTens", type := (.array .byte), accessFlags := 24, slot := 4, constantValue := 0 }, { name := "DigitOnes", type := (.array .byte), accessFlags := 24, slot := 5, constantValue := 0 }, { name := "value", type := .int, accessFlags := 18, slot := 0, constantValue := 0 }, { name := "SIZE", type := .int, accessFlags := 25, slot := 6, constantValue := 0 }, { name := "BYTES", type := .int, accessFlags := 25, slot := 7, constantValue := 0 }, { name := "serialVersionUID", type := .long, accessFlags := 26, slot := 8, constantValue := 0 }]
  methods := #[k8m0, k8m1]
  instanceTypes := #[.int]
  staticTypes := #[.int, .int, (.object "java/lang/Class"), (.array .char), (.array .byte), (.array .byte), .int, .int, .long]
  resolved := Array.replicate 453 none
  statics := none }

def pool9 : Array CpInfo := pool [(2, .class_ 4), (1, u "java/lang/Object"), (0, u "<init>"), (0, u "()V"), (0, .class_ 8), (0, u "java/lang/Integer"), (7, .class_ 18), (1, u "java/lang/Integer$IntegerCache"), (0, u "$assertionsDisabled"), (0, u "Z"), (26, u "high"), (0, u "I"), (8, u "archivedCache"), (0, u "[Ljava/lang/Integer;"), (12, u "cache"), (0, u "low")] 27

def k9m0 : Method := { name := "<init>", desc := "()V", sig := { parameters := [], returnType := none }, accessFlags := 2, code := none }
/-- java/lang/Integer$IntegerCache -/
def k9 : Class := { plain "java/lang/Integer$IntegerCache" (some 0) with
  accessFlags := 48
  interfaces := #[]
  cf := some (fileOf pool9 16 #[.nestHost 7] #[{ accessFlags := 2, nameIndex := 5, descriptorIndex := 6, attributes := #[] }] 48 2 #[] #[{ accessFlags := 24, nameIndex := 72, descriptorIndex := 48, attributes := #[] }, { accessFlags := 24, nameIndex := 47, descriptorIndex := 48, attributes := #[] }, { accessFlags := 24, nameIndex := 71, descriptorIndex := 58, attributes := #[] }, { accessFlags := 8, nameIndex := 57, descriptorIndex := 58, attributes := #[] }, { accessFlags := 4120, nameIndex := 19, descriptorIndex := 20, attributes := #[] }])
  fields := #[{ name := "low", type := .int, accessFlags := 24, slot := 0, constantValue := 0 }, { name := "high", type := .int, accessFlags := 24, slot := 1, constantValue := 0 }, { name := "cache", type := (.array (.object "java/lang/Integer")), accessFlags := 24, slot := 2, constantValue := 0 }, { name := "archivedCache", type := (.array (.object "java/lang/Integer")), accessFlags := 8, slot := 3, constantValue := 0 }, { name := "$assertionsDisabled", type := .boolean, accessFlags := 4120, slot := 4, constantValue := 0 }]
  methods := #[k9m0]
  instanceTypes := #[]
  staticTypes := #[.int, .int, (.array (.object "java/lang/Integer")), (.array (.object "java/lang/Integer")), .boolean]
  resolved := Array.replicate 100 none
  statics := some 0 }

def pool10 : Array CpInfo := pool [(1, u "java/lang/Cloneable"), (0, .class_ 1), (0, u "java/lang/Object"), (0, .class_ 3)] 3

/-- java/lang/Cloneable -/
def k10 : Class := { plain "java/lang/Cloneable" (some 0) with
  accessFlags := 1537
  interfaces := #[]
  cf := some (fileOf pool10 2 #[] #[] 1537 4 #[] #[])
  fields := #[]
  methods := #[]
  instanceTypes := #[]
  staticTypes := #[]
  resolved := Array.replicate 8 none
  statics := none }

/-- the primitive byte -/
def k11 : Class := { plain "byte" none with kind := .primitive 'B', accessFlags := 0x411 }
/-- [B -/
def k12 : Class := { plain "[B" (some 0) with kind := .array 11 .byte, interfaces := #[10, 3], accessFlags := 1041 }

/-- the primitive int -/
def k13 : Class := { plain "int" none with kind := .primitive 'I', accessFlags := 0x411 }
/-- [I -/
def k14 : Class := { plain "[I" (some 0) with kind := .array 13 .int, interfaces := #[10, 3], accessFlags := 1041 }

/-- [Ljava/lang/Integer; -/
def k15 : Class := { plain "[Ljava/lang/Integer;" (some 0) with kind := .array 8 (.object "java/lang/Integer"), interfaces := #[10, 3], accessFlags := 1041 }

def heap : Heap := #[{ cls := 9, slots := #[.int 0, .int 127, .ref 1, .null, .int 0], vm := .statics 9 },
  { cls := 15, slots := #[.ref 2, .ref 3, .ref 4, .ref 5, .ref 6, .ref 7, .ref 8, .ref 9, .ref 10, .ref 11, .ref 12, .ref 13, .ref 14, .ref 15, .ref 16, .ref 17, .ref 18, .ref 19, .ref 20, .ref 21, .ref 22, .ref 23, .ref 24, .ref 25, .ref 26, .ref 27, .ref 28, .ref 29, .ref 30, .ref 31, .ref 32, .ref 33, .ref 34, .ref 35, .ref 36, .ref 37, .ref 38, .ref 39, .ref 40, .ref 41, .ref 42, .ref 43, .ref 44, .ref 45, .ref 46, .ref 47, .ref 48, .ref 49, .ref 50, .ref 51, .ref 52, .ref 53, .ref 54, .ref 55, .ref 56, .ref 57, .ref 58, .ref 59, .ref 60, .ref 61, .ref 62, .ref 63, .ref 64, .ref 65, .ref 66, .ref 67, .ref 68, .ref 69, .ref 70, .ref 71, .ref 72, .ref 73, .ref 74, .ref 75, .ref 76, .ref 77, .ref 78, .ref 79, .ref 80, .ref 81, .ref 82, .ref 83, .ref 84, .ref 85, .ref 86, .ref 87, .ref 88, .ref 89, .ref 90, .ref 91, .ref 92, .ref 93, .ref 94, .ref 95, .ref 96, .ref 97, .ref 98, .ref 99, .ref 100, .ref 101, .ref 102, .ref 103, .ref 104, .ref 105, .ref 106, .ref 107, .ref 108, .ref 109, .ref 110, .ref 111, .ref 112, .ref 113, .ref 114, .ref 115, .ref 116, .ref 117, .ref 118, .ref 119, .ref 120, .ref 121, .ref 122, .ref 123, .ref 124, .ref 125, .ref 126, .ref 127, .ref 128, .ref 129, .ref 130, .ref 131, .ref 132, .ref 133, .ref 134, .ref 135, .ref 136, .ref 137, .ref 138, .ref 139, .ref 140, .ref 141, .ref 142, .ref 143, .ref 144, .ref 145, .ref 146, .ref 147, .ref 148, .ref 149, .ref 150, .ref 151, .ref 152, .ref 153, .ref 154, .ref 155, .ref 156, .ref 157, .ref 158, .ref 159, .ref 160, .ref 161, .ref 162, .ref 163, .ref 164, .ref 165, .ref 166, .ref 167, .ref 168, .ref 169, .ref 170, .ref 171, .ref 172, .ref 173, .ref 174, .ref 175, .ref 176, .ref 177, .ref 178, .ref 179, .ref 180, .ref 181, .ref 182, .ref 183, .ref 184, .ref 185, .ref 186, .ref 187, .ref 188, .ref 189, .ref 190, .ref 191, .ref 192, .ref 193, .ref 194, .ref 195, .ref 196, .ref 197, .ref 198, .ref 199, .ref 200, .ref 201, .ref 202, .ref 203, .ref 204, .ref 205, .ref 206, .ref 207, .ref 208, .ref 209, .ref 210, .ref 211, .ref 212, .ref 213, .ref 214, .ref 215, .ref 216, .ref 217, .ref 218, .ref 219, .ref 220, .ref 221, .ref 222, .ref 223, .ref 224, .ref 225, .ref 226, .ref 227, .ref 228, .ref 229, .ref 230, .ref 231, .ref 232, .ref 233, .ref 234, .ref 235, .ref 236, .ref 237, .ref 238, .ref 239, .ref 240, .ref 241, .ref 242, .ref 243, .ref 244, .ref 245, .ref 246, .ref 247, .ref 248, .ref 249, .ref 250, .ref 251, .ref 252, .ref 253, .ref 254, .ref 255, .ref 256, .ref 257], vm := .none },
  { cls := 8, slots := #[.int (-128)], vm := .none },
  { cls := 8, slots := #[.int (-127)], vm := .none },
  { cls := 8, slots := #[.int (-126)], vm := .none },
  { cls := 8, slots := #[.int (-125)], vm := .none },
  { cls := 8, slots := #[.int (-124)], vm := .none },
  { cls := 8, slots := #[.int (-123)], vm := .none },
  { cls := 8, slots := #[.int (-122)], vm := .none },
  { cls := 8, slots := #[.int (-121)], vm := .none },
  { cls := 8, slots := #[.int (-120)], vm := .none },
  { cls := 8, slots := #[.int (-119)], vm := .none },
  { cls := 8, slots := #[.int (-118)], vm := .none },
  { cls := 8, slots := #[.int (-117)], vm := .none },
  { cls := 8, slots := #[.int (-116)], vm := .none },
  { cls := 8, slots := #[.int (-115)], vm := .none },
  { cls := 8, slots := #[.int (-114)], vm := .none },
  { cls := 8, slots := #[.int (-113)], vm := .none },
  { cls := 8, slots := #[.int (-112)], vm := .none },
  { cls := 8, slots := #[.int (-111)], vm := .none },
  { cls := 8, slots := #[.int (-110)], vm := .none },
  { cls := 8, slots := #[.int (-109)], vm := .none },
  { cls := 8, slots := #[.int (-108)], vm := .none },
  { cls := 8, slots := #[.int (-107)], vm := .none },
  { cls := 8, slots := #[.int (-106)], vm := .none },
  { cls := 8, slots := #[.int (-105)], vm := .none },
  { cls := 8, slots := #[.int (-104)], vm := .none },
  { cls := 8, slots := #[.int (-103)], vm := .none },
  { cls := 8, slots := #[.int (-102)], vm := .none },
  { cls := 8, slots := #[.int (-101)], vm := .none },
  { cls := 8, slots := #[.int (-100)], vm := .none },
  { cls := 8, slots := #[.int (-99)], vm := .none },
  { cls := 8, slots := #[.int (-98)], vm := .none },
  { cls := 8, slots := #[.int (-97)], vm := .none },
  { cls := 8, slots := #[.int (-96)], vm := .none },
  { cls := 8, slots := #[.int (-95)], vm := .none },
  { cls := 8, slots := #[.int (-94)], vm := .none },
  { cls := 8, slots := #[.int (-93)], vm := .none },
  { cls := 8, slots := #[.int (-92)], vm := .none },
  { cls := 8, slots := #[.int (-91)], vm := .none },
  { cls := 8, slots := #[.int (-90)], vm := .none },
  { cls := 8, slots := #[.int (-89)], vm := .none },
  { cls := 8, slots := #[.int (-88)], vm := .none },
  { cls := 8, slots := #[.int (-87)], vm := .none },
  { cls := 8, slots := #[.int (-86)], vm := .none },
  { cls := 8, slots := #[.int (-85)], vm := .none },
  { cls := 8, slots := #[.int (-84)], vm := .none },
  { cls := 8, slots := #[.int (-83)], vm := .none },
  { cls := 8, slots := #[.int (-82)], vm := .none },
  { cls := 8, slots := #[.int (-81)], vm := .none },
  { cls := 8, slots := #[.int (-80)], vm := .none },
  { cls := 8, slots := #[.int (-79)], vm := .none },
  { cls := 8, slots := #[.int (-78)], vm := .none },
  { cls := 8, slots := #[.int (-77)], vm := .none },
  { cls := 8, slots := #[.int (-76)], vm := .none },
  { cls := 8, slots := #[.int (-75)], vm := .none },
  { cls := 8, slots := #[.int (-74)], vm := .none },
  { cls := 8, slots := #[.int (-73)], vm := .none },
  { cls := 8, slots := #[.int (-72)], vm := .none },
  { cls := 8, slots := #[.int (-71)], vm := .none },
  { cls := 8, slots := #[.int (-70)], vm := .none },
  { cls := 8, slots := #[.int (-69)], vm := .none },
  { cls := 8, slots := #[.int (-68)], vm := .none },
  { cls := 8, slots := #[.int (-67)], vm := .none },
  { cls := 8, slots := #[.int (-66)], vm := .none },
  { cls := 8, slots := #[.int (-65)], vm := .none },
  { cls := 8, slots := #[.int (-64)], vm := .none },
  { cls := 8, slots := #[.int (-63)], vm := .none },
  { cls := 8, slots := #[.int (-62)], vm := .none },
  { cls := 8, slots := #[.int (-61)], vm := .none },
  { cls := 8, slots := #[.int (-60)], vm := .none },
  { cls := 8, slots := #[.int (-59)], vm := .none },
  { cls := 8, slots := #[.int (-58)], vm := .none },
  { cls := 8, slots := #[.int (-57)], vm := .none },
  { cls := 8, slots := #[.int (-56)], vm := .none },
  { cls := 8, slots := #[.int (-55)], vm := .none },
  { cls := 8, slots := #[.int (-54)], vm := .none },
  { cls := 8, slots := #[.int (-53)], vm := .none },
  { cls := 8, slots := #[.int (-52)], vm := .none },
  { cls := 8, slots := #[.int (-51)], vm := .none },
  { cls := 8, slots := #[.int (-50)], vm := .none },
  { cls := 8, slots := #[.int (-49)], vm := .none },
  { cls := 8, slots := #[.int (-48)], vm := .none },
  { cls := 8, slots := #[.int (-47)], vm := .none },
  { cls := 8, slots := #[.int (-46)], vm := .none },
  { cls := 8, slots := #[.int (-45)], vm := .none },
  { cls := 8, slots := #[.int (-44)], vm := .none },
  { cls := 8, slots := #[.int (-43)], vm := .none },
  { cls := 8, slots := #[.int (-42)], vm := .none },
  { cls := 8, slots := #[.int (-41)], vm := .none },
  { cls := 8, slots := #[.int (-40)], vm := .none },
  { cls := 8, slots := #[.int (-39)], vm := .none },
  { cls := 8, slots := #[.int (-38)], vm := .none },
  { cls := 8, slots := #[.int (-37)], vm := .none },
  { cls := 8, slots := #[.int (-36)], vm := .none },
  { cls := 8, slots := #[.int (-35)], vm := .none },
  { cls := 8, slots := #[.int (-34)], vm := .none },
  { cls := 8, slots := #[.int (-33)], vm := .none },
  { cls := 8, slots := #[.int (-32)], vm := .none },
  { cls := 8, slots := #[.int (-31)], vm := .none },
  { cls := 8, slots := #[.int (-30)], vm := .none },
  { cls := 8, slots := #[.int (-29)], vm := .none },
  { cls := 8, slots := #[.int (-28)], vm := .none },
  { cls := 8, slots := #[.int (-27)], vm := .none },
  { cls := 8, slots := #[.int (-26)], vm := .none },
  { cls := 8, slots := #[.int (-25)], vm := .none },
  { cls := 8, slots := #[.int (-24)], vm := .none },
  { cls := 8, slots := #[.int (-23)], vm := .none },
  { cls := 8, slots := #[.int (-22)], vm := .none },
  { cls := 8, slots := #[.int (-21)], vm := .none },
  { cls := 8, slots := #[.int (-20)], vm := .none },
  { cls := 8, slots := #[.int (-19)], vm := .none },
  { cls := 8, slots := #[.int (-18)], vm := .none },
  { cls := 8, slots := #[.int (-17)], vm := .none },
  { cls := 8, slots := #[.int (-16)], vm := .none },
  { cls := 8, slots := #[.int (-15)], vm := .none },
  { cls := 8, slots := #[.int (-14)], vm := .none },
  { cls := 8, slots := #[.int (-13)], vm := .none },
  { cls := 8, slots := #[.int (-12)], vm := .none },
  { cls := 8, slots := #[.int (-11)], vm := .none },
  { cls := 8, slots := #[.int (-10)], vm := .none },
  { cls := 8, slots := #[.int (-9)], vm := .none },
  { cls := 8, slots := #[.int (-8)], vm := .none },
  { cls := 8, slots := #[.int (-7)], vm := .none },
  { cls := 8, slots := #[.int (-6)], vm := .none },
  { cls := 8, slots := #[.int (-5)], vm := .none },
  { cls := 8, slots := #[.int (-4)], vm := .none },
  { cls := 8, slots := #[.int (-3)], vm := .none },
  { cls := 8, slots := #[.int (-2)], vm := .none },
  { cls := 8, slots := #[.int (-1)], vm := .none },
  { cls := 8, slots := #[.int (0)], vm := .none },
  { cls := 8, slots := #[.int (1)], vm := .none },
  { cls := 8, slots := #[.int (2)], vm := .none },
  { cls := 8, slots := #[.int (3)], vm := .none },
  { cls := 8, slots := #[.int (4)], vm := .none },
  { cls := 8, slots := #[.int (5)], vm := .none },
  { cls := 8, slots := #[.int (6)], vm := .none },
  { cls := 8, slots := #[.int (7)], vm := .none },
  { cls := 8, slots := #[.int (8)], vm := .none },
  { cls := 8, slots := #[.int (9)], vm := .none },
  { cls := 8, slots := #[.int (10)], vm := .none },
  { cls := 8, slots := #[.int (11)], vm := .none },
  { cls := 8, slots := #[.int (12)], vm := .none },
  { cls := 8, slots := #[.int (13)], vm := .none },
  { cls := 8, slots := #[.int (14)], vm := .none },
  { cls := 8, slots := #[.int (15)], vm := .none },
  { cls := 8, slots := #[.int (16)], vm := .none },
  { cls := 8, slots := #[.int (17)], vm := .none },
  { cls := 8, slots := #[.int (18)], vm := .none },
  { cls := 8, slots := #[.int (19)], vm := .none },
  { cls := 8, slots := #[.int (20)], vm := .none },
  { cls := 8, slots := #[.int (21)], vm := .none },
  { cls := 8, slots := #[.int (22)], vm := .none },
  { cls := 8, slots := #[.int (23)], vm := .none },
  { cls := 8, slots := #[.int (24)], vm := .none },
  { cls := 8, slots := #[.int (25)], vm := .none },
  { cls := 8, slots := #[.int (26)], vm := .none },
  { cls := 8, slots := #[.int (27)], vm := .none },
  { cls := 8, slots := #[.int (28)], vm := .none },
  { cls := 8, slots := #[.int (29)], vm := .none },
  { cls := 8, slots := #[.int (30)], vm := .none },
  { cls := 8, slots := #[.int (31)], vm := .none },
  { cls := 8, slots := #[.int (32)], vm := .none },
  { cls := 8, slots := #[.int (33)], vm := .none },
  { cls := 8, slots := #[.int (34)], vm := .none },
  { cls := 8, slots := #[.int (35)], vm := .none },
  { cls := 8, slots := #[.int (36)], vm := .none },
  { cls := 8, slots := #[.int (37)], vm := .none },
  { cls := 8, slots := #[.int (38)], vm := .none },
  { cls := 8, slots := #[.int (39)], vm := .none },
  { cls := 8, slots := #[.int (40)], vm := .none },
  { cls := 8, slots := #[.int (41)], vm := .none },
  { cls := 8, slots := #[.int (42)], vm := .none },
  { cls := 8, slots := #[.int (43)], vm := .none },
  { cls := 8, slots := #[.int (44)], vm := .none },
  { cls := 8, slots := #[.int (45)], vm := .none },
  { cls := 8, slots := #[.int (46)], vm := .none },
  { cls := 8, slots := #[.int (47)], vm := .none },
  { cls := 8, slots := #[.int (48)], vm := .none },
  { cls := 8, slots := #[.int (49)], vm := .none },
  { cls := 8, slots := #[.int (50)], vm := .none },
  { cls := 8, slots := #[.int (51)], vm := .none },
  { cls := 8, slots := #[.int (52)], vm := .none },
  { cls := 8, slots := #[.int (53)], vm := .none },
  { cls := 8, slots := #[.int (54)], vm := .none },
  { cls := 8, slots := #[.int (55)], vm := .none },
  { cls := 8, slots := #[.int (56)], vm := .none },
  { cls := 8, slots := #[.int (57)], vm := .none },
  { cls := 8, slots := #[.int (58)], vm := .none },
  { cls := 8, slots := #[.int (59)], vm := .none },
  { cls := 8, slots := #[.int (60)], vm := .none },
  { cls := 8, slots := #[.int (61)], vm := .none },
  { cls := 8, slots := #[.int (62)], vm := .none },
  { cls := 8, slots := #[.int (63)], vm := .none },
  { cls := 8, slots := #[.int (64)], vm := .none },
  { cls := 8, slots := #[.int (65)], vm := .none },
  { cls := 8, slots := #[.int (66)], vm := .none },
  { cls := 8, slots := #[.int (67)], vm := .none },
  { cls := 8, slots := #[.int (68)], vm := .none },
  { cls := 8, slots := #[.int (69)], vm := .none },
  { cls := 8, slots := #[.int (70)], vm := .none },
  { cls := 8, slots := #[.int (71)], vm := .none },
  { cls := 8, slots := #[.int (72)], vm := .none },
  { cls := 8, slots := #[.int (73)], vm := .none },
  { cls := 8, slots := #[.int (74)], vm := .none },
  { cls := 8, slots := #[.int (75)], vm := .none },
  { cls := 8, slots := #[.int (76)], vm := .none },
  { cls := 8, slots := #[.int (77)], vm := .none },
  { cls := 8, slots := #[.int (78)], vm := .none },
  { cls := 8, slots := #[.int (79)], vm := .none },
  { cls := 8, slots := #[.int (80)], vm := .none },
  { cls := 8, slots := #[.int (81)], vm := .none },
  { cls := 8, slots := #[.int (82)], vm := .none },
  { cls := 8, slots := #[.int (83)], vm := .none },
  { cls := 8, slots := #[.int (84)], vm := .none },
  { cls := 8, slots := #[.int (85)], vm := .none },
  { cls := 8, slots := #[.int (86)], vm := .none },
  { cls := 8, slots := #[.int (87)], vm := .none },
  { cls := 8, slots := #[.int (88)], vm := .none },
  { cls := 8, slots := #[.int (89)], vm := .none },
  { cls := 8, slots := #[.int (90)], vm := .none },
  { cls := 8, slots := #[.int (91)], vm := .none },
  { cls := 8, slots := #[.int (92)], vm := .none },
  { cls := 8, slots := #[.int (93)], vm := .none },
  { cls := 8, slots := #[.int (94)], vm := .none },
  { cls := 8, slots := #[.int (95)], vm := .none },
  { cls := 8, slots := #[.int (96)], vm := .none },
  { cls := 8, slots := #[.int (97)], vm := .none },
  { cls := 8, slots := #[.int (98)], vm := .none },
  { cls := 8, slots := #[.int (99)], vm := .none },
  { cls := 8, slots := #[.int (100)], vm := .none },
  { cls := 8, slots := #[.int (101)], vm := .none },
  { cls := 8, slots := #[.int (102)], vm := .none },
  { cls := 8, slots := #[.int (103)], vm := .none },
  { cls := 8, slots := #[.int (104)], vm := .none },
  { cls := 8, slots := #[.int (105)], vm := .none },
  { cls := 8, slots := #[.int (106)], vm := .none },
  { cls := 8, slots := #[.int (107)], vm := .none },
  { cls := 8, slots := #[.int (108)], vm := .none },
  { cls := 8, slots := #[.int (109)], vm := .none },
  { cls := 8, slots := #[.int (110)], vm := .none },
  { cls := 8, slots := #[.int (111)], vm := .none },
  { cls := 8, slots := #[.int (112)], vm := .none },
  { cls := 8, slots := #[.int (113)], vm := .none },
  { cls := 8, slots := #[.int (114)], vm := .none },
  { cls := 8, slots := #[.int (115)], vm := .none },
  { cls := 8, slots := #[.int (116)], vm := .none },
  { cls := 8, slots := #[.int (117)], vm := .none },
  { cls := 8, slots := #[.int (118)], vm := .none },
  { cls := 8, slots := #[.int (119)], vm := .none },
  { cls := 8, slots := #[.int (120)], vm := .none },
  { cls := 8, slots := #[.int (121)], vm := .none },
  { cls := 8, slots := #[.int (122)], vm := .none },
  { cls := 8, slots := #[.int (123)], vm := .none },
  { cls := 8, slots := #[.int (124)], vm := .none },
  { cls := 8, slots := #[.int (125)], vm := .none },
  { cls := 8, slots := #[.int (126)], vm := .none },
  { cls := 8, slots := #[.int (127)], vm := .none }]
def classes : Array Class := #[k0, k1, k2, k3, k4, k5, k6, k7, k8, k9, k10, k11, k12, k13, k14, k15]
def interned : List (Array UInt16 × Addr) := []
def slotsUsed : Nat := 517
def theMethod : MethodId := ⟨1, 1⟩
def args0 : Array Value := #[.int 5, .int 6]
def aboutOver (below : List Frame) : State where
  vm := { classes := classes, interned := interned.toArray }
  heap := heap
  slotsUsed := slotsUsed
  threads := #[{ frames := .invoking theMethod args0 :: below }]
def below0 : List Frame := [.native { method := ⟨0, 0⟩, args := #[] }]
def about1 : State := aboutOver below0
def p0 : Program := .bare "" "" ""
def e0 : Env := launch0.env 0 0 0
theorem w_frames : about1.frames = Frame.invoking theMethod args0 :: below0 := rfl
set_option maxRecDepth 65536 in
theorem w_args : argsFit about1.vm theMethod args0 = true := by decide +kernel
set_option maxRecDepth 65536 in
theorem w_heap : heapFits about1 = true := by decide +kernel
set_option maxRecDepth 65536 in
theorem w_runnable : about1.curStatus? = some .runnable := by decide +kernel
set_option maxRecDepth 65536 in
theorem w_alone : about1.alone = true := by decide +kernel
set_option maxRecDepth 65536 in
theorem w_named : about1.methodNamed? x = some theMethod := by decide +kernel
set_option maxRecDepth 65536 in
theorem w_hears : about1.hears theMethod below0 = true := by decide +kernel
set_option maxRecDepth 65536 in
theorem w_ripe : about1.ripe theMethod args0 below0 = true := by decide +kernel
theorem w_running : about1.status = .running := rfl
set_option maxRecDepth 65536 in
theorem w_room : about1.hasRoom e0.platform room_1 = true :=
  launch0.hasRoom_least _ room_1 (by decide +kernel) (by decide +kernel) (by decide +kernel) (by decide +kernel) (by decide +kernel) (by decide +kernel)
theorem allAtoms_all (ts : List Jvm.Cond) (a : Array Jvm.Value) (st : Jvm.State) : (allAtoms ts).before a st = ts.all (fun c => c.before a st) := by
  induction ts with
  | nil => rfl
  | cons c t ih =>
    show (Jvm.Cond.and c (allAtoms t)).before a st = _
    rw [Jvm.Cond.before_and, ih, List.all_cons]
def words1 : List Jvm.Cond := Jvm.Cond.code x code maxLocals ret :: tables_1
/-- a 'code' word, met by the world's own term for the bytes: nothing is compared byte by byte -/
theorem code_word {y : MethodName} {bytes : ByteArray} {mx : Nat} {rt : Option FieldType} {a : Array Value} {s : State} {m : MethodId} {meth : Method} {c : Code} (h1 : s.methodNamed? y = some m) (h2 : s.vm.method? m = some meth) (h3 : meth.code = some c) (h4 : c.code = bytes)
    (h5 : (c.maxLocals == mx && c.exceptionTable.isEmpty && decide (c.maxStack ≤ mostOperands) && decide (meth.sig.returnType = rt) && !meth.locks && decide (parseMethodDescriptor y.desc = some meth.sig)) = true) : (Jvm.Cond.code y bytes mx rt).before a s = true := by
  simp only [Bool.and_eq_true, beq_iff_eq, Bool.not_eq_true', decide_eq_true_eq] at h5
  obtain ⟨⟨⟨⟨⟨g1, g2⟩, g3⟩, g4⟩, g5⟩, g6⟩ := h5
  simp [Cond.before, Cond.holds, Cond.value, h1, h2, h3, h4, g1, g2, g3, g4, g5, g6]
def isCode : Jvm.Cond → Bool
  | .code _ _ _ _ => true
  | _ => false
theorem all_split {L : List Jvm.Cond} {P : Jvm.Cond → Bool} (h1 : L.all (fun c => isCode c || P c) = true) (h2 : ∀ c ∈ L.filter isCode, P c = true) : L.all P = true := by
  refine List.all_eq_true.mpr fun c hc => ?_
  have h := List.all_eq_true.mp h1 c hc
  rcases Bool.eq_false_or_eq_true (isCode c) with hi | hi
  · exact h2 c (List.mem_filter.mpr ⟨hc, hi⟩)
  · simpa [hi] using h
set_option maxRecDepth 65536 in
theorem w_c0 : (Jvm.Cond.code x code maxLocals ret).before args0 about1 = true := code_word (m := ⟨1, 1⟩) (meth := k1m1) (c := k1c1) (by decide +kernel) rfl rfl rfl (by decide +kernel)
set_option maxRecDepth 65536 in
theorem w_c1 : (Jvm.Cond.code ({ cls := "com/example/pinakas/pinakas/ConstraintAttributesEqualsPinLaw", name := "make", desc := "(I)Lcom/example/pinakas/pinakas/ConstraintAttributes;" } : Jvm.MethodName) method_3_code (1 : Nat) (Option.some (Jvm.ClassFile.FieldType.object "com/example/pinakas/pinakas/ConstraintAttributes"))).before args0 about1 = true := code_word (m := ⟨1, 2⟩) (meth := k1m2) (c := k1c2) (by decide +kernel) rfl rfl rfl (by decide +kernel)
set_option maxRecDepth 65536 in
theorem w_c2 : (Jvm.Cond.code ({ cls := "com/example/pinakas/pinakas/ConstraintAttributes", name := "<init>", desc := "(ZZZZ)V" } : Jvm.MethodName) prog_63_method_1_code (5 : Nat) (Option.none : Option Jvm.ClassFile.FieldType)).before args0 about1 = true := code_word (m := ⟨2, 0⟩) (meth := k2m0) (c := k2c0) (by decide +kernel) rfl rfl rfl (by decide +kernel)
set_option maxRecDepth 65536 in
theorem w_c3 : (Jvm.Cond.code ({ cls := "java/lang/Object", name := "<init>", desc := "()V" } : Jvm.MethodName) object_method_1_code (1 : Nat) (Option.none : Option Jvm.ClassFile.FieldType)).before args0 about1 = true := code_word (m := ⟨0, 0⟩) (meth := k0m0) (c := k0c0) (by decide +kernel) rfl rfl rfl (by decide +kernel)
set_option maxRecDepth 65536 in
theorem w_c4 : (Jvm.Cond.code ({ cls := "java/lang/Integer", name := "valueOf", desc := "(I)Ljava/lang/Integer;" } : Jvm.MethodName) jdk_33_method_22_code (1 : Nat) (Option.some (Jvm.ClassFile.FieldType.object "java/lang/Integer"))).before args0 about1 = true := code_word (m := ⟨8, 0⟩) (meth := k8m0) (c := k8c0) (by decide +kernel) rfl rfl rfl (by decide +kernel)
set_option maxRecDepth 65536 in
theorem w_c5 : (Jvm.Cond.code ({ cls := "com/example/pinakas/pinakas/ConstraintAttributes", name := "equals", desc := "(Ljava/lang/Object;)Z" } : Jvm.MethodName) prog_63_method_10_code (3 : Nat) (Option.some Jvm.ClassFile.FieldType.boolean)).before args0 about1 = true := code_word (m := ⟨2, 1⟩) (meth := k2m1) (c := k2c1) (by decide +kernel) rfl rfl rfl (by decide +kernel)
set_option maxRecDepth 65536 in
theorem w_c6 : (Jvm.Cond.code ({ cls := "java/lang/Integer", name := "<init>", desc := "(I)V" } : Jvm.MethodName) jdk_33_method_23_code (2 : Nat) (Option.none : Option Jvm.ClassFile.FieldType)).before args0 about1 = true := code_word (m := ⟨8, 1⟩) (meth := k8m1) (c := k8c1) (by decide +kernel) rfl rfl rfl (by decide +kernel)
set_option maxRecDepth 65536 in
theorem w_c7 : (Jvm.Cond.code ({ cls := "java/lang/Number", name := "<init>", desc := "()V" } : Jvm.MethodName) jdk_18_method_1_code (1 : Nat) (Option.none : Option Jvm.ClassFile.FieldType)).before args0 about1 = true := code_word (m := ⟨4, 0⟩) (meth := k4m0) (c := k4c0) (by decide +kernel) rfl rfl rfl (by decide +kernel)
def codes1 : List Jvm.Cond := [Jvm.Cond.code x code maxLocals ret, Jvm.Cond.code ({ cls := "com/example/pinakas/pinakas/ConstraintAttributesEqualsPinLaw", name := "make", desc := "(I)Lcom/example/pinakas/pinakas/ConstraintAttributes;" } : Jvm.MethodName) method_3_code (1 : Nat) (Option.some (Jvm.ClassFile.FieldType.object "com/example/pinakas/pinakas/ConstraintAttributes")), Jvm.Cond.code ({ cls := "com/example/pinakas/pinakas/ConstraintAttributes", name := "<init>", desc := "(ZZZZ)V" } : Jvm.MethodName) prog_63_method_1_code (5 : Nat) (Option.none : Option Jvm.ClassFile.FieldType), Jvm.Cond.code ({ cls := "java/lang/Object", name := "<init>", desc := "()V" } : Jvm.MethodName) object_method_1_code (1 : Nat) (Option.none : Option Jvm.ClassFile.FieldType), Jvm.Cond.code ({ cls := "java/lang/Integer", name := "valueOf", desc := "(I)Ljava/lang/Integer;" } : Jvm.MethodName) jdk_33_method_22_code (1 : Nat) (Option.some (Jvm.ClassFile.FieldType.object "java/lang/Integer")), Jvm.Cond.code ({ cls := "com/example/pinakas/pinakas/ConstraintAttributes", name := "equals", desc := "(Ljava/lang/Object;)Z" } : Jvm.MethodName) prog_63_method_10_code (3 : Nat) (Option.some Jvm.ClassFile.FieldType.boolean), Jvm.Cond.code ({ cls := "java/lang/Integer", name := "<init>", desc := "(I)V" } : Jvm.MethodName) jdk_33_method_23_code (2 : Nat) (Option.none : Option Jvm.ClassFile.FieldType), Jvm.Cond.code ({ cls := "java/lang/Number", name := "<init>", desc := "()V" } : Jvm.MethodName) jdk_18_method_1_code (1 : Nat) (Option.none : Option Jvm.ClassFile.FieldType)]
set_option maxRecDepth 65536 in
theorem codes_eq : words1.filter isCode = codes1 := rfl
theorem w_codes : ∀ c ∈ words1.filter isCode, c.before args0 about1 = true := by
  rw [codes_eq]
  intro c hc
  simp only [codes1, List.mem_cons, List.not_mem_nil, or_false] at hc
  rcases hc with rfl | rfl | rfl | rfl | rfl | rfl | rfl | rfl
  · exact w_c0
  · exact w_c1
  · exact w_c2
  · exact w_c3
  · exact w_c4
  · exact w_c5
  · exact w_c6
  · exact w_c7
set_option maxRecDepth 65536 in
theorem w_t1 : (words1.take 24).all (fun c => isCode c || c.before args0 about1) = true := by decide +kernel
set_option maxRecDepth 65536 in
theorem w_t2 : ((words1.drop 24).take 24).all (fun c => isCode c || c.before args0 about1) = true := by decide +kernel
set_option maxRecDepth 65536 in
theorem w_t3 : ((words1.drop 24).drop 24).all (fun c => isCode c || c.before args0 about1) = true := by decide +kernel
theorem w_tables : (allAtoms (Jvm.Cond.code x code maxLocals ret :: tables_1)).before args0 about1 = true := by
  rw [allAtoms_all]
  show words1.all (fun c => c.before args0 about1) = true
  refine all_split ?_ w_codes
  rw [← List.take_append_drop 24 words1, List.all_append, w_t1, ← List.take_append_drop 24 (words1.drop 24), List.all_append, w_t2, w_t3]
  rfl
set_option maxRecDepth 65536 in
theorem w_rest : rest_1_c.before args0 about1 = true := by decide +kernel
set_option maxRecDepth 65536 in
theorem w_case : (Jvm.Cond.and given_1 narrow_1).before args0 about1 = true := by decide +kernel
theorem w_applies : (headSpec (Jvm.Cond.code x code maxLocals ret :: tables_1) room_1).applies x e0.platform about1 = true :=
  (Spec.applies_iff w_frames).mpr ⟨w_running, w_runnable, w_alone, w_named, w_hears, w_ripe, w_room, w_tables⟩
theorem atStart : AtStart classFile x code maxLocals ret World_1 tables_1 room_1 Calls_1 rest_1 Pre_1 launch0 p0 e0 about1 theMethod args0 below0 :=
  ⟨lists_1, trivial, launch0.admits_env _ _ _, launch0.least_env, fairChoices_fair.cas, fairChoices_fair.clock, w_frames, w_args, w_heap, w_applies, trivial, w_rest, w_case⟩
end start1
theorem witness_1 : WitnessClaimed_1 := ⟨start1.p0, start1.e0, start1.about1, start1.theMethod, start1.args0, start1.below0, start1.atStart⟩
end Jvm.Pilot.@@N@@
