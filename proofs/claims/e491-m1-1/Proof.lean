import JvmDerived
import JvmDerived.Pilot.@@N@@Statement
import JvmDerived.Pilot.@@N@@Code
set_option linter.unusedVariables false
set_option linter.unusedSimpArgs false
namespace Jvm.OwnGo
open Sem ClassFile Op Lib Jvm.Stand Jvm.Free Jvm.LawKit Jvm.RoadKit
/-- from the state T with the frame g on top the run comes to the body's end, what is left there meets Q, and the end is framed as E says -/
def Go (p : Program) (e : Env) (below : List Frame) (E : Outcome → State → List Loc → Prop) (Q : Option Value → Heap → List Loc → Prop) (T : State) (g : JFrame) : Prop :=
  ∃ s₂ o, Steps p.tables e below (T.setTop g) s₂ ∧ s₂.status = .running ∧ Ended s₂ below o ∧ ∃ v L, o = .returned v ∧ Q v s₂.heap L ∧ E o s₂ L
abbrev En (s : State) (kc ks : Nat) : Outcome → State → List Loc → Prop := fun o t L => FrameEnd s o t L kc ks
/-- the wide end: the run may have interned its literals -/
abbrev EnW (s : State) (kc ks : Nat) : Outcome → State → List Loc → Prop := fun o t L => ReturnedEndW s o t L kc ks
/-- what a body promises, at one heap and one row of arguments -/
def Ctr (l : Launch) (Z : State) (y : MethodName) (bytes : ByteArray) (maxL : Nat) (ret : Option FieldType) (rm : Room) (as : Array Value) (h : Heap) (Q : Option Value → Heap → List Loc → Prop) : Prop :=
  ∀ ws : List Jvm.Cond, MetFree l y (head1 (Jvm.Cond.code y bytes maxL ret :: ws) rm) (fun a U => a = as ∧ Z.Warmed39 U.vm ∧ U.heap = h) (fun _ _ _ _ _ => True) (fun _ U o U' => ∃ v L, o = .returned v ∧ Q v U'.heap L ∧ FrameEnd U o U' L rm.cells rm.slots)
/-- the same of a body that may intern its literals -/
def CtrW (l : Launch) (Z : State) (y : MethodName) (bytes : ByteArray) (maxL : Nat) (ret : Option FieldType) (rm : Room) (as : Array Value) (h : Heap) (Q : Option Value → Heap → List Loc → Prop) : Prop :=
  ∀ ws : List Jvm.Cond, MetFree l y (head1 (Jvm.Cond.code y bytes maxL ret :: ws) rm) (fun a U => a = as ∧ Z.Warmed39 U.vm ∧ U.heap = h) (fun _ _ _ _ _ => True) (fun _ U o U' => ∃ v L, o = .returned v ∧ Q v U'.heap L ∧ ReturnedEndW U o U' L rm.cells rm.slots)
/-- how a walk that stands here may leave -/
def Lv (e : Env) (m : MethodId) (meth : Method) (below : List Frame) (E : Outcome → State → List Loc → Prop) (T : State) (locs : List Loc) : Prop :=
  ∀ v : Option Value, (meth.sig.returnType = none → v = none) → ∃ fs, (∀ (f : JFrame) (acts : List Action), f.method = m → f.locked = none → f.entered = [] → (doReturn e (T.setTop f) acts v).1 = T.setFrames fs) ∧ (T.setFrames fs).status = .running ∧ Ended (T.setFrames fs) below (.returned v) ∧ E (.returned v) (T.setFrames fs) locs
abbrev us (x y : Int32) : Int32 := (x.toUInt32 >>> (y &&& 31).toUInt32).toInt32
abbrev usL (x : Int64) (y : Int32) : Int64 := (x.toUInt64 >>> (y &&& 0x3f).toInt64.toUInt64).toInt64
section G
variable {p : Program} {l : Launch} {e : Env} {R : Room} {s : State} {m : MethodId} {args : Array Value} {below : List Frame} {meth : Method} {c : Code} {T T' : State} {locs : List Loc} {cells slots : Nat} {E : Outcome → State → List Loc → Prop} {Q : Option Value → Heap → List Loc → Prop} {kc ks : Nat} {g g' : JFrame} {Z : State} {a0 : Array Value} {h : Heap}
/-- another state that stands as this one does -/
abbrev Same (X : Stand p l e R s m args below meth c T locs cells slots) (T' : State) : Prop := Stand p l e R s m args below meth c T' locs cells slots
theorem Go.by (st : ∀ t, Steps p.tables e below (T'.setTop g') t → Steps p.tables e below (T.setTop g) t) (k : Go p e below E Q T' g') : Go p e below E Q T g := by
  obtain ⟨s₂, o, h1, h2⟩ := k
  exact ⟨s₂, o, st _ h1, h2⟩
theorem Lv.narrow (X : Stand p l e R s m args below meth c T locs cells slots) (hlk : meth.locks = false) (hc : cells ≤ kc) (hs : slots ≤ ks) : Lv e m meth below (En s kc ks) T locs := by
  intro v hv
  obtain ⟨fs, hr, hrun, hended, hW, hsame⟩ := X.leave (v := v) hv hlk
  exact ⟨fs, hr, hrun, hended, ⟨_, rfl⟩, hW, hsame.mono hc hs⟩
theorem Lv.wide {vm0 : Vm} {k0 : Nat} (X : Stand p l e R (s.setVm vm0) m args below meth c T locs cells slots) (hlk : meth.locks = false) (hS : s.Since vm0 k0) (hk : k0 ≤ T.heap.size) (hc : cells ≤ kc) (hs : slots ≤ ks) : Lv e m meth below (EnW s kc ks) T locs := by
  intro v hv
  obtain ⟨fs, hr, hrun, hended, h1, h2, h3, hsame⟩ := X.leaveW hS hk (v := v) hv hlk
  exact ⟨fs, hr, hrun, hended, h1, h2, h3, hsame.mono hc hs⟩
theorem Go.out (lv : Lv e m meth below E T locs) {v : Option Value} (hv : meth.sig.returnType = none → v = none) (hQ : Q v T.heap locs)
    (st : ∀ fs, (∀ (f : JFrame) (acts : List Action), f.method = m → f.locked = none → f.entered = [] → (doReturn e (T.setTop f) acts v).1 = T.setFrames fs) → Steps p.tables e below (T.setTop g) (T.setFrames fs)) : Go p e below E Q T g := by
  obtain ⟨fs, hr, hrun, hended, hE⟩ := lv v hv
  exact ⟨_, _, st fs hr, hrun, hended, v, locs, rfl, hQ, hE⟩
theorem Go.outV (X : Stand p l e R s m args below meth c T locs cells slots) (hx : p.tables.exec = Jvm.exec) {t : FieldType} {w : Value} {i : Instr} {pc : Nat} {Ls : Array Slot} {rest : List Value} (hret : meth.sig.returnType = some t) (lv : Lv e m meth below E T locs)
    (hn : narrow t w = w)
    (hi : (i = .ireturn ∧ (t = .int ∨ t = .boolean ∨ t = .byte ∨ t = .char ∨ t = .short) ∧ ∃ z, w = .int z) ∨ (i = .lreturn ∧ t = .long ∧ ∃ z, w = .long z) ∨ (i = .dreturn ∧ t = .double ∧ ∃ z, w = .double z) ∨ (i = .freturn ∧ t = .float ∧ ∃ z, w = .float z) ∨ (i = .areturn ∧ t.isReference = true ∧ w.isRef = true))
    (hd : decode c.code pc = .ok (i, 1)) (hQ : Q (some w) T.heap locs) : Go p e below E Q T (mkF m pc Ls (w :: rest)) :=
  Go.out lv (fun h => by rw [hret] at h; cases h) hQ (fun fs hr => retOut X hx hret hn hi hd hr)
theorem Go.outI (X : Stand p l e R s m args below meth c T locs cells slots) (hx : p.tables.exec = Jvm.exec) {z : Int32} {pc : Nat} {Ls : Array Slot} {rest : List Value} (hret : meth.sig.returnType = some .int) (lv : Lv e m meth below E T locs)
    (hd : decode c.code pc = .ok (.ireturn, 1)) (hQ : Q (some (.int z)) T.heap locs) : Go p e below E Q T (mkF m pc Ls (.int z :: rest)) :=
  Go.outV X hx hret lv rfl (Or.inl ⟨rfl, Or.inl rfl, z, rfl⟩) hd hQ
theorem Go.outZ (X : Stand p l e R s m args below meth c T locs cells slots) (hx : p.tables.exec = Jvm.exec) {z : Int32} {pc : Nat} {Ls : Array Slot} {rest : List Value} (hret : meth.sig.returnType = some .boolean) (lv : Lv e m meth below E T locs)
    (hd : decode c.code pc = .ok (.ireturn, 1)) (hz : z = 0 ∨ z = 1) (hQ : Q (some (.int z)) T.heap locs) : Go p e below E Q T (mkF m pc Ls (.int z :: rest)) :=
  Go.outV X hx hret lv (by rcases hz with rfl | rfl <;> rfl) (Or.inl ⟨rfl, Or.inr (Or.inl rfl), z, rfl⟩) hd hQ
theorem Go.outJ (X : Stand p l e R s m args below meth c T locs cells slots) (hx : p.tables.exec = Jvm.exec) {z : Int64} {pc : Nat} {Ls : Array Slot} {rest : List Value} (hret : meth.sig.returnType = some .long) (lv : Lv e m meth below E T locs)
    (hd : decode c.code pc = .ok (.lreturn, 1)) (hQ : Q (some (.long z)) T.heap locs) : Go p e below E Q T (mkF m pc Ls (.long z :: rest)) :=
  Go.outV X hx hret lv rfl (Or.inr (Or.inl ⟨rfl, rfl, z, rfl⟩)) hd hQ
theorem nar_ref {t : FieldType} {w : Value} (ht : t.isReference = true) : narrow t w = w := by cases t <;> first | rfl | (simp [FieldType.isReference] at ht)
theorem Go.outA (X : Stand p l e R s m args below meth c T locs cells slots) (hx : p.tables.exec = Jvm.exec) {w : Value} {t : FieldType} {pc : Nat} {Ls : Array Slot} {rest : List Value} (hret : meth.sig.returnType = some t) (lv : Lv e m meth below E T locs) (ht : t.isReference = true) (hw : w.isRef = true)
    (hd : decode c.code pc = .ok (.areturn, 1)) (hQ : Q (some w) T.heap locs) : Go p e below E Q T (mkF m pc Ls (w :: rest)) :=
  Go.outV X hx hret lv (nar_ref ht) (Or.inr (Or.inr (Or.inr (Or.inr ⟨rfl, ht, hw⟩)))) hd hQ
theorem Go.outN (X : Stand p l e R s m args below meth c T locs cells slots) (hx : p.tables.exec = Jvm.exec) {pc : Nat} {Ls : Array Slot} (hret : meth.sig.returnType = none) (lv : Lv e m meth below E T locs)
    (hd : decode c.code pc = .ok (.return_, 1)) (hQ : Q none T.heap locs) : Go p e below E Q T (mkF m pc Ls []) :=
  Go.out lv (fun _ => rfl) hQ (fun fs hr => X.returnOut hx hret hd hr)
theorem Ctr.of {y : MethodName} {bytes : ByteArray} {maxL : Nat} {ret : Option FieldType} {rm : Room} {as : Array Value} {Ls : Array Slot} (hpn : plainFor y = true) (hef : ∀ m, entryFrame m as maxL = mkF m 0 Ls [])
    (body : ∀ (p : Program) (e : Env) (s : State) (m : MethodId) (below : List Frame) (meth : Method) (c : Code) (T0 : State), p.tables.exec = Jvm.exec → c.code = bytes → c.maxLocals = maxL → meth.sig.returnType = ret → meth.locks = false → meth.name = y.name → Z.Warmed39 s.vm → s.vm.findClass y.cls = some m.cls → T0.heap = h → Stand p l e rm s m as below meth c T0 [] 0 0 → Go p e below (En s rm.cells rm.slots) Q T0 (mkF m 0 Ls [])) :
    Ctr l Z y bytes maxL ret rm as h Q := by
  intro ws
  refine MetFree.of_bodySF hpn hisR ?_
  intro p e s m args below meth c s₁ Bd hml0 hP hK
  obtain ⟨ha, hZ, hh⟩ := hP
  subst ha
  have X0 : Stand p l e rm s m args below meth c s₁ [] 0 0 := Stand.of_body Bd
  obtain ⟨s₂, o, h1, h2⟩ := body p e s m below meth c s₁ Bd.exec Bd.bytes hml0 Bd.returns (BodyLoose.notSynchronized Bd) (name_of_methodNamed Bd.named Bd.method).1 hZ (findClass_of_methodNamed Bd.named) (by rw [← hh, Bd.state]; rfl) X0
  exact ⟨s₂, o, castTop (hef m) h1, h2⟩
theorem CtrW.of {y : MethodName} {bytes : ByteArray} {maxL : Nat} {ret : Option FieldType} {rm : Room} {as : Array Value} {Ls : Array Slot} (hpn : plainFor y = true) (hef : ∀ m, entryFrame m as maxL = mkF m 0 Ls [])
    (body : ∀ (p : Program) (e : Env) (s : State) (vm0 : Vm) (m : MethodId) (below : List Frame) (meth : Method) (c : Code) (T0 : State), p.tables.exec = Jvm.exec → c.code = bytes → c.maxLocals = maxL → meth.sig.returnType = ret → meth.locks = false → meth.name = y.name → s.Since vm0 0 → Z.Warmed39 (s.setVm vm0).vm → (s.setVm vm0).vm.findClass y.cls = some m.cls → T0.heap = h → Stand p l e rm (s.setVm vm0) m as below meth c T0 [] 0 0 → Go p e below (EnW s rm.cells rm.slots) Q T0 (mkF m 0 Ls [])) :
    CtrW l Z y bytes maxL ret rm as h Q := by
  intro ws
  refine MetFree.of_bodySF hpn hisR ?_
  intro p e s m args below meth c s₁ Bd hml0 hP hK
  obtain ⟨ha, hZ, hh⟩ := hP
  subst ha
  have X0 : Stand p l e rm s m args below meth c s₁ [] 0 0 := Stand.of_body Bd
  obtain ⟨s₂, o, h1, h2⟩ := body p e s s.vm m below meth c s₁ Bd.exec Bd.bytes hml0 Bd.returns (BodyLoose.notSynchronized Bd) (name_of_methodNamed Bd.named Bd.method).1 (State.WarmedH.since (State.WarmedH.refl s) 0) hZ (findClass_of_methodNamed Bd.named) (by rw [← hh, Bd.state]; rfl) X0
  exact ⟨s₂, o, castTop (hef m) h1, h2⟩
/-- a contract may promise less -/
theorem Ctr.weaken {y : MethodName} {bytes : ByteArray} {maxL : Nat} {ret : Option FieldType} {rm : Room} {as : Array Value} {Q' : Option Value → Heap → List Loc → Prop} (K : Ctr l Z y bytes maxL ret rm as h Q) (q : ∀ v h' L, Q v h' L → Q' v h' L) : Ctr l Z y bytes maxL ret rm as h Q' := by
  intro ws p e ha hc hk s m args below hf happ hP hK
  obtain ⟨n, o, h1, h2, h3, v, L, h4, h5, h6⟩ := K ws p e ha hc hk s m args below hf happ hP hK
  exact ⟨n, o, h1, h2, h3, v, L, h4, q _ _ _ h5, h6⟩
theorem Go.ldc {vm0 : Vm} {k0 : Nat} (X : Stand p l e R (s.setVm vm0) m args below meth c T locs cells slots) (hx : p.tables.exec = Jvm.exec) (hZ : Z.Warmed39 (s.setVm vm0).vm) {own text : String} {index : Nat} (hown : (s.setVm vm0).vm.findClass own = some m.cls) (w : (Cond.stringLink own index text).before a0 Z = true) (wS : ∀ a ∈ Bundle.stringAtoms, a.before a0 Z = true)
    (eT : T.heap = h) (hS : s.Since vm0 k0) (hk : k0 ≤ h.size) {g : JFrame} (hg : g.method = m) (hd : decode c.code g.pc = .ok (.ldc index, 2)) {n : Nat} (hn : 4 * text.toList.length ≤ n) (hbig : n ≤ 536870912) (hc : cells + 2 ≤ R.cells) (hl : slots + (n + 4) ≤ R.slots)
    (k : ∀ (a : Addr) (T' : State) (h' : Heap) (k1 : Nat), Stand p l e R (s.setVm T'.vm) m args below meth c T' locs (cells + 2) (slots + (n + 4)) → T'.heap = h' → Ext h h' → s.Since T'.vm k1 → k1 ≤ h'.size → Z.Warmed39 (s.setVm T'.vm).vm → (s.setVm T'.vm).vm.findClass own = some m.cls → Go p e below E Q T' { g with pc := g.pc + 2, stack := .ref a :: g.stack }) : Go p e below E Q T g := by
  obtain ⟨a, T', h', k1, X', e', E', hS', hk', hZ', hown', st⟩ := ldcS X hx hZ hown w wS eT hS hk hg hd hn hbig hc hl
  exact Go.by st (k a T' h' k1 X' e' E' hS' hk' hZ' hown')
theorem Go.callS (X : Stand p l e R s m args below meth c T locs cells slots) (hx : p.tables.exec = Jvm.exec) (hZ : Z.Warmed39 s.vm) {own : String} {index : Nat} {y : MethodName} {bytes : ByteArray} {maxL : Nat} {ret : Option FieldType}
    (hown : s.vm.findClass own = some m.cls) (w1 : (Cond.methodLink own index y).before a0 Z = true) (w2 : (Cond.static y).before a0 Z = true) (w3 : (Cond.initialized y.cls).before a0 Z = true)
    (w4 : (Cond.code y bytes maxL ret).before a0 Z = true) (hy : y.cls ≠ "java/lang/invoke/MethodHandle" ∧ y.cls ≠ "java/lang/invoke/VarHandle")
    {W : Nat} {rm : Room} {argsL rest : List Value} {Qc : Option Value → Heap → List Loc → Prop} (hM : Ctr l Z y bytes maxL ret rm argsL.toArray h Qc) (hf : rm.frames + 1 ≤ R.frames) (hl : W + (maxL + 11) + rm.locals ≤ R.locals) (hc : cells + rm.cells ≤ R.cells) (hs : slots + rm.slots ≤ R.slots)
    {g : JFrame} (hg : g.method = m) (hsize : g.locals.size = c.maxLocals) (hlen : ∀ sig, parseMethodDescriptor y.desc = some sig → argsL.length = sig.parameters.length)
    (hstack : g.stack = argsL.reverse ++ rest) (hW : 2 * g.monitorRoom + (rest.map fun v => v.category).sum ≤ W) (hdg : decode c.code g.pc = .ok (.invokestatic index, 3)) (eT : T.heap = h)
    (k : ∀ T' L v, Stand p l e R s m args below meth c T' (locs ++ L) (cells + rm.cells) (slots + rm.slots) → Qc v T'.heap L → Go p e below E Q T' { g with pc := g.pc + 3, stack := v.toList ++ rest }) : Go p e below E Q T g := by
  obtain ⟨v, _, ⟨T3, L3, k3, n3⟩, -, X3, ⟨Lc3, hQ3, l3, y3, z3⟩, st3⟩ := Jvm.LawKit.callS X hx (y := y) hown (mvT hZ w1) (mvT hZ w2) (mvT hZ w3) (mvT hZ w4) hy (backOf (W := W) (hM []) hZ w4 w3 hf hl) (g := g) hg hsize (argsL := argsL) (rest := rest) hlen hstack hW hdg (fun _ _ => ⟨rfl, eT, hc, hs⟩)
  dsimp only [Pt.U, Pt.locs, Pt.cells, Pt.slots] at X3 l3 y3 z3 st3 hQ3
  subst l3 y3 z3
  exact Go.by st3 (k _ _ _ X3 hQ3)
theorem Go.callI (X : Stand p l e R s m args below meth c T locs cells slots) (hx : p.tables.exec = Jvm.exec) (hZ : Z.Warmed39 s.vm) {own : String} {index : Nat} {y : MethodName} {bytes : ByteArray} {maxL : Nat} (hy1 : y.name = "<init>")
    (hown : s.vm.findClass own = some m.cls) (w1 : (Cond.methodLink own index y).before a0 Z = true) (w2 : (Cond.instanceMethod y).before a0 Z = true) (w3 : (Cond.initialized y.cls).before a0 Z = true)
    (w4 : (Cond.code y bytes maxL none).before a0 Z = true) (hy : y.cls ≠ "java/lang/invoke/MethodHandle" ∧ y.cls ≠ "java/lang/invoke/VarHandle")
    {W : Nat} {rm : Room} {a : Addr} {argsL rest : List Value} {Qc : Option Value → Heap → List Loc → Prop} (hM : Ctr l Z y bytes maxL none rm (.ref a :: argsL).toArray h Qc) (hf : rm.frames + 1 ≤ R.frames) (hl : W + (maxL + 11) + rm.locals ≤ R.locals) (hc : cells + rm.cells ≤ R.cells) (hs : slots + rm.slots ≤ R.slots)
    {g : JFrame} (hg : g.method = m) (hsize : g.locals.size = c.maxLocals) (hlen : ∀ sig, parseMethodDescriptor y.desc = some sig → argsL.length = sig.parameters.length)
    (hstack : g.stack = argsL.reverse ++ .ref a :: rest) (hW : 2 * g.monitorRoom + (rest.map fun v => v.category).sum ≤ W) (hdg : decode c.code g.pc = .ok (.invokespecial index, 3)) (eT : T.heap = h)
    (k : ∀ T' L v, Stand p l e R s m args below meth c T' (locs ++ L) (cells + rm.cells) (slots + rm.slots) → Qc v T'.heap L → Go p e below E Q T' { g with pc := g.pc + 3, stack := v.toList ++ rest }) : Go p e below E Q T g := by
  obtain ⟨v, _, ⟨T3, L3, k3, n3⟩, -, X3, ⟨Lc3, hQ3, l3, y3, z3⟩, st3⟩ := X.specialBack hx (y := y) hy1 hown (mvT hZ w1) (mvT hZ w2) (mvT hZ w4) hy (backOf (W := W) (hM []) hZ w4 w3 hf hl) (g := g) hg hsize (Steps.refl _) (a := a) (argsL := argsL) (rest := rest) hlen hstack hW hdg (fun _ _ => ⟨rfl, eT, hc, hs⟩)
  dsimp only [Pt.U, Pt.locs, Pt.cells, Pt.slots] at X3 l3 y3 z3 st3 hQ3
  subst l3 y3 z3
  exact Go.by (fun _ q => st3.trans q) (k _ _ _ X3 hQ3)
/-- invokevirtual, the class that declares the method is a class (hnf) -/
theorem Go.callV (X : Stand p l e R s m args below meth c T locs cells slots) (hx : p.tables.exec = Jvm.exec) (hZ : Z.Warmed39 s.vm) {own C : String} {index : Nat} {y z : MethodName} {bytes : ByteArray} {maxL : Nat} {ret : Option FieldType}
    (hown : s.vm.findClass own = some m.cls) (w1 : (Cond.methodLink own index y).before a0 Z = true) (w2 : (Cond.declares y).before a0 Z = true) (hnf : NotFace s y) (w5 : (Cond.selects C y z).before a0 Z = true) (w6 : (Cond.instanceMethod z).before a0 Z = true) (w3 : (Cond.initialized z.cls).before a0 Z = true)
    (w4 : (Cond.code z bytes maxL ret).before a0 Z = true) (hy : y.cls ≠ "java/lang/invoke/MethodHandle" ∧ y.cls ≠ "java/lang/invoke/VarHandle")
    {W : Nat} {rm : Room} {a : Addr} {argsL rest : List Value} {Qc : Option Value → Heap → List Loc → Prop} (Ex : Exa Z h a C) (hM : Ctr l Z z bytes maxL ret rm (.ref a :: argsL).toArray h Qc) (hf : rm.frames + 1 ≤ R.frames) (hl : W + (maxL + 11) + rm.locals ≤ R.locals) (hc : cells + rm.cells ≤ R.cells) (hs : slots + rm.slots ≤ R.slots)
    {g : JFrame} (hg : g.method = m) (hsize : g.locals.size = c.maxLocals) (hlen : ∀ sig, parseMethodDescriptor y.desc = some sig → argsL.length = sig.parameters.length)
    (hstack : g.stack = argsL.reverse ++ .ref a :: rest) (hW : 2 * g.monitorRoom + (rest.map fun v => v.category).sum ≤ W) (hdg : decode c.code g.pc = .ok (.invokevirtual index, 3)) (eT : T.heap = h)
    (k : ∀ T' L v, Stand p l e R s m args below meth c T' (locs ++ L) (cells + rm.cells) (slots + rm.slots) → Qc v T'.heap L → Go p e below E Q T' { g with pc := g.pc + 3, stack := v.toList ++ rest }) : Go p e below E Q T g := by
  obtain ⟨cq, kq, qa, qb, qc⟩ := isOf hZ eT Ex
  obtain ⟨v, _, ⟨T3, L3, k3, n3⟩, -, X3, ⟨Lc3, hQ3, l3, y3, z3⟩, st3⟩ := X.virtualBack hx (y := y) (z := z) hown (mvT hZ w1) (mvT hZ w2) hnf (mvT hZ w5) (mvT hZ w6) hy (backOf (W := W) (hM []) hZ w4 w3 hf hl) qa qc (g := g) hg hsize (Steps.refl _) (argsL := argsL) (rest := rest) hlen hstack hW hdg (fun _ _ => ⟨rfl, eT, hc, hs⟩)
  dsimp only [Pt.U, Pt.locs, Pt.cells, Pt.slots] at X3 l3 y3 z3 st3 hQ3
  subst l3 y3 z3
  exact Go.by (fun _ q => st3.trans q) (k _ _ _ X3 hQ3)
/-- a private method, by invokevirtual -/
theorem Go.callP (X : Stand p l e R s m args below meth c T locs cells slots) (hx : p.tables.exec = Jvm.exec) (hZ : Z.Warmed39 s.vm) {own C : String} {index : Nat} {y : MethodName} {bytes : ByteArray} {maxL : Nat} {ret : Option FieldType}
    (hown : s.vm.findClass own = some m.cls) (w1 : (Cond.methodLink own index y).before a0 Z = true) (w2 : (Cond.instanceMethod y).before a0 Z = true) (w5 : (Cond.selects y.cls y y).before a0 Z = true) (w6 : (Cond.privateMethod y).before a0 Z = true) (w3 : (Cond.initialized y.cls).before a0 Z = true)
    (w4 : (Cond.code y bytes maxL ret).before a0 Z = true) (hy : y.cls ≠ "java/lang/invoke/MethodHandle" ∧ y.cls ≠ "java/lang/invoke/VarHandle")
    {W : Nat} {rm : Room} {a : Addr} {argsL rest : List Value} {Qc : Option Value → Heap → List Loc → Prop} (Ex : Exa Z h a C) (hM : Ctr l Z y bytes maxL ret rm (.ref a :: argsL).toArray h Qc) (hf : rm.frames + 1 ≤ R.frames) (hl : W + (maxL + 11) + rm.locals ≤ R.locals) (hc : cells + rm.cells ≤ R.cells) (hs : slots + rm.slots ≤ R.slots)
    {g : JFrame} (hg : g.method = m) (hsize : g.locals.size = c.maxLocals) (hlen : ∀ sig, parseMethodDescriptor y.desc = some sig → argsL.length = sig.parameters.length)
    (hstack : g.stack = argsL.reverse ++ .ref a :: rest) (hW : 2 * g.monitorRoom + (rest.map fun v => v.category).sum ≤ W) (hdg : decode c.code g.pc = .ok (.invokevirtual index, 3)) (eT : T.heap = h)
    (k : ∀ T' L v, Stand p l e R s m args below meth c T' (locs ++ L) (cells + rm.cells) (slots + rm.slots) → Qc v T'.heap L → Go p e below E Q T' { g with pc := g.pc + 3, stack := v.toList ++ rest }) : Go p e below E Q T g := by
  obtain ⟨cq, q1, q2⟩ := Ex.cell
  obtain ⟨v, _, ⟨T3, L3, k3, n3⟩, -, X3, ⟨Lc3, hQ3, l3, y3, z3⟩, st3⟩ := X.privateBack hx (y := y) hown (mvT hZ w1) (mvT hZ w2) (mvT hZ w5) (Cond.privateMethod_at (mvP hZ w6 (args := #[]))) (mvT hZ w4) hy (backOf (W := W) (hM []) hZ w4 w3 hf hl) (g := g) hg hsize (Steps.refl _) (a := a) (by rw [eT]; exact q1) q2 (argsL := argsL) (rest := rest) hlen hstack hW hdg (fun _ _ => ⟨rfl, eT, hc, hs⟩)
  dsimp only [Pt.U, Pt.locs, Pt.cells, Pt.slots] at X3 l3 y3 z3 st3 hQ3
  subst l3 y3 z3
  exact Go.by (fun _ q => st3.trans q) (k _ _ _ X3 hQ3)
/-- invokeinterface -/
theorem Go.callF (X : Stand p l e R s m args below meth c T locs cells slots) (hx : p.tables.exec = Jvm.exec) (hZ : Z.Warmed39 s.vm) {own C : String} {index count : Nat} {y z : MethodName} {bytes : ByteArray} {maxL : Nat} {ret : Option FieldType}
    (hown : s.vm.findClass own = some m.cls) (w1 : (Cond.methodLink own index y).before a0 Z = true) (w2 : (Cond.declares y).before a0 Z = true) (w7 : (Cond.interfaceMethod y.cls y.cls y.name y.desc).before args s = true) (w5 : (Cond.selects C y z).before a0 Z = true) (w6 : (Cond.instanceMethod z).before a0 Z = true) (w8 : (Cond.publicMethod z).before a0 Z = true) (w9 : (Cond.unhidden C y.name y.desc).before a0 Z = true) (w10 : (Cond.castable C y.cls).before a0 Z = true) (w3 : (Cond.initialized z.cls).before a0 Z = true)
    (w4 : (Cond.code z bytes maxL ret).before a0 Z = true) (hy : y.cls ≠ "java/lang/invoke/MethodHandle" ∧ y.cls ≠ "java/lang/invoke/VarHandle")
    {W : Nat} {rm : Room} {a : Addr} {argsL rest : List Value} {Qc : Option Value → Heap → List Loc → Prop} (Ex : Exa Z h a C) (hM : Ctr l Z z bytes maxL ret rm (.ref a :: argsL).toArray h Qc) (hf : rm.frames + 1 ≤ R.frames) (hl : W + (maxL + 11) + rm.locals ≤ R.locals) (hc : cells + rm.cells ≤ R.cells) (hs : slots + rm.slots ≤ R.slots)
    {g : JFrame} (hg : g.method = m) (hsize : g.locals.size = c.maxLocals) (hlen : ∀ sig, parseMethodDescriptor y.desc = some sig → argsL.length = sig.parameters.length)
    (hstack : g.stack = argsL.reverse ++ .ref a :: rest) (hW : 2 * g.monitorRoom + (rest.map fun v => v.category).sum ≤ W) (hdg : decode c.code g.pc = .ok (.invokeinterface index count, 5)) (eT : T.heap = h)
    (k : ∀ T' L v, Stand p l e R s m args below meth c T' (locs ++ L) (cells + rm.cells) (slots + rm.slots) → Qc v T'.heap L → Go p e below E Q T' { g with pc := g.pc + 5, stack := v.toList ++ rest }) : Go p e below E Q T g := by
  obtain ⟨cq, kq, qa, qb, qc⟩ := isOf hZ eT Ex
  obtain ⟨v, _, ⟨T3, L3, k3, n3⟩, -, X3, ⟨Lc3, hQ3, l3, y3, z3⟩, st3⟩ := X.interfaceBack hx (xi := y) (y := z) hown (mvT hZ w1) (mvT hZ w2) w7 (mvT hZ w5) (mvT hZ w6) (mvT hZ w8) (mvT hZ w9) (mvT hZ w10) hy (backOf (W := W) (hM []) hZ w4 w3 hf hl) qa qb qc (g := g) hg hsize (Steps.refl _) (argsL := argsL) (rest := rest) hlen hstack hW hdg (fun _ _ => ⟨rfl, eT, hc, hs⟩)
  dsimp only [Pt.U, Pt.locs, Pt.cells, Pt.slots] at X3 l3 y3 z3 st3 hQ3
  subst l3 y3 z3
  exact Go.by (fun _ q => st3.trans q) (k _ _ _ X3 hQ3)
/-- a callee that may intern: invokevirtual -/
theorem Go.callVW {vm0 : Vm} {k0 : Nat} (X : Stand p l e R (s.setVm vm0) m args below meth c T locs cells slots) (hx : p.tables.exec = Jvm.exec) (hS : s.Since vm0 k0) (hk : k0 ≤ h.size) (hZ : Z.Warmed39 (s.setVm vm0).vm) {own C : String} {index : Nat} {y z : MethodName} {bytes : ByteArray} {maxL : Nat} {ret : Option FieldType}
    (hown : (s.setVm vm0).vm.findClass own = some m.cls) (w1 : (Cond.methodLink own index y).before a0 Z = true) (w2 : (Cond.declares y).before a0 Z = true) (hnf : NotFace (s.setVm vm0) y) (w5 : (Cond.selects C y z).before a0 Z = true) (w6 : (Cond.instanceMethod z).before a0 Z = true) (w3 : (Cond.initialized z.cls).before a0 Z = true)
    (w4 : (Cond.code z bytes maxL ret).before a0 Z = true) (hy : y.cls ≠ "java/lang/invoke/MethodHandle" ∧ y.cls ≠ "java/lang/invoke/VarHandle")
    {W : Nat} {rm : Room} {a : Addr} {argsL rest : List Value} {Qc : Option Value → Heap → List Loc → Prop} (Ex : Exa Z h a C) (hM : CtrW l Z z bytes maxL ret rm (.ref a :: argsL).toArray h Qc) (hf : rm.frames + 1 ≤ R.frames) (hl : W + (maxL + 11) + rm.locals ≤ R.locals) (hc : cells + rm.cells ≤ R.cells) (hs : slots + rm.slots ≤ R.slots)
    {g : JFrame} (hg : g.method = m) (hsize : g.locals.size = c.maxLocals) (hlen : ∀ sig, parseMethodDescriptor y.desc = some sig → argsL.length = sig.parameters.length)
    (hstack : g.stack = argsL.reverse ++ .ref a :: rest) (hW : 2 * g.monitorRoom + (rest.map fun v => v.category).sum ≤ W) (hdg : decode c.code g.pc = .ok (.invokevirtual index, 3)) (eT : T.heap = h)
    (k : ∀ T' L v, Stand p l e R (s.setVm T'.vm) m args below meth c T' (locs ++ L) (cells + rm.cells) (slots + rm.slots) → s.Since T'.vm T'.heap.size → Z.Warmed39 (s.setVm T'.vm).vm → (s.setVm T'.vm).vm.findClass own = some m.cls → Qc v T'.heap L → Go p e below E Q T' { g with pc := g.pc + 3, stack := v.toList ++ rest }) : Go p e below E Q T g := by
  obtain ⟨cq, kq, qa, qb, qc⟩ := isOf hZ eT Ex
  obtain ⟨v, _, ⟨T3, L3, k3, n3⟩, -, X3, hS3, hgr, ⟨Lc3, hQ3, l3, y3, z3⟩, st3⟩ := X.virtualBackS hx (y := y) (z := z) hown (mvT hZ w1) (mvT hZ w2) hnf (mvT hZ w5) (mvT hZ w6) hy (backOfS (W := W) (hM []) hZ w4 w3 hf hl) qa qc (g := g) hg hsize (Steps.refl _) (argsL := argsL) (rest := rest) hlen hstack hW hdg (fun _ _ => ⟨rfl, eT, hc, hs⟩)
  dsimp only [Pt.U, Pt.locs, Pt.cells, Pt.slots] at X3 l3 y3 z3 st3 hQ3 hS3 hgr
  subst l3 y3 z3
  obtain ⟨X4, hS4, hZ4, hown4⟩ := rebS hS (by rw [eT]; exact hk) X3 hS3 hgr hZ hown
  exact Go.by (fun _ q => st3.trans q) (k _ _ _ X4 hS4 hZ4 hown4 hQ3)
/-- a callee that may intern: a constructor -/
theorem Go.callIW {vm0 : Vm} {k0 : Nat} (X : Stand p l e R (s.setVm vm0) m args below meth c T locs cells slots) (hx : p.tables.exec = Jvm.exec) (hS : s.Since vm0 k0) (hk : k0 ≤ h.size) (hZ : Z.Warmed39 (s.setVm vm0).vm) {own : String} {index : Nat} {y : MethodName} {bytes : ByteArray} {maxL : Nat} (hy1 : y.name = "<init>")
    (hown : (s.setVm vm0).vm.findClass own = some m.cls) (w1 : (Cond.methodLink own index y).before a0 Z = true) (w2 : (Cond.instanceMethod y).before a0 Z = true) (w3 : (Cond.initialized y.cls).before a0 Z = true)
    (w4 : (Cond.code y bytes maxL none).before a0 Z = true) (hy : y.cls ≠ "java/lang/invoke/MethodHandle" ∧ y.cls ≠ "java/lang/invoke/VarHandle")
    {W : Nat} {rm : Room} {a : Addr} {argsL rest : List Value} {Qc : Option Value → Heap → List Loc → Prop} (hM : CtrW l Z y bytes maxL none rm (.ref a :: argsL).toArray h Qc) (hf : rm.frames + 1 ≤ R.frames) (hl : W + (maxL + 11) + rm.locals ≤ R.locals) (hc : cells + rm.cells ≤ R.cells) (hs : slots + rm.slots ≤ R.slots)
    {g : JFrame} (hg : g.method = m) (hsize : g.locals.size = c.maxLocals) (hlen : ∀ sig, parseMethodDescriptor y.desc = some sig → argsL.length = sig.parameters.length)
    (hstack : g.stack = argsL.reverse ++ .ref a :: rest) (hW : 2 * g.monitorRoom + (rest.map fun v => v.category).sum ≤ W) (hdg : decode c.code g.pc = .ok (.invokespecial index, 3)) (eT : T.heap = h)
    (k : ∀ T' L v, Stand p l e R (s.setVm T'.vm) m args below meth c T' (locs ++ L) (cells + rm.cells) (slots + rm.slots) → s.Since T'.vm T'.heap.size → Z.Warmed39 (s.setVm T'.vm).vm → (s.setVm T'.vm).vm.findClass own = some m.cls → Qc v T'.heap L → Go p e below E Q T' { g with pc := g.pc + 3, stack := v.toList ++ rest }) : Go p e below E Q T g := by
  obtain ⟨v, _, ⟨T3, L3, k3, n3⟩, -, X3, hS3, hgr, ⟨Lc3, hQ3, l3, y3, z3⟩, st3⟩ := X.specialBackS hx (y := y) hy1 hown (mvT hZ w1) (mvT hZ w2) (mvT hZ w4) hy (backOfS (W := W) (hM []) hZ w4 w3 hf hl) (g := g) hg hsize (Steps.refl _) (a := a) (argsL := argsL) (rest := rest) hlen hstack hW hdg (fun _ _ => ⟨rfl, eT, hc, hs⟩)
  dsimp only [Pt.U, Pt.locs, Pt.cells, Pt.slots] at X3 l3 y3 z3 st3 hQ3 hS3 hgr
  subst l3 y3 z3
  obtain ⟨X4, hS4, hZ4, hown4⟩ := rebS hS (by rw [eT]; exact hk) X3 hS3 hgr hZ hown
  exact Go.by (fun _ q => st3.trans q) (k _ _ _ X4 hS4 hZ4 hown4 hQ3)
/-- a callee that may intern: a static method -/
theorem Go.callSW {vm0 : Vm} {k0 : Nat} (X : Stand p l e R (s.setVm vm0) m args below meth c T locs cells slots) (hx : p.tables.exec = Jvm.exec) (hS : s.Since vm0 k0) (hk : k0 ≤ h.size) (hZ : Z.Warmed39 (s.setVm vm0).vm) {own : String} {index : Nat} {y : MethodName} {bytes : ByteArray} {maxL : Nat} {ret : Option FieldType}
    (hown : (s.setVm vm0).vm.findClass own = some m.cls) (w1 : (Cond.methodLink own index y).before a0 Z = true) (w2 : (Cond.static y).before a0 Z = true) (w3 : (Cond.initialized y.cls).before a0 Z = true)
    (w4 : (Cond.code y bytes maxL ret).before a0 Z = true) (hy : y.cls ≠ "java/lang/invoke/MethodHandle" ∧ y.cls ≠ "java/lang/invoke/VarHandle")
    {W : Nat} {rm : Room} {argsL rest : List Value} {Qc : Option Value → Heap → List Loc → Prop} (hM : CtrW l Z y bytes maxL ret rm argsL.toArray h Qc) (hf : rm.frames + 1 ≤ R.frames) (hl : W + (maxL + 11) + rm.locals ≤ R.locals) (hc : cells + rm.cells ≤ R.cells) (hs : slots + rm.slots ≤ R.slots)
    {g : JFrame} (hg : g.method = m) (hsize : g.locals.size = c.maxLocals) (hlen : ∀ sig, parseMethodDescriptor y.desc = some sig → argsL.length = sig.parameters.length)
    (hstack : g.stack = argsL.reverse ++ rest) (hW : 2 * g.monitorRoom + (rest.map fun v => v.category).sum ≤ W) (hdg : decode c.code g.pc = .ok (.invokestatic index, 3)) (eT : T.heap = h)
    (k : ∀ T' L v, Stand p l e R (s.setVm T'.vm) m args below meth c T' (locs ++ L) (cells + rm.cells) (slots + rm.slots) → s.Since T'.vm T'.heap.size → Z.Warmed39 (s.setVm T'.vm).vm → (s.setVm T'.vm).vm.findClass own = some m.cls → Qc v T'.heap L → Go p e below E Q T' { g with pc := g.pc + 3, stack := v.toList ++ rest }) : Go p e below E Q T g := by
  obtain ⟨v, _, ⟨T3, L3, k3, n3⟩, -, X3, hS3, hgr, ⟨Lc3, hQ3, l3, y3, z3⟩, st3⟩ := Jvm.RoadKit.callSS X hx (y := y) hown (mvT hZ w1) (mvT hZ w2) (mvT hZ w3) (mvT hZ w4) hy (backOfS (W := W) (hM []) hZ w4 w3 hf hl) (g := g) hg hsize (argsL := argsL) (rest := rest) hlen hstack hW hdg (fun _ _ => ⟨rfl, eT, hc, hs⟩)
  dsimp only [Pt.U, Pt.locs, Pt.cells, Pt.slots] at X3 l3 y3 z3 st3 hQ3 hS3 hgr
  subst l3 y3 z3
  obtain ⟨X4, hS4, hZ4, hown4⟩ := rebS hS (by rw [eT]; exact hk) X3 hS3 hgr hZ hown
  exact Go.by (fun _ q => st3.trans q) (k _ _ _ X4 hS4 hZ4 hown4 hQ3)
end G
section A
variable {p : Program} {l : Launch} {e : Env} {R : Room} {s : State} {m : MethodId} {args : Array Value} {below : List Frame} {meth : Method} {c : Code} {T : State} {locs : List Loc} {cells slots : Nat} {Z : State} {h : Heap} {a : Addr} {k : ClassId} {n : Int32} {vs : List Value} {d : Value}
theorem stIA (X : Stand p l e R s m args below meth c T locs cells slots) (hx : p.tables.exec = Jvm.exec) (hZ : Z.Warmed39 s.vm) (eT : T.heap = h) (V : Arv Z h a k .int n vs d) {j x : Int32} (i : Nat) (hj : j.toNatClampNeg = i) (hj0 : ¬ j < 0) (hjn : j < n) (hi : i < vs.length) {g : JFrame} (hg : g.method = m) {rest : List Value} (hs : g.stack = .int x :: .int j :: .ref a :: rest) (hd : decode c.code g.pc = .ok (.iastore, 1)) :
    ∃ T' h', Stand p l e R s m args below meth c T' (locs ++ [⟨a, j.toNatClampNeg⟩]) cells slots ∧ T'.heap = h' ∧ Wr h h' a j.toNatClampNeg (.int x) ∧ Arv Z h' a k .int n (vs.set i (.int x)) d ∧ ∀ target, Steps p.tables e below (T'.setTop { g with pc := g.pc + 1, stack := rest }) target → Steps p.tables e below (T.setTop g) target := by
  obtain ⟨cl, Ar, q, S, M, H, U⟩ := V
  obtain ⟨T', h', X', e', W', st'⟩ := stI X hx hZ eT Ar (j := j) (inb_of S ⟨hj0, hjn⟩) hg hs hd
  exact ⟨T', h', X', e', W', Arv.set Ar q S M H U rfl W' i hj hi, st'⟩
theorem stBA (X : Stand p l e R s m args below meth c T locs cells slots) (hx : p.tables.exec = Jvm.exec) (hZ : Z.Warmed39 s.vm) (eT : T.heap = h) (V : Arv Z h a k .byte n vs d) {j x : Int32} (i : Nat) (hj : j.toNatClampNeg = i) (hj0 : ¬ j < 0) (hjn : j < n) (hi : i < vs.length) {g : JFrame} (hg : g.method = m) {rest : List Value} (hs : g.stack = .int x :: .int j :: .ref a :: rest) (hd : decode c.code g.pc = .ok (.bastore, 1)) :
    ∃ T' h', Stand p l e R s m args below meth c T' (locs ++ [⟨a, j.toNatClampNeg⟩]) cells slots ∧ T'.heap = h' ∧ Wr h h' a j.toNatClampNeg (.int x.toInt8.toInt32) ∧ Arv Z h' a k .byte n (vs.set i (.int x.toInt8.toInt32)) d ∧ ∀ target, Steps p.tables e below (T'.setTop { g with pc := g.pc + 1, stack := rest }) target → Steps p.tables e below (T.setTop g) target := by
  obtain ⟨cl, Ar, q, S, M, H, U⟩ := V
  obtain ⟨T', h', X', e', W', st'⟩ := stB X hx hZ eT Ar (j := j) (inb_of S ⟨hj0, hjn⟩) hg hs hd
  exact ⟨T', h', X', e', W', Arv.set Ar q S M H U (fits_nar_byte x) W' i hj hi, st'⟩
theorem ldIA (X : Stand p l e R s m args below meth c T locs cells slots) (hx : p.tables.exec = Jvm.exec) (hZ : Z.Warmed39 s.vm) (eT : T.heap = h) (V : Arv Z h a k .int n vs d) {j : Int32} {v : Value} (hj0 : ¬ j < 0) (hjn : j < n) (hv : vs.getD j.toNatClampNeg d = v) {g : JFrame} (hg : g.method = m) {rest : List Value} (hs : g.stack = .int j :: .ref a :: rest) (hd : decode c.code g.pc = .ok (.iaload, 1)) :
    ∀ target, Steps p.tables e below (T.setTop { g with pc := g.pc + 1, stack := v :: rest }) target → Steps p.tables e below (T.setTop g) target := by
  obtain ⟨cl, Ar, q, S, M, H, U⟩ := V
  have hin := inb_of S ⟨hj0, hjn⟩
  intro target kt
  exact X.iaload hx (j := j) (v := v) (by rw [eT]; exact Ar.1) (State.isArrayOf_alike hZ.alike Ar.2.1) Ar.2.2 hin (H.at hin hv) hg hs hd _ kt
theorem ldBA (X : Stand p l e R s m args below meth c T locs cells slots) (hx : p.tables.exec = Jvm.exec) (hZ : Z.Warmed39 s.vm) (eT : T.heap = h) (V : Arv Z h a k .byte n vs d) {j : Int32} {v : Value} (hj0 : ¬ j < 0) (hjn : j < n) (hv : vs.getD j.toNatClampNeg d = v) {g : JFrame} (hg : g.method = m) {rest : List Value} (hs : g.stack = .int j :: .ref a :: rest) (hd : decode c.code g.pc = .ok (.baload, 1)) :
    ∀ target, Steps p.tables e below (T.setTop { g with pc := g.pc + 1, stack := v :: rest }) target → Steps p.tables e below (T.setTop g) target := by
  obtain ⟨cl, Ar, q, S, M, H, U⟩ := V
  have hin := inb_of S ⟨hj0, hjn⟩
  intro target kt
  exact X.baloadBytes hx (j := j) (v := v) (by rw [eT]; exact Ar.1) (State.isArrayOf_alike hZ.alike Ar.2.1) Ar.2.2 hin (H.at hin hv) hg hs hd _ kt
theorem lnA {ty : FieldType} (X : Stand p l e R s m args below meth c T locs cells slots) (hx : p.tables.exec = Jvm.exec) (hZ : Z.Warmed39 s.vm) (eT : T.heap = h) (V : Arv Z h a k ty n vs d) {g : JFrame} (hg : g.method = m) {rest : List Value} (hs : g.stack = .ref a :: rest) (hd : decode c.code g.pc = .ok (.arraylength, 1)) :
    ∀ target, Steps p.tables e below (T.setTop { g with pc := g.pc + 1, stack := .int n :: rest }) target → Steps p.tables e below (T.setTop g) target := by
  obtain ⟨cl, Ar, q, S, M, H, U⟩ := V
  intro target kt
  refine X.arraylength hx (by rw [eT]; exact Ar.1) (State.isArrayOf_alike hZ.alike Ar.2.1) hg hs hd _ ?_
  rw [len_of S M]
  exact kt
theorem fitsR {ty : FieldType} {y : Addr} (hty : ty.isReference = true) : fits ty (.ref y) = true := by cases ty <;> first | rfl | (simp [FieldType.isReference] at hty)
theorem stRA {ty : FieldType} {C : String} (X : Stand p l e R s m args below meth c T locs cells slots) (hx : p.tables.exec = Jvm.exec) (hZ : Z.Warmed39 s.vm) (eT : T.heap = h) (V : Arv Z h a k ty n vs d) (O : Ovr Z k C) {y : Addr} (I : Ins Z h y C true) (hty : ty.isReference = true) {j : Int32} (i : Nat) (hj : j.toNatClampNeg = i) (hj0 : ¬ j < 0) (hjn : j < n) (hi : i < vs.length) {g : JFrame} (hg : g.method = m) {rest : List Value} (hs : g.stack = .ref y :: .int j :: .ref a :: rest) (hd : decode c.code g.pc = .ok (.aastore, 1)) :
    ∃ T' h', Stand p l e R s m args below meth c T' (locs ++ [⟨a, j.toNatClampNeg⟩]) cells slots ∧ T'.heap = h' ∧ Wr h h' a j.toNatClampNeg (.ref y) ∧ Arv Z h' a k ty n (vs.set i (.ref y)) d ∧ ∀ target, Steps p.tables e below (T'.setTop { g with pc := g.pc + 1, stack := rest }) target → Steps p.tables e below (T.setTop g) target := by
  obtain ⟨cl, Ar, q, S, M, H, U⟩ := V
  obtain ⟨T', h', X', e', W', st'⟩ := stR X hx hZ eT Ar (j := j) (inb_of S ⟨hj0, hjn⟩) hty (Sto.ofV Ar q O I) hg hs hd
  exact ⟨T', h', X', e', W', Arv.set Ar q S M H U (fitsR hty) W' i hj hi, st'⟩
theorem ldRA {ty : FieldType} (X : Stand p l e R s m args below meth c T locs cells slots) (hx : p.tables.exec = Jvm.exec) (hZ : Z.Warmed39 s.vm) (eT : T.heap = h) (V : Arv Z h a k ty n vs d) (hty : ty.isReference = true) {j : Int32} {v : Value} (hj0 : ¬ j < 0) (hjn : j < n) (hv : vs.getD j.toNatClampNeg d = v) {g : JFrame} (hg : g.method = m) {rest : List Value} (hs : g.stack = .int j :: .ref a :: rest) (hd : decode c.code g.pc = .ok (.aaload, 1)) :
    ∀ target, Steps p.tables e below (T.setTop { g with pc := g.pc + 1, stack := v :: rest }) target → Steps p.tables e below (T.setTop g) target := by
  obtain ⟨cl, Ar, q, S, M, H, U⟩ := V
  have hin := inb_of S ⟨hj0, hjn⟩
  intro target kt
  exact X.aaload hx (j := j) (v := v) (by rw [eT]; exact Ar.1) (State.isArrayOf_alike hZ.alike Ar.2.1) hty Ar.2.2 hin (H.at hin hv) hg hs hd _ kt
end A
end Jvm.OwnGo
namespace Jvm.Pilot.@@N@@
open Jvm Jvm.ClassFile Sem Op Lib Jvm.Free Jvm.Stand Jvm.LawKit Jvm.RoadKit Jvm.OwnGo Bundle Jvm.Pilot.@@N@@.Jvm.D

theorem pn_0 : plainName "com/example/sorrel/sorrel/middle/alloc/PlacementRegistersPinLaw" = true := by first | (simp [plainName, overriddenIn]; done) | decide +kernel
theorem pf_0 : plainFor x = true := plainFor_of_name pn_0
theorem pd_0 : parseMethodDescriptor "(IIIII)Z" = some ⟨[.int, .int, .int, .int, .int], (some .boolean)⟩ := by decide +kernel
theorem d1_0 : decode method_2_code 0 = .ok (.iload_n 0, 1) := by decide +kernel
theorem d1_1 : decode method_2_code 1 = .ok (.iconst 3, 1) := by decide +kernel
theorem d1_2 : decode method_2_code 2 = .ok (.iand, 1) := by decide +kernel
theorem d1_3 : decode method_2_code 3 = .ok (.istore_n 1, 1) := by decide +kernel
theorem d1_4 : decode method_2_code 4 = .ok (.iload_n 1, 1) := by decide +kernel
theorem d1_5 : decode method_2_code 5 = .ok (.iconst 1, 1) := by decide +kernel
theorem d1_6 : decode method_2_code 6 = .ok (.if_icmp .gt 10, 3) := by decide +kernel
theorem d1_9 : decode method_2_code 9 = .ok (.iload_n 0, 1) := by decide +kernel
theorem d1_10 : decode method_2_code 10 = .ok (.iconst 2, 1) := by decide +kernel
theorem d1_11 : decode method_2_code 11 = .ok (.iushr, 1) := by decide +kernel
theorem d1_12 : decode method_2_code 12 = .ok (.bipush 63, 2) := by decide +kernel
theorem d1_14 : decode method_2_code 14 = .ok (.iand, 1) := by decide +kernel
theorem d1_15 : decode method_2_code 15 = .ok (.ireturn, 1) := by decide +kernel
theorem d1_16 : decode method_2_code 16 = .ok (.iload_n 1, 1) := by decide +kernel
theorem d1_17 : decode method_2_code 17 = .ok (.iconst 2, 1) := by decide +kernel
theorem d1_18 : decode method_2_code 18 = .ok (.if_icmp .ne 9, 3) := by decide +kernel
theorem d1_21 : decode method_2_code 21 = .ok (.iconst (-1), 1) := by decide +kernel
theorem d1_22 : decode method_2_code 22 = .ok (.iload_n 0, 1) := by decide +kernel
theorem d1_23 : decode method_2_code 23 = .ok (.iconst 2, 1) := by decide +kernel
theorem d1_24 : decode method_2_code 24 = .ok (.iushr, 1) := by decide +kernel
theorem d1_25 : decode method_2_code 25 = .ok (.isub, 1) := by decide +kernel
theorem d1_26 : decode method_2_code 26 = .ok (.ireturn, 1) := by decide +kernel
theorem d1_27 : decode method_2_code 27 = .ok (.ldc 9, 2) := by decide +kernel
theorem d1_29 : decode method_2_code 29 = .ok (.ireturn, 1) := by decide +kernel
theorem pn_1 : plainName "com/example/sorrel/sorrel/middle/alloc/PlacementRegistersPinLaw" = true := by first | (simp [plainName, overriddenIn]; done) | decide +kernel
theorem pf_1 : plainFor (⟨"com/example/sorrel/sorrel/middle/alloc/PlacementRegistersPinLaw", "place", "(I)I"⟩ : MethodName) = true := plainFor_of_name pn_1
theorem pd_1 : parseMethodDescriptor "(I)I" = some ⟨[.int], (some .int)⟩ := by decide +kernel
theorem d4_0 : decode method_3_code 0 = .ok (.iload_n 0, 1) := by decide +kernel
theorem d4_1 : decode method_3_code 1 = .ok (.iconst 3, 1) := by decide +kernel
theorem d4_2 : decode method_3_code 2 = .ok (.iand, 1) := by decide +kernel
theorem d4_3 : decode method_3_code 3 = .ok (.iconst 1, 1) := by decide +kernel
theorem d4_4 : decode method_3_code 4 = .ok (.if_icmp .gt 12, 3) := by decide +kernel
theorem d4_7 : decode method_3_code 7 = .ok (.lconst 1, 1) := by decide +kernel
theorem d4_8 : decode method_3_code 8 = .ok (.iload_n 0, 1) := by decide +kernel
theorem d4_9 : decode method_3_code 9 = .ok (.iconst 2, 1) := by decide +kernel
theorem d4_10 : decode method_3_code 10 = .ok (.iushr, 1) := by decide +kernel
theorem d4_11 : decode method_3_code 11 = .ok (.bipush 63, 2) := by decide +kernel
theorem d4_13 : decode method_3_code 13 = .ok (.iand, 1) := by decide +kernel
theorem d4_14 : decode method_3_code 14 = .ok (.lshl, 1) := by decide +kernel
theorem d4_15 : decode method_3_code 15 = .ok (.lreturn, 1) := by decide +kernel
theorem d4_16 : decode method_3_code 16 = .ok (.lconst 0, 1) := by decide +kernel
theorem d4_17 : decode method_3_code 17 = .ok (.lreturn, 1) := by decide +kernel
theorem pn_4 : plainName "com/example/sorrel/sorrel/middle/alloc/PlacementRegistersPinLaw" = true := by first | (simp [plainName, overriddenIn]; done) | decide +kernel
theorem pf_4 : plainFor (⟨"com/example/sorrel/sorrel/middle/alloc/PlacementRegistersPinLaw", "bit", "(I)J"⟩ : MethodName) = true := plainFor_of_name pn_4
theorem pd_4 : parseMethodDescriptor "(I)J" = some ⟨[.int], (some .long)⟩ := by decide +kernel
theorem d2_0 : decode prog_97_method_1_code 0 = .ok (.aload_n 0, 1) := by decide +kernel
theorem d2_1 : decode prog_97_method_1_code 1 = .ok (.invokespecial 3, 3) := by decide +kernel
theorem d2_4 : decode prog_97_method_1_code 4 = .ok (.aload_n 0, 1) := by decide +kernel
theorem d2_5 : decode prog_97_method_1_code 5 = .ok (.aload_n 1, 1) := by decide +kernel
theorem d2_6 : decode prog_97_method_1_code 6 = .ok (.putfield 9, 3) := by decide +kernel
theorem d2_9 : decode prog_97_method_1_code 9 = .ok (.aload_n 0, 1) := by decide +kernel
theorem d2_10 : decode prog_97_method_1_code 10 = .ok (.iload_n 2, 1) := by decide +kernel
theorem d2_11 : decode prog_97_method_1_code 11 = .ok (.putfield 15, 3) := by decide +kernel
theorem d2_14 : decode prog_97_method_1_code 14 = .ok (.return_, 1) := by decide +kernel
theorem pn_2 : plainName "com/example/sorrel/sorrel/middle/alloc/Placement" = true := by first | (simp [plainName, overriddenIn]; done) | decide +kernel
theorem pf_2 : plainFor (⟨"com/example/sorrel/sorrel/middle/alloc/Placement", "<init>", "([II)V"⟩ : MethodName) = true := plainFor_of_name pn_2
theorem pd_2 : parseMethodDescriptor "([II)V" = some ⟨[(.array .int), .int], none⟩ := by decide +kernel
theorem d5_0 : decode prog_97_method_7_code 0 = .ok (.lconst 0, 1) := by decide +kernel
theorem d5_1 : decode prog_97_method_7_code 1 = .ok (.lstore_n 1, 1) := by decide +kernel
theorem d5_2 : decode prog_97_method_7_code 2 = .ok (.aload_n 0, 1) := by decide +kernel
theorem d5_3 : decode prog_97_method_7_code 3 = .ok (.getfield 9, 3) := by decide +kernel
theorem d5_6 : decode prog_97_method_7_code 6 = .ok (.astore_n 3, 1) := by decide +kernel
theorem d5_7 : decode prog_97_method_7_code 7 = .ok (.aload_n 3, 1) := by decide +kernel
theorem d5_8 : decode prog_97_method_7_code 8 = .ok (.arraylength, 1) := by decide +kernel
theorem d5_9 : decode prog_97_method_7_code 9 = .ok (.istore 4, 2) := by decide +kernel
theorem d5_11 : decode prog_97_method_7_code 11 = .ok (.iconst 0, 1) := by decide +kernel
theorem d5_12 : decode prog_97_method_7_code 12 = .ok (.istore 5, 2) := by decide +kernel
theorem d5_14 : decode prog_97_method_7_code 14 = .ok (.iload 5, 2) := by decide +kernel
theorem d5_16 : decode prog_97_method_7_code 16 = .ok (.iload 4, 2) := by decide +kernel
theorem d5_18 : decode prog_97_method_7_code 18 = .ok (.if_icmp .ge 27, 3) := by decide +kernel
theorem d5_21 : decode prog_97_method_7_code 21 = .ok (.aload_n 3, 1) := by decide +kernel
theorem d5_22 : decode prog_97_method_7_code 22 = .ok (.iload 5, 2) := by decide +kernel
theorem d5_24 : decode prog_97_method_7_code 24 = .ok (.iaload, 1) := by decide +kernel
theorem d5_25 : decode prog_97_method_7_code 25 = .ok (.istore 6, 2) := by decide +kernel
theorem d5_27 : decode prog_97_method_7_code 27 = .ok (.iload 6, 2) := by decide +kernel
theorem d5_29 : decode prog_97_method_7_code 29 = .ok (.ifCond .lt 10, 3) := by decide +kernel
theorem d5_32 : decode prog_97_method_7_code 32 = .ok (.lload_n 1, 1) := by decide +kernel
theorem d5_33 : decode prog_97_method_7_code 33 = .ok (.lconst 1, 1) := by decide +kernel
theorem d5_34 : decode prog_97_method_7_code 34 = .ok (.iload 6, 2) := by decide +kernel
theorem d5_36 : decode prog_97_method_7_code 36 = .ok (.lshl, 1) := by decide +kernel
theorem d5_37 : decode prog_97_method_7_code 37 = .ok (.lor, 1) := by decide +kernel
theorem d5_38 : decode prog_97_method_7_code 38 = .ok (.lstore_n 1, 1) := by decide +kernel
theorem d5_39 : decode prog_97_method_7_code 39 = .ok (.iinc 5 1, 3) := by decide +kernel
theorem d5_42 : decode prog_97_method_7_code 42 = .ok (.goto (-28), 3) := by decide +kernel
theorem d5_45 : decode prog_97_method_7_code 45 = .ok (.lload_n 1, 1) := by decide +kernel
theorem d5_46 : decode prog_97_method_7_code 46 = .ok (.lreturn, 1) := by decide +kernel
theorem pn_5 : plainName "com/example/sorrel/sorrel/middle/alloc/Placement" = true := by first | (simp [plainName, overriddenIn]; done) | decide +kernel
theorem pf_5 : plainFor (⟨"com/example/sorrel/sorrel/middle/alloc/Placement", "registers", "()J"⟩ : MethodName) = true := plainFor_of_name pn_5
theorem pd_5 : parseMethodDescriptor "()J" = some ⟨[], (some .long)⟩ := by decide +kernel
def placeV (a : Int32) : Int32 := if 1 < (a &&& 3) then (if (a &&& 3) = 2 then (-1) - us a 2 else -2147483648) else (us a 2 &&& 63)
def bitV (a : Int32) : Int64 := if 1 < (a &&& 3) then 0 else 1 <<< ((us a 2 &&& 63) &&& 0x3f).toInt64
def upd (r : Int64) (v : Int32) : Int64 := if v < 0 then r else r ||| (1 <<< (v &&& 0x3f).toInt64)
theorem upd_neg {r : Int64} {v : Int32} (h : v < 0) : upd r v = r := if_pos h
theorem upd_pos {r : Int64} {v : Int32} (h : ¬ v < 0) : upd r v = r ||| (1 <<< (v &&& 0x3f).toInt64) := if_neg h
theorem or_zero (r : Int64) : r ||| 0 = r := Int64.or_zero
theorem upd_place (r : Int64) (a : Int32) : upd r (placeV a) = r ||| bitV a := by
  have z0 : (0 : Int32).toInt = 0 := by decide
  unfold placeV bitV
  by_cases h : 1 < (a &&& 3)
  · rw [if_pos h, if_pos h, or_zero]
    refine upd_neg ?_
    by_cases h2 : (a &&& 3) = 2
    · rw [if_pos h2, Int32.lt_iff_toInt_lt, z0]
      have h3 := c_iushr a 2 2 (by decide) (by decide)
      have h4 := c_isub (-1) (us a 2)
      have h5 : (-1 : Int32).toInt = -1 := by decide
      have h6 := rng32 a
      have h7 := rng32 ((-1) - us a 2)
      have h8 : (us a 2).toInt = (a.toInt % 4294967296) / (2 ^ 2 : Nat) := h3
      rw [h5, h8] at h4
      omega
    · rw [if_neg h2]; decide
  · rw [if_neg h, if_neg h]
    refine upd_pos ?_
    have h1 := c_and (us a 2) 63 (by decide)
    rw [Int32.lt_iff_toInt_lt, z0]
    omega
theorem ef_1 (p1 : Int32) (m : MethodId) : entryFrame m #[(.int p1)] 2 = mkF m 0 #[.val (.int p1), .unset] [] := by first | (simp [entryFrame, mkF, argsToLocals, Value.category]; done) | rfl
set_option maxRecDepth 65536 in
set_option maxHeartbeats 40000000 in
theorem rm1 (l : Launch) (Z : State) (a0 : Array Value) (hw : ∀ d ∈ tables_1, d.before a0 Z = true) (p1 : Int32) (h0 : Heap) (n0 : Nat)   :
    Ctr l Z (⟨"com/example/sorrel/sorrel/middle/alloc/PlacementRegistersPinLaw", "place", "(I)I"⟩ : MethodName) method_2_code 2 (some .int) ({ frames := 0, cells := 0, slots := 0, locals := 0 } : Room) #[(.int p1)] h0 (fun v h L => v = some (.int (placeV p1)) ∧ Fr n0 L ∧ h = h0) := by
  refine Ctr.of pf_1 (ef_1 p1) ?_
  intro p e s m below meth c T0 hx hby hml hret hlk hnm hZ hown e0 X0
  refine Go.by (g' := (mkF m 1 #[.val (.int p1), .unset] [(.int p1)])) (fun _ k => XS.iloadN X0.here hx rfl (hb hby d1_0) rfl k) ?_
  refine Go.by (g' := (mkF m 2 #[.val (.int p1), .unset] [(.int (3 : Int32)), (.int p1)])) (fun _ k => XS.iconst X0.here hx rfl (hb hby d1_1) k) ?_
  refine Go.by (g' := (mkF m 3 #[.val (.int p1), .unset] [(.int (p1 &&& (3 : Int32)))])) (fun _ k => XS.iand X0.here hx rfl (hb hby d1_2) rfl k) ?_
  refine Go.by (g' := (mkF m 4 #[.val (.int p1), .val (.int (p1 &&& (3 : Int32)))] [])) (fun _ k => XS.istoreN X0.here hx rfl (hb hby d1_3) rfl (l' := #[.val (.int p1), .val (.int (p1 &&& (3 : Int32)))]) rfl k) ?_
  refine Go.by (g' := (mkF m 5 #[.val (.int p1), .val (.int (p1 &&& (3 : Int32)))] [(.int (p1 &&& (3 : Int32)))])) (fun _ k => XS.iloadN X0.here hx rfl (hb hby d1_4) rfl k) ?_
  refine Go.by (g' := (mkF m 6 #[.val (.int p1), .val (.int (p1 &&& (3 : Int32)))] [(.int (1 : Int32)), (.int (p1 &&& (3 : Int32)))])) (fun _ k => XS.iconst X0.here hx rfl (hb hby d1_5) k) ?_
  by_cases h6 : (1 : Int32) < (p1 &&& (3 : Int32))
  · refine Go.by (g' := (mkF m 16 #[.val (.int p1), .val (.int (p1 &&& (3 : Int32)))] [])) (fun _ k => XS.icmpYes X0.here hx rfl (pc0 := 6) (pc' := 16) rfl (hb hby d1_6) rfl (tlt h6).2.2.1 (by decide) (by decide) k) ?_
    refine Go.by (g' := (mkF m 17 #[.val (.int p1), .val (.int (p1 &&& (3 : Int32)))] [(.int (p1 &&& (3 : Int32)))])) (fun _ k => XS.iloadN X0.here hx rfl (hb hby d1_16) rfl k) ?_
    refine Go.by (g' := (mkF m 18 #[.val (.int p1), .val (.int (p1 &&& (3 : Int32)))] [(.int (2 : Int32)), (.int (p1 &&& (3 : Int32)))])) (fun _ k => XS.iconst X0.here hx rfl (hb hby d1_17) k) ?_
    by_cases h18 : (p1 &&& (3 : Int32)) = (2 : Int32)
    · refine Go.by (g' := (mkF m 21 #[.val (.int p1), .val (.int (p1 &&& (3 : Int32)))] [])) (fun _ k => XS.icmpNo X0.here hx rfl (hb hby d1_18) rfl (teq h18).2 k) ?_
      refine Go.by (g' := (mkF m 22 #[.val (.int p1), .val (.int (p1 &&& (3 : Int32)))] [(.int (-1 : Int32))])) (fun _ k => XS.iconst X0.here hx rfl (hb hby d1_21) k) ?_
      refine Go.by (g' := (mkF m 23 #[.val (.int p1), .val (.int (p1 &&& (3 : Int32)))] [(.int p1), (.int (-1 : Int32))])) (fun _ k => XS.iloadN X0.here hx rfl (hb hby d1_22) rfl k) ?_
      refine Go.by (g' := (mkF m 24 #[.val (.int p1), .val (.int (p1 &&& (3 : Int32)))] [(.int (2 : Int32)), (.int p1), (.int (-1 : Int32))])) (fun _ k => XS.iconst X0.here hx rfl (hb hby d1_23) k) ?_
      refine Go.by (g' := (mkF m 25 #[.val (.int p1), .val (.int (p1 &&& (3 : Int32)))] [(.int (us p1 (2 : Int32))), (.int (-1 : Int32))])) (fun _ k => XS.iushr X0.here hx rfl (hb hby d1_24) rfl k) ?_
      refine Go.by (g' := (mkF m 26 #[.val (.int p1), .val (.int (p1 &&& (3 : Int32)))] [(.int ((-1 : Int32) - (us p1 (2 : Int32))))])) (fun _ k => XS.isub X0.here hx rfl (hb hby d1_25) rfl k) ?_
      exact Go.outI X0 hx hret (Lv.narrow X0 hlk (by decide) (by decide)) (hb hby d1_26) (by rw [e0]; exact ⟨by rw [placeV, if_pos h6, if_pos h18], Fr.nil _, rfl⟩)
    · refine Go.by (g' := (mkF m 27 #[.val (.int p1), .val (.int (p1 &&& (3 : Int32)))] [])) (fun _ k => XS.icmpYes X0.here hx rfl (pc0 := 18) (pc' := 27) rfl (hb hby d1_18) rfl (feq h18).2 (by decide) (by decide) k) ?_
      refine Go.by (g' := (mkF m 29 #[.val (.int p1), .val (.int (p1 &&& (3 : Int32)))] [(.int (-2147483648 : Int32))])) (fun _ k => X0.ldcInt hx hown (mvT hZ (hw _ (List.mem_of_getElem? (i := 5) rfl))) (g := (mkF m 27 #[.val (.int p1), .val (.int (p1 &&& (3 : Int32)))] [])) rfl (hb hby d1_27) _ k) ?_
      exact Go.outI X0 hx hret (Lv.narrow X0 hlk (by decide) (by decide)) (hb hby d1_29) (by rw [e0]; exact ⟨by rw [placeV, if_pos h6, if_neg h18], Fr.nil _, rfl⟩)
  · refine Go.by (g' := (mkF m 9 #[.val (.int p1), .val (.int (p1 &&& (3 : Int32)))] [])) (fun _ k => XS.icmpNo X0.here hx rfl (hb hby d1_6) rfl (flt h6).2.2.1 k) ?_
    refine Go.by (g' := (mkF m 10 #[.val (.int p1), .val (.int (p1 &&& (3 : Int32)))] [(.int p1)])) (fun _ k => XS.iloadN X0.here hx rfl (hb hby d1_9) rfl k) ?_
    refine Go.by (g' := (mkF m 11 #[.val (.int p1), .val (.int (p1 &&& (3 : Int32)))] [(.int (2 : Int32)), (.int p1)])) (fun _ k => XS.iconst X0.here hx rfl (hb hby d1_10) k) ?_
    refine Go.by (g' := (mkF m 12 #[.val (.int p1), .val (.int (p1 &&& (3 : Int32)))] [(.int (us p1 (2 : Int32)))])) (fun _ k => XS.iushr X0.here hx rfl (hb hby d1_11) rfl k) ?_
    refine Go.by (g' := (mkF m 14 #[.val (.int p1), .val (.int (p1 &&& (3 : Int32)))] [(.int (63 : Int32)), (.int (us p1 (2 : Int32)))])) (fun _ k => XS.bipush X0.here hx rfl (hb hby d1_12) k) ?_
    refine Go.by (g' := (mkF m 15 #[.val (.int p1), .val (.int (p1 &&& (3 : Int32)))] [(.int ((us p1 (2 : Int32)) &&& (63 : Int32)))])) (fun _ k => XS.iand X0.here hx rfl (hb hby d1_14) rfl k) ?_
    exact Go.outI X0 hx hret (Lv.narrow X0 hlk (by decide) (by decide)) (hb hby d1_15) (by rw [e0]; exact ⟨by rw [placeV, if_neg h6], Fr.nil _, rfl⟩)
theorem ef_4 (p1 : Int32) (m : MethodId) : entryFrame m #[(.int p1)] 1 = mkF m 0 #[.val (.int p1)] [] := by first | (simp [entryFrame, mkF, argsToLocals, Value.category]; done) | rfl
set_option maxRecDepth 65536 in
set_option maxHeartbeats 40000000 in
theorem rm4 (l : Launch) (Z : State) (a0 : Array Value) (hw : ∀ d ∈ tables_1, d.before a0 Z = true) (p1 : Int32) (h0 : Heap) (n0 : Nat)   :
    Ctr l Z (⟨"com/example/sorrel/sorrel/middle/alloc/PlacementRegistersPinLaw", "bit", "(I)J"⟩ : MethodName) method_3_code 1 (some .long) ({ frames := 0, cells := 0, slots := 0, locals := 0 } : Room) #[(.int p1)] h0 (fun v h L => v = some (.long (bitV p1)) ∧ Fr n0 L ∧ h = h0) := by
  refine Ctr.of pf_4 (ef_4 p1) ?_
  intro p e s m below meth c T0 hx hby hml hret hlk hnm hZ hown e0 X0
  refine Go.by (g' := (mkF m 1 #[.val (.int p1)] [(.int p1)])) (fun _ k => XS.iloadN X0.here hx rfl (hb hby d4_0) rfl k) ?_
  refine Go.by (g' := (mkF m 2 #[.val (.int p1)] [(.int (3 : Int32)), (.int p1)])) (fun _ k => XS.iconst X0.here hx rfl (hb hby d4_1) k) ?_
  refine Go.by (g' := (mkF m 3 #[.val (.int p1)] [(.int (p1 &&& (3 : Int32)))])) (fun _ k => XS.iand X0.here hx rfl (hb hby d4_2) rfl k) ?_
  refine Go.by (g' := (mkF m 4 #[.val (.int p1)] [(.int (1 : Int32)), (.int (p1 &&& (3 : Int32)))])) (fun _ k => XS.iconst X0.here hx rfl (hb hby d4_3) k) ?_
  by_cases h4 : (1 : Int32) < (p1 &&& (3 : Int32))
  · refine Go.by (g' := (mkF m 16 #[.val (.int p1)] [])) (fun _ k => XS.icmpYes X0.here hx rfl (pc0 := 4) (pc' := 16) rfl (hb hby d4_4) rfl (tlt h4).2.2.1 (by decide) (by decide) k) ?_
    refine Go.by (g' := (mkF m 17 #[.val (.int p1)] [(.long (0 : Int64))])) (fun _ k => XS.lconst X0.here hx rfl (hb hby d4_16) k) ?_
    exact Go.outJ X0 hx hret (Lv.narrow X0 hlk (by decide) (by decide)) (hb hby d4_17) (by rw [e0]; exact ⟨by rw [bitV, if_pos h4], Fr.nil _, rfl⟩)
  · refine Go.by (g' := (mkF m 7 #[.val (.int p1)] [])) (fun _ k => XS.icmpNo X0.here hx rfl (hb hby d4_4) rfl (flt h4).2.2.1 k) ?_
    refine Go.by (g' := (mkF m 8 #[.val (.int p1)] [(.long (1 : Int64))])) (fun _ k => XS.lconst X0.here hx rfl (hb hby d4_7) k) ?_
    refine Go.by (g' := (mkF m 9 #[.val (.int p1)] [(.int p1), (.long (1 : Int64))])) (fun _ k => XS.iloadN X0.here hx rfl (hb hby d4_8) rfl k) ?_
    refine Go.by (g' := (mkF m 10 #[.val (.int p1)] [(.int (2 : Int32)), (.int p1), (.long (1 : Int64))])) (fun _ k => XS.iconst X0.here hx rfl (hb hby d4_9) k) ?_
    refine Go.by (g' := (mkF m 11 #[.val (.int p1)] [(.int (us p1 (2 : Int32))), (.long (1 : Int64))])) (fun _ k => XS.iushr X0.here hx rfl (hb hby d4_10) rfl k) ?_
    refine Go.by (g' := (mkF m 13 #[.val (.int p1)] [(.int (63 : Int32)), (.int (us p1 (2 : Int32))), (.long (1 : Int64))])) (fun _ k => XS.bipush X0.here hx rfl (hb hby d4_11) k) ?_
    refine Go.by (g' := (mkF m 14 #[.val (.int p1)] [(.int ((us p1 (2 : Int32)) &&& (63 : Int32))), (.long (1 : Int64))])) (fun _ k => XS.iand X0.here hx rfl (hb hby d4_13) rfl k) ?_
    refine Go.by (g' := (mkF m 15 #[.val (.int p1)] [(.long ((1 : Int64) <<< (((us p1 (2 : Int32)) &&& (63 : Int32)) &&& 0x3f).toInt64))])) (fun _ k => XS.lshl X0.here hx rfl (hb hby d4_14) rfl k) ?_
    exact Go.outJ X0 hx hret (Lv.narrow X0 hlk (by decide) (by decide)) (hb hby d4_15) (by rw [e0]; exact ⟨by rw [bitV, if_neg h4], Fr.nil _, rfl⟩)
theorem ef_2 (a1 : Addr) (a2 : Addr) (p3 : Int32) (m : MethodId) : entryFrame m #[(.ref a1), (.ref a2), (.int p3)] 3 = mkF m 0 #[.val (.ref a1), .val (.ref a2), .val (.int p3)] [] := by first | (simp [entryFrame, mkF, argsToLocals, Value.category]; done) | rfl
set_option maxRecDepth 65536 in
set_option maxHeartbeats 40000000 in
theorem rm2 (l : Launch) (Z : State) (a0 : Array Value) (hw : ∀ d ∈ tables_1, d.before a0 Z = true) (a1 : Addr) (a2 : Addr) (p3 : Int32) (h0 : Heap) (n0 : Nat) (u1 u2 : Value) (Ea : Exa Z h0 a1 "com/example/sorrel/sorrel/middle/alloc/Placement") (Fp : Fld Z h0 a1 "com/example/sorrel/sorrel/middle/alloc/Placement" "places" "[I" u1) (Fs : Fld Z h0 a1 "com/example/sorrel/sorrel/middle/alloc/Placement" "slots" "I" u2) (g1 : n0 ≤ a1) :
    Ctr l Z (⟨"com/example/sorrel/sorrel/middle/alloc/Placement", "<init>", "([II)V"⟩ : MethodName) prog_97_method_1_code 3 none ({ frames := 1, cells := 0, slots := 0, locals := 12 } : Room) #[(.ref a1), (.ref a2), (.int p3)] h0 (fun v h L => v = none ∧ Fr n0 L ∧ Keep h0 h [a1] ∧ Fld Z h a1 "com/example/sorrel/sorrel/middle/alloc/Placement" "places" "[I" (.ref a2)) := by
  refine Ctr.of pf_2 (ef_2 a1 a2 p3) ?_
  intro p e s m below meth c T0 hx hby hml hret hlk hnm hZ hown e0 X0
  refine Go.by (g' := (mkF m 1 #[.val (.ref a1), .val (.ref a2), .val (.int p3)] [(.ref a1)])) (fun _ k => XS.aloadN X0.here hx rfl (hb hby d2_0) rfl rfl k) ?_
  obtain ⟨T1, X1, e1, st1⟩ := initO X0 hx hZ hown (hw _ (List.mem_of_getElem? (i := 12) rfl)) (hw _ (List.mem_of_getElem? (i := 13) rfl)) (hw _ (List.mem_of_getElem? (i := 14) rfl)) e0 (g := (mkF m 1 #[.val (.ref a1), .val (.ref a2), .val (.int p3)] [(.ref a1)])) rfl (by rw [hml]; rfl) rfl (hb hby d2_1) (by decide) (W := 0) (by show 2 * 0 + _ ≤ _; exact Nat.le_of_eq rfl) (by decide)
  refine Go.by (g' := (mkF m 4 #[.val (.ref a1), .val (.ref a2), .val (.int p3)] [])) st1 ?_
  refine Go.by (g' := (mkF m 5 #[.val (.ref a1), .val (.ref a2), .val (.int p3)] [(.ref a1)])) (fun _ k => XS.aloadN X1.here hx rfl (hb hby d2_4) rfl rfl k) ?_
  refine Go.by (g' := (mkF m 6 #[.val (.ref a1), .val (.ref a2), .val (.int p3)] [(.ref a2), (.ref a1)])) (fun _ k => XS.aloadN X1.here hx rfl (hb hby d2_5) rfl rfl k) ?_
  obtain ⟨T2, h2, X2, e2, W2, st2⟩ := putF X1 hx hZ hown (host := "") (Or.inl (hw _ (List.mem_of_getElem? (i := 15) rfl))) Via.refl e1 Fp Ea (Or.inr ⟨(hw _ (List.mem_of_getElem? (i := 16) rfl)), rfl, hnm⟩) (hw _ (List.mem_of_getElem? (i := 7) rfl)) (ty := (.array .int)) (by decide) rfl rfl (g := (mkF m 6 #[.val (.ref a1), .val (.ref a2), .val (.int p3)] [(.ref a2), (.ref a1)])) rfl rfl (hb hby d2_6)
  have M2 := Fr.snoc X2 (Fr.nil n0) g1
  have KP2 : Keep h0 h2 [a1] := (Keep.refl h0 [a1]).wr W2 (Or.inl (List.mem_of_getElem? (i := 0) rfl))
  have F2_Fp := Fp.same W2
  refine Go.by (g' := (mkF m 9 #[.val (.ref a1), .val (.ref a2), .val (.int p3)] [])) st2 ?_
  refine Go.by (g' := (mkF m 10 #[.val (.ref a1), .val (.ref a2), .val (.int p3)] [(.ref a1)])) (fun _ k => XS.aloadN X2.here hx rfl (hb hby d2_9) rfl rfl k) ?_
  refine Go.by (g' := (mkF m 11 #[.val (.ref a1), .val (.ref a2), .val (.int p3)] [(.int p3), (.ref a1)])) (fun _ k => XS.iloadN X2.here hx rfl (hb hby d2_10) rfl k) ?_
  have f3_Fs := (Fs.other W2 (Or.inr (slot_ne (Or.inr (hw _ (List.mem_of_getElem? (i := 18) rfl))) (Or.inr (hw _ (List.mem_of_getElem? (i := 16) rfl))) (by decide) (t := .int) (t' := (.array .int)) (by decide) (by decide))))
  have f4_Ea := (Ea.wr W2)
  obtain ⟨T5, h5, X5, e5, W5, st5⟩ := putF X2 hx hZ hown (host := "") (Or.inl (hw _ (List.mem_of_getElem? (i := 17) rfl))) Via.refl e2 f3_Fs f4_Ea (Or.inr ⟨(hw _ (List.mem_of_getElem? (i := 18) rfl)), rfl, hnm⟩) (hw _ (List.mem_of_getElem? (i := 7) rfl)) (ty := .int) (by decide) rfl rfl (g := (mkF m 11 #[.val (.ref a1), .val (.ref a2), .val (.int p3)] [(.int p3), (.ref a1)])) rfl rfl (hb hby d2_11)
  have M5 := Fr.snoc X5 M2 g1
  have KP5 : Keep h0 h5 [a1] := KP2.wr W5 (Or.inl (List.mem_of_getElem? (i := 0) rfl))
  have F5_Fs := f3_Fs.same W5
  refine Go.by (g' := (mkF m 14 #[.val (.ref a1), .val (.ref a2), .val (.int p3)] [])) st5 ?_
  have f6_Fp := (F2_Fp.other W5 (Or.inr (slot_ne (Or.inr (hw _ (List.mem_of_getElem? (i := 16) rfl))) (Or.inr (hw _ (List.mem_of_getElem? (i := 18) rfl))) (by decide) (t := (.array .int)) (t' := .int) (by decide) (by decide))))
  exact Go.outN X5 hx hret (Lv.narrow X5 hlk (by decide) (by decide)) (hb hby d2_14) (by rw [e5]; exact ⟨rfl, M5, KP5, f6_Fp⟩)
theorem os5_25 {z0 : Value} {z1 : Int64} {z3 : Value} {z4 : Value} {z5 : Value} {s6 : Slot} {v : Int32} (h : One s6) : storeLocals #[.val z0, .val (.long z1), .second, .val z3, .val z4, .val z5, s6] 6 (.int v) = some #[.val z0, .val (.long z1), .second, .val z3, .val z4, .val z5, .val (.int v)] := by
  rcases h with rfl | ⟨w, rfl, hw⟩
  · rfl
  · cases w <;> first | rfl | (simp [Value.category] at hw)
theorem ef_5 (a1 : Addr) (m : MethodId) : entryFrame m #[(.ref a1)] 7 = mkF m 0 #[.val (.ref a1), .unset, .unset, .unset, .unset, .unset, .unset] [] := by first | (simp [entryFrame, mkF, argsToLocals, Value.category]; done) | rfl
set_option maxRecDepth 65536 in
set_option maxHeartbeats 40000000 in
theorem rm5 (l : Launch) (Z : State) (a0 : Array Value) (hw : ∀ d ∈ tables_1, d.before a0 Z = true) (a1 : Addr) (h0 : Heap) (n0 : Nat) (b : Addr) (k : ClassId) (v0 v1 v2 v3 : Int32) (Fp : Fld Z h0 a1 "com/example/sorrel/sorrel/middle/alloc/Placement" "places" "[I" (.ref b)) (V : Arv Z h0 b k .int 4 [.int v0, .int v1, .int v2, .int v3] (.int 0)) :
    Ctr l Z (⟨"com/example/sorrel/sorrel/middle/alloc/Placement", "registers", "()J"⟩ : MethodName) prog_97_method_7_code 7 (some .long) ({ frames := 0, cells := 0, slots := 0, locals := 0 } : Room) #[(.ref a1)] h0 (fun v h L => v = some (.long (upd (upd (upd (upd 0 v0) v1) v2) v3)) ∧ Fr n0 L ∧ h = h0) := by
  refine Ctr.of pf_5 (ef_5 a1) ?_
  intro p e s m below meth c T0 hx hby hml hret hlk hnm hZ hown e0 X0
  refine Go.by (g' := (mkF m 1 #[.val (.ref a1), .unset, .unset, .unset, .unset, .unset, .unset] [(.long (0 : Int64))])) (fun _ k => XS.lconst X0.here hx rfl (hb hby d5_0) k) ?_
  refine Go.by (g' := (mkF m 2 #[.val (.ref a1), .val (.long (0 : Int64)), .second, .unset, .unset, .unset, .unset] [])) (fun _ k => XS.lstoreN X0.here hx rfl (hb hby d5_1) rfl (l' := #[.val (.ref a1), .val (.long (0 : Int64)), .second, .unset, .unset, .unset, .unset]) rfl k) ?_
  refine Go.by (g' := (mkF m 3 #[.val (.ref a1), .val (.long (0 : Int64)), .second, .unset, .unset, .unset, .unset] [(.ref a1)])) (fun _ k => XS.aloadN X0.here hx rfl (hb hby d5_2) rfl rfl k) ?_
  obtain ⟨T7, X7, e7, st7⟩ := getF X0 hx hZ hown (host := "") (Or.inl (hw _ (List.mem_of_getElem? (i := 15) rfl))) Via.refl e0 Fp (g := (mkF m 3 #[.val (.ref a1), .val (.long (0 : Int64)), .second, .unset, .unset, .unset, .unset] [(.ref a1)])) rfl rfl (hb hby d5_3)
  refine Go.by (g' := (mkF m 6 #[.val (.ref a1), .val (.long (0 : Int64)), .second, .unset, .unset, .unset, .unset] [(.ref b)])) st7 ?_
  refine Go.by (g' := (mkF m 7 #[.val (.ref a1), .val (.long (0 : Int64)), .second, .val (.ref b), .unset, .unset, .unset] [])) (fun _ k => XS.astoreN X7.here hx rfl (hb hby d5_6) rfl rfl (l' := #[.val (.ref a1), .val (.long (0 : Int64)), .second, .val (.ref b), .unset, .unset, .unset]) rfl k) ?_
  refine Go.by (g' := (mkF m 8 #[.val (.ref a1), .val (.long (0 : Int64)), .second, .val (.ref b), .unset, .unset, .unset] [(.ref b)])) (fun _ k => XS.aloadN X7.here hx rfl (hb hby d5_7) rfl rfl k) ?_
  refine Go.by (g' := (mkF m 9 #[.val (.ref a1), .val (.long (0 : Int64)), .second, .val (.ref b), .unset, .unset, .unset] [(.int (4 : Int32))])) (lnA X7 hx hZ e7 V (g := (mkF m 8 #[.val (.ref a1), .val (.long (0 : Int64)), .second, .val (.ref b), .unset, .unset, .unset] [(.ref b)])) rfl rfl (hb hby d5_8)) ?_
  refine Go.by (g' := (mkF m 11 #[.val (.ref a1), .val (.long (0 : Int64)), .second, .val (.ref b), .val (.int (4 : Int32)), .unset, .unset] [])) (fun _ k => XS.istore X7.here hx rfl (hb hby d5_9) rfl (l' := #[.val (.ref a1), .val (.long (0 : Int64)), .second, .val (.ref b), .val (.int (4 : Int32)), .unset, .unset]) rfl k) ?_
  refine Go.by (g' := (mkF m 12 #[.val (.ref a1), .val (.long (0 : Int64)), .second, .val (.ref b), .val (.int (4 : Int32)), .unset, .unset] [(.int (0 : Int32))])) (fun _ k => XS.iconst X7.here hx rfl (hb hby d5_11) k) ?_
  refine Go.by (g' := (mkF m 14 #[.val (.ref a1), .val (.long (0 : Int64)), .second, .val (.ref b), .val (.int (4 : Int32)), .val (.int (0 : Int32)), .unset] [])) (fun _ k => XS.istore X7.here hx rfl (hb hby d5_12) rfl (l' := #[.val (.ref a1), .val (.long (0 : Int64)), .second, .val (.ref b), .val (.int (4 : Int32)), .val (.int (0 : Int32)), .unset]) rfl k) ?_
  have t4 : ∀ (r : Int64) (s6 : Slot), One s6 → r = (upd (upd (upd (upd 0 v0) v1) v2) v3) → Go p e below (En s ({ frames := 0, cells := 0, slots := 0, locals := 0 } : Room).cells ({ frames := 0, cells := 0, slots := 0, locals := 0 } : Room).slots) (fun v h L => v = some (.long (upd (upd (upd (upd 0 v0) v1) v2) v3)) ∧ Fr n0 L ∧ h = h0) T7 (mkF m 14 #[.val (.ref a1), .val (.long r), .second, .val (.ref b), .val (.int (4 : Int32)), .val (.int (4 : Int32)), s6] []) := by
    intro r s6 hs6 hr
    refine Go.by (g' := (mkF m 16 #[.val (.ref a1), .val (.long r), .second, .val (.ref b), .val (.int (4 : Int32)), .val (.int (4 : Int32)), s6] [(.int (4 : Int32))])) (fun _ k => XS.iload X7.here hx rfl (hb hby d5_14) rfl k) ?_
    refine Go.by (g' := (mkF m 18 #[.val (.ref a1), .val (.long r), .second, .val (.ref b), .val (.int (4 : Int32)), .val (.int (4 : Int32)), s6] [(.int (4 : Int32)), (.int (4 : Int32))])) (fun _ k => XS.iload X7.here hx rfl (hb hby d5_16) rfl k) ?_
    refine Go.by (g' := (mkF m 45 #[.val (.ref a1), .val (.long r), .second, .val (.ref b), .val (.int (4 : Int32)), .val (.int (4 : Int32)), s6] [])) (fun _ k => XS.icmpYes X7.here hx rfl (pc0 := 18) (pc' := 45) rfl (hb hby d5_18) rfl (flt (by decide)).2.1 (by decide) (by decide) k) ?_
    refine Go.by (g' := (mkF m 46 #[.val (.ref a1), .val (.long r), .second, .val (.ref b), .val (.int (4 : Int32)), .val (.int (4 : Int32)), s6] [(.long r)])) (fun _ k => XS.lloadN X7.here hx rfl (hb hby d5_45) rfl k) ?_
    exact Go.outJ X7 hx hret (Lv.narrow X7 hlk (by decide) (by decide)) (hb hby d5_46) (by rw [e7]; exact ⟨by rw [hr], Fr.nil _, rfl⟩)
  have t3 : ∀ (r : Int64) (s6 : Slot), One s6 → (upd r v3) = (upd (upd (upd (upd 0 v0) v1) v2) v3) → Go p e below (En s ({ frames := 0, cells := 0, slots := 0, locals := 0 } : Room).cells ({ frames := 0, cells := 0, slots := 0, locals := 0 } : Room).slots) (fun v h L => v = some (.long (upd (upd (upd (upd 0 v0) v1) v2) v3)) ∧ Fr n0 L ∧ h = h0) T7 (mkF m 14 #[.val (.ref a1), .val (.long r), .second, .val (.ref b), .val (.int (4 : Int32)), .val (.int (3 : Int32)), s6] []) := by
    intro r s6 hs6 hr
    refine Go.by (g' := (mkF m 16 #[.val (.ref a1), .val (.long r), .second, .val (.ref b), .val (.int (4 : Int32)), .val (.int (3 : Int32)), s6] [(.int (3 : Int32))])) (fun _ k => XS.iload X7.here hx rfl (hb hby d5_14) rfl k) ?_
    refine Go.by (g' := (mkF m 18 #[.val (.ref a1), .val (.long r), .second, .val (.ref b), .val (.int (4 : Int32)), .val (.int (3 : Int32)), s6] [(.int (4 : Int32)), (.int (3 : Int32))])) (fun _ k => XS.iload X7.here hx rfl (hb hby d5_16) rfl k) ?_
    refine Go.by (g' := (mkF m 21 #[.val (.ref a1), .val (.long r), .second, .val (.ref b), .val (.int (4 : Int32)), .val (.int (3 : Int32)), s6] [])) (fun _ k => XS.icmpNo X7.here hx rfl (hb hby d5_18) rfl (tlt (by decide)).2.1 k) ?_
    refine Go.by (g' := (mkF m 22 #[.val (.ref a1), .val (.long r), .second, .val (.ref b), .val (.int (4 : Int32)), .val (.int (3 : Int32)), s6] [(.ref b)])) (fun _ k => XS.aloadN X7.here hx rfl (hb hby d5_21) rfl rfl k) ?_
    refine Go.by (g' := (mkF m 24 #[.val (.ref a1), .val (.long r), .second, .val (.ref b), .val (.int (4 : Int32)), .val (.int (3 : Int32)), s6] [(.int (3 : Int32)), (.ref b)])) (fun _ k => XS.iload X7.here hx rfl (hb hby d5_22) rfl k) ?_
    refine Go.by (g' := (mkF m 25 #[.val (.ref a1), .val (.long r), .second, .val (.ref b), .val (.int (4 : Int32)), .val (.int (3 : Int32)), s6] [(.int v3)])) (ldIA X7 hx hZ e7 V (v := (.int v3)) (by decide) (by decide) rfl (g := (mkF m 24 #[.val (.ref a1), .val (.long r), .second, .val (.ref b), .val (.int (4 : Int32)), .val (.int (3 : Int32)), s6] [(.int (3 : Int32)), (.ref b)])) rfl rfl (hb hby d5_24)) ?_
    refine Go.by (g' := (mkF m 27 #[.val (.ref a1), .val (.long r), .second, .val (.ref b), .val (.int (4 : Int32)), .val (.int (3 : Int32)), .val (.int v3)] [])) (fun _ k => XS.istore X7.here hx rfl (hb hby d5_25) rfl (l' := #[.val (.ref a1), .val (.long r), .second, .val (.ref b), .val (.int (4 : Int32)), .val (.int (3 : Int32)), .val (.int v3)]) (os5_25 hs6) k) ?_
    refine Go.by (g' := (mkF m 29 #[.val (.ref a1), .val (.long r), .second, .val (.ref b), .val (.int (4 : Int32)), .val (.int (3 : Int32)), .val (.int v3)] [(.int v3)])) (fun _ k => XS.iload X7.here hx rfl (hb hby d5_27) rfl k) ?_
    by_cases hv : v3 < (0 : Int32)
    · refine Go.by (g' := (mkF m 39 #[.val (.ref a1), .val (.long r), .second, .val (.ref b), .val (.int (4 : Int32)), .val (.int (3 : Int32)), .val (.int v3)] [])) (fun _ k => XS.ifYes X7.here hx rfl (pc0 := 29) (pc' := 39) rfl (hb hby d5_29) rfl ((if0 _ _).trans (tlt hv).1) (by decide) (by decide) k) ?_
      refine Go.by (g' := (mkF m 42 #[.val (.ref a1), .val (.long r), .second, .val (.ref b), .val (.int (4 : Int32)), .val (.int (4 : Int32)), .val (.int v3)] [])) (fun _ k => XS.iinc X7.here hx rfl (hb hby d5_39) rfl (l' := #[.val (.ref a1), .val (.long r), .second, .val (.ref b), .val (.int (4 : Int32)), .val (.int (4 : Int32)), .val (.int v3)]) rfl k) ?_
      refine Go.by (g' := (mkF m 14 #[.val (.ref a1), .val (.long r), .second, .val (.ref b), .val (.int (4 : Int32)), .val (.int (4 : Int32)), .val (.int v3)] [])) (fun _ k => XS.goto X7.here hx rfl (pc0 := 42) (pc' := 14) rfl (hb hby d5_42) (by decide) (by decide) k) ?_
      exact t4 _ _ (One.val rfl) (by rw [upd_neg hv] at hr; exact hr)
    · refine Go.by (g' := (mkF m 32 #[.val (.ref a1), .val (.long r), .second, .val (.ref b), .val (.int (4 : Int32)), .val (.int (3 : Int32)), .val (.int v3)] [])) (fun _ k => XS.ifNo X7.here hx rfl (hb hby d5_29) rfl ((if0 _ _).trans (flt hv).1) k) ?_
      refine Go.by (g' := (mkF m 33 #[.val (.ref a1), .val (.long r), .second, .val (.ref b), .val (.int (4 : Int32)), .val (.int (3 : Int32)), .val (.int v3)] [(.long r)])) (fun _ k => XS.lloadN X7.here hx rfl (hb hby d5_32) rfl k) ?_
      refine Go.by (g' := (mkF m 34 #[.val (.ref a1), .val (.long r), .second, .val (.ref b), .val (.int (4 : Int32)), .val (.int (3 : Int32)), .val (.int v3)] [(.long (1 : Int64)), (.long r)])) (fun _ k => XS.lconst X7.here hx rfl (hb hby d5_33) k) ?_
      refine Go.by (g' := (mkF m 36 #[.val (.ref a1), .val (.long r), .second, .val (.ref b), .val (.int (4 : Int32)), .val (.int (3 : Int32)), .val (.int v3)] [(.int v3), (.long (1 : Int64)), (.long r)])) (fun _ k => XS.iload X7.here hx rfl (hb hby d5_34) rfl k) ?_
      refine Go.by (g' := (mkF m 37 #[.val (.ref a1), .val (.long r), .second, .val (.ref b), .val (.int (4 : Int32)), .val (.int (3 : Int32)), .val (.int v3)] [(.long ((1 : Int64) <<< (v3 &&& 0x3f).toInt64)), (.long r)])) (fun _ k => XS.lshl X7.here hx rfl (hb hby d5_36) rfl k) ?_
      refine Go.by (g' := (mkF m 38 #[.val (.ref a1), .val (.long r), .second, .val (.ref b), .val (.int (4 : Int32)), .val (.int (3 : Int32)), .val (.int v3)] [(.long (r ||| ((1 : Int64) <<< (v3 &&& 0x3f).toInt64)))])) (fun _ k => XS.lor X7.here hx rfl (hb hby d5_37) rfl k) ?_
      refine Go.by (g' := (mkF m 39 #[.val (.ref a1), .val (.long (r ||| ((1 : Int64) <<< (v3 &&& 0x3f).toInt64))), .second, .val (.ref b), .val (.int (4 : Int32)), .val (.int (3 : Int32)), .val (.int v3)] [])) (fun _ k => XS.lstoreN X7.here hx rfl (hb hby d5_38) rfl (l' := #[.val (.ref a1), .val (.long (r ||| ((1 : Int64) <<< (v3 &&& 0x3f).toInt64))), .second, .val (.ref b), .val (.int (4 : Int32)), .val (.int (3 : Int32)), .val (.int v3)]) rfl k) ?_
      refine Go.by (g' := (mkF m 42 #[.val (.ref a1), .val (.long (r ||| ((1 : Int64) <<< (v3 &&& 0x3f).toInt64))), .second, .val (.ref b), .val (.int (4 : Int32)), .val (.int (4 : Int32)), .val (.int v3)] [])) (fun _ k => XS.iinc X7.here hx rfl (hb hby d5_39) rfl (l' := #[.val (.ref a1), .val (.long (r ||| ((1 : Int64) <<< (v3 &&& 0x3f).toInt64))), .second, .val (.ref b), .val (.int (4 : Int32)), .val (.int (4 : Int32)), .val (.int v3)]) rfl k) ?_
      refine Go.by (g' := (mkF m 14 #[.val (.ref a1), .val (.long (r ||| ((1 : Int64) <<< (v3 &&& 0x3f).toInt64))), .second, .val (.ref b), .val (.int (4 : Int32)), .val (.int (4 : Int32)), .val (.int v3)] [])) (fun _ k => XS.goto X7.here hx rfl (pc0 := 42) (pc' := 14) rfl (hb hby d5_42) (by decide) (by decide) k) ?_
      exact t4 _ _ (One.val rfl) (by rw [upd_pos hv] at hr; exact hr)
  have t2 : ∀ (r : Int64) (s6 : Slot), One s6 → (upd (upd r v2) v3) = (upd (upd (upd (upd 0 v0) v1) v2) v3) → Go p e below (En s ({ frames := 0, cells := 0, slots := 0, locals := 0 } : Room).cells ({ frames := 0, cells := 0, slots := 0, locals := 0 } : Room).slots) (fun v h L => v = some (.long (upd (upd (upd (upd 0 v0) v1) v2) v3)) ∧ Fr n0 L ∧ h = h0) T7 (mkF m 14 #[.val (.ref a1), .val (.long r), .second, .val (.ref b), .val (.int (4 : Int32)), .val (.int (2 : Int32)), s6] []) := by
    intro r s6 hs6 hr
    refine Go.by (g' := (mkF m 16 #[.val (.ref a1), .val (.long r), .second, .val (.ref b), .val (.int (4 : Int32)), .val (.int (2 : Int32)), s6] [(.int (2 : Int32))])) (fun _ k => XS.iload X7.here hx rfl (hb hby d5_14) rfl k) ?_
    refine Go.by (g' := (mkF m 18 #[.val (.ref a1), .val (.long r), .second, .val (.ref b), .val (.int (4 : Int32)), .val (.int (2 : Int32)), s6] [(.int (4 : Int32)), (.int (2 : Int32))])) (fun _ k => XS.iload X7.here hx rfl (hb hby d5_16) rfl k) ?_
    refine Go.by (g' := (mkF m 21 #[.val (.ref a1), .val (.long r), .second, .val (.ref b), .val (.int (4 : Int32)), .val (.int (2 : Int32)), s6] [])) (fun _ k => XS.icmpNo X7.here hx rfl (hb hby d5_18) rfl (tlt (by decide)).2.1 k) ?_
    refine Go.by (g' := (mkF m 22 #[.val (.ref a1), .val (.long r), .second, .val (.ref b), .val (.int (4 : Int32)), .val (.int (2 : Int32)), s6] [(.ref b)])) (fun _ k => XS.aloadN X7.here hx rfl (hb hby d5_21) rfl rfl k) ?_
    refine Go.by (g' := (mkF m 24 #[.val (.ref a1), .val (.long r), .second, .val (.ref b), .val (.int (4 : Int32)), .val (.int (2 : Int32)), s6] [(.int (2 : Int32)), (.ref b)])) (fun _ k => XS.iload X7.here hx rfl (hb hby d5_22) rfl k) ?_
    refine Go.by (g' := (mkF m 25 #[.val (.ref a1), .val (.long r), .second, .val (.ref b), .val (.int (4 : Int32)), .val (.int (2 : Int32)), s6] [(.int v2)])) (ldIA X7 hx hZ e7 V (v := (.int v2)) (by decide) (by decide) rfl (g := (mkF m 24 #[.val (.ref a1), .val (.long r), .second, .val (.ref b), .val (.int (4 : Int32)), .val (.int (2 : Int32)), s6] [(.int (2 : Int32)), (.ref b)])) rfl rfl (hb hby d5_24)) ?_
    refine Go.by (g' := (mkF m 27 #[.val (.ref a1), .val (.long r), .second, .val (.ref b), .val (.int (4 : Int32)), .val (.int (2 : Int32)), .val (.int v2)] [])) (fun _ k => XS.istore X7.here hx rfl (hb hby d5_25) rfl (l' := #[.val (.ref a1), .val (.long r), .second, .val (.ref b), .val (.int (4 : Int32)), .val (.int (2 : Int32)), .val (.int v2)]) (os5_25 hs6) k) ?_
    refine Go.by (g' := (mkF m 29 #[.val (.ref a1), .val (.long r), .second, .val (.ref b), .val (.int (4 : Int32)), .val (.int (2 : Int32)), .val (.int v2)] [(.int v2)])) (fun _ k => XS.iload X7.here hx rfl (hb hby d5_27) rfl k) ?_
    by_cases hv : v2 < (0 : Int32)
    · refine Go.by (g' := (mkF m 39 #[.val (.ref a1), .val (.long r), .second, .val (.ref b), .val (.int (4 : Int32)), .val (.int (2 : Int32)), .val (.int v2)] [])) (fun _ k => XS.ifYes X7.here hx rfl (pc0 := 29) (pc' := 39) rfl (hb hby d5_29) rfl ((if0 _ _).trans (tlt hv).1) (by decide) (by decide) k) ?_
      refine Go.by (g' := (mkF m 42 #[.val (.ref a1), .val (.long r), .second, .val (.ref b), .val (.int (4 : Int32)), .val (.int (3 : Int32)), .val (.int v2)] [])) (fun _ k => XS.iinc X7.here hx rfl (hb hby d5_39) rfl (l' := #[.val (.ref a1), .val (.long r), .second, .val (.ref b), .val (.int (4 : Int32)), .val (.int (3 : Int32)), .val (.int v2)]) rfl k) ?_
      refine Go.by (g' := (mkF m 14 #[.val (.ref a1), .val (.long r), .second, .val (.ref b), .val (.int (4 : Int32)), .val (.int (3 : Int32)), .val (.int v2)] [])) (fun _ k => XS.goto X7.here hx rfl (pc0 := 42) (pc' := 14) rfl (hb hby d5_42) (by decide) (by decide) k) ?_
      exact t3 _ _ (One.val rfl) (by rw [upd_neg hv] at hr; exact hr)
    · refine Go.by (g' := (mkF m 32 #[.val (.ref a1), .val (.long r), .second, .val (.ref b), .val (.int (4 : Int32)), .val (.int (2 : Int32)), .val (.int v2)] [])) (fun _ k => XS.ifNo X7.here hx rfl (hb hby d5_29) rfl ((if0 _ _).trans (flt hv).1) k) ?_
      refine Go.by (g' := (mkF m 33 #[.val (.ref a1), .val (.long r), .second, .val (.ref b), .val (.int (4 : Int32)), .val (.int (2 : Int32)), .val (.int v2)] [(.long r)])) (fun _ k => XS.lloadN X7.here hx rfl (hb hby d5_32) rfl k) ?_
      refine Go.by (g' := (mkF m 34 #[.val (.ref a1), .val (.long r), .second, .val (.ref b), .val (.int (4 : Int32)), .val (.int (2 : Int32)), .val (.int v2)] [(.long (1 : Int64)), (.long r)])) (fun _ k => XS.lconst X7.here hx rfl (hb hby d5_33) k) ?_
      refine Go.by (g' := (mkF m 36 #[.val (.ref a1), .val (.long r), .second, .val (.ref b), .val (.int (4 : Int32)), .val (.int (2 : Int32)), .val (.int v2)] [(.int v2), (.long (1 : Int64)), (.long r)])) (fun _ k => XS.iload X7.here hx rfl (hb hby d5_34) rfl k) ?_
      refine Go.by (g' := (mkF m 37 #[.val (.ref a1), .val (.long r), .second, .val (.ref b), .val (.int (4 : Int32)), .val (.int (2 : Int32)), .val (.int v2)] [(.long ((1 : Int64) <<< (v2 &&& 0x3f).toInt64)), (.long r)])) (fun _ k => XS.lshl X7.here hx rfl (hb hby d5_36) rfl k) ?_
      refine Go.by (g' := (mkF m 38 #[.val (.ref a1), .val (.long r), .second, .val (.ref b), .val (.int (4 : Int32)), .val (.int (2 : Int32)), .val (.int v2)] [(.long (r ||| ((1 : Int64) <<< (v2 &&& 0x3f).toInt64)))])) (fun _ k => XS.lor X7.here hx rfl (hb hby d5_37) rfl k) ?_
      refine Go.by (g' := (mkF m 39 #[.val (.ref a1), .val (.long (r ||| ((1 : Int64) <<< (v2 &&& 0x3f).toInt64))), .second, .val (.ref b), .val (.int (4 : Int32)), .val (.int (2 : Int32)), .val (.int v2)] [])) (fun _ k => XS.lstoreN X7.here hx rfl (hb hby d5_38) rfl (l' := #[.val (.ref a1), .val (.long (r ||| ((1 : Int64) <<< (v2 &&& 0x3f).toInt64))), .second, .val (.ref b), .val (.int (4 : Int32)), .val (.int (2 : Int32)), .val (.int v2)]) rfl k) ?_
      refine Go.by (g' := (mkF m 42 #[.val (.ref a1), .val (.long (r ||| ((1 : Int64) <<< (v2 &&& 0x3f).toInt64))), .second, .val (.ref b), .val (.int (4 : Int32)), .val (.int (3 : Int32)), .val (.int v2)] [])) (fun _ k => XS.iinc X7.here hx rfl (hb hby d5_39) rfl (l' := #[.val (.ref a1), .val (.long (r ||| ((1 : Int64) <<< (v2 &&& 0x3f).toInt64))), .second, .val (.ref b), .val (.int (4 : Int32)), .val (.int (3 : Int32)), .val (.int v2)]) rfl k) ?_
      refine Go.by (g' := (mkF m 14 #[.val (.ref a1), .val (.long (r ||| ((1 : Int64) <<< (v2 &&& 0x3f).toInt64))), .second, .val (.ref b), .val (.int (4 : Int32)), .val (.int (3 : Int32)), .val (.int v2)] [])) (fun _ k => XS.goto X7.here hx rfl (pc0 := 42) (pc' := 14) rfl (hb hby d5_42) (by decide) (by decide) k) ?_
      exact t3 _ _ (One.val rfl) (by rw [upd_pos hv] at hr; exact hr)
  have t1 : ∀ (r : Int64) (s6 : Slot), One s6 → (upd (upd (upd r v1) v2) v3) = (upd (upd (upd (upd 0 v0) v1) v2) v3) → Go p e below (En s ({ frames := 0, cells := 0, slots := 0, locals := 0 } : Room).cells ({ frames := 0, cells := 0, slots := 0, locals := 0 } : Room).slots) (fun v h L => v = some (.long (upd (upd (upd (upd 0 v0) v1) v2) v3)) ∧ Fr n0 L ∧ h = h0) T7 (mkF m 14 #[.val (.ref a1), .val (.long r), .second, .val (.ref b), .val (.int (4 : Int32)), .val (.int (1 : Int32)), s6] []) := by
    intro r s6 hs6 hr
    refine Go.by (g' := (mkF m 16 #[.val (.ref a1), .val (.long r), .second, .val (.ref b), .val (.int (4 : Int32)), .val (.int (1 : Int32)), s6] [(.int (1 : Int32))])) (fun _ k => XS.iload X7.here hx rfl (hb hby d5_14) rfl k) ?_
    refine Go.by (g' := (mkF m 18 #[.val (.ref a1), .val (.long r), .second, .val (.ref b), .val (.int (4 : Int32)), .val (.int (1 : Int32)), s6] [(.int (4 : Int32)), (.int (1 : Int32))])) (fun _ k => XS.iload X7.here hx rfl (hb hby d5_16) rfl k) ?_
    refine Go.by (g' := (mkF m 21 #[.val (.ref a1), .val (.long r), .second, .val (.ref b), .val (.int (4 : Int32)), .val (.int (1 : Int32)), s6] [])) (fun _ k => XS.icmpNo X7.here hx rfl (hb hby d5_18) rfl (tlt (by decide)).2.1 k) ?_
    refine Go.by (g' := (mkF m 22 #[.val (.ref a1), .val (.long r), .second, .val (.ref b), .val (.int (4 : Int32)), .val (.int (1 : Int32)), s6] [(.ref b)])) (fun _ k => XS.aloadN X7.here hx rfl (hb hby d5_21) rfl rfl k) ?_
    refine Go.by (g' := (mkF m 24 #[.val (.ref a1), .val (.long r), .second, .val (.ref b), .val (.int (4 : Int32)), .val (.int (1 : Int32)), s6] [(.int (1 : Int32)), (.ref b)])) (fun _ k => XS.iload X7.here hx rfl (hb hby d5_22) rfl k) ?_
    refine Go.by (g' := (mkF m 25 #[.val (.ref a1), .val (.long r), .second, .val (.ref b), .val (.int (4 : Int32)), .val (.int (1 : Int32)), s6] [(.int v1)])) (ldIA X7 hx hZ e7 V (v := (.int v1)) (by decide) (by decide) rfl (g := (mkF m 24 #[.val (.ref a1), .val (.long r), .second, .val (.ref b), .val (.int (4 : Int32)), .val (.int (1 : Int32)), s6] [(.int (1 : Int32)), (.ref b)])) rfl rfl (hb hby d5_24)) ?_
    refine Go.by (g' := (mkF m 27 #[.val (.ref a1), .val (.long r), .second, .val (.ref b), .val (.int (4 : Int32)), .val (.int (1 : Int32)), .val (.int v1)] [])) (fun _ k => XS.istore X7.here hx rfl (hb hby d5_25) rfl (l' := #[.val (.ref a1), .val (.long r), .second, .val (.ref b), .val (.int (4 : Int32)), .val (.int (1 : Int32)), .val (.int v1)]) (os5_25 hs6) k) ?_
    refine Go.by (g' := (mkF m 29 #[.val (.ref a1), .val (.long r), .second, .val (.ref b), .val (.int (4 : Int32)), .val (.int (1 : Int32)), .val (.int v1)] [(.int v1)])) (fun _ k => XS.iload X7.here hx rfl (hb hby d5_27) rfl k) ?_
    by_cases hv : v1 < (0 : Int32)
    · refine Go.by (g' := (mkF m 39 #[.val (.ref a1), .val (.long r), .second, .val (.ref b), .val (.int (4 : Int32)), .val (.int (1 : Int32)), .val (.int v1)] [])) (fun _ k => XS.ifYes X7.here hx rfl (pc0 := 29) (pc' := 39) rfl (hb hby d5_29) rfl ((if0 _ _).trans (tlt hv).1) (by decide) (by decide) k) ?_
      refine Go.by (g' := (mkF m 42 #[.val (.ref a1), .val (.long r), .second, .val (.ref b), .val (.int (4 : Int32)), .val (.int (2 : Int32)), .val (.int v1)] [])) (fun _ k => XS.iinc X7.here hx rfl (hb hby d5_39) rfl (l' := #[.val (.ref a1), .val (.long r), .second, .val (.ref b), .val (.int (4 : Int32)), .val (.int (2 : Int32)), .val (.int v1)]) rfl k) ?_
      refine Go.by (g' := (mkF m 14 #[.val (.ref a1), .val (.long r), .second, .val (.ref b), .val (.int (4 : Int32)), .val (.int (2 : Int32)), .val (.int v1)] [])) (fun _ k => XS.goto X7.here hx rfl (pc0 := 42) (pc' := 14) rfl (hb hby d5_42) (by decide) (by decide) k) ?_
      exact t2 _ _ (One.val rfl) (by rw [upd_neg hv] at hr; exact hr)
    · refine Go.by (g' := (mkF m 32 #[.val (.ref a1), .val (.long r), .second, .val (.ref b), .val (.int (4 : Int32)), .val (.int (1 : Int32)), .val (.int v1)] [])) (fun _ k => XS.ifNo X7.here hx rfl (hb hby d5_29) rfl ((if0 _ _).trans (flt hv).1) k) ?_
      refine Go.by (g' := (mkF m 33 #[.val (.ref a1), .val (.long r), .second, .val (.ref b), .val (.int (4 : Int32)), .val (.int (1 : Int32)), .val (.int v1)] [(.long r)])) (fun _ k => XS.lloadN X7.here hx rfl (hb hby d5_32) rfl k) ?_
      refine Go.by (g' := (mkF m 34 #[.val (.ref a1), .val (.long r), .second, .val (.ref b), .val (.int (4 : Int32)), .val (.int (1 : Int32)), .val (.int v1)] [(.long (1 : Int64)), (.long r)])) (fun _ k => XS.lconst X7.here hx rfl (hb hby d5_33) k) ?_
      refine Go.by (g' := (mkF m 36 #[.val (.ref a1), .val (.long r), .second, .val (.ref b), .val (.int (4 : Int32)), .val (.int (1 : Int32)), .val (.int v1)] [(.int v1), (.long (1 : Int64)), (.long r)])) (fun _ k => XS.iload X7.here hx rfl (hb hby d5_34) rfl k) ?_
      refine Go.by (g' := (mkF m 37 #[.val (.ref a1), .val (.long r), .second, .val (.ref b), .val (.int (4 : Int32)), .val (.int (1 : Int32)), .val (.int v1)] [(.long ((1 : Int64) <<< (v1 &&& 0x3f).toInt64)), (.long r)])) (fun _ k => XS.lshl X7.here hx rfl (hb hby d5_36) rfl k) ?_
      refine Go.by (g' := (mkF m 38 #[.val (.ref a1), .val (.long r), .second, .val (.ref b), .val (.int (4 : Int32)), .val (.int (1 : Int32)), .val (.int v1)] [(.long (r ||| ((1 : Int64) <<< (v1 &&& 0x3f).toInt64)))])) (fun _ k => XS.lor X7.here hx rfl (hb hby d5_37) rfl k) ?_
      refine Go.by (g' := (mkF m 39 #[.val (.ref a1), .val (.long (r ||| ((1 : Int64) <<< (v1 &&& 0x3f).toInt64))), .second, .val (.ref b), .val (.int (4 : Int32)), .val (.int (1 : Int32)), .val (.int v1)] [])) (fun _ k => XS.lstoreN X7.here hx rfl (hb hby d5_38) rfl (l' := #[.val (.ref a1), .val (.long (r ||| ((1 : Int64) <<< (v1 &&& 0x3f).toInt64))), .second, .val (.ref b), .val (.int (4 : Int32)), .val (.int (1 : Int32)), .val (.int v1)]) rfl k) ?_
      refine Go.by (g' := (mkF m 42 #[.val (.ref a1), .val (.long (r ||| ((1 : Int64) <<< (v1 &&& 0x3f).toInt64))), .second, .val (.ref b), .val (.int (4 : Int32)), .val (.int (2 : Int32)), .val (.int v1)] [])) (fun _ k => XS.iinc X7.here hx rfl (hb hby d5_39) rfl (l' := #[.val (.ref a1), .val (.long (r ||| ((1 : Int64) <<< (v1 &&& 0x3f).toInt64))), .second, .val (.ref b), .val (.int (4 : Int32)), .val (.int (2 : Int32)), .val (.int v1)]) rfl k) ?_
      refine Go.by (g' := (mkF m 14 #[.val (.ref a1), .val (.long (r ||| ((1 : Int64) <<< (v1 &&& 0x3f).toInt64))), .second, .val (.ref b), .val (.int (4 : Int32)), .val (.int (2 : Int32)), .val (.int v1)] [])) (fun _ k => XS.goto X7.here hx rfl (pc0 := 42) (pc' := 14) rfl (hb hby d5_42) (by decide) (by decide) k) ?_
      exact t2 _ _ (One.val rfl) (by rw [upd_pos hv] at hr; exact hr)
  have t0 : ∀ (r : Int64) (s6 : Slot), One s6 → (upd (upd (upd (upd r v0) v1) v2) v3) = (upd (upd (upd (upd 0 v0) v1) v2) v3) → Go p e below (En s ({ frames := 0, cells := 0, slots := 0, locals := 0 } : Room).cells ({ frames := 0, cells := 0, slots := 0, locals := 0 } : Room).slots) (fun v h L => v = some (.long (upd (upd (upd (upd 0 v0) v1) v2) v3)) ∧ Fr n0 L ∧ h = h0) T7 (mkF m 14 #[.val (.ref a1), .val (.long r), .second, .val (.ref b), .val (.int (4 : Int32)), .val (.int (0 : Int32)), s6] []) := by
    intro r s6 hs6 hr
    refine Go.by (g' := (mkF m 16 #[.val (.ref a1), .val (.long r), .second, .val (.ref b), .val (.int (4 : Int32)), .val (.int (0 : Int32)), s6] [(.int (0 : Int32))])) (fun _ k => XS.iload X7.here hx rfl (hb hby d5_14) rfl k) ?_
    refine Go.by (g' := (mkF m 18 #[.val (.ref a1), .val (.long r), .second, .val (.ref b), .val (.int (4 : Int32)), .val (.int (0 : Int32)), s6] [(.int (4 : Int32)), (.int (0 : Int32))])) (fun _ k => XS.iload X7.here hx rfl (hb hby d5_16) rfl k) ?_
    refine Go.by (g' := (mkF m 21 #[.val (.ref a1), .val (.long r), .second, .val (.ref b), .val (.int (4 : Int32)), .val (.int (0 : Int32)), s6] [])) (fun _ k => XS.icmpNo X7.here hx rfl (hb hby d5_18) rfl (tlt (by decide)).2.1 k) ?_
    refine Go.by (g' := (mkF m 22 #[.val (.ref a1), .val (.long r), .second, .val (.ref b), .val (.int (4 : Int32)), .val (.int (0 : Int32)), s6] [(.ref b)])) (fun _ k => XS.aloadN X7.here hx rfl (hb hby d5_21) rfl rfl k) ?_
    refine Go.by (g' := (mkF m 24 #[.val (.ref a1), .val (.long r), .second, .val (.ref b), .val (.int (4 : Int32)), .val (.int (0 : Int32)), s6] [(.int (0 : Int32)), (.ref b)])) (fun _ k => XS.iload X7.here hx rfl (hb hby d5_22) rfl k) ?_
    refine Go.by (g' := (mkF m 25 #[.val (.ref a1), .val (.long r), .second, .val (.ref b), .val (.int (4 : Int32)), .val (.int (0 : Int32)), s6] [(.int v0)])) (ldIA X7 hx hZ e7 V (v := (.int v0)) (by decide) (by decide) rfl (g := (mkF m 24 #[.val (.ref a1), .val (.long r), .second, .val (.ref b), .val (.int (4 : Int32)), .val (.int (0 : Int32)), s6] [(.int (0 : Int32)), (.ref b)])) rfl rfl (hb hby d5_24)) ?_
    refine Go.by (g' := (mkF m 27 #[.val (.ref a1), .val (.long r), .second, .val (.ref b), .val (.int (4 : Int32)), .val (.int (0 : Int32)), .val (.int v0)] [])) (fun _ k => XS.istore X7.here hx rfl (hb hby d5_25) rfl (l' := #[.val (.ref a1), .val (.long r), .second, .val (.ref b), .val (.int (4 : Int32)), .val (.int (0 : Int32)), .val (.int v0)]) (os5_25 hs6) k) ?_
    refine Go.by (g' := (mkF m 29 #[.val (.ref a1), .val (.long r), .second, .val (.ref b), .val (.int (4 : Int32)), .val (.int (0 : Int32)), .val (.int v0)] [(.int v0)])) (fun _ k => XS.iload X7.here hx rfl (hb hby d5_27) rfl k) ?_
    by_cases hv : v0 < (0 : Int32)
    · refine Go.by (g' := (mkF m 39 #[.val (.ref a1), .val (.long r), .second, .val (.ref b), .val (.int (4 : Int32)), .val (.int (0 : Int32)), .val (.int v0)] [])) (fun _ k => XS.ifYes X7.here hx rfl (pc0 := 29) (pc' := 39) rfl (hb hby d5_29) rfl ((if0 _ _).trans (tlt hv).1) (by decide) (by decide) k) ?_
      refine Go.by (g' := (mkF m 42 #[.val (.ref a1), .val (.long r), .second, .val (.ref b), .val (.int (4 : Int32)), .val (.int (1 : Int32)), .val (.int v0)] [])) (fun _ k => XS.iinc X7.here hx rfl (hb hby d5_39) rfl (l' := #[.val (.ref a1), .val (.long r), .second, .val (.ref b), .val (.int (4 : Int32)), .val (.int (1 : Int32)), .val (.int v0)]) rfl k) ?_
      refine Go.by (g' := (mkF m 14 #[.val (.ref a1), .val (.long r), .second, .val (.ref b), .val (.int (4 : Int32)), .val (.int (1 : Int32)), .val (.int v0)] [])) (fun _ k => XS.goto X7.here hx rfl (pc0 := 42) (pc' := 14) rfl (hb hby d5_42) (by decide) (by decide) k) ?_
      exact t1 _ _ (One.val rfl) (by rw [upd_neg hv] at hr; exact hr)
    · refine Go.by (g' := (mkF m 32 #[.val (.ref a1), .val (.long r), .second, .val (.ref b), .val (.int (4 : Int32)), .val (.int (0 : Int32)), .val (.int v0)] [])) (fun _ k => XS.ifNo X7.here hx rfl (hb hby d5_29) rfl ((if0 _ _).trans (flt hv).1) k) ?_
      refine Go.by (g' := (mkF m 33 #[.val (.ref a1), .val (.long r), .second, .val (.ref b), .val (.int (4 : Int32)), .val (.int (0 : Int32)), .val (.int v0)] [(.long r)])) (fun _ k => XS.lloadN X7.here hx rfl (hb hby d5_32) rfl k) ?_
      refine Go.by (g' := (mkF m 34 #[.val (.ref a1), .val (.long r), .second, .val (.ref b), .val (.int (4 : Int32)), .val (.int (0 : Int32)), .val (.int v0)] [(.long (1 : Int64)), (.long r)])) (fun _ k => XS.lconst X7.here hx rfl (hb hby d5_33) k) ?_
      refine Go.by (g' := (mkF m 36 #[.val (.ref a1), .val (.long r), .second, .val (.ref b), .val (.int (4 : Int32)), .val (.int (0 : Int32)), .val (.int v0)] [(.int v0), (.long (1 : Int64)), (.long r)])) (fun _ k => XS.iload X7.here hx rfl (hb hby d5_34) rfl k) ?_
      refine Go.by (g' := (mkF m 37 #[.val (.ref a1), .val (.long r), .second, .val (.ref b), .val (.int (4 : Int32)), .val (.int (0 : Int32)), .val (.int v0)] [(.long ((1 : Int64) <<< (v0 &&& 0x3f).toInt64)), (.long r)])) (fun _ k => XS.lshl X7.here hx rfl (hb hby d5_36) rfl k) ?_
      refine Go.by (g' := (mkF m 38 #[.val (.ref a1), .val (.long r), .second, .val (.ref b), .val (.int (4 : Int32)), .val (.int (0 : Int32)), .val (.int v0)] [(.long (r ||| ((1 : Int64) <<< (v0 &&& 0x3f).toInt64)))])) (fun _ k => XS.lor X7.here hx rfl (hb hby d5_37) rfl k) ?_
      refine Go.by (g' := (mkF m 39 #[.val (.ref a1), .val (.long (r ||| ((1 : Int64) <<< (v0 &&& 0x3f).toInt64))), .second, .val (.ref b), .val (.int (4 : Int32)), .val (.int (0 : Int32)), .val (.int v0)] [])) (fun _ k => XS.lstoreN X7.here hx rfl (hb hby d5_38) rfl (l' := #[.val (.ref a1), .val (.long (r ||| ((1 : Int64) <<< (v0 &&& 0x3f).toInt64))), .second, .val (.ref b), .val (.int (4 : Int32)), .val (.int (0 : Int32)), .val (.int v0)]) rfl k) ?_
      refine Go.by (g' := (mkF m 42 #[.val (.ref a1), .val (.long (r ||| ((1 : Int64) <<< (v0 &&& 0x3f).toInt64))), .second, .val (.ref b), .val (.int (4 : Int32)), .val (.int (1 : Int32)), .val (.int v0)] [])) (fun _ k => XS.iinc X7.here hx rfl (hb hby d5_39) rfl (l' := #[.val (.ref a1), .val (.long (r ||| ((1 : Int64) <<< (v0 &&& 0x3f).toInt64))), .second, .val (.ref b), .val (.int (4 : Int32)), .val (.int (1 : Int32)), .val (.int v0)]) rfl k) ?_
      refine Go.by (g' := (mkF m 14 #[.val (.ref a1), .val (.long (r ||| ((1 : Int64) <<< (v0 &&& 0x3f).toInt64))), .second, .val (.ref b), .val (.int (4 : Int32)), .val (.int (1 : Int32)), .val (.int v0)] [])) (fun _ k => XS.goto X7.here hx rfl (pc0 := 42) (pc' := 14) rfl (hb hby d5_42) (by decide) (by decide) k) ?_
      exact t1 _ _ (One.val rfl) (by rw [upd_pos hv] at hr; exact hr)
  exact t0 _ _ One.u rfl
theorem ef_0 (p1 : Int32) (p2 : Int32) (p3 : Int32) (p4 : Int32) (p5 : Int32) (m : MethodId) : entryFrame m #[(.int p1), (.int p2), (.int p3), (.int p4), (.int p5)] maxLocals = mkF m 0 #[.val (.int p1), .val (.int p2), .val (.int p3), .val (.int p4), .val (.int p5), .unset, .unset, .unset, .unset] [] := by first | (simp [entryFrame, mkF, argsToLocals, Value.category, maxLocals]; done) | rfl
set_option maxRecDepth 65536 in
set_option maxHeartbeats 40000000 in
theorem rm0 (l : Launch) (Z : State) (a0 : Array Value) (hw : ∀ d ∈ tables_1, d.before a0 Z = true) (p1 : Int32) (p2 : Int32) (p3 : Int32) (p4 : Int32) (p5 : Int32) (h0 : Heap) (n0 : Nat) (Z0 : n0 ≤ h0.size)   :
    Ctr l Z x code maxLocals ret room_1 #[(.int p1), (.int p2), (.int p3), (.int p4), (.int p5)] h0 (fun v h L => v = some (.int 1) ∧ Fr n0 L) := by
  refine Ctr.of pf_0 (ef_0 p1 p2 p3 p4 p5) ?_
  intro p e s m below meth c T0 hx hby hml hret hlk hnm hZ hown e0 X0
  refine Go.by (g' := (mkF m 1 #[.val (.int p1), .val (.int p2), .val (.int p3), .val (.int p4), .val (.int p5), .unset, .unset, .unset, .unset] [(.int (4 : Int32))])) (fun _ k => XS.iconst X0.here hx rfl (hb hby at_0) k) ?_
  obtain ⟨T8, h8, k8, X8, e8, E8, A8, st8⟩ := newP X0 hx hZ (hw _ (List.mem_of_getElem? (i := 0) rfl)) e0 (g := (mkF m 1 #[.val (.int p1), .val (.int p2), .val (.int p3), .val (.int p4), .val (.int p5), .unset, .unset, .unset, .unset] [(.int (4 : Int32))])) rfl (hb hby at_1) rfl (by decide) (cap := 4) (by decide) (by decide) (by decide) (by decide)
  obtain ⟨b1, g8⟩ : ∃ z, z = h0.size := ⟨_, rfl⟩
  rw [← g8] at A8 st8
  have ge_b1 : n0 ≤ b1 := Nat.le_trans Z0 (Nat.le_of_eq g8.symm)
  have Z8 : n0 ≤ h8.size := Nat.le_trans Z0 E8.1
  refine Go.by (g' := (mkF m 3 #[.val (.int p1), .val (.int p2), .val (.int p3), .val (.int p4), .val (.int p5), .unset, .unset, .unset, .unset] [(.ref b1)])) st8 ?_
  have V0 : Arv Z h8 b1 k8 .int 4 [.int 0, .int 0, .int 0, .int 0] (.int 0) := (Arv.new A8 (by decide)).pad (pad_rep [] _ 4)
  refine Go.by (g' := (mkF m 5 #[.val (.int p1), .val (.int p2), .val (.int p3), .val (.int p4), .val (.int p5), .val (.ref b1), .unset, .unset, .unset] [])) (fun _ k => XS.astore X8.here hx rfl (hb hby at_3) rfl rfl (l' := #[.val (.int p1), .val (.int p2), .val (.int p3), .val (.int p4), .val (.int p5), .val (.ref b1), .unset, .unset, .unset]) rfl k) ?_
  refine Go.by (g' := (mkF m 7 #[.val (.int p1), .val (.int p2), .val (.int p3), .val (.int p4), .val (.int p5), .val (.ref b1), .unset, .unset, .unset] [(.ref b1)])) (fun _ k => XS.aload X8.here hx rfl (hb hby at_5) rfl rfl k) ?_
  refine Go.by (g' := (mkF m 8 #[.val (.int p1), .val (.int p2), .val (.int p3), .val (.int p4), .val (.int p5), .val (.ref b1), .unset, .unset, .unset] [(.int (0 : Int32)), (.ref b1)])) (fun _ k => XS.iconst X8.here hx rfl (hb hby at_7) k) ?_
  refine Go.by (g' := (mkF m 9 #[.val (.int p1), .val (.int p2), .val (.int p3), .val (.int p4), .val (.int p5), .val (.ref b1), .unset, .unset, .unset] [(.int p1), (.int (0 : Int32)), (.ref b1)])) (fun _ k => XS.iloadN X8.here hx rfl (hb hby at_8) rfl k) ?_
  refine Go.callS X8 hx hZ (y := (⟨"com/example/sorrel/sorrel/middle/alloc/PlacementRegistersPinLaw", "place", "(I)I"⟩ : MethodName)) hown (hw _ (List.mem_of_getElem? (i := 1) rfl)) (hw _ (List.mem_of_getElem? (i := 2) rfl)) (hw _ (List.mem_of_getElem? (i := 3) rfl)) (hw _ (List.mem_of_getElem? (i := 4) rfl)) (by decide) (W := 2) (argsL := [(.int p1)]) (rest := [(.int (0 : Int32)), (.ref b1)]) (rm1 l Z a0 hw p1 h8 n0) (by decide) (by decide) (by decide) (by decide) (g := (mkF m 9 #[.val (.int p1), .val (.int p2), .val (.int p3), .val (.int p4), .val (.int p5), .val (.ref b1), .unset, .unset, .unset] [(.int p1), (.int (0 : Int32)), (.ref b1)])) rfl (by rw [hml]; rfl) (lenOf pd_1 rfl) rfl (by show 2 * 0 + _ ≤ _; exact Nat.le_of_eq rfl) (hb hby at_9) e8 ?_
  rintro T9 L9 _ X9 ⟨rfl, N9, q9⟩
  have M9 := Fr.app (Fr.nil n0) N9
  show Go p e below _ _ T9 (mkF m 12 #[.val (.int p1), .val (.int p2), .val (.int p3), .val (.int p4), .val (.int p5), .val (.ref b1), .unset, .unset, .unset] [(.int (placeV p1)), (.int (0 : Int32)), (.ref b1)])
  obtain ⟨T10, h10, X10, e10, W10, V10, st10⟩ := stIA X9 hx hZ q9 V0 0 rfl (by decide) (by decide) (by simp) (g := (mkF m 12 #[.val (.int p1), .val (.int p2), .val (.int p3), .val (.int p4), .val (.int p5), .val (.ref b1), .unset, .unset, .unset] [(.int (placeV p1)), (.int (0 : Int32)), (.ref b1)])) rfl rfl (hb hby at_12)
  have Z10 : n0 ≤ h10.size := Nat.le_trans Z8 (Nat.le_of_eq W10.size.symm)
  have M10 := Fr.snoc X10 M9 ge_b1
  refine Go.by (g' := (mkF m 13 #[.val (.int p1), .val (.int p2), .val (.int p3), .val (.int p4), .val (.int p5), .val (.ref b1), .unset, .unset, .unset] [])) st10 ?_
  have U10 : Arv Z h10 b1 k8 .int 4 [.int (placeV p1), .int (0 : Int32), .int (0 : Int32), .int (0 : Int32)] (.int 0) := V10
  refine Go.by (g' := (mkF m 15 #[.val (.int p1), .val (.int p2), .val (.int p3), .val (.int p4), .val (.int p5), .val (.ref b1), .unset, .unset, .unset] [(.ref b1)])) (fun _ k => XS.aload X10.here hx rfl (hb hby at_13) rfl rfl k) ?_
  refine Go.by (g' := (mkF m 16 #[.val (.int p1), .val (.int p2), .val (.int p3), .val (.int p4), .val (.int p5), .val (.ref b1), .unset, .unset, .unset] [(.int (1 : Int32)), (.ref b1)])) (fun _ k => XS.iconst X10.here hx rfl (hb hby at_15) k) ?_
  refine Go.by (g' := (mkF m 17 #[.val (.int p1), .val (.int p2), .val (.int p3), .val (.int p4), .val (.int p5), .val (.ref b1), .unset, .unset, .unset] [(.int p2), (.int (1 : Int32)), (.ref b1)])) (fun _ k => XS.iloadN X10.here hx rfl (hb hby at_16) rfl k) ?_
  refine Go.callS X10 hx hZ (y := (⟨"com/example/sorrel/sorrel/middle/alloc/PlacementRegistersPinLaw", "place", "(I)I"⟩ : MethodName)) hown (hw _ (List.mem_of_getElem? (i := 1) rfl)) (hw _ (List.mem_of_getElem? (i := 2) rfl)) (hw _ (List.mem_of_getElem? (i := 3) rfl)) (hw _ (List.mem_of_getElem? (i := 4) rfl)) (by decide) (W := 2) (argsL := [(.int p2)]) (rest := [(.int (1 : Int32)), (.ref b1)]) (rm1 l Z a0 hw p2 h10 n0) (by decide) (by decide) (by decide) (by decide) (g := (mkF m 17 #[.val (.int p1), .val (.int p2), .val (.int p3), .val (.int p4), .val (.int p5), .val (.ref b1), .unset, .unset, .unset] [(.int p2), (.int (1 : Int32)), (.ref b1)])) rfl (by rw [hml]; rfl) (lenOf pd_1 rfl) rfl (by show 2 * 0 + _ ≤ _; exact Nat.le_of_eq rfl) (hb hby at_17) e10 ?_
  rintro T11 L11 _ X11 ⟨rfl, N11, q11⟩
  have M11 := Fr.app M10 N11
  show Go p e below _ _ T11 (mkF m 20 #[.val (.int p1), .val (.int p2), .val (.int p3), .val (.int p4), .val (.int p5), .val (.ref b1), .unset, .unset, .unset] [(.int (placeV p2)), (.int (1 : Int32)), (.ref b1)])
  obtain ⟨T12, h12, X12, e12, W12, V12, st12⟩ := stIA X11 hx hZ q11 U10 1 rfl (by decide) (by decide) (by simp) (g := (mkF m 20 #[.val (.int p1), .val (.int p2), .val (.int p3), .val (.int p4), .val (.int p5), .val (.ref b1), .unset, .unset, .unset] [(.int (placeV p2)), (.int (1 : Int32)), (.ref b1)])) rfl rfl (hb hby at_20)
  have Z12 : n0 ≤ h12.size := Nat.le_trans Z10 (Nat.le_of_eq W12.size.symm)
  have M12 := Fr.snoc X12 M11 ge_b1
  refine Go.by (g' := (mkF m 21 #[.val (.int p1), .val (.int p2), .val (.int p3), .val (.int p4), .val (.int p5), .val (.ref b1), .unset, .unset, .unset] [])) st12 ?_
  have U12 : Arv Z h12 b1 k8 .int 4 [.int (placeV p1), .int (placeV p2), .int (0 : Int32), .int (0 : Int32)] (.int 0) := V12
  refine Go.by (g' := (mkF m 23 #[.val (.int p1), .val (.int p2), .val (.int p3), .val (.int p4), .val (.int p5), .val (.ref b1), .unset, .unset, .unset] [(.ref b1)])) (fun _ k => XS.aload X12.here hx rfl (hb hby at_21) rfl rfl k) ?_
  refine Go.by (g' := (mkF m 24 #[.val (.int p1), .val (.int p2), .val (.int p3), .val (.int p4), .val (.int p5), .val (.ref b1), .unset, .unset, .unset] [(.int (2 : Int32)), (.ref b1)])) (fun _ k => XS.iconst X12.here hx rfl (hb hby at_23) k) ?_
  refine Go.by (g' := (mkF m 25 #[.val (.int p1), .val (.int p2), .val (.int p3), .val (.int p4), .val (.int p5), .val (.ref b1), .unset, .unset, .unset] [(.int p3), (.int (2 : Int32)), (.ref b1)])) (fun _ k => XS.iloadN X12.here hx rfl (hb hby at_24) rfl k) ?_
  refine Go.callS X12 hx hZ (y := (⟨"com/example/sorrel/sorrel/middle/alloc/PlacementRegistersPinLaw", "place", "(I)I"⟩ : MethodName)) hown (hw _ (List.mem_of_getElem? (i := 1) rfl)) (hw _ (List.mem_of_getElem? (i := 2) rfl)) (hw _ (List.mem_of_getElem? (i := 3) rfl)) (hw _ (List.mem_of_getElem? (i := 4) rfl)) (by decide) (W := 2) (argsL := [(.int p3)]) (rest := [(.int (2 : Int32)), (.ref b1)]) (rm1 l Z a0 hw p3 h12 n0) (by decide) (by decide) (by decide) (by decide) (g := (mkF m 25 #[.val (.int p1), .val (.int p2), .val (.int p3), .val (.int p4), .val (.int p5), .val (.ref b1), .unset, .unset, .unset] [(.int p3), (.int (2 : Int32)), (.ref b1)])) rfl (by rw [hml]; rfl) (lenOf pd_1 rfl) rfl (by show 2 * 0 + _ ≤ _; exact Nat.le_of_eq rfl) (hb hby at_25) e12 ?_
  rintro T13 L13 _ X13 ⟨rfl, N13, q13⟩
  have M13 := Fr.app M12 N13
  show Go p e below _ _ T13 (mkF m 28 #[.val (.int p1), .val (.int p2), .val (.int p3), .val (.int p4), .val (.int p5), .val (.ref b1), .unset, .unset, .unset] [(.int (placeV p3)), (.int (2 : Int32)), (.ref b1)])
  obtain ⟨T14, h14, X14, e14, W14, V14, st14⟩ := stIA X13 hx hZ q13 U12 2 rfl (by decide) (by decide) (by simp) (g := (mkF m 28 #[.val (.int p1), .val (.int p2), .val (.int p3), .val (.int p4), .val (.int p5), .val (.ref b1), .unset, .unset, .unset] [(.int (placeV p3)), (.int (2 : Int32)), (.ref b1)])) rfl rfl (hb hby at_28)
  have Z14 : n0 ≤ h14.size := Nat.le_trans Z12 (Nat.le_of_eq W14.size.symm)
  have M14 := Fr.snoc X14 M13 ge_b1
  refine Go.by (g' := (mkF m 29 #[.val (.int p1), .val (.int p2), .val (.int p3), .val (.int p4), .val (.int p5), .val (.ref b1), .unset, .unset, .unset] [])) st14 ?_
  have U14 : Arv Z h14 b1 k8 .int 4 [.int (placeV p1), .int (placeV p2), .int (placeV p3), .int (0 : Int32)] (.int 0) := V14
  refine Go.by (g' := (mkF m 31 #[.val (.int p1), .val (.int p2), .val (.int p3), .val (.int p4), .val (.int p5), .val (.ref b1), .unset, .unset, .unset] [(.ref b1)])) (fun _ k => XS.aload X14.here hx rfl (hb hby at_29) rfl rfl k) ?_
  refine Go.by (g' := (mkF m 32 #[.val (.int p1), .val (.int p2), .val (.int p3), .val (.int p4), .val (.int p5), .val (.ref b1), .unset, .unset, .unset] [(.int (3 : Int32)), (.ref b1)])) (fun _ k => XS.iconst X14.here hx rfl (hb hby at_31) k) ?_
  refine Go.by (g' := (mkF m 33 #[.val (.int p1), .val (.int p2), .val (.int p3), .val (.int p4), .val (.int p5), .val (.ref b1), .unset, .unset, .unset] [(.int p4), (.int (3 : Int32)), (.ref b1)])) (fun _ k => XS.iloadN X14.here hx rfl (hb hby at_32) rfl k) ?_
  refine Go.callS X14 hx hZ (y := (⟨"com/example/sorrel/sorrel/middle/alloc/PlacementRegistersPinLaw", "place", "(I)I"⟩ : MethodName)) hown (hw _ (List.mem_of_getElem? (i := 1) rfl)) (hw _ (List.mem_of_getElem? (i := 2) rfl)) (hw _ (List.mem_of_getElem? (i := 3) rfl)) (hw _ (List.mem_of_getElem? (i := 4) rfl)) (by decide) (W := 2) (argsL := [(.int p4)]) (rest := [(.int (3 : Int32)), (.ref b1)]) (rm1 l Z a0 hw p4 h14 n0) (by decide) (by decide) (by decide) (by decide) (g := (mkF m 33 #[.val (.int p1), .val (.int p2), .val (.int p3), .val (.int p4), .val (.int p5), .val (.ref b1), .unset, .unset, .unset] [(.int p4), (.int (3 : Int32)), (.ref b1)])) rfl (by rw [hml]; rfl) (lenOf pd_1 rfl) rfl (by show 2 * 0 + _ ≤ _; exact Nat.le_of_eq rfl) (hb hby at_33) e14 ?_
  rintro T15 L15 _ X15 ⟨rfl, N15, q15⟩
  have M15 := Fr.app M14 N15
  show Go p e below _ _ T15 (mkF m 36 #[.val (.int p1), .val (.int p2), .val (.int p3), .val (.int p4), .val (.int p5), .val (.ref b1), .unset, .unset, .unset] [(.int (placeV p4)), (.int (3 : Int32)), (.ref b1)])
  obtain ⟨T16, h16, X16, e16, W16, V16, st16⟩ := stIA X15 hx hZ q15 U14 3 rfl (by decide) (by decide) (by simp) (g := (mkF m 36 #[.val (.int p1), .val (.int p2), .val (.int p3), .val (.int p4), .val (.int p5), .val (.ref b1), .unset, .unset, .unset] [(.int (placeV p4)), (.int (3 : Int32)), (.ref b1)])) rfl rfl (hb hby at_36)
  have Z16 : n0 ≤ h16.size := Nat.le_trans Z14 (Nat.le_of_eq W16.size.symm)
  have M16 := Fr.snoc X16 M15 ge_b1
  refine Go.by (g' := (mkF m 37 #[.val (.int p1), .val (.int p2), .val (.int p3), .val (.int p4), .val (.int p5), .val (.ref b1), .unset, .unset, .unset] [])) st16 ?_
  have U16 : Arv Z h16 b1 k8 .int 4 [.int (placeV p1), .int (placeV p2), .int (placeV p3), .int (placeV p4)] (.int 0) := V16
  obtain ⟨T17, h17, X17, e17, E17, A17, D17, -, st17⟩ := newO X16 hx hZ hown (hw _ (List.mem_of_getElem? (i := 6) rfl)) (hw _ (List.mem_of_getElem? (i := 7) rfl)) (hw _ (List.mem_of_getElem? (i := 8) rfl)) e16 (g := (mkF m 37 #[.val (.int p1), .val (.int p2), .val (.int p3), .val (.int p4), .val (.int p5), .val (.ref b1), .unset, .unset, .unset] [])) rfl (hb hby at_37) (by decide) (by decide)
  obtain ⟨b2, g17⟩ : ∃ z, z = h16.size := ⟨_, rfl⟩
  rw [← g17] at A17 D17 st17
  have ne_b1_b2 : b1 ≠ b2 := Nat.ne_of_lt (by rw [g17]; exact U16.lt)
  have ge_b2 : n0 ≤ b2 := Nat.le_trans Z16 (Nat.le_of_eq g17.symm)
  have Z17 : n0 ≤ h17.size := Nat.le_trans Z16 E17.1
  refine Go.by (g' := (mkF m 40 #[.val (.int p1), .val (.int p2), .val (.int p3), .val (.int p4), .val (.int p5), .val (.ref b1), .unset, .unset, .unset] [(.ref b2)])) st17 ?_
  have Fp : Fld Z h17 b2 "com/example/sorrel/sorrel/middle/alloc/Placement" "places" "[I" .null := (D17 (Or.inr (hw _ (List.mem_of_getElem? (i := 16) rfl))) (ty := (.array .int)) (by decide))
  have Fs : Fld Z h17 b2 "com/example/sorrel/sorrel/middle/alloc/Placement" "slots" "I" (.int 0) := (D17 (Or.inr (hw _ (List.mem_of_getElem? (i := 18) rfl))) (ty := .int) (by decide))
  refine Go.by (g' := (mkF m 41 #[.val (.int p1), .val (.int p2), .val (.int p3), .val (.int p4), .val (.int p5), .val (.ref b1), .unset, .unset, .unset] [(.ref b2), (.ref b2)])) (fun _ k => XS.dup X17.here hx rfl (hb hby at_40) rfl rfl k) ?_
  refine Go.by (g' := (mkF m 43 #[.val (.int p1), .val (.int p2), .val (.int p3), .val (.int p4), .val (.int p5), .val (.ref b1), .unset, .unset, .unset] [(.ref b1), (.ref b2), (.ref b2)])) (fun _ k => XS.aload X17.here hx rfl (hb hby at_41) rfl rfl k) ?_
  refine Go.by (g' := (mkF m 45 #[.val (.int p1), .val (.int p2), .val (.int p3), .val (.int p4), .val (.int p5), .val (.ref b1), .unset, .unset, .unset] [(.int p5), (.ref b1), (.ref b2), (.ref b2)])) (fun _ k => XS.iload X17.here hx rfl (hb hby at_43) rfl k) ?_
  refine Go.callI X17 hx hZ (y := (⟨"com/example/sorrel/sorrel/middle/alloc/Placement", "<init>", "([II)V"⟩ : MethodName)) rfl hown (hw _ (List.mem_of_getElem? (i := 9) rfl)) (hw _ (List.mem_of_getElem? (i := 10) rfl)) (hw _ (List.mem_of_getElem? (i := 8) rfl)) (hw _ (List.mem_of_getElem? (i := 11) rfl)) (by decide) (W := 1) (a := b2) (argsL := [(.ref b1), (.int p5)]) (rest := [(.ref b2)]) (rm2 l Z a0 hw b2 b1 p5 h17 n0 .null (.int 0) A17 Fp Fs ge_b2) (by decide) (by decide) (by decide) (by decide) (g := (mkF m 45 #[.val (.int p1), .val (.int p2), .val (.int p3), .val (.int p4), .val (.int p5), .val (.ref b1), .unset, .unset, .unset] [(.int p5), (.ref b1), (.ref b2), (.ref b2)])) rfl (by rw [hml]; rfl) (lenOf pd_2 rfl) rfl (by show 2 * 0 + _ ≤ _; exact Nat.le_of_eq rfl) (hb hby at_45) e17 ?_
  rintro T18 L18 _ X18 ⟨rfl, N18, K18, Fp18⟩
  have M18 := Fr.app M16 N18
  have Z18 : n0 ≤ T18.heap.size := Nat.le_trans Z17 K18.1
  show Go p e below _ _ T18 (mkF m 48 #[.val (.int p1), .val (.int p2), .val (.int p3), .val (.int p4), .val (.int p5), .val (.ref b1), .unset, .unset, .unset] [(.ref b2)])
  refine Go.by (g' := (mkF m 50 #[.val (.int p1), .val (.int p2), .val (.int p3), .val (.int p4), .val (.int p5), .val (.ref b1), .val (.ref b2), .unset, .unset] [])) (fun _ k => XS.astore X18.here hx rfl (hb hby at_48) rfl rfl (l' := #[.val (.int p1), .val (.int p2), .val (.int p3), .val (.int p4), .val (.int p5), .val (.ref b1), .val (.ref b2), .unset, .unset]) rfl k) ?_
  refine Go.by (g' := (mkF m 51 #[.val (.int p1), .val (.int p2), .val (.int p3), .val (.int p4), .val (.int p5), .val (.ref b1), .val (.ref b2), .unset, .unset] [(.int p1)])) (fun _ k => XS.iloadN X18.here hx rfl (hb hby at_50) rfl k) ?_
  refine Go.callS X18 hx hZ (y := (⟨"com/example/sorrel/sorrel/middle/alloc/PlacementRegistersPinLaw", "bit", "(I)J"⟩ : MethodName)) hown (hw _ (List.mem_of_getElem? (i := 19) rfl)) (hw _ (List.mem_of_getElem? (i := 20) rfl)) (hw _ (List.mem_of_getElem? (i := 3) rfl)) (hw _ (List.mem_of_getElem? (i := 21) rfl)) (by decide) (W := 0) (argsL := [(.int p1)]) (rest := []) (rm4 l Z a0 hw p1 T18.heap n0) (by decide) (by decide) (by decide) (by decide) (g := (mkF m 51 #[.val (.int p1), .val (.int p2), .val (.int p3), .val (.int p4), .val (.int p5), .val (.ref b1), .val (.ref b2), .unset, .unset] [(.int p1)])) rfl (by rw [hml]; rfl) (lenOf pd_4 rfl) rfl (by show 2 * 0 + _ ≤ _; exact Nat.le_of_eq rfl) (hb hby at_51) rfl ?_
  rintro T19 L19 _ X19 ⟨rfl, N19, q19⟩
  have M19 := Fr.app M18 N19
  show Go p e below _ _ T19 (mkF m 54 #[.val (.int p1), .val (.int p2), .val (.int p3), .val (.int p4), .val (.int p5), .val (.ref b1), .val (.ref b2), .unset, .unset] [(.long (bitV p1))])
  refine Go.by (g' := (mkF m 55 #[.val (.int p1), .val (.int p2), .val (.int p3), .val (.int p4), .val (.int p5), .val (.ref b1), .val (.ref b2), .unset, .unset] [(.int p2), (.long (bitV p1))])) (fun _ k => XS.iloadN X19.here hx rfl (hb hby at_54) rfl k) ?_
  refine Go.callS X19 hx hZ (y := (⟨"com/example/sorrel/sorrel/middle/alloc/PlacementRegistersPinLaw", "bit", "(I)J"⟩ : MethodName)) hown (hw _ (List.mem_of_getElem? (i := 19) rfl)) (hw _ (List.mem_of_getElem? (i := 20) rfl)) (hw _ (List.mem_of_getElem? (i := 3) rfl)) (hw _ (List.mem_of_getElem? (i := 21) rfl)) (by decide) (W := 2) (argsL := [(.int p2)]) (rest := [(.long (bitV p1))]) (rm4 l Z a0 hw p2 T18.heap n0) (by decide) (by decide) (by decide) (by decide) (g := (mkF m 55 #[.val (.int p1), .val (.int p2), .val (.int p3), .val (.int p4), .val (.int p5), .val (.ref b1), .val (.ref b2), .unset, .unset] [(.int p2), (.long (bitV p1))])) rfl (by rw [hml]; rfl) (lenOf pd_4 rfl) rfl (by show 2 * 0 + _ ≤ _; exact Nat.le_of_eq rfl) (hb hby at_55) q19 ?_
  rintro T20 L20 _ X20 ⟨rfl, N20, q20⟩
  have M20 := Fr.app M19 N20
  show Go p e below _ _ T20 (mkF m 58 #[.val (.int p1), .val (.int p2), .val (.int p3), .val (.int p4), .val (.int p5), .val (.ref b1), .val (.ref b2), .unset, .unset] [(.long (bitV p2)), (.long (bitV p1))])
  refine Go.by (g' := (mkF m 59 #[.val (.int p1), .val (.int p2), .val (.int p3), .val (.int p4), .val (.int p5), .val (.ref b1), .val (.ref b2), .unset, .unset] [(.long ((bitV p1) ||| (bitV p2)))])) (fun _ k => XS.lor X20.here hx rfl (hb hby at_58) rfl k) ?_
  refine Go.by (g' := (mkF m 60 #[.val (.int p1), .val (.int p2), .val (.int p3), .val (.int p4), .val (.int p5), .val (.ref b1), .val (.ref b2), .unset, .unset] [(.int p3), (.long ((bitV p1) ||| (bitV p2)))])) (fun _ k => XS.iloadN X20.here hx rfl (hb hby at_59) rfl k) ?_
  refine Go.callS X20 hx hZ (y := (⟨"com/example/sorrel/sorrel/middle/alloc/PlacementRegistersPinLaw", "bit", "(I)J"⟩ : MethodName)) hown (hw _ (List.mem_of_getElem? (i := 19) rfl)) (hw _ (List.mem_of_getElem? (i := 20) rfl)) (hw _ (List.mem_of_getElem? (i := 3) rfl)) (hw _ (List.mem_of_getElem? (i := 21) rfl)) (by decide) (W := 2) (argsL := [(.int p3)]) (rest := [(.long ((bitV p1) ||| (bitV p2)))]) (rm4 l Z a0 hw p3 T18.heap n0) (by decide) (by decide) (by decide) (by decide) (g := (mkF m 60 #[.val (.int p1), .val (.int p2), .val (.int p3), .val (.int p4), .val (.int p5), .val (.ref b1), .val (.ref b2), .unset, .unset] [(.int p3), (.long ((bitV p1) ||| (bitV p2)))])) rfl (by rw [hml]; rfl) (lenOf pd_4 rfl) rfl (by show 2 * 0 + _ ≤ _; exact Nat.le_of_eq rfl) (hb hby at_60) q20 ?_
  rintro T21 L21 _ X21 ⟨rfl, N21, q21⟩
  have M21 := Fr.app M20 N21
  show Go p e below _ _ T21 (mkF m 63 #[.val (.int p1), .val (.int p2), .val (.int p3), .val (.int p4), .val (.int p5), .val (.ref b1), .val (.ref b2), .unset, .unset] [(.long (bitV p3)), (.long ((bitV p1) ||| (bitV p2)))])
  refine Go.by (g' := (mkF m 64 #[.val (.int p1), .val (.int p2), .val (.int p3), .val (.int p4), .val (.int p5), .val (.ref b1), .val (.ref b2), .unset, .unset] [(.long (((bitV p1) ||| (bitV p2)) ||| (bitV p3)))])) (fun _ k => XS.lor X21.here hx rfl (hb hby at_63) rfl k) ?_
  refine Go.by (g' := (mkF m 65 #[.val (.int p1), .val (.int p2), .val (.int p3), .val (.int p4), .val (.int p5), .val (.ref b1), .val (.ref b2), .unset, .unset] [(.int p4), (.long (((bitV p1) ||| (bitV p2)) ||| (bitV p3)))])) (fun _ k => XS.iloadN X21.here hx rfl (hb hby at_64) rfl k) ?_
  refine Go.callS X21 hx hZ (y := (⟨"com/example/sorrel/sorrel/middle/alloc/PlacementRegistersPinLaw", "bit", "(I)J"⟩ : MethodName)) hown (hw _ (List.mem_of_getElem? (i := 19) rfl)) (hw _ (List.mem_of_getElem? (i := 20) rfl)) (hw _ (List.mem_of_getElem? (i := 3) rfl)) (hw _ (List.mem_of_getElem? (i := 21) rfl)) (by decide) (W := 2) (argsL := [(.int p4)]) (rest := [(.long (((bitV p1) ||| (bitV p2)) ||| (bitV p3)))]) (rm4 l Z a0 hw p4 T18.heap n0) (by decide) (by decide) (by decide) (by decide) (g := (mkF m 65 #[.val (.int p1), .val (.int p2), .val (.int p3), .val (.int p4), .val (.int p5), .val (.ref b1), .val (.ref b2), .unset, .unset] [(.int p4), (.long (((bitV p1) ||| (bitV p2)) ||| (bitV p3)))])) rfl (by rw [hml]; rfl) (lenOf pd_4 rfl) rfl (by show 2 * 0 + _ ≤ _; exact Nat.le_of_eq rfl) (hb hby at_65) q21 ?_
  rintro T22 L22 _ X22 ⟨rfl, N22, q22⟩
  have M22 := Fr.app M21 N22
  show Go p e below _ _ T22 (mkF m 68 #[.val (.int p1), .val (.int p2), .val (.int p3), .val (.int p4), .val (.int p5), .val (.ref b1), .val (.ref b2), .unset, .unset] [(.long (bitV p4)), (.long (((bitV p1) ||| (bitV p2)) ||| (bitV p3)))])
  refine Go.by (g' := (mkF m 69 #[.val (.int p1), .val (.int p2), .val (.int p3), .val (.int p4), .val (.int p5), .val (.ref b1), .val (.ref b2), .unset, .unset] [(.long ((((bitV p1) ||| (bitV p2)) ||| (bitV p3)) ||| (bitV p4)))])) (fun _ k => XS.lor X22.here hx rfl (hb hby at_68) rfl k) ?_
  refine Go.by (g' := (mkF m 71 #[.val (.int p1), .val (.int p2), .val (.int p3), .val (.int p4), .val (.int p5), .val (.ref b1), .val (.ref b2), .val (.long ((((bitV p1) ||| (bitV p2)) ||| (bitV p3)) ||| (bitV p4))), .second] [])) (fun _ k => XS.lstore X22.here hx rfl (hb hby at_69) rfl (l' := #[.val (.int p1), .val (.int p2), .val (.int p3), .val (.int p4), .val (.int p5), .val (.ref b1), .val (.ref b2), .val (.long ((((bitV p1) ||| (bitV p2)) ||| (bitV p3)) ||| (bitV p4))), .second]) rfl k) ?_
  refine Go.by (g' := (mkF m 73 #[.val (.int p1), .val (.int p2), .val (.int p3), .val (.int p4), .val (.int p5), .val (.ref b1), .val (.ref b2), .val (.long ((((bitV p1) ||| (bitV p2)) ||| (bitV p3)) ||| (bitV p4))), .second] [(.ref b2)])) (fun _ k => XS.aload X22.here hx rfl (hb hby at_71) rfl rfl k) ?_
  have f23_E2 := (A17.keep K18)
  have f24_V0 := ((U16.ext E17).keep K18 (ninS ne_b1_b2 nin0))
  refine Go.callV X22 hx hZ (y := (⟨"com/example/sorrel/sorrel/middle/alloc/Placement", "registers", "()J"⟩ : MethodName)) (z := (⟨"com/example/sorrel/sorrel/middle/alloc/Placement", "registers", "()J"⟩ : MethodName)) hown (hw _ (List.mem_of_getElem? (i := 22) rfl)) (hw _ (List.mem_of_getElem? (i := 23) rfl)) (notFace_of_selects (args := #[]) (mvT hZ (hw _ (List.mem_of_getElem? (i := 25) rfl)))) (hw _ (List.mem_of_getElem? (i := 25) rfl)) (hw _ (List.mem_of_getElem? (i := 24) rfl)) (hw _ (List.mem_of_getElem? (i := 8) rfl)) (hw _ (List.mem_of_getElem? (i := 26) rfl)) (by decide) (W := 0) (a := b2) (argsL := []) (rest := []) f23_E2 (rm5 l Z a0 hw b2 T18.heap n0 b1 k8 (placeV p1) (placeV p2) (placeV p3) (placeV p4) Fp18 f24_V0) (by decide) (by decide) (by decide) (by decide) (g := (mkF m 73 #[.val (.int p1), .val (.int p2), .val (.int p3), .val (.int p4), .val (.int p5), .val (.ref b1), .val (.ref b2), .val (.long ((((bitV p1) ||| (bitV p2)) ||| (bitV p3)) ||| (bitV p4))), .second] [(.ref b2)])) rfl (by rw [hml]; rfl) (lenOf pd_5 rfl) rfl (by show 2 * 0 + _ ≤ _; exact Nat.le_of_eq rfl) (hb hby at_73) q22 ?_
  rintro T25 L25 _ X25 ⟨rfl, N25, q25⟩
  have M25 := Fr.app M22 N25
  show Go p e below _ _ T25 (mkF m 76 #[.val (.int p1), .val (.int p2), .val (.int p3), .val (.int p4), .val (.int p5), .val (.ref b1), .val (.ref b2), .val (.long ((((bitV p1) ||| (bitV p2)) ||| (bitV p3)) ||| (bitV p4))), .second] [(.long (upd (upd (upd (upd 0 (placeV p1)) (placeV p2)) (placeV p3)) (placeV p4)))])
  refine Go.by (g' := (mkF m 78 #[.val (.int p1), .val (.int p2), .val (.int p3), .val (.int p4), .val (.int p5), .val (.ref b1), .val (.ref b2), .val (.long ((((bitV p1) ||| (bitV p2)) ||| (bitV p3)) ||| (bitV p4))), .second] [(.long ((((bitV p1) ||| (bitV p2)) ||| (bitV p3)) ||| (bitV p4))), (.long (upd (upd (upd (upd 0 (placeV p1)) (placeV p2)) (placeV p3)) (placeV p4)))])) (fun _ k => XS.lload X25.here hx rfl (hb hby at_76) rfl k) ?_
  refine Go.by (g' := (mkF m 79 #[.val (.int p1), .val (.int p2), .val (.int p3), .val (.int p4), .val (.int p5), .val (.ref b1), .val (.ref b2), .val (.long ((((bitV p1) ||| (bitV p2)) ||| (bitV p3)) ||| (bitV p4))), .second] [(.int (lcmpW (upd (upd (upd (upd 0 (placeV p1)) (placeV p2)) (placeV p3)) (placeV p4)) ((((bitV p1) ||| (bitV p2)) ||| (bitV p3)) ||| (bitV p4))))])) (fun _ k => XS.lcmp X25.here hx rfl (hb hby at_78) rfl k) ?_
  refine Go.by (g' := (mkF m 82 #[.val (.int p1), .val (.int p2), .val (.int p3), .val (.int p4), .val (.int p5), .val (.ref b1), .val (.ref b2), .val (.long ((((bitV p1) ||| (bitV p2)) ||| (bitV p3)) ||| (bitV p4))), .second] [])) (fun _ k => XS.ifNo X25.here hx rfl (hb hby at_79) rfl ((if0 _ _).trans (teq ((lw_eq _ _).mpr (by rw [upd_place, upd_place, upd_place, upd_place, Int64.zero_or]))).2) k) ?_
  refine Go.by (g' := (mkF m 83 #[.val (.int p1), .val (.int p2), .val (.int p3), .val (.int p4), .val (.int p5), .val (.ref b1), .val (.ref b2), .val (.long ((((bitV p1) ||| (bitV p2)) ||| (bitV p3)) ||| (bitV p4))), .second] [(.int (1 : Int32))])) (fun _ k => XS.iconst X25.here hx rfl (hb hby at_82) k) ?_
  refine Go.by (g' := (mkF m 87 #[.val (.int p1), .val (.int p2), .val (.int p3), .val (.int p4), .val (.int p5), .val (.ref b1), .val (.ref b2), .val (.long ((((bitV p1) ||| (bitV p2)) ||| (bitV p3)) ||| (bitV p4))), .second] [(.int (1 : Int32))])) (fun _ k => XS.goto X25.here hx rfl (pc0 := 83) (pc' := 87) rfl (hb hby at_83) (by decide) (by decide) k) ?_
  exact Go.outZ X25 hx hret (Lv.narrow X25 hlk (by decide) (by decide)) (hb hby at_87) (by decide) ⟨rfl, M25⟩
set_option maxRecDepth 65536 in
set_option maxHeartbeats 40000000 in
theorem comes_1 {Post : Tables → Env → Array Value → State → Outcome → State → Prop} (hpost : ∀ tb e args s v u, (limb_1_1.after args s (.returned v) u = true ∧ limb_1_2.after args s (.returned v) u = true ∧ True) → FrameEnd s (.returned v) u (Jvm.fieldLocs frame_1_writes args s ++ Jvm.arrayLocs frame_1_arrays args s ++ Jvm.staticLocs frame_1_statics s) 16 128 → Post tb e args s (.returned v) u) :
    ArmFor flags0 classFile x code maxLocals ret World_1 tables_1 room_1 Calls_1 rest_1 Pre_1 Post := by
  intro l hfl _ _ p e ha hc hk s m args below hf hA hF happ hP
  obtain ⟨hcalls, hrest, hpre⟩ := hP
  obtain ⟨-, -, -, hnamed, -, -, -, hat⟩ := (Spec.applies_iff hf).mp happ
  obtain ⟨hg, hn⟩ := and_e (Cond.before_iff.mp (show (Jvm.Cond.and given_1 narrow_1).before args s = true from hpre))
  obtain ⟨h1, q0⟩ := and_e hg
  obtain ⟨p0, q1⟩ := and_e q0
  obtain ⟨p1, q2⟩ := and_e q1
  obtain ⟨p2, q3⟩ := and_e q2
  obtain ⟨p3, q4⟩ := and_e q3
  obtain ⟨w0, w1, w2, w3, w4, rfl⟩ : ∃ w0 w1 w2 w3 w4 : Value, args = #[w0, w1, w2, w3, w4] := by
    have hs : args.size = 5 := by simpa [Cond.value, given_1] using h1
    obtain ⟨L⟩ := args
    match L, hs with
    | [w0, w1, w2, w3, w4], _ => exact ⟨w0, w1, w2, w3, w4, rfl⟩
  have hw := fun d (hd : d ∈ tables_1) => atoms_spec (ws := Jvm.Cond.code x code maxLocals ret :: tables_1) hat d (List.mem_cons_of_mem _ hd)
  have hfit : Fit s := fun {y c} hc i hi => by
    obtain ⟨ha, rfl⟩ := Array.getElem?_eq_some_iff.mp hc
    have q := List.all_eq_true.mp ((Array.all_eq_true_iff_forall_mem.mp hF) _ (Array.getElem_mem ha)) i (List.mem_range.mpr hi)
    simpa [Array.getElem?_eq_getElem hi] using q
  obtain ⟨i0, ee0⟩ := is_v p0
  obtain rfl : w0 = (.int i0) := Option.some.inj ee0
  obtain ⟨i1, ee1⟩ := is_v p1
  obtain rfl : w1 = (.int i1) := Option.some.inj ee1
  obtain ⟨i2, ee2⟩ := is_v p2
  obtain rfl : w2 = (.int i2) := Option.some.inj ee2
  obtain ⟨i3, ee3⟩ := is_v p3
  obtain rfl : w3 = (.int i3) := Option.some.inj ee3
  obtain ⟨i4, ee4⟩ := is_v q4
  obtain rfl : w4 = (.int i4) := Option.some.inj ee4
  obtain ⟨n, o, h1, h2, h3, _, L, rfl, ⟨rfl, N⟩, hq⟩ := rm0 l s _ hw i0 i1 i2 i3 i4 s.heap s.heap.size (Nat.le_refl _) tables_1 p e ha hc hk s m _ below hf ((Spec.applies_iff_loose hf).mp happ).1 ⟨rfl, State.Warmed39.refl s, rfl⟩ trivial
  refine ⟨n, _, h1, h2, h3, hpost _ _ _ _ _ _ ⟨Cond.after_iff.mpr rfl, Cond.after_iff.mpr (eq_i res_at (Term.int_eval (1)) rfl), trivial⟩ ⟨hq.1, hq.2.1, (hq.2.2.sift fun y hy => Or.inr (N y hy)).mono (by decide) (by decide)⟩⟩
theorem main_1_1 : Claimed_1_1 := comes_1 fun _ _ _ _ _ _ h hF => ⟨h.1, hF⟩
theorem main_1_2 : Claimed_1_2 := comes_1 fun _ _ _ _ _ _ h hF => ⟨h.2.1, hF⟩
end Jvm.Pilot.@@N@@
namespace Jvm.Pilot.@@N@@
open Jvm Jvm.ClassFile Sem Op Lib Jvm.Free Jvm.Stand Jvm.Pilot.@@N@@.Jvm.D
/-! MADE BY PROGRAM (witnessworld.py) out of the Statement's table words and the real class files: 9 classes; the members and pool entries that the words name. The judged class is class 1, her method 3. -/
namespace start1
open Jvm.ClassFile
def u (s : String) : CpInfo := .utf8 (stringToUtf16 s)
/-- a pool by its gaps: so many unusable entries, then the entry; so many at the end -/
def gap : Nat → List CpInfo → List CpInfo
  | 0, r => r
  | n + 1, r => .unusable :: gap n r
def poolList (es : List (Nat × CpInfo)) (last : Nat) : List CpInfo := es.foldr (fun e r => gap e.1 (e.2 :: r)) (gap last [])
def pool (es : List (Nat × CpInfo)) (last : Nat) : Array CpInfo := ⟨poolList es last⟩
def fileOf (pool : Array CpInfo) (this : Nat) (attrs : Array Attribute := #[]) (ms : Array MethodInfo := #[]) (fl : Nat := 33) (sup : Nat := 0) (ifs : Array Nat := #[]) (fds : Array FieldInfo := #[]) : ClassFile where
  minorVersion := 0
  majorVersion := 65
  constantPool := pool
  accessFlags := fl
  thisClass := this
  superClass := sup
  interfaces := ifs
  fields := fds
  methods := ms
  attributes := attrs
def plain (name : String) (sup : Option ClassId) : Class where
  name := name
  kind := .ordinary
  loader := none
  accessFlags := 33
  super := sup
  interfaces := #[]
  cf := none
  fields := #[]
  methods := #[]
  instanceTypes := #[]
  staticTypes := #[]
  resolved := #[]
  callSites := []
  init := .initialized
  statics := none
  mirror := none

def pool0 : Array CpInfo := pool [(5, u "<init>"), (0, u "()V"), (1, .class_ 10), (1, u "java/lang/Object")] 113

def k0c0 : Code := { maxStack := 0, maxLocals := 1, code := object_method_1_code, exceptionTable := #[], attributes := #[] }
def k0m0 : Method := { name := "<init>", desc := "()V", sig := { parameters := [], returnType := none }, accessFlags := 1, code := some k0c0 }
/-- java/lang/Object -/
def k0 : Class := { plain "java/lang/Object" none with
  accessFlags := 33
  interfaces := #[]
  cf := some (fileOf pool0 8 #[] #[{ accessFlags := 1, nameIndex := 5, descriptorIndex := 6, attributes := #[] }] 33 0 #[] #[])
  fields := #[]
  methods := #[k0m0]
  instanceTypes := #[]
  staticTypes := #[]
  resolved := Array.replicate 124 none
  statics := none }

def pool1 : Array CpInfo := pool [(2, .class_ 4), (1, u "java/lang/Object"), (0, u "<init>"), (0, u "()V"), (0, .class_ 8), (0, u "com/example/sorrel/sorrel/middle/alloc/Placement"), (0, .integer 2147483648), (0, .methodref 11 12), (0, .class_ 13), (0, .nameAndType 14 15), (0, u "com/example/sorrel/sorrel/middle/alloc/PlacementRegistersPinLaw"), (0, u "place"), (0, u "(I)I"), (0, .methodref 7 17), (0, .nameAndType 5 18), (0, u "([II)V"), (0, .methodref 11 20), (0, .nameAndType 21 22), (0, u "bit"), (0, u "(I)J"), (0, .methodref 7 24), (0, .nameAndType 25 26), (0, u "registers"), (0, u "()J"), (3, u "law"), (0, u "(IIIII)Z")] 4

def k1m0 : Method := { name := "<init>", desc := "()V", sig := { parameters := [], returnType := none }, accessFlags := 1, code := none }
def k1c1 : Code := { maxStack := 3, maxLocals := 2, code := method_2_code, exceptionTable := #[], attributes := #[] }
def k1m1 : Method := { name := "place", desc := "(I)I", sig := { parameters := [.int], returnType := some .int }, accessFlags := 10, code := some k1c1 }
def k1c2 : Code := { maxStack := 4, maxLocals := 1, code := method_3_code, exceptionTable := #[], attributes := #[] }
def k1m2 : Method := { name := "bit", desc := "(I)J", sig := { parameters := [.int], returnType := some .long }, accessFlags := 10, code := some k1c2 }
def k1c3 : Code := { maxStack := 4, maxLocals := 9, code := code, exceptionTable := #[], attributes := #[] }
def k1m3 : Method := { name := "law", desc := "(IIIII)Z", sig := { parameters := [.int, .int, .int, .int, .int], returnType := some .boolean }, accessFlags := 9, code := some k1c3 }
/-- com/example/sorrel/sorrel/middle/alloc/PlacementRegistersPinLaw -/
def k1 : Class := { plain "com/example/sorrel/sorrel/middle/alloc/PlacementRegistersPinLaw" (some 0) with
  accessFlags := 49
  interfaces := #[]
  cf := some (fileOf pool1 11 #[] #[{ accessFlags := 1, nameIndex := 5, descriptorIndex := 6, attributes := #[] }, { accessFlags := 10, nameIndex := 14, descriptorIndex := 15, attributes := #[] }, { accessFlags := 10, nameIndex := 21, descriptorIndex := 22, attributes := #[] }, { accessFlags := 9, nameIndex := 30, descriptorIndex := 31, attributes := #[] }] 49 2 #[] #[])
  fields := #[]
  methods := #[k1m0, k1m1, k1m2, k1m3]
  instanceTypes := #[]
  staticTypes := #[]
  resolved := Array.replicate 36 none
  statics := none }

def pool2 : Array CpInfo := pool [(3, .methodref 4 5), (0, .class_ 6), (0, .nameAndType 7 8), (0, u "java/lang/Object"), (0, u "<init>"), (0, u "()V"), (0, .fieldref 10 11), (0, .class_ 12), (0, .nameAndType 13 14), (0, u "com/example/sorrel/sorrel/middle/alloc/Placement"), (0, u "places"), (0, u "[I"), (0, .fieldref 10 16), (0, .nameAndType 17 18), (0, u "slots"), (0, u "I"), (37, u "NONE"), (1, u "([II)V"), (7, u "registers"), (0, u "()J")] 18

def k2c0 : Code := { maxStack := 2, maxLocals := 3, code := prog_97_method_1_code, exceptionTable := #[], attributes := #[] }
def k2m0 : Method := { name := "<init>", desc := "([II)V", sig := { parameters := [(.array .int), .int], returnType := none }, accessFlags := 0, code := some k2c0 }
def k2c1 : Code := { maxStack := 5, maxLocals := 7, code := prog_97_method_7_code, exceptionTable := #[], attributes := #[] }
def k2m1 : Method := { name := "registers", desc := "()J", sig := { parameters := [], returnType := some .long }, accessFlags := 1, code := some k2c1 }
/-- com/example/sorrel/sorrel/middle/alloc/Placement -/
def k2 : Class := { plain "com/example/sorrel/sorrel/middle/alloc/Placement" (some 0) with
  accessFlags := 49
  interfaces := #[]
  cf := some (fileOf pool2 10 #[] #[{ accessFlags := 0, nameIndex := 7, descriptorIndex := 58, attributes := #[] }, { accessFlags := 1, nameIndex := 66, descriptorIndex := 67, attributes := #[] }] 49 4 #[] #[{ accessFlags := 24, nameIndex := 56, descriptorIndex := 18, attributes := #[] }, { accessFlags := 18, nameIndex := 13, descriptorIndex := 14, attributes := #[] }, { accessFlags := 18, nameIndex := 17, descriptorIndex := 18, attributes := #[] }])
  fields := #[{ name := "NONE", type := .int, accessFlags := 24, slot := 0, constantValue := 0 }, { name := "places", type := (.array .int), accessFlags := 18, slot := 0, constantValue := 0 }, { name := "slots", type := .int, accessFlags := 18, slot := 1, constantValue := 0 }]
  methods := #[k2m0, k2m1]
  instanceTypes := #[(.array .int), .int]
  staticTypes := #[.int]
  resolved := Array.replicate 86 none
  statics := none }

def pool3 : Array CpInfo := pool [(1, u "java/lang/Cloneable"), (0, .class_ 1), (0, u "java/lang/Object"), (0, .class_ 3)] 3

/-- java/lang/Cloneable -/
def k3 : Class := { plain "java/lang/Cloneable" (some 0) with
  accessFlags := 1537
  interfaces := #[]
  cf := some (fileOf pool3 2 #[] #[] 1537 4 #[] #[])
  fields := #[]
  methods := #[]
  instanceTypes := #[]
  staticTypes := #[]
  resolved := Array.replicate 8 none
  statics := none }

def pool4 : Array CpInfo := pool [(1, u "java/io/Serializable"), (0, .class_ 1), (0, u "java/lang/Object"), (0, .class_ 3)] 3

/-- java/io/Serializable -/
def k4 : Class := { plain "java/io/Serializable" (some 0) with
  accessFlags := 1537
  interfaces := #[]
  cf := some (fileOf pool4 2 #[] #[] 1537 4 #[] #[])
  fields := #[]
  methods := #[]
  instanceTypes := #[]
  staticTypes := #[]
  resolved := Array.replicate 8 none
  statics := none }

/-- the primitive byte -/
def k5 : Class := { plain "byte" none with kind := .primitive 'B', accessFlags := 0x411 }
/-- [B -/
def k6 : Class := { plain "[B" (some 0) with kind := .array 5 .byte, interfaces := #[3, 4], accessFlags := 1041 }

/-- the primitive int -/
def k7 : Class := { plain "int" none with kind := .primitive 'I', accessFlags := 0x411 }
/-- [I -/
def k8 : Class := { plain "[I" (some 0) with kind := .array 7 .int, interfaces := #[3, 4], accessFlags := 1041 }

def heap : Heap := #[]
def classes : Array Class := #[k0, k1, k2, k3, k4, k5, k6, k7, k8]
def interned : List (Array UInt16 × Addr) := []
def slotsUsed : Nat := 0
def theMethod : MethodId := ⟨1, 3⟩
def args0 : Array Value := #[.int 5, .int 6, .int 7, .int 8, .int 9]
def aboutOver (below : List Frame) : State where
  vm := { classes := classes, interned := interned.toArray }
  heap := heap
  slotsUsed := slotsUsed
  threads := #[{ frames := .invoking theMethod args0 :: below }]
def below0 : List Frame := [.native { method := ⟨0, 0⟩, args := #[] }]
def about1 : State := aboutOver below0
def p0 : Program := .bare "" "" ""
def e0 : Env := launch0.env 0 0 0
theorem w_frames : about1.frames = Frame.invoking theMethod args0 :: below0 := rfl
set_option maxRecDepth 65536 in
theorem w_args : argsFit about1.vm theMethod args0 = true := by decide +kernel
set_option maxRecDepth 65536 in
theorem w_heap : heapFits about1 = true := by decide +kernel
set_option maxRecDepth 65536 in
theorem w_runnable : about1.curStatus? = some .runnable := by decide +kernel
set_option maxRecDepth 65536 in
theorem w_alone : about1.alone = true := by decide +kernel
set_option maxRecDepth 65536 in
theorem w_named : about1.methodNamed? x = some theMethod := by decide +kernel
set_option maxRecDepth 65536 in
theorem w_hears : about1.hears theMethod below0 = true := by decide +kernel
set_option maxRecDepth 65536 in
theorem w_ripe : about1.ripe theMethod args0 below0 = true := by decide +kernel
theorem w_running : about1.status = .running := rfl
set_option maxRecDepth 65536 in
theorem w_room : about1.hasRoom e0.platform room_1 = true :=
  launch0.hasRoom_least _ room_1 (by decide +kernel) (by decide +kernel) (by decide +kernel) (by decide +kernel) (by decide +kernel) (by decide +kernel)
theorem allAtoms_all (ts : List Jvm.Cond) (a : Array Jvm.Value) (st : Jvm.State) : (allAtoms ts).before a st = ts.all (fun c => c.before a st) := by
  induction ts with
  | nil => rfl
  | cons c t ih =>
    show (Jvm.Cond.and c (allAtoms t)).before a st = _
    rw [Jvm.Cond.before_and, ih, List.all_cons]
def words1 : List Jvm.Cond := Jvm.Cond.code x code maxLocals ret :: tables_1
/-- a 'code' word, met by the world's own term for the bytes: nothing is compared byte by byte -/
theorem code_word {y : MethodName} {bytes : ByteArray} {mx : Nat} {rt : Option FieldType} {a : Array Value} {s : State} {m : MethodId} {meth : Method} {c : Code} (h1 : s.methodNamed? y = some m) (h2 : s.vm.method? m = some meth) (h3 : meth.code = some c) (h4 : c.code = bytes)
    (h5 : (c.maxLocals == mx && c.exceptionTable.isEmpty && decide (c.maxStack ≤ mostOperands) && decide (meth.sig.returnType = rt) && !meth.locks && decide (parseMethodDescriptor y.desc = some meth.sig)) = true) : (Jvm.Cond.code y bytes mx rt).before a s = true := by
  simp only [Bool.and_eq_true, beq_iff_eq, Bool.not_eq_true', decide_eq_true_eq] at h5
  obtain ⟨⟨⟨⟨⟨g1, g2⟩, g3⟩, g4⟩, g5⟩, g6⟩ := h5
  simp [Cond.before, Cond.holds, Cond.value, h1, h2, h3, h4, g1, g2, g3, g4, g5, g6]
def isCode : Jvm.Cond → Bool
  | .code _ _ _ _ => true
  | _ => false
theorem all_split {L : List Jvm.Cond} {P : Jvm.Cond → Bool} (h1 : L.all (fun c => isCode c || P c) = true) (h2 : ∀ c ∈ L.filter isCode, P c = true) : L.all P = true := by
  refine List.all_eq_true.mpr fun c hc => ?_
  have h := List.all_eq_true.mp h1 c hc
  rcases Bool.eq_false_or_eq_true (isCode c) with hi | hi
  · exact h2 c (List.mem_filter.mpr ⟨hc, hi⟩)
  · simpa [hi] using h
set_option maxRecDepth 65536 in
theorem w_c0 : (Jvm.Cond.code x code maxLocals ret).before args0 about1 = true := code_word (m := ⟨1, 3⟩) (meth := k1m3) (c := k1c3) (by decide +kernel) rfl rfl rfl (by decide +kernel)
set_option maxRecDepth 65536 in
theorem w_c1 : (Jvm.Cond.code ({ cls := "com/example/sorrel/sorrel/middle/alloc/PlacementRegistersPinLaw", name := "place", desc := "(I)I" } : Jvm.MethodName) method_2_code (2 : Nat) (Option.some Jvm.ClassFile.FieldType.int)).before args0 about1 = true := code_word (m := ⟨1, 1⟩) (meth := k1m1) (c := k1c1) (by decide +kernel) rfl rfl rfl (by decide +kernel)
set_option maxRecDepth 65536 in
theorem w_c2 : (Jvm.Cond.code ({ cls := "com/example/sorrel/sorrel/middle/alloc/Placement", name := "<init>", desc := "([II)V" } : Jvm.MethodName) prog_97_method_1_code (3 : Nat) (Option.none : Option Jvm.ClassFile.FieldType)).before args0 about1 = true := code_word (m := ⟨2, 0⟩) (meth := k2m0) (c := k2c0) (by decide +kernel) rfl rfl rfl (by decide +kernel)
set_option maxRecDepth 65536 in
theorem w_c3 : (Jvm.Cond.code ({ cls := "java/lang/Object", name := "<init>", desc := "()V" } : Jvm.MethodName) object_method_1_code (1 : Nat) (Option.none : Option Jvm.ClassFile.FieldType)).before args0 about1 = true := code_word (m := ⟨0, 0⟩) (meth := k0m0) (c := k0c0) (by decide +kernel) rfl rfl rfl (by decide +kernel)
set_option maxRecDepth 65536 in
theorem w_c4 : (Jvm.Cond.code ({ cls := "com/example/sorrel/sorrel/middle/alloc/PlacementRegistersPinLaw", name := "bit", desc := "(I)J" } : Jvm.MethodName) method_3_code (1 : Nat) (Option.some Jvm.ClassFile.FieldType.long)).before args0 about1 = true := code_word (m := ⟨1, 2⟩) (meth := k1m2) (c := k1c2) (by decide +kernel) rfl rfl rfl (by decide +kernel)
set_option maxRecDepth 65536 in
theorem w_c5 : (Jvm.Cond.code ({ cls := "com/example/sorrel/sorrel/middle/alloc/Placement", name := "registers", desc := "()J" } : Jvm.MethodName) prog_97_method_7_code (7 : Nat) (Option.some Jvm.ClassFile.FieldType.long)).before args0 about1 = true := code_word (m := ⟨2, 1⟩) (meth := k2m1) (c := k2c1) (by decide +kernel) rfl rfl rfl (by decide +kernel)
def codes1 : List Jvm.Cond := [Jvm.Cond.code x code maxLocals ret, Jvm.Cond.code ({ cls := "com/example/sorrel/sorrel/middle/alloc/PlacementRegistersPinLaw", name := "place", desc := "(I)I" } : Jvm.MethodName) method_2_code (2 : Nat) (Option.some Jvm.ClassFile.FieldType.int), Jvm.Cond.code ({ cls := "com/example/sorrel/sorrel/middle/alloc/Placement", name := "<init>", desc := "([II)V" } : Jvm.MethodName) prog_97_method_1_code (3 : Nat) (Option.none : Option Jvm.ClassFile.FieldType), Jvm.Cond.code ({ cls := "java/lang/Object", name := "<init>", desc := "()V" } : Jvm.MethodName) object_method_1_code (1 : Nat) (Option.none : Option Jvm.ClassFile.FieldType), Jvm.Cond.code ({ cls := "com/example/sorrel/sorrel/middle/alloc/PlacementRegistersPinLaw", name := "bit", desc := "(I)J" } : Jvm.MethodName) method_3_code (1 : Nat) (Option.some Jvm.ClassFile.FieldType.long), Jvm.Cond.code ({ cls := "com/example/sorrel/sorrel/middle/alloc/Placement", name := "registers", desc := "()J" } : Jvm.MethodName) prog_97_method_7_code (7 : Nat) (Option.some Jvm.ClassFile.FieldType.long)]
set_option maxRecDepth 65536 in
theorem codes_eq : words1.filter isCode = codes1 := rfl
theorem w_codes : ∀ c ∈ words1.filter isCode, c.before args0 about1 = true := by
  rw [codes_eq]
  intro c hc
  simp only [codes1, List.mem_cons, List.not_mem_nil, or_false] at hc
  rcases hc with rfl | rfl | rfl | rfl | rfl | rfl
  · exact w_c0
  · exact w_c1
  · exact w_c2
  · exact w_c3
  · exact w_c4
  · exact w_c5
set_option maxRecDepth 65536 in
theorem w_t1 : (words1.take 24).all (fun c => isCode c || c.before args0 about1) = true := by decide +kernel
set_option maxRecDepth 65536 in
theorem w_t2 : (words1.drop 24).all (fun c => isCode c || c.before args0 about1) = true := by decide +kernel
theorem w_tables : (allAtoms (Jvm.Cond.code x code maxLocals ret :: tables_1)).before args0 about1 = true := by
  rw [allAtoms_all]
  show words1.all (fun c => c.before args0 about1) = true
  refine all_split ?_ w_codes
  rw [← List.take_append_drop 24 words1, List.all_append, w_t1, w_t2]
  rfl
set_option maxRecDepth 65536 in
theorem w_case : (Jvm.Cond.and given_1 narrow_1).before args0 about1 = true := by decide +kernel
theorem w_applies : (headSpec (Jvm.Cond.code x code maxLocals ret :: tables_1) room_1).applies x e0.platform about1 = true :=
  (Spec.applies_iff w_frames).mpr ⟨w_running, w_runnable, w_alone, w_named, w_hears, w_ripe, w_room, w_tables⟩
theorem atStart : AtStart classFile x code maxLocals ret World_1 tables_1 room_1 Calls_1 rest_1 Pre_1 launch0 p0 e0 about1 theMethod args0 below0 :=
  ⟨lists_1, trivial, launch0.admits_env _ _ _, launch0.least_env, fairChoices_fair.cas, fairChoices_fair.clock, w_frames, w_args, w_heap, w_applies, trivial, trivial, w_case⟩
end start1
theorem witness_1 : WitnessClaimed_1 := ⟨start1.p0, start1.e0, start1.about1, start1.theMethod, start1.args0, start1.below0, start1.atStart⟩
end Jvm.Pilot.@@N@@
