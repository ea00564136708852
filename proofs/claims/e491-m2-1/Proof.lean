import JvmDerived
import JvmDerived.Pilot.@@N@@Statement
import JvmDerived.Pilot.@@N@@Code
set_option linter.unusedVariables false
set_option linter.unusedSimpArgs false
namespace Jvm.OwnGo
open Sem ClassFile Op Lib Jvm.Stand Jvm.Free Jvm.LawKit Jvm.RoadKit
/-- from the state T with the frame g on top the run comes to the body's end, what is left there meets Q, and the end is framed as E says -/
def Go (p : Program) (e : Env) (below : List Frame) (E : Outcome → State → List Loc → Prop) (Q : Option Value → Heap → List Loc → Prop) (T : State) (g : JFrame) : Prop :=
  ∃ s₂ o, Steps p.tables e below (T.setTop g) s₂ ∧ s₂.status = .running ∧ Ended s₂ below o ∧ ∃ v L, o = .returned v ∧ Q v s₂.heap L ∧ E o s₂ L
abbrev En (s : State) (kc ks : Nat) : Outcome → State → List Loc → Prop := fun o t L => FrameEnd s o t L kc ks
/-- the wide end: the run may have interned its literals -/
abbrev EnW (s : State) (kc ks : Nat) : Outcome → State → List Loc → Prop := fun o t L => ReturnedEndW s o t L kc ks
/-- what a body promises, at one heap and one row of arguments -/
def Ctr (l : Launch) (Z : State) (y : MethodName) (bytes : ByteArray) (maxL : Nat) (ret : Option FieldType) (rm : Room) (as : Array Value) (h : Heap) (Q : Option Value → Heap → List Loc → Prop) : Prop :=
  ∀ ws : List Jvm.Cond, MetFree l y (head1 (Jvm.Cond.code y bytes maxL ret :: ws) rm) (fun a U => a = as ∧ Z.Warmed39 U.vm ∧ U.heap = h) (fun _ _ _ _ _ => True) (fun _ U o U' => ∃ v L, o = .returned v ∧ Q v U'.heap L ∧ FrameEnd U o U' L rm.cells rm.slots)
/-- the same of a body that may intern its literals -/
def CtrW (l : Launch) (Z : State) (y : MethodName) (bytes : ByteArray) (maxL : Nat) (ret : Option FieldType) (rm : Room) (as : Array Value) (h : Heap) (Q : Option Value → Heap → List Loc → Prop) : Prop :=
  ∀ ws : List Jvm.Cond, MetFree l y (head1 (Jvm.Cond.code y bytes maxL ret :: ws) rm) (fun a U => a = as ∧ Z.Warmed39 U.vm ∧ U.heap = h) (fun _ _ _ _ _ => True) (fun _ U o U' => ∃ v L, o = .returned v ∧ Q v U'.heap L ∧ ReturnedEndW U o U' L rm.cells rm.slots)
/-- how a walk that stands here may leave -/
def Lv (e : Env) (m : MethodId) (meth : Method) (below : List Frame) (E : Outcome → State → List Loc → Prop) (T : State) (locs : List Loc) : Prop :=
  ∀ v : Option Value, (meth.sig.returnType = none → v = none) → ∃ fs, (∀ (f : JFrame) (acts : List Action), f.method = m → f.locked = none → f.entered = [] → (doReturn e (T.setTop f) acts v).1 = T.setFrames fs) ∧ (T.setFrames fs).status = .running ∧ Ended (T.setFrames fs) below (.returned v) ∧ E (.returned v) (T.setFrames fs) locs
abbrev us (x y : Int32) : Int32 := (x.toUInt32 >>> (y &&& 31).toUInt32).toInt32
abbrev usL (x : Int64) (y : Int32) : Int64 := (x.toUInt64 >>> (y &&& 0x3f).toInt64.toUInt64).toInt64
section G
variable {p : Program} {l : Launch} {e : Env} {R : Room} {s : State} {m : MethodId} {args : Array Value} {below : List Frame} {meth : Method} {c : Code} {T T' : State} {locs : List Loc} {cells slots : Nat} {E : Outcome → State → List Loc → Prop} {Q : Option Value → Heap → List Loc → Prop} {kc ks : Nat} {g g' : JFrame} {Z : State} {a0 : Array Value} {h : Heap}
/-- another state that stands as this one does -/
abbrev Same (X : Stand p l e R s m args below meth c T locs cells slots) (T' : State) : Prop := Stand p l e R s m args below meth c T' locs cells slots
theorem Go.by (st : ∀ t, Steps p.tables e below (T'.setTop g') t → Steps p.tables e below (T.setTop g) t) (k : Go p e below E Q T' g') : Go p e below E Q T g := by
  obtain ⟨s₂, o, h1, h2⟩ := k
  exact ⟨s₂, o, st _ h1, h2⟩
theorem Lv.narrow (X : Stand p l e R s m args below meth c T locs cells slots) (hlk : meth.locks = false) (hc : cells ≤ kc) (hs : slots ≤ ks) : Lv e m meth below (En s kc ks) T locs := by
  intro v hv
  obtain ⟨fs, hr, hrun, hended, hW, hsame⟩ := X.leave (v := v) hv hlk
  exact ⟨fs, hr, hrun, hended, ⟨_, rfl⟩, hW, hsame.mono hc hs⟩
theorem Lv.wide {vm0 : Vm} {k0 : Nat} (X : Stand p l e R (s.setVm vm0) m args below meth c T locs cells slots) (hlk : meth.locks = false) (hS : s.Since vm0 k0) (hk : k0 ≤ T.heap.size) (hc : cells ≤ kc) (hs : slots ≤ ks) : Lv e m meth below (EnW s kc ks) T locs := by
  intro v hv
  obtain ⟨fs, hr, hrun, hended, h1, h2, h3, hsame⟩ := X.leaveW hS hk (v := v) hv hlk
  exact ⟨fs, hr, hrun, hended, h1, h2, h3, hsame.mono hc hs⟩
theorem Go.out (lv : Lv e m meth below E T locs) {v : Option Value} (hv : meth.sig.returnType = none → v = none) (hQ : Q v T.heap locs)
    (st : ∀ fs, (∀ (f : JFrame) (acts : List Action), f.method = m → f.locked = none → f.entered = [] → (doReturn e (T.setTop f) acts v).1 = T.setFrames fs) → Steps p.tables e below (T.setTop g) (T.setFrames fs)) : Go p e below E Q T g := by
  obtain ⟨fs, hr, hrun, hended, hE⟩ := lv v hv
  exact ⟨_, _, st fs hr, hrun, hended, v, locs, rfl, hQ, hE⟩
theorem Go.outV (X : Stand p l e R s m args below meth c T locs cells slots) (hx : p.tables.exec = Jvm.exec) {t : FieldType} {w : Value} {i : Instr} {pc : Nat} {Ls : Array Slot} {rest : List Value} (hret : meth.sig.returnType = some t) (lv : Lv e m meth below E T locs)
    (hn : narrow t w = w)
    (hi : (i = .ireturn ∧ (t = .int ∨ t = .boolean ∨ t = .byte ∨ t = .char ∨ t = .short) ∧ ∃ z, w = .int z) ∨ (i = .lreturn ∧ t = .long ∧ ∃ z, w = .long z) ∨ (i = .dreturn ∧ t = .double ∧ ∃ z, w = .double z) ∨ (i = .freturn ∧ t = .float ∧ ∃ z, w = .float z) ∨ (i = .areturn ∧ t.isReference = true ∧ w.isRef = true))
    (hd : decode c.code pc = .ok (i, 1)) (hQ : Q (some w) T.heap locs) : Go p e below E Q T (mkF m pc Ls (w :: rest)) :=
  Go.out lv (fun h => by rw [hret] at h; cases h) hQ (fun fs hr => retOut X hx hret hn hi hd hr)
theorem Go.outI (X : Stand p l e R s m args below meth c T locs cells slots) (hx : p.tables.exec = Jvm.exec) {z : Int32} {pc : Nat} {Ls : Array Slot} {rest : List Value} (hret : meth.sig.returnType = some .int) (lv : Lv e m meth below E T locs)
    (hd : decode c.code pc = .ok (.ireturn, 1)) (hQ : Q (some (.int z)) T.heap locs) : Go p e below E Q T (mkF m pc Ls (.int z :: rest)) :=
  Go.outV X hx hret lv rfl (Or.inl ⟨rfl, Or.inl rfl, z, rfl⟩) hd hQ
theorem Go.outZ (X : Stand p l e R s m args below meth c T locs cells slots) (hx : p.tables.exec = Jvm.exec) {z : Int32} {pc : Nat} {Ls : Array Slot} {rest : List Value} (hret : meth.sig.returnType = some .boolean) (lv : Lv e m meth below E T locs)
    (hd : decode c.code pc = .ok (.ireturn, 1)) (hz : z = 0 ∨ z = 1) (hQ : Q (some (.int z)) T.heap locs) : Go p e below E Q T (mkF m pc Ls (.int z :: rest)) :=
  Go.outV X hx hret lv (by rcases hz with rfl | rfl <;> rfl) (Or.inl ⟨rfl, Or.inr (Or.inl rfl), z, rfl⟩) hd hQ
theorem Go.outJ (X : Stand p l e R s m args below meth c T locs cells slots) (hx : p.tables.exec = Jvm.exec) {z : Int64} {pc : Nat} {Ls : Array Slot} {rest : List Value} (hret : meth.sig.returnType = some .long) (lv : Lv e m meth below E T locs)
    (hd : decode c.code pc = .ok (.lreturn, 1)) (hQ : Q (some (.long z)) T.heap locs) : Go p e below E Q T (mkF m pc Ls (.long z :: rest)) :=
  Go.outV X hx hret lv rfl (Or.inr (Or.inl ⟨rfl, rfl, z, rfl⟩)) hd hQ
theorem nar_ref {t : FieldType} {w : Value} (ht : t.isReference = true) : narrow t w = w := by cases t <;> first | rfl | (simp [FieldType.isReference] at ht)
theorem Go.outA (X : Stand p l e R s m args below meth c T locs cells slots) (hx : p.tables.exec = Jvm.exec) {w : Value} {t : FieldType} {pc : Nat} {Ls : Array Slot} {rest : List Value} (hret : meth.sig.returnType = some t) (lv : Lv e m meth below E T locs) (ht : t.isReference = true) (hw : w.isRef = true)
    (hd : decode c.code pc = .ok (.areturn, 1)) (hQ : Q (some w) T.heap locs) : Go p e below E Q T (mkF m pc Ls (w :: rest)) :=
  Go.outV X hx hret lv (nar_ref ht) (Or.inr (Or.inr (Or.inr (Or.inr ⟨rfl, ht, hw⟩)))) hd hQ
theorem Go.outN (X : Stand p l e R s m args below meth c T locs cells slots) (hx : p.tables.exec = Jvm.exec) {pc : Nat} {Ls : Array Slot} (hret : meth.sig.returnType = none) (lv : Lv e m meth below E T locs)
    (hd : decode c.code pc = .ok (.return_, 1)) (hQ : Q none T.heap locs) : Go p e below E Q T (mkF m pc Ls []) :=
  Go.out lv (fun _ => rfl) hQ (fun fs hr => X.returnOut hx hret hd hr)
theorem Ctr.of {y : MethodName} {bytes : ByteArray} {maxL : Nat} {ret : Option FieldType} {rm : Room} {as : Array Value} {Ls : Array Slot} (hpn : plainFor y = true) (hef : ∀ m, entryFrame m as maxL = mkF m 0 Ls [])
    (body : ∀ (p : Program) (e : Env) (s : State) (m : MethodId) (below : List Frame) (meth : Method) (c : Code) (T0 : State), p.tables.exec = Jvm.exec → c.code = bytes → c.maxLocals = maxL → meth.sig.returnType = ret → meth.locks = false → meth.name = y.name → Z.Warmed39 s.vm → s.vm.findClass y.cls = some m.cls → T0.heap = h → Stand p l e rm s m as below meth c T0 [] 0 0 → Go p e below (En s rm.cells rm.slots) Q T0 (mkF m 0 Ls [])) :
    Ctr l Z y bytes maxL ret rm as h Q := by
  intro ws
  refine MetFree.of_bodySF hpn hisR ?_
  intro p e s m args below meth c s₁ Bd hml0 hP hK
  obtain ⟨ha, hZ, hh⟩ := hP
  subst ha
  have X0 : Stand p l e rm s m args below meth c s₁ [] 0 0 := Stand.of_body Bd
  obtain ⟨s₂, o, h1, h2⟩ := body p e s m below meth c s₁ Bd.exec Bd.bytes hml0 Bd.returns (BodyLoose.notSynchronized Bd) (name_of_methodNamed Bd.named Bd.method).1 hZ (findClass_of_methodNamed Bd.named) (by rw [← hh, Bd.state]; rfl) X0
  exact ⟨s₂, o, castTop (hef m) h1, h2⟩
theorem CtrW.of {y : MethodName} {bytes : ByteArray} {maxL : Nat} {ret : Option FieldType} {rm : Room} {as : Array Value} {Ls : Array Slot} (hpn : plainFor y = true) (hef : ∀ m, entryFrame m as maxL = mkF m 0 Ls [])
    (body : ∀ (p : Program) (e : Env) (s : State) (vm0 : Vm) (m : MethodId) (below : List Frame) (meth : Method) (c : Code) (T0 : State), p.tables.exec = Jvm.exec → c.code = bytes → c.maxLocals = maxL → meth.sig.returnType = ret → meth.locks = false → meth.name = y.name → s.Since vm0 0 → Z.Warmed39 (s.setVm vm0).vm → (s.setVm vm0).vm.findClass y.cls = some m.cls → T0.heap = h → Stand p l e rm (s.setVm vm0) m as below meth c T0 [] 0 0 → Go p e below (EnW s rm.cells rm.slots) Q T0 (mkF m 0 Ls [])) :
    CtrW l Z y bytes maxL ret rm as h Q := by
  intro ws
  refine MetFree.of_bodySF hpn hisR ?_
  intro p e s m args below meth c s₁ Bd hml0 hP hK
  obtain ⟨ha, hZ, hh⟩ := hP
  subst ha
  have X0 : Stand p l e rm s m args below meth c s₁ [] 0 0 := Stand.of_body Bd
  obtain ⟨s₂, o, h1, h2⟩ := body p e s s.vm m below meth c s₁ Bd.exec Bd.bytes hml0 Bd.returns (BodyLoose.notSynchronized Bd) (name_of_methodNamed Bd.named Bd.method).1 (State.WarmedH.since (State.WarmedH.refl s) 0) hZ (findClass_of_methodNamed Bd.named) (by rw [← hh, Bd.state]; rfl) X0
  exact ⟨s₂, o, castTop (hef m) h1, h2⟩
/-- a contract may promise less -/
theorem Ctr.weaken {y : MethodName} {bytes : ByteArray} {maxL : Nat} {ret : Option FieldType} {rm : Room} {as : Array Value} {Q' : Option Value → Heap → List Loc → Prop} (K : Ctr l Z y bytes maxL ret rm as h Q) (q : ∀ v h' L, Q v h' L → Q' v h' L) : Ctr l Z y bytes maxL ret rm as h Q' := by
  intro ws p e ha hc hk s m args below hf happ hP hK
  obtain ⟨n, o, h1, h2, h3, v, L, h4, h5, h6⟩ := K ws p e ha hc hk s m args below hf happ hP hK
  exact ⟨n, o, h1, h2, h3, v, L, h4, q _ _ _ h5, h6⟩
theorem Go.ldc {vm0 : Vm} {k0 : Nat} (X : Stand p l e R (s.setVm vm0) m args below meth c T locs cells slots) (hx : p.tables.exec = Jvm.exec) (hZ : Z.Warmed39 (s.setVm vm0).vm) {own text : String} {index : Nat} (hown : (s.setVm vm0).vm.findClass own = some m.cls) (w : (Cond.stringLink own index text).before a0 Z = true) (wS : ∀ a ∈ Bundle.stringAtoms, a.before a0 Z = true)
    (eT : T.heap = h) (hS : s.Since vm0 k0) (hk : k0 ≤ h.size) {g : JFrame} (hg : g.method = m) (hd : decode c.code g.pc = .ok (.ldc index, 2)) {n : Nat} (hn : 4 * text.toList.length ≤ n) (hbig : n ≤ 536870912) (hc : cells + 2 ≤ R.cells) (hl : slots + (n + 4) ≤ R.slots)
    (k : ∀ (a : Addr) (T' : State) (h' : Heap) (k1 : Nat), Stand p l e R (s.setVm T'.vm) m args below meth c T' locs (cells + 2) (slots + (n + 4)) → T'.heap = h' → Ext h h' → s.Since T'.vm k1 → k1 ≤ h'.size → Z.Warmed39 (s.setVm T'.vm).vm → (s.setVm T'.vm).vm.findClass own = some m.cls → Go p e below E Q T' { g with pc := g.pc + 2, stack := .ref a :: g.stack }) : Go p e below E Q T g := by
  obtain ⟨a, T', h', k1, X', e', E', hS', hk', hZ', hown', st⟩ := ldcS X hx hZ hown w wS eT hS hk hg hd hn hbig hc hl
  exact Go.by st (k a T' h' k1 X' e' E' hS' hk' hZ' hown')
theorem Go.callS (X : Stand p l e R s m args below meth c T locs cells slots) (hx : p.tables.exec = Jvm.exec) (hZ : Z.Warmed39 s.vm) {own : String} {index : Nat} {y : MethodName} {bytes : ByteArray} {maxL : Nat} {ret : Option FieldType}
    (hown : s.vm.findClass own = some m.cls) (w1 : (Cond.methodLink own index y).before a0 Z = true) (w2 : (Cond.static y).before a0 Z = true) (w3 : (Cond.initialized y.cls).before a0 Z = true)
    (w4 : (Cond.code y bytes maxL ret).before a0 Z = true) (hy : y.cls ≠ "java/lang/invoke/MethodHandle" ∧ y.cls ≠ "java/lang/invoke/VarHandle")
    {W : Nat} {rm : Room} {argsL rest : List Value} {Qc : Option Value → Heap → List Loc → Prop} (hM : Ctr l Z y bytes maxL ret rm argsL.toArray h Qc) (hf : rm.frames + 1 ≤ R.frames) (hl : W + (maxL + 11) + rm.locals ≤ R.locals) (hc : cells + rm.cells ≤ R.cells) (hs : slots + rm.slots ≤ R.slots)
    {g : JFrame} (hg : g.method = m) (hsize : g.locals.size = c.maxLocals) (hlen : ∀ sig, parseMethodDescriptor y.desc = some sig → argsL.length = sig.parameters.length)
    (hstack : g.stack = argsL.reverse ++ rest) (hW : 2 * g.monitorRoom + (rest.map fun v => v.category).sum ≤ W) (hdg : decode c.code g.pc = .ok (.invokestatic index, 3)) (eT : T.heap = h)
    (k : ∀ T' L v, Stand p l e R s m args below meth c T' (locs ++ L) (cells + rm.cells) (slots + rm.slots) → Qc v T'.heap L → Go p e below E Q T' { g with pc := g.pc + 3, stack := v.toList ++ rest }) : Go p e below E Q T g := by
  obtain ⟨v, _, ⟨T3, L3, k3, n3⟩, -, X3, ⟨Lc3, hQ3, l3, y3, z3⟩, st3⟩ := Jvm.LawKit.callS X hx (y := y) hown (mvT hZ w1) (mvT hZ w2) (mvT hZ w3) (mvT hZ w4) hy (backOf (W := W) (hM []) hZ w4 w3 hf hl) (g := g) hg hsize (argsL := argsL) (rest := rest) hlen hstack hW hdg (fun _ _ => ⟨rfl, eT, hc, hs⟩)
  dsimp only [Pt.U, Pt.locs, Pt.cells, Pt.slots] at X3 l3 y3 z3 st3 hQ3
  subst l3 y3 z3
  exact Go.by st3 (k _ _ _ X3 hQ3)
theorem Go.callI (X : Stand p l e R s m args below meth c T locs cells slots) (hx : p.tables.exec = Jvm.exec) (hZ : Z.Warmed39 s.vm) {own : String} {index : Nat} {y : MethodName} {bytes : ByteArray} {maxL : Nat} (hy1 : y.name = "<init>")
    (hown : s.vm.findClass own = some m.cls) (w1 : (Cond.methodLink own index y).before a0 Z = true) (w2 : (Cond.instanceMethod y).before a0 Z = true) (w3 : (Cond.initialized y.cls).before a0 Z = true)
    (w4 : (Cond.code y bytes maxL none).before a0 Z = true) (hy : y.cls ≠ "java/lang/invoke/MethodHandle" ∧ y.cls ≠ "java/lang/invoke/VarHandle")
    {W : Nat} {rm : Room} {a : Addr} {argsL rest : List Value} {Qc : Option Value → Heap → List Loc → Prop} (hM : Ctr l Z y bytes maxL none rm (.ref a :: argsL).toArray h Qc) (hf : rm.frames + 1 ≤ R.frames) (hl : W + (maxL + 11) + rm.locals ≤ R.locals) (hc : cells + rm.cells ≤ R.cells) (hs : slots + rm.slots ≤ R.slots)
    {g : JFrame} (hg : g.method = m) (hsize : g.locals.size = c.maxLocals) (hlen : ∀ sig, parseMethodDescriptor y.desc = some sig → argsL.length = sig.parameters.length)
    (hstack : g.stack = argsL.reverse ++ .ref a :: rest) (hW : 2 * g.monitorRoom + (rest.map fun v => v.category).sum ≤ W) (hdg : decode c.code g.pc = .ok (.invokespecial index, 3)) (eT : T.heap = h)
    (k : ∀ T' L v, Stand p l e R s m args below meth c T' (locs ++ L) (cells + rm.cells) (slots + rm.slots) → Qc v T'.heap L → Go p e below E Q T' { g with pc := g.pc + 3, stack := v.toList ++ rest }) : Go p e below E Q T g := by
  obtain ⟨v, _, ⟨T3, L3, k3, n3⟩, -, X3, ⟨Lc3, hQ3, l3, y3, z3⟩, st3⟩ := X.specialBack hx (y := y) hy1 hown (mvT hZ w1) (mvT hZ w2) (mvT hZ w4) hy (backOf (W := W) (hM []) hZ w4 w3 hf hl) (g := g) hg hsize (Steps.refl _) (a := a) (argsL := argsL) (rest := rest) hlen hstack hW hdg (fun _ _ => ⟨rfl, eT, hc, hs⟩)
  dsimp only [Pt.U, Pt.locs, Pt.cells, Pt.slots] at X3 l3 y3 z3 st3 hQ3
  subst l3 y3 z3
  exact Go.by (fun _ q => st3.trans q) (k _ _ _ X3 hQ3)
/-- invokevirtual, the class that declares the method is a class (hnf) -/
theorem Go.callV (X : Stand p l e R s m args below meth c T locs cells slots) (hx : p.tables.exec = Jvm.exec) (hZ : Z.Warmed39 s.vm) {own C : String} {index : Nat} {y z : MethodName} {bytes : ByteArray} {maxL : Nat} {ret : Option FieldType}
    (hown : s.vm.findClass own = some m.cls) (w1 : (Cond.methodLink own index y).before a0 Z = true) (w2 : (Cond.declares y).before a0 Z = true) (hnf : NotFace s y) (w5 : (Cond.selects C y z).before a0 Z = true) (w6 : (Cond.instanceMethod z).before a0 Z = true) (w3 : (Cond.initialized z.cls).before a0 Z = true)
    (w4 : (Cond.code z bytes maxL ret).before a0 Z = true) (hy : y.cls ≠ "java/lang/invoke/MethodHandle" ∧ y.cls ≠ "java/lang/invoke/VarHandle")
    {W : Nat} {rm : Room} {a : Addr} {argsL rest : List Value} {Qc : Option Value → Heap → List Loc → Prop} (Ex : Exa Z h a C) (hM : Ctr l Z z bytes maxL ret rm (.ref a :: argsL).toArray h Qc) (hf : rm.frames + 1 ≤ R.frames) (hl : W + (maxL + 11) + rm.locals ≤ R.locals) (hc : cells + rm.cells ≤ R.cells) (hs : slots + rm.slots ≤ R.slots)
    {g : JFrame} (hg : g.method = m) (hsize : g.locals.size = c.maxLocals) (hlen : ∀ sig, parseMethodDescriptor y.desc = some sig → argsL.length = sig.parameters.length)
    (hstack : g.stack = argsL.reverse ++ .ref a :: rest) (hW : 2 * g.monitorRoom + (rest.map fun v => v.category).sum ≤ W) (hdg : decode c.code g.pc = .ok (.invokevirtual index, 3)) (eT : T.heap = h)
    (k : ∀ T' L v, Stand p l e R s m args below meth c T' (locs ++ L) (cells + rm.cells) (slots + rm.slots) → Qc v T'.heap L → Go p e below E Q T' { g with pc := g.pc + 3, stack := v.toList ++ rest }) : Go p e below E Q T g := by
  obtain ⟨cq, kq, qa, qb, qc⟩ := isOf hZ eT Ex
  obtain ⟨v, _, ⟨T3, L3, k3, n3⟩, -, X3, ⟨Lc3, hQ3, l3, y3, z3⟩, st3⟩ := X.virtualBack hx (y := y) (z := z) hown (mvT hZ w1) (mvT hZ w2) hnf (mvT hZ w5) (mvT hZ w6) hy (backOf (W := W) (hM []) hZ w4 w3 hf hl) qa qc (g := g) hg hsize (Steps.refl _) (argsL := argsL) (rest := rest) hlen hstack hW hdg (fun _ _ => ⟨rfl, eT, hc, hs⟩)
  dsimp only [Pt.U, Pt.locs, Pt.cells, Pt.slots] at X3 l3 y3 z3 st3 hQ3
  subst l3 y3 z3
  exact Go.by (fun _ q => st3.trans q) (k _ _ _ X3 hQ3)
/-- a private method, by invokevirtual -/
theorem Go.callP (X : Stand p l e R s m args below meth c T locs cells slots) (hx : p.tables.exec = Jvm.exec) (hZ : Z.Warmed39 s.vm) {own C : String} {index : Nat} {y : MethodName} {bytes : ByteArray} {maxL : Nat} {ret : Option FieldType}
    (hown : s.vm.findClass own = some m.cls) (w1 : (Cond.methodLink own index y).before a0 Z = true) (w2 : (Cond.instanceMethod y).before a0 Z = true) (w5 : (Cond.selects y.cls y y).before a0 Z = true) (w6 : (Cond.privateMethod y).before a0 Z = true) (w3 : (Cond.initialized y.cls).before a0 Z = true)
    (w4 : (Cond.code y bytes maxL ret).before a0 Z = true) (hy : y.cls ≠ "java/lang/invoke/MethodHandle" ∧ y.cls ≠ "java/lang/invoke/VarHandle")
    {W : Nat} {rm : Room} {a : Addr} {argsL rest : List Value} {Qc : Option Value → Heap → List Loc → Prop} (Ex : Exa Z h a C) (hM : Ctr l Z y bytes maxL ret rm (.ref a :: argsL).toArray h Qc) (hf : rm.frames + 1 ≤ R.frames) (hl : W + (maxL + 11) + rm.locals ≤ R.locals) (hc : cells + rm.cells ≤ R.cells) (hs : slots + rm.slots ≤ R.slots)
    {g : JFrame} (hg : g.method = m) (hsize : g.locals.size = c.maxLocals) (hlen : ∀ sig, parseMethodDescriptor y.desc = some sig → argsL.length = sig.parameters.length)
    (hstack : g.stack = argsL.reverse ++ .ref a :: rest) (hW : 2 * g.monitorRoom + (rest.map fun v => v.category).sum ≤ W) (hdg : decode c.code g.pc = .ok (.invokevirtual index, 3)) (eT : T.heap = h)
    (k : ∀ T' L v, Stand p l e R s m args below meth c T' (locs ++ L) (cells + rm.cells) (slots + rm.slots) → Qc v T'.heap L → Go p e below E Q T' { g with pc := g.pc + 3, stack := v.toList ++ rest }) : Go p e below E Q T g := by
  obtain ⟨cq, q1, q2⟩ := Ex.cell
  obtain ⟨v, _, ⟨T3, L3, k3, n3⟩, -, X3, ⟨Lc3, hQ3, l3, y3, z3⟩, st3⟩ := X.privateBack hx (y := y) hown (mvT hZ w1) (mvT hZ w2) (mvT hZ w5) (Cond.privateMethod_at (mvP hZ w6 (args := #[]))) (mvT hZ w4) hy (backOf (W := W) (hM []) hZ w4 w3 hf hl) (g := g) hg hsize (Steps.refl _) (a := a) (by rw [eT]; exact q1) q2 (argsL := argsL) (rest := rest) hlen hstack hW hdg (fun _ _ => ⟨rfl, eT, hc, hs⟩)
  dsimp only [Pt.U, Pt.locs, Pt.cells, Pt.slots] at X3 l3 y3 z3 st3 hQ3
  subst l3 y3 z3
  exact Go.by (fun _ q => st3.trans q) (k _ _ _ X3 hQ3)
/-- invokeinterface -/
theorem Go.callF (X : Stand p l e R s m args below meth c T locs cells slots) (hx : p.tables.exec = Jvm.exec) (hZ : Z.Warmed39 s.vm) {own C : String} {index count : Nat} {y z : MethodName} {bytes : ByteArray} {maxL : Nat} {ret : Option FieldType}
    (hown : s.vm.findClass own = some m.cls) (w1 : (Cond.methodLink own index y).before a0 Z = true) (w2 : (Cond.declares y).before a0 Z = true) (w7 : (Cond.interfaceMethod y.cls y.cls y.name y.desc).before args s = true) (w5 : (Cond.selects C y z).before a0 Z = true) (w6 : (Cond.instanceMethod z).before a0 Z = true) (w8 : (Cond.publicMethod z).before a0 Z = true) (w9 : (Cond.unhidden C y.name y.desc).before a0 Z = true) (w10 : (Cond.castable C y.cls).before a0 Z = true) (w3 : (Cond.initialized z.cls).before a0 Z = true)
    (w4 : (Cond.code z bytes maxL ret).before a0 Z = true) (hy : y.cls ≠ "java/lang/invoke/MethodHandle" ∧ y.cls ≠ "java/lang/invoke/VarHandle")
    {W : Nat} {rm : Room} {a : Addr} {argsL rest : List Value} {Qc : Option Value → Heap → List Loc → Prop} (Ex : Exa Z h a C) (hM : Ctr l Z z bytes maxL ret rm (.ref a :: argsL).toArray h Qc) (hf : rm.frames + 1 ≤ R.frames) (hl : W + (maxL + 11) + rm.locals ≤ R.locals) (hc : cells + rm.cells ≤ R.cells) (hs : slots + rm.slots ≤ R.slots)
    {g : JFrame} (hg : g.method = m) (hsize : g.locals.size = c.maxLocals) (hlen : ∀ sig, parseMethodDescriptor y.desc = some sig → argsL.length = sig.parameters.length)
    (hstack : g.stack = argsL.reverse ++ .ref a :: rest) (hW : 2 * g.monitorRoom + (rest.map fun v => v.category).sum ≤ W) (hdg : decode c.code g.pc = .ok (.invokeinterface index count, 5)) (eT : T.heap = h)
    (k : ∀ T' L v, Stand p l e R s m args below meth c T' (locs ++ L) (cells + rm.cells) (slots + rm.slots) → Qc v T'.heap L → Go p e below E Q T' { g with pc := g.pc + 5, stack := v.toList ++ rest }) : Go p e below E Q T g := by
  obtain ⟨cq, kq, qa, qb, qc⟩ := isOf hZ eT Ex
  obtain ⟨v, _, ⟨T3, L3, k3, n3⟩, -, X3, ⟨Lc3, hQ3, l3, y3, z3⟩, st3⟩ := X.interfaceBack hx (xi := y) (y := z) hown (mvT hZ w1) (mvT hZ w2) w7 (mvT hZ w5) (mvT hZ w6) (mvT hZ w8) (mvT hZ w9) (mvT hZ w10) hy (backOf (W := W) (hM []) hZ w4 w3 hf hl) qa qb qc (g := g) hg hsize (Steps.refl _) (argsL := argsL) (rest := rest) hlen hstack hW hdg (fun _ _ => ⟨rfl, eT, hc, hs⟩)
  dsimp only [Pt.U, Pt.locs, Pt.cells, Pt.slots] at X3 l3 y3 z3 st3 hQ3
  subst l3 y3 z3
  exact Go.by (fun _ q => st3.trans q) (k _ _ _ X3 hQ3)
/-- a callee that may intern: invokevirtual -/
theorem Go.callVW {vm0 : Vm} {k0 : Nat} (X : Stand p l e R (s.setVm vm0) m args below meth c T locs cells slots) (hx : p.tables.exec = Jvm.exec) (hS : s.Since vm0 k0) (hk : k0 ≤ h.size) (hZ : Z.Warmed39 (s.setVm vm0).vm) {own C : String} {index : Nat} {y z : MethodName} {bytes : ByteArray} {maxL : Nat} {ret : Option FieldType}
    (hown : (s.setVm vm0).vm.findClass own = some m.cls) (w1 : (Cond.methodLink own index y).before a0 Z = true) (w2 : (Cond.declares y).before a0 Z = true) (hnf : NotFace (s.setVm vm0) y) (w5 : (Cond.selects C y z).before a0 Z = true) (w6 : (Cond.instanceMethod z).before a0 Z = true) (w3 : (Cond.initialized z.cls).before a0 Z = true)
    (w4 : (Cond.code z bytes maxL ret).before a0 Z = true) (hy : y.cls ≠ "java/lang/invoke/MethodHandle" ∧ y.cls ≠ "java/lang/invoke/VarHandle")
    {W : Nat} {rm : Room} {a : Addr} {argsL rest : List Value} {Qc : Option Value → Heap → List Loc → Prop} (Ex : Exa Z h a C) (hM : CtrW l Z z bytes maxL ret rm (.ref a :: argsL).toArray h Qc) (hf : rm.frames + 1 ≤ R.frames) (hl : W + (maxL + 11) + rm.locals ≤ R.locals) (hc : cells + rm.cells ≤ R.cells) (hs : slots + rm.slots ≤ R.slots)
    {g : JFrame} (hg : g.method = m) (hsize : g.locals.size = c.maxLocals) (hlen : ∀ sig, parseMethodDescriptor y.desc = some sig → argsL.length = sig.parameters.length)
    (hstack : g.stack = argsL.reverse ++ .ref a :: rest) (hW : 2 * g.monitorRoom + (rest.map fun v => v.category).sum ≤ W) (hdg : decode c.code g.pc = .ok (.invokevirtual index, 3)) (eT : T.heap = h)
    (k : ∀ T' L v, Stand p l e R (s.setVm T'.vm) m args below meth c T' (locs ++ L) (cells + rm.cells) (slots + rm.slots) → s.Since T'.vm T'.heap.size → Z.Warmed39 (s.setVm T'.vm).vm → (s.setVm T'.vm).vm.findClass own = some m.cls → Qc v T'.heap L → Go p e below E Q T' { g with pc := g.pc + 3, stack := v.toList ++ rest }) : Go p e below E Q T g := by
  obtain ⟨cq, kq, qa, qb, qc⟩ := isOf hZ eT Ex
  obtain ⟨v, _, ⟨T3, L3, k3, n3⟩, -, X3, hS3, hgr, ⟨Lc3, hQ3, l3, y3, z3⟩, st3⟩ := X.virtualBackS hx (y := y) (z := z) hown (mvT hZ w1) (mvT hZ w2) hnf (mvT hZ w5) (mvT hZ w6) hy (backOfS (W := W) (hM []) hZ w4 w3 hf hl) qa qc (g := g) hg hsize (Steps.refl _) (argsL := argsL) (rest := rest) hlen hstack hW hdg (fun _ _ => ⟨rfl, eT, hc, hs⟩)
  dsimp only [Pt.U, Pt.locs, Pt.cells, Pt.slots] at X3 l3 y3 z3 st3 hQ3 hS3 hgr
  subst l3 y3 z3
  obtain ⟨X4, hS4, hZ4, hown4⟩ := rebS hS (by rw [eT]; exact hk) X3 hS3 hgr hZ hown
  exact Go.by (fun _ q => st3.trans q) (k _ _ _ X4 hS4 hZ4 hown4 hQ3)
/-- a callee that may intern: a constructor -/
theorem Go.callIW {vm0 : Vm} {k0 : Nat} (X : Stand p l e R (s.setVm vm0) m args below meth c T locs cells slots) (hx : p.tables.exec = Jvm.exec) (hS : s.Since vm0 k0) (hk : k0 ≤ h.size) (hZ : Z.Warmed39 (s.setVm vm0).vm) {own : String} {index : Nat} {y : MethodName} {bytes : ByteArray} {maxL : Nat} (hy1 : y.name = "<init>")
    (hown : (s.setVm vm0).vm.findClass own = some m.cls) (w1 : (Cond.methodLink own index y).before a0 Z = true) (w2 : (Cond.instanceMethod y).before a0 Z = true) (w3 : (Cond.initialized y.cls).before a0 Z = true)
    (w4 : (Cond.code y bytes maxL none).before a0 Z = true) (hy : y.cls ≠ "java/lang/invoke/MethodHandle" ∧ y.cls ≠ "java/lang/invoke/VarHandle")
    {W : Nat} {rm : Room} {a : Addr} {argsL rest : List Value} {Qc : Option Value → Heap → List Loc → Prop} (hM : CtrW l Z y bytes maxL none rm (.ref a :: argsL).toArray h Qc) (hf : rm.frames + 1 ≤ R.frames) (hl : W + (maxL + 11) + rm.locals ≤ R.locals) (hc : cells + rm.cells ≤ R.cells) (hs : slots + rm.slots ≤ R.slots)
    {g : JFrame} (hg : g.method = m) (hsize : g.locals.size = c.maxLocals) (hlen : ∀ sig, parseMethodDescriptor y.desc = some sig → argsL.length = sig.parameters.length)
    (hstack : g.stack = argsL.reverse ++ .ref a :: rest) (hW : 2 * g.monitorRoom + (rest.map fun v => v.category).sum ≤ W) (hdg : decode c.code g.pc = .ok (.invokespecial index, 3)) (eT : T.heap = h)
    (k : ∀ T' L v, Stand p l e R (s.setVm T'.vm) m args below meth c T' (locs ++ L) (cells + rm.cells) (slots + rm.slots) → s.Since T'.vm T'.heap.size → Z.Warmed39 (s.setVm T'.vm).vm → (s.setVm T'.vm).vm.findClass own = some m.cls → Qc v T'.heap L → Go p e below E Q T' { g with pc := g.pc + 3, stack := v.toList ++ rest }) : Go p e below E Q T g := by
  obtain ⟨v, _, ⟨T3, L3, k3, n3⟩, -, X3, hS3, hgr, ⟨Lc3, hQ3, l3, y3, z3⟩, st3⟩ := X.specialBackS hx (y := y) hy1 hown (mvT hZ w1) (mvT hZ w2) (mvT hZ w4) hy (backOfS (W := W) (hM []) hZ w4 w3 hf hl) (g := g) hg hsize (Steps.refl _) (a := a) (argsL := argsL) (rest := rest) hlen hstack hW hdg (fun _ _ => ⟨rfl, eT, hc, hs⟩)
  dsimp only [Pt.U, Pt.locs, Pt.cells, Pt.slots] at X3 l3 y3 z3 st3 hQ3 hS3 hgr
  subst l3 y3 z3
  obtain ⟨X4, hS4, hZ4, hown4⟩ := rebS hS (by rw [eT]; exact hk) X3 hS3 hgr hZ hown
  exact Go.by (fun _ q => st3.trans q) (k _ _ _ X4 hS4 hZ4 hown4 hQ3)
/-- a callee that may intern: a static method -/
theorem Go.callSW {vm0 : Vm} {k0 : Nat} (X : Stand p l e R (s.setVm vm0) m args below meth c T locs cells slots) (hx : p.tables.exec = Jvm.exec) (hS : s.Since vm0 k0) (hk : k0 ≤ h.size) (hZ : Z.Warmed39 (s.setVm vm0).vm) {own : String} {index : Nat} {y : MethodName} {bytes : ByteArray} {maxL : Nat} {ret : Option FieldType}
    (hown : (s.setVm vm0).vm.findClass own = some m.cls) (w1 : (Cond.methodLink own index y).before a0 Z = true) (w2 : (Cond.static y).before a0 Z = true) (w3 : (Cond.initialized y.cls).before a0 Z = true)
    (w4 : (Cond.code y bytes maxL ret).before a0 Z = true) (hy : y.cls ≠ "java/lang/invoke/MethodHandle" ∧ y.cls ≠ "java/lang/invoke/VarHandle")
    {W : Nat} {rm : Room} {argsL rest : List Value} {Qc : Option Value → Heap → List Loc → Prop} (hM : CtrW l Z y bytes maxL ret rm argsL.toArray h Qc) (hf : rm.frames + 1 ≤ R.frames) (hl : W + (maxL + 11) + rm.locals ≤ R.locals) (hc : cells + rm.cells ≤ R.cells) (hs : slots + rm.slots ≤ R.slots)
    {g : JFrame} (hg : g.method = m) (hsize : g.locals.size = c.maxLocals) (hlen : ∀ sig, parseMethodDescriptor y.desc = some sig → argsL.length = sig.parameters.length)
    (hstack : g.stack = argsL.reverse ++ rest) (hW : 2 * g.monitorRoom + (rest.map fun v => v.category).sum ≤ W) (hdg : decode c.code g.pc = .ok (.invokestatic index, 3)) (eT : T.heap = h)
    (k : ∀ T' L v, Stand p l e R (s.setVm T'.vm) m args below meth c T' (locs ++ L) (cells + rm.cells) (slots + rm.slots) → s.Since T'.vm T'.heap.size → Z.Warmed39 (s.setVm T'.vm).vm → (s.setVm T'.vm).vm.findClass own = some m.cls → Qc v T'.heap L → Go p e below E Q T' { g with pc := g.pc + 3, stack := v.toList ++ rest }) : Go p e below E Q T g := by
  obtain ⟨v, _, ⟨T3, L3, k3, n3⟩, -, X3, hS3, hgr, ⟨Lc3, hQ3, l3, y3, z3⟩, st3⟩ := Jvm.RoadKit.callSS X hx (y := y) hown (mvT hZ w1) (mvT hZ w2) (mvT hZ w3) (mvT hZ w4) hy (backOfS (W := W) (hM []) hZ w4 w3 hf hl) (g := g) hg hsize (argsL := argsL) (rest := rest) hlen hstack hW hdg (fun _ _ => ⟨rfl, eT, hc, hs⟩)
  dsimp only [Pt.U, Pt.locs, Pt.cells, Pt.slots] at X3 l3 y3 z3 st3 hQ3 hS3 hgr
  subst l3 y3 z3
  obtain ⟨X4, hS4, hZ4, hown4⟩ := rebS hS (by rw [eT]; exact hk) X3 hS3 hgr hZ hown
  exact Go.by (fun _ q => st3.trans q) (k _ _ _ X4 hS4 hZ4 hown4 hQ3)
end G
section A
variable {p : Program} {l : Launch} {e : Env} {R : Room} {s : State} {m : MethodId} {args : Array Value} {below : List Frame} {meth : Method} {c : Code} {T : State} {locs : List Loc} {cells slots : Nat} {Z : State} {h : Heap} {a : Addr} {k : ClassId} {n : Int32} {vs : List Value} {d : Value}
theorem stIA (X : Stand p l e R s m args below meth c T locs cells slots) (hx : p.tables.exec = Jvm.exec) (hZ : Z.Warmed39 s.vm) (eT : T.heap = h) (V : Arv Z h a k .int n vs d) {j x : Int32} (i : Nat) (hj : j.toNatClampNeg = i) (hj0 : ¬ j < 0) (hjn : j < n) (hi : i < vs.length) {g : JFrame} (hg : g.method = m) {rest : List Value} (hs : g.stack = .int x :: .int j :: .ref a :: rest) (hd : decode c.code g.pc = .ok (.iastore, 1)) :
    ∃ T' h', Stand p l e R s m args below meth c T' (locs ++ [⟨a, j.toNatClampNeg⟩]) cells slots ∧ T'.heap = h' ∧ Wr h h' a j.toNatClampNeg (.int x) ∧ Arv Z h' a k .int n (vs.set i (.int x)) d ∧ ∀ target, Steps p.tables e below (T'.setTop { g with pc := g.pc + 1, stack := rest }) target → Steps p.tables e below (T.setTop g) target := by
  obtain ⟨cl, Ar, q, S, M, H, U⟩ := V
  obtain ⟨T', h', X', e', W', st'⟩ := stI X hx hZ eT Ar (j := j) (inb_of S ⟨hj0, hjn⟩) hg hs hd
  exact ⟨T', h', X', e', W', Arv.set Ar q S M H U rfl W' i hj hi, st'⟩
theorem stBA (X : Stand p l e R s m args below meth c T locs cells slots) (hx : p.tables.exec = Jvm.exec) (hZ : Z.Warmed39 s.vm) (eT : T.heap = h) (V : Arv Z h a k .byte n vs d) {j x : Int32} (i : Nat) (hj : j.toNatClampNeg = i) (hj0 : ¬ j < 0) (hjn : j < n) (hi : i < vs.length) {g : JFrame} (hg : g.method = m) {rest : List Value} (hs : g.stack = .int x :: .int j :: .ref a :: rest) (hd : decode c.code g.pc = .ok (.bastore, 1)) :
    ∃ T' h', Stand p l e R s m args below meth c T' (locs ++ [⟨a, j.toNatClampNeg⟩]) cells slots ∧ T'.heap = h' ∧ Wr h h' a j.toNatClampNeg (.int x.toInt8.toInt32) ∧ Arv Z h' a k .byte n (vs.set i (.int x.toInt8.toInt32)) d ∧ ∀ target, Steps p.tables e below (T'.setTop { g with pc := g.pc + 1, stack := rest }) target → Steps p.tables e below (T.setTop g) target := by
  obtain ⟨cl, Ar, q, S, M, H, U⟩ := V
  obtain ⟨T', h', X', e', W', st'⟩ := stB X hx hZ eT Ar (j := j) (inb_of S ⟨hj0, hjn⟩) hg hs hd
  exact ⟨T', h', X', e', W', Arv.set Ar q S M H U (fits_nar_byte x) W' i hj hi, st'⟩
theorem ldIA (X : Stand p l e R s m args below meth c T locs cells slots) (hx : p.tables.exec = Jvm.exec) (hZ : Z.Warmed39 s.vm) (eT : T.heap = h) (V : Arv Z h a k .int n vs d) {j : Int32} {v : Value} (hj0 : ¬ j < 0) (hjn : j < n) (hv : vs.getD j.toNatClampNeg d = v) {g : JFrame} (hg : g.method = m) {rest : List Value} (hs : g.stack = .int j :: .ref a :: rest) (hd : decode c.code g.pc = .ok (.iaload, 1)) :
    ∀ target, Steps p.tables e below (T.setTop { g with pc := g.pc + 1, stack := v :: rest }) target → Steps p.tables e below (T.setTop g) target := by
  obtain ⟨cl, Ar, q, S, M, H, U⟩ := V
  have hin := inb_of S ⟨hj0, hjn⟩
  intro target kt
  exact X.iaload hx (j := j) (v := v) (by rw [eT]; exact Ar.1) (State.isArrayOf_alike hZ.alike Ar.2.1) Ar.2.2 hin (H.at hin hv) hg hs hd _ kt
theorem ldBA (X : Stand p l e R s m args below meth c T locs cells slots) (hx : p.tables.exec = Jvm.exec) (hZ : Z.Warmed39 s.vm) (eT : T.heap = h) (V : Arv Z h a k .byte n vs d) {j : Int32} {v : Value} (hj0 : ¬ j < 0) (hjn : j < n) (hv : vs.getD j.toNatClampNeg d = v) {g : JFrame} (hg : g.method = m) {rest : List Value} (hs : g.stack = .int j :: .ref a :: rest) (hd : decode c.code g.pc = .ok (.baload, 1)) :
    ∀ target, Steps p.tables e below (T.setTop { g with pc := g.pc + 1, stack := v :: rest }) target → Steps p.tables e below (T.setTop g) target := by
  obtain ⟨cl, Ar, q, S, M, H, U⟩ := V
  have hin := inb_of S ⟨hj0, hjn⟩
  intro target kt
  exact X.baloadBytes hx (j := j) (v := v) (by rw [eT]; exact Ar.1) (State.isArrayOf_alike hZ.alike Ar.2.1) Ar.2.2 hin (H.at hin hv) hg hs hd _ kt
theorem lnA {ty : FieldType} (X : Stand p l e R s m args below meth c T locs cells slots) (hx : p.tables.exec = Jvm.exec) (hZ : Z.Warmed39 s.vm) (eT : T.heap = h) (V : Arv Z h a k ty n vs d) {g : JFrame} (hg : g.method = m) {rest : List Value} (hs : g.stack = .ref a :: rest) (hd : decode c.code g.pc = .ok (.arraylength, 1)) :
    ∀ target, Steps p.tables e below (T.setTop { g with pc := g.pc + 1, stack := .int n :: rest }) target → Steps p.tables e below (T.setTop g) target := by
  obtain ⟨cl, Ar, q, S, M, H, U⟩ := V
  intro target kt
  refine X.arraylength hx (by rw [eT]; exact Ar.1) (State.isArrayOf_alike hZ.alike Ar.2.1) hg hs hd _ ?_
  rw [len_of S M]
  exact kt
theorem fitsR {ty : FieldType} {y : Addr} (hty : ty.isReference = true) : fits ty (.ref y) = true := by cases ty <;> first | rfl | (simp [FieldType.isReference] at hty)
theorem stRA {ty : FieldType} {C : String} (X : Stand p l e R s m args below meth c T locs cells slots) (hx : p.tables.exec = Jvm.exec) (hZ : Z.Warmed39 s.vm) (eT : T.heap = h) (V : Arv Z h a k ty n vs d) (O : Ovr Z k C) {y : Addr} (I : Ins Z h y C true) (hty : ty.isReference = true) {j : Int32} (i : Nat) (hj : j.toNatClampNeg = i) (hj0 : ¬ j < 0) (hjn : j < n) (hi : i < vs.length) {g : JFrame} (hg : g.method = m) {rest : List Value} (hs : g.stack = .ref y :: .int j :: .ref a :: rest) (hd : decode c.code g.pc = .ok (.aastore, 1)) :
    ∃ T' h', Stand p l e R s m args below meth c T' (locs ++ [⟨a, j.toNatClampNeg⟩]) cells slots ∧ T'.heap = h' ∧ Wr h h' a j.toNatClampNeg (.ref y) ∧ Arv Z h' a k ty n (vs.set i (.ref y)) d ∧ ∀ target, Steps p.tables e below (T'.setTop { g with pc := g.pc + 1, stack := rest }) target → Steps p.tables e below (T.setTop g) target := by
  obtain ⟨cl, Ar, q, S, M, H, U⟩ := V
  obtain ⟨T', h', X', e', W', st'⟩ := stR X hx hZ eT Ar (j := j) (inb_of S ⟨hj0, hjn⟩) hty (Sto.ofV Ar q O I) hg hs hd
  exact ⟨T', h', X', e', W', Arv.set Ar q S M H U (fitsR hty) W' i hj hi, st'⟩
theorem ldRA {ty : FieldType} (X : Stand p l e R s m args below meth c T locs cells slots) (hx : p.tables.exec = Jvm.exec) (hZ : Z.Warmed39 s.vm) (eT : T.heap = h) (V : Arv Z h a k ty n vs d) (hty : ty.isReference = true) {j : Int32} {v : Value} (hj0 : ¬ j < 0) (hjn : j < n) (hv : vs.getD j.toNatClampNeg d = v) {g : JFrame} (hg : g.method = m) {rest : List Value} (hs : g.stack = .int j :: .ref a :: rest) (hd : decode c.code g.pc = .ok (.aaload, 1)) :
    ∀ target, Steps p.tables e below (T.setTop { g with pc := g.pc + 1, stack := v :: rest }) target → Steps p.tables e below (T.setTop g) target := by
  obtain ⟨cl, Ar, q, S, M, H, U⟩ := V
  have hin := inb_of S ⟨hj0, hjn⟩
  intro target kt
  exact X.aaload hx (j := j) (v := v) (by rw [eT]; exact Ar.1) (State.isArrayOf_alike hZ.alike Ar.2.1) hty Ar.2.2 hin (H.at hin hv) hg hs hd _ kt
end A
end Jvm.OwnGo
namespace Jvm.OwnGo
open Sem ClassFile Op Lib Jvm.Stand Jvm.Free Jvm.LawKit Jvm.RoadKit
section G2
variable {p : Program} {l : Launch} {e : Env} {R : Room} {s : State} {m : MethodId} {args : Array Value} {below : List Frame} {meth : Method} {c : Code} {T T' : State} {locs : List Loc} {cells slots : Nat} {E : Outcome → State → List Loc → Prop} {Q : Option Value → Heap → List Loc → Prop} {kc ks : Nat} {g g' : JFrame} {Z : State} {a0 : Array Value} {h : Heap}
theorem fit_of {C : String} {v : Value} (h : v.isRef = true) : fits (.object C) v = true := by rcases ref_cases h with rfl | ⟨_, rfl⟩ <;> rfl
theorem cat_of {v : Value} (h : v.isRef = true) : v.category = 1 := by rcases ref_cases h with rfl | ⟨_, rfl⟩ <;> rfl
/-- a body that returns false and nothing else, walked in place: its class need not be initialised -/
theorem back0 {W len : Nat} {y : MethodName} {bytes : ByteArray} {b : Addr} (hpn : plainFor y = true) (hx : p.tables.exec = Jvm.exec) (hZ : Z.Warmed39 s.vm) (wc : (Cond.code y bytes 1 (some .boolean)).before a0 Z = true) (d0 : decode bytes 0 = .ok (.iconst 0, 1)) (d1 : decode bytes 1 = .ok (.ireturn, 1)) (hf : 1 ≤ R.frames) (hl : W + 12 ≤ R.locals) :
    Back l R p e below s args y len W (fun A a => a = #[.ref b] ∧ A.U.heap = h) (fun A _ v B => v = some (.int 0) ∧ B.U.heap = h ∧ B.locs = A.locs ∧ B.cells = A.cells ∧ B.slots = A.slots) := by
  intro m meth c A g ig mk a X hg hsize hdg hW hn hp
  obtain ⟨rfl, hh⟩ := hp
  have w4 : (Cond.code y bytes 1 (some .boolean)).before #[.ref b] A.U = true := mv (wtrans hZ X.warmed) wc
  obtain ⟨methY, cY, hmY, hcY, hbY, hlY, hrY, hkY, -⟩ := Cond.code_spec hn w4
  refine ⟨some (.int 0), A, X, ⟨rfl, hh, rfl, rfl, rfl⟩, ?_⟩
  subst hg
  have hA := X.here
  rw [doInvoke_enter hA.top [] hmY hcY hkY (X.notFull hsize hf (by rw [hlY]; omega))]
  have hE := hA.enter #[.ref b] hmY hcY (State.plainMethod.of_named hpn hn hmY)
  have hfr := frames_entered (g := g) hA.top (.java (entryFrame mk #[.ref b] cY.maxLocals))
  have hback := setFrames_entered (g := g) hA.top (.java (entryFrame mk #[.ref b] cY.maxLocals))
  have hm' : ((A.U.setTop g).pushFrame (.java (entryFrame mk #[.ref b] cY.maxLocals))).vm.method? mk = some methY := hmY
  have hcg : ((A.U.setTop g).pushFrame (.java (entryFrame mk #[.ref b] cY.maxLocals))).code? g.method = some c := by
    have q := hA.code
    rw [State.code?_eq] at q ⊢
    simpa [State.pushFrame, State.setFrames] using q
  generalize (A.U.setTop g).pushFrame (.java (entryFrame mk #[.ref b] cY.maxLocals)) = u at hE hfr hback hm' hcg ⊢
  rw [hlY]
  show Steps p.tables e below (u.setTop (mkF mk 0 #[.val (.ref b)] [])) _
  refine XS.iconst hE hx rfl (hb hbY d0) ?_
  show Steps p.tables e below (u.setTop { method := mk, pc := 1, locals := #[.val (.ref b)], stack := [.int 0], locked := none }) _
  have hz : narrow .boolean (.int 0) = .int 0 := rfl
  jvm_step hE [hE.top, hx, (hb hbY d1), hm', hrY, hz]
  intro acts
  rw [doReturn_leave (g := g) (meth := methY) (cg := c) (ig := ig) (len := len) acts hfr hm' hkY rfl rfl hcg hdg, hback, State.setTop_setTop]
  exact Steps.refl _
/-- invokeinterface that lands in such a default method -/
theorem Go.callD0 (X : Stand p l e R s m args below meth c T locs cells slots) (hx : p.tables.exec = Jvm.exec) (hZ : Z.Warmed39 s.vm) {own C : String} {index count : Nat} {y z : MethodName} {bytes : ByteArray}
    (hown : s.vm.findClass own = some m.cls) (w1 : (Cond.methodLink own index y).before a0 Z = true) (w2 : (Cond.declares y).before a0 Z = true) (w7 : (Cond.interfaceMethod y.cls y.cls y.name y.desc).before args s = true) (w5 : (Cond.landsInDefault C y z).before a0 Z = true) (w6 : (Cond.instanceMethod z).before a0 Z = true) (w8 : (Cond.publicMethod z).before a0 Z = true) (w10 : (Cond.castable C y.cls).before a0 Z = true)
    (w4 : (Cond.code z bytes 1 (some .boolean)).before a0 Z = true) (hpn : plainFor z = true) (d0 : decode bytes 0 = .ok (.iconst 0, 1)) (d1 : decode bytes 1 = .ok (.ireturn, 1)) (hy : y.cls ≠ "java/lang/invoke/MethodHandle" ∧ y.cls ≠ "java/lang/invoke/VarHandle")
    {W : Nat} {a : Addr} {rest : List Value} (Ex : Exa Z h a C) (hf : 1 ≤ R.frames) (hl : W + 12 ≤ R.locals)
    {g : JFrame} (hg : g.method = m) (hsize : g.locals.size = c.maxLocals) (hlen : ∀ sig, parseMethodDescriptor y.desc = some sig → ([] : List Value).length = sig.parameters.length)
    (hstack : g.stack = .ref a :: rest) (hW : 2 * g.monitorRoom + (rest.map fun v => v.category).sum ≤ W) (hdg : decode c.code g.pc = .ok (.invokeinterface index count, 5)) (eT : T.heap = h)
    (k : ∀ T', Stand p l e R s m args below meth c T' locs cells slots → T'.heap = h → Go p e below E Q T' { g with pc := g.pc + 5, stack := .int 0 :: rest }) : Go p e below E Q T g := by
  obtain ⟨cq, kq, qa, qb, qc⟩ := isOf hZ eT Ex
  obtain ⟨v, _, ⟨T3, L3, k3, n3⟩, -, X3, ⟨rfl, hh3, l3, y3, z3⟩, st3⟩ := X.interfaceBackD hx (xi := y) (y := z) hown (mvT hZ w1) (mvT hZ w2) w7 (mvD hZ w5) (mvT hZ w6) (mvT hZ w8) (mvT hZ w10) hy (back0 (b := a) (h := h) (W := W) hpn hx hZ w4 d0 d1 hf hl) qa qb qc (g := g) hg hsize (Steps.refl _) (argsL := []) (rest := rest) hlen hstack hW hdg (fun _ _ => ⟨rfl, eT⟩)
  dsimp only [Pt.U, Pt.locs, Pt.cells, Pt.slots] at X3 l3 y3 z3 st3 hh3
  subst l3 y3 z3
  exact Go.by (fun _ q => st3.trans q) (k _ X3 hh3)
theorem mvMN {own host : String} {index : Nat} {y : MethodName} (hZ : Z.Warmed39 s.vm) (w : (Cond.methodLinkNest own index y host).before a0 Z = true) : (Cond.methodLinkNest own index y host).before args s = true := (Cond.methodLinkNest_wide hZ w :)
/-- a constructor reached as a nest mate -/
theorem Go.callIN (X : Stand p l e R s m args below meth c T locs cells slots) (hx : p.tables.exec = Jvm.exec) (hZ : Z.Warmed39 s.vm) {own host : String} {index : Nat} {y : MethodName} {bytes : ByteArray} {maxL : Nat} (hy1 : y.name = "<init>")
    (hown : s.vm.findClass own = some m.cls) (w1 : (Cond.methodLinkNest own index y host).before a0 Z = true) (w2 : (Cond.instanceMethod y).before a0 Z = true) (w3 : (Cond.initialized y.cls).before a0 Z = true)
    (w4 : (Cond.code y bytes maxL none).before a0 Z = true) (hy : y.cls ≠ "java/lang/invoke/MethodHandle" ∧ y.cls ≠ "java/lang/invoke/VarHandle")
    {W : Nat} {rm : Room} {a : Addr} {argsL rest : List Value} {Qc : Option Value → Heap → List Loc → Prop} (hM : Ctr l Z y bytes maxL none rm (.ref a :: argsL).toArray h Qc) (hf : rm.frames + 1 ≤ R.frames) (hl : W + (maxL + 11) + rm.locals ≤ R.locals) (hc : cells + rm.cells ≤ R.cells) (hs : slots + rm.slots ≤ R.slots)
    {g : JFrame} (hg : g.method = m) (hsize : g.locals.size = c.maxLocals) (hlen : ∀ sig, parseMethodDescriptor y.desc = some sig → argsL.length = sig.parameters.length)
    (hstack : g.stack = argsL.reverse ++ .ref a :: rest) (hW : 2 * g.monitorRoom + (rest.map fun v => v.category).sum ≤ W) (hdg : decode c.code g.pc = .ok (.invokespecial index, 3)) (eT : T.heap = h)
    (k : ∀ T' L v, Stand p l e R s m args below meth c T' (locs ++ L) (cells + rm.cells) (slots + rm.slots) → Qc v T'.heap L → Go p e below E Q T' { g with pc := g.pc + 3, stack := v.toList ++ rest }) : Go p e below E Q T g := by
  obtain ⟨v, _, ⟨T3, L3, k3, n3⟩, -, X3, ⟨Lc3, hQ3, l3, y3, z3⟩, st3⟩ := X.specialBackNest hx (y := y) hy1 hown (mvMN hZ w1) (mvT hZ w2) (mvT hZ w4) hy (backOf (W := W) (hM []) hZ w4 w3 hf hl) (g := g) hg hsize (Steps.refl _) (a := a) (argsL := argsL) (rest := rest) hlen hstack hW hdg (fun _ _ => ⟨rfl, eT, hc, hs⟩)
  dsimp only [Pt.U, Pt.locs, Pt.cells, Pt.slots] at X3 l3 y3 z3 st3 hQ3
  subst l3 y3 z3
  exact Go.by (fun _ q => st3.trans q) (k _ _ _ X3 hQ3)
/-- the class C has its Class object, at mr -/
def MirM (Z : State) (C : String) (mr : Addr) : Prop := ∃ (c : ClassId) (k : Class), Z.vm.findClass C = some c ∧ Z.vm.classes[c]? = some k ∧ k.mirror = some mr
theorem gclsM (X : Stand p l e R s m args below meth c T locs cells slots) (hx : p.tables.exec = Jvm.exec) (hZ : Z.Warmed39 s.vm) {own C : String} {index : Nat} (hown : s.vm.findClass own = some m.cls)
    (w1 : (Cond.methodLink own index Jvm.Stand.gcN).before a0 Z = true) (w2 : (Cond.declares Jvm.Stand.gcN).before a0 Z = true) (w3 : (Cond.noSuperclass "java/lang/Object").before a0 Z = true) (w4 : (Cond.selects C Jvm.Stand.gcN Jvm.Stand.gcN).before a0 Z = true)
    (w5 : (Cond.instanceMethod Jvm.Stand.gcN).before a0 Z = true) (w6 : (Cond.native Jvm.Stand.gcN).before a0 Z = true) (eT : T.heap = h) {a : Addr} (Ex : Exa Z h a C) {mr : Addr} (M : MirM Z C mr)
    {g : JFrame} (hg : g.method = m) (hsize : g.locals.size = c.maxLocals) {rest : List Value} (hs : g.stack = .ref a :: rest) (hd : decode c.code g.pc = .ok (.invokevirtual index, 3)) (hf : 1 ≤ R.frames) {W : Nat} (hW : 2 * g.monitorRoom + (rest.map fun v => v.category).sum ≤ W) (hl : W + (nativeFrameWords "java/lang/Object" "getClass" 1 + 11) ≤ R.locals) :
    ∃ T', Stand p l e R s m args below meth c T' locs cells slots ∧ T'.heap = h ∧ ∀ target, Steps p.tables e below (T'.setTop { g with pc := g.pc + 3, stack := .ref mr :: rest }) target → Steps p.tables e below (T.setTop g) target := by
  obtain ⟨cB, kB, i1, i2, i3⟩ := isOf hZ eT Ex
  obtain ⟨cc, kc, m1, m2, m3⟩ := M
  rw [hZ.alike.findClass] at i1
  cases i1.symm.trans m1
  obtain ⟨k', q, ek⟩ := hZ.alike.2.2 _ _ m2
  obtain ⟨vm', X', st⟩ := X.getClassOf hx hown (mvT hZ w1) (mvT hZ w2) (nf_top (args := #[]) (mvT hZ w3)) (mvT hZ w4) (mvT hZ w5) (mvT hZ w6) (by rw [hZ.alike.findClass]; exact m1) i3 q (by rw [ek]; exact m3) hg hsize hs hd hf (by omega)
  exact ⟨_, X', eT, st⟩
theorem ldcMr (X : Stand p l e R s m args below meth c T locs cells slots) (hx : p.tables.exec = Jvm.exec) (hZ : Z.Warmed39 s.vm) {own C : String} {index : Nat} (hown : s.vm.findClass own = some m.cls)
    (w : (Cond.classLink own index C).before a0 Z = true) (eT : T.heap = h) {mr : Addr} (M : MirM Z C mr) {g : JFrame} (hg : g.method = m) (hd : decode c.code g.pc = .ok (.ldc index, 2)) :
    ∃ T', Stand p l e R s m args below meth c T' locs cells slots ∧ T'.heap = h ∧ ∀ target, Steps p.tables e below (T'.setTop { g with pc := g.pc + 2, stack := .ref mr :: g.stack }) target → Steps p.tables e below (T.setTop g) target := by
  obtain ⟨cc, kc, m1, m2, m3⟩ := M
  obtain ⟨k', q, ek⟩ := hZ.alike.2.2 _ _ m2
  have f1 : s.vm.findClass C = some cc := by rw [hZ.alike.findClass]; exact m1
  have f3 : k'.mirror = some mr := by rw [ek]; exact m3
  have hev : (Term.mirror C).eval args s none [] s = some (.ref mr) := by simp [Term.eval, f1, q, f3]
  obtain ⟨vm', X', st⟩ := X.ldcMirror hx hown (mvT hZ w) hev hg hd
  exact ⟨_, X', eT, st⟩
end G2
end Jvm.OwnGo
namespace Jvm.Pilot.@@N@@
open Jvm Jvm.ClassFile Sem Op Lib Jvm.Free Jvm.Stand Jvm.LawKit Jvm.RoadKit Jvm.OwnGo Bundle Jvm.Pilot.@@N@@.Jvm.D
/-! an ArrayList, empty or with up to ten elements -/
abbrev OA : FieldType := .object "java/lang/Object"
def pad (xs : List Addr) : List Value := xs.map Value.ref ++ List.replicate (10 - xs.length) .null
def szI (n : Nat) : Int32 := Int32.ofNat n
def Emp (Z : State) (h : Heap) (aD a : Addr) : Prop := Exa Z h a "java/util/ArrayList" ∧ (∃ mc : Int32, Fld Z h a "java/util/AbstractList" "modCount" "I" (.int mc)) ∧ Fld Z h a "java/util/ArrayList" "size" "I" (.int 0) ∧ Fld Z h a "java/util/ArrayList" "elementData" "[Ljava/lang/Object;" (.ref aD)
def Ful (Z : State) (h : Heap) (a ed : Addr) (k : ClassId) (xs : List Addr) : Prop := Exa Z h a "java/util/ArrayList" ∧ (∃ mc : Int32, Fld Z h a "java/util/AbstractList" "modCount" "I" (.int mc)) ∧ Fld Z h a "java/util/ArrayList" "size" "I" (.int (szI xs.length)) ∧ Fld Z h a "java/util/ArrayList" "elementData" "[Ljava/lang/Object;" (.ref ed) ∧ Ovr Z k "java/lang/Object" ∧ Arv Z h ed k OA 10 (pad xs) .null ∧ Exa Z h ed "[Ljava/lang/Object;"
section AL
variable {Z : State} {h h' : Heap} {aD a ed : Addr} {k : ClassId} {xs : List Addr} {ws : List Addr}
theorem Emp.lt (F : Emp Z h aD a) : a < h.size := F.1.lt
theorem Ful.lt (F : Ful Z h a ed k xs) : a < h.size := F.1.lt
theorem Ful.lte (F : Ful Z h a ed k xs) : ed < h.size := F.2.2.2.2.2.1.lt
theorem Emp.ext (F : Emp Z h aD a) (E : Ext h h') : Emp Z h' aD a := by
  obtain ⟨f1, ⟨mc, f2⟩, f3, f4⟩ := F
  exact ⟨f1.ext E, ⟨mc, f2.ext E⟩, f3.ext E, f4.ext E⟩
theorem Emp.keep (F : Emp Z h aD a) (K : Keep h h' ws) (q : a ∉ ws) : Emp Z h' aD a := by
  obtain ⟨f1, ⟨mc, f2⟩, f3, f4⟩ := F
  exact ⟨f1.keep K, ⟨mc, f2.keep K q⟩, f3.keep K q, f4.keep K q⟩
theorem Ful.ext (F : Ful Z h a ed k xs) (E : Ext h h') : Ful Z h' a ed k xs := by
  obtain ⟨f1, ⟨mc, f2⟩, f3, f4, f5, f6, f7⟩ := F
  exact ⟨f1.ext E, ⟨mc, f2.ext E⟩, f3.ext E, f4.ext E, f5, f6.ext E, f7.ext E⟩
theorem Ful.keep (F : Ful Z h a ed k xs) (K : Keep h h' ws) (q : a ∉ ws) (r : ed ∉ ws) : Ful Z h' a ed k xs := by
  obtain ⟨f1, ⟨mc, f2⟩, f3, f4, f5, f6, f7⟩ := F
  exact ⟨f1.keep K, ⟨mc, f2.keep K q⟩, f3.keep K q, f4.keep K q, f5, f6.keep K r, f7.keep K⟩
theorem pad_len (q : xs.length < 10) : xs.length < (pad xs).length := by simp [pad]; omega
theorem pad_set {y : Addr} (q : xs.length < 10) : (pad xs).set xs.length (.ref y) = pad (xs ++ [y]) := by
  obtain ⟨n, hn⟩ : ∃ n, 10 - xs.length = n + 1 := ⟨9 - xs.length, by omega⟩
  have h2 : 10 - (xs ++ [y]).length = n := by simp; omega
  unfold pad
  rw [hn, h2, List.set_append_right _ _ (by simp), List.length_map, Nat.sub_self, List.replicate_succ, List.set_cons_zero]
  simp
theorem szI_int {n : Nat} (q : n ≤ 10) : (szI n).toInt = (n : Int) := by
  show (Int32.ofNat n).toInt = _
  rw [Int32.toInt_ofNat_of_lt (by omega)]
theorem szI_nat {n : Nat} (q : n ≤ 10) : (szI n).toNatClampNeg = n := by
  show (szI n).toInt.toNat = n
  rw [szI_int q]; rfl
theorem szI_nn {n : Nat} (q : n ≤ 10) : ¬ szI n < 0 := by
  have e0 : (0 : Int32).toInt = 0 := by decide
  rw [Int32.lt_iff_toInt_lt, szI_int q, e0]; omega
theorem szI_lt {n : Nat} (q : n < 10) : szI n < 10 := by
  have e0 : (10 : Int32).toInt = 10 := by decide
  rw [Int32.lt_iff_toInt_lt, szI_int (by omega), e0]; omega
theorem szI_ne {n : Nat} (q : n < 10) : ¬ szI n = 10 := fun e => by
  have h := szI_lt q; rw [e] at h; exact absurd h (by decide)
theorem szI_succ {n : Nat} (q : n < 10) : szI n + 1 = szI (n + 1) := by
  have a := c_iadd (szI n) 1
  have b := rng32 (szI n + 1)
  have e1 : (1 : Int32).toInt = 1 := by decide
  rw [szI_int (by omega), e1] at a
  rw [← Int32.toInt_inj, szI_int (by omega)]
  omega
end AL
/-! what stays over a call whose written places are all new -/
theorem keep_mono {h0 h : Heap} {ws ws' : List Addr} (K : Keep h0 h ws) (q : ∀ x ∈ ws, x ∈ ws') : Keep h0 h ws' := ⟨K.1, fun x c a b => K.2.1 x c a (fun z => b (q x z)), K.2.2⟩
def Kp (n0 : Nat) (h0 h : Heap) : Prop := ∃ ws, Keep h0 h ws ∧ ∀ x ∈ ws, n0 ≤ x
section KP
variable {Z : State} {n0 : Nat} {h0 h h' : Heap} {ws : List Addr} {a : Addr} {C : String}
theorem Kp.refl : Kp n0 h h := ⟨[], Keep.refl _ _, all0⟩
theorem Kp.of_ext (E : Ext h h') : Kp n0 h h' := ⟨[], (Keep.refl _ _).ext E, all0⟩
theorem Kp.of_wr {sl : Nat} {v : Value} (W : Wr h h' a sl v) (g : n0 ≤ a) : Kp n0 h h' := ⟨[a], Keep.of_wr W, allS g all0⟩
theorem Kp.of_keep (K : Keep h h' ws) (g : ∀ x ∈ ws, n0 ≤ x) : Kp n0 h h' := ⟨ws, K, g⟩
theorem Kp.trans (A : Kp n0 h0 h) (B : Kp n0 h h') : Kp n0 h0 h' := by
  obtain ⟨w1, k1, g1⟩ := A
  obtain ⟨w2, k2, g2⟩ := B
  exact ⟨w1 ++ w2, (keep_mono k1 fun x hx => List.mem_append_left _ hx).trans k2 (fun x hx => Or.inl (List.mem_append_right _ hx)), fun x hx => (List.mem_append.mp hx).elim (g1 x) (g2 x)⟩
theorem Kp.size (A : Kp n0 h h') : h.size ≤ h'.size := by obtain ⟨_, k, _⟩ := A; exact k.1
theorem exa_kpp (F : Exa Z h a C) (A : Kp n0 h h') : Exa Z h' a C := by obtain ⟨_, k, _⟩ := A; exact F.keep k
theorem old_kpp (F : Old Z n0 h) (A : Kp n0 h h') : Old Z n0 h' := by obtain ⟨_, k, g⟩ := A; exact F.keep k g
end KP
/-! a list, empty (then ed is the list itself) or not -/
def Lst (Z : State) (h : Heap) (aD a ed : Addr) (k : ClassId) (xs : List Addr) : Prop := (xs = [] ∧ ed = a ∧ Emp Z h aD a) ∨ Ful Z h a ed k xs
section LST
variable {Z : State} {h h' : Heap} {aD a ed b : Addr} {k : ClassId} {xs : List Addr} {ws : List Addr} {C : String} {n : Nat} {a0 : Array Value}
theorem Lst.exa (F : Lst Z h aD a ed k xs) : Exa Z h a "java/util/ArrayList" := by rcases F with ⟨_, _, f⟩ | f; exact f.1; exact f.1
theorem Lst.lt (F : Lst Z h aD a ed k xs) : a < h.size := F.exa.lt
theorem Lst.lte (F : Lst Z h aD a ed k xs) : ed < h.size := by rcases F with ⟨_, rfl, f⟩ | f; exact f.lt; exact f.lte
theorem Lst.ext (F : Lst Z h aD a ed k xs) (E : Ext h h') : Lst Z h' aD a ed k xs := by
  rcases F with ⟨q, r, f⟩ | f
  · exact Or.inl ⟨q, r, f.ext E⟩
  · exact Or.inr (f.ext E)
theorem Lst.keep (F : Lst Z h aD a ed k xs) (K : Keep h h' ws) (q : a ∉ ws) (r : ed ∉ ws) : Lst Z h' aD a ed k xs := by
  rcases F with ⟨q1, r1, f⟩ | f
  · exact Or.inl ⟨q1, r1, f.keep K q⟩
  · exact Or.inr (f.keep K q r)
/-- an element: an object that an Object[] may hold -/
def El (Z : State) (a0 : Array Value) (h : Heap) (x : Addr) : Prop := ∃ K : String, Exa Z h x K ∧ (Cond.castable K "java/lang/Object").before a0 Z = true
theorem El.ext {x : Addr} (F : El Z a0 h x) (E : Ext h h') : El Z a0 h' x := by obtain ⟨K, f, w⟩ := F; exact ⟨K, f.ext E, w⟩
theorem El.keep {x : Addr} (F : El Z a0 h x) (K : Keep h h' ws) : El Z a0 h' x := by obtain ⟨C, f, w⟩ := F; exact ⟨C, f.keep K, w⟩
theorem El.ins {x : Addr} (F : El Z a0 h x) : Ins Z h x "java/lang/Object" true := by obtain ⟨C, f, w⟩ := F; exact Ins.of_exa f w
theorem stoL_of_el {cl : Cell} {b : Addr} (A : Arr Z h b cl OA) (q : cl.cls = k) (O : Ovr Z k "java/lang/Object") : ∀ xs : List Addr, (∀ x ∈ xs, El Z a0 h x) → StoL Z h b (xs.map Value.ref)
  | [], _ => trivial
  | x :: r, H => ⟨Sto.ofV A q O (H x (by simp)).ins, stoL_of_el A q O r (fun y hy => H y (by simp [hy]))⟩
theorem pad_at (i : Nat) (hi : i < xs.length) : (pad xs).getD i .null = (xs.map Value.ref).getD i .null := by
  rw [List.getD_eq_getElem?_getD, List.getD_eq_getElem?_getD, pad, List.getElem?_append_left (by simpa using hi)]
theorem range_map : (List.range xs.length).map (fun i => (pad xs).getD (0 + i) .null) = xs.map Value.ref := by
  apply List.ext_getElem
  · simp
  · intro i h1 h2
    have hi : i < xs.length := by simpa using h1
    simp only [List.getElem_map, List.getElem_range, Nat.zero_add]
    rw [pad_at i hi, List.getD_eq_getElem?_getD, List.getElem?_map, List.getElem?_eq_getElem hi]
    rfl
end LST

theorem own_root {Z : State} {a0 : Array Value} {O K : String} {n : Nat} (w : (Cond.noSuperclass O).before a0 Z = true) (wi : (Cond.instantiable K n).before a0 Z = true) (hn : O ≠ K) : NS Z O K := by
  obtain ⟨c, k, h1, h2, h3, -, -⟩ := Cond.noSuperclass_spec w
  obtain ⟨t, k2, g1, -⟩ := Cond.instantiable_spec wi
  have ne := ids_ne h1 g1 hn
  refine ⟨c, t, h1, g1, fun fuel => ?_⟩
  cases fuel with
  | zero => rfl
  | succ f => simp [Vm.isSubclassAux, ne, h2, h3]
theorem own_no {Z : State} {a0 : Array Value} {C S K : String} {m : Nat} (w : (Cond.superclass C S).before a0 Z = true) (wi : (Cond.instantiable K m).before a0 Z = true) (n : NS Z C K) (hn : C ≠ K) : ∃ c t, Z.vm.findClass C = some c ∧ Z.vm.findClass K = some t ∧ Z.vm.assignable c t = false := by
  obtain ⟨c, t, h0, g0, n3⟩ := n
  obtain ⟨p, k, kp, h1, h2, h3, h4, h5, -, h7⟩ := Cond.superclass_spec h0 w
  obtain ⟨t2, k2, g1, g2, g3, g4, -⟩ := Cond.instantiable_spec wi
  cases g0.symm.trans g1
  simp only [Bool.or_eq_false_iff] at g4
  have ne := ids_ne h0 g0 hn
  refine ⟨c, t, h0, g0, ?_⟩
  show Z.vm.assignableAux (255 + 1) c t = false
  simp [Vm.assignableAux, ne, h2, g2, h5, g3, g4.1, Vm.isSubclass, n3]
theorem own_len {Z : State} {args : Array Value} {t : Term} {a : Addr} {c : Cell} {z : Int32} {ty : FieldType} (et : t.eval args Z none [] Z = some (.ref a)) (A : Arr Z Z.heap a c ty) (h : (Term.length t).eval args Z none [] Z = some (.int z)) : c.slots.size < 2 ^ 31 ∧ c.slots.size.toInt32 = z := by
  have ha := A.fin (Vm.Alike.refl _)
  by_cases q : c.slots.size < 2 ^ 31
  · rw [len_f et ha q] at h; exact ⟨q, by simpa using h⟩
  · simp [Term.eval, et, ha, q] at h

theorem own_wS {Z : State} {a0 : Array Value} (hw : ∀ d ∈ tables_1, d.before a0 Z = true) : ∀ a ∈ Bundle.stringAtoms, a.before a0 Z = true := by
  intro d hd
  simp only [Bundle.stringAtoms, List.mem_cons, List.not_mem_nil, or_false] at hd
  rcases hd with rfl | rfl | rfl | rfl | rfl | rfl | rfl
  · exact hw _ (List.mem_of_getElem? (i := 11) rfl)
  · exact hw _ (List.mem_of_getElem? (i := 12) rfl)
  · exact hw _ (List.mem_of_getElem? (i := 13) rfl)
  · exact hw _ (List.mem_of_getElem? (i := 14) rfl)
  · exact hw _ (List.mem_of_getElem? (i := 15) rfl)
  · exact hw _ (List.mem_of_getElem? (i := 16) rfl)
  · exact hw _ (List.mem_of_getElem? (i := 17) rfl)
theorem pn_0 : plainName "com/example/sorrel/sorrel/middle/ir/FunctionBuilderIsOpenPinLaw" = true := by first | (simp [plainName, overriddenIn]; done) | decide +kernel
theorem pf_0 : plainFor x = true := plainFor_of_name pn_0
theorem pd_0 : parseMethodDescriptor "(IIII)Z" = some ⟨[.int, .int, .int, .int], (some .boolean)⟩ := by decide +kernel
theorem d1_0 : decode method_3_code 0 = .ok (.iload_n 0, 1) := by decide +kernel
theorem d1_1 : decode method_3_code 1 = .ok (.iconst 3, 1) := by decide +kernel
theorem d1_2 : decode method_3_code 2 = .ok (.iand, 1) := by decide +kernel
theorem d1_3 : decode method_3_code 3 = .ok (.istore_n 1, 1) := by decide +kernel
theorem d1_4 : decode method_3_code 4 = .ok (.iload_n 1, 1) := by decide +kernel
theorem d1_5 : decode method_3_code 5 = .ok (.ifCond .ne 5, 3) := by decide +kernel
theorem d1_8 : decode method_3_code 8 = .ok (.aconst_null, 1) := by decide +kernel
theorem d1_9 : decode method_3_code 9 = .ok (.areturn, 1) := by decide +kernel
theorem d1_10 : decode method_3_code 10 = .ok (.iload_n 1, 1) := by decide +kernel
theorem d1_11 : decode method_3_code 11 = .ok (.iconst 1, 1) := by decide +kernel
theorem d1_12 : decode method_3_code 12 = .ok (.if_icmp .ne 7, 3) := by decide +kernel
theorem d1_15 : decode method_3_code 15 = .ok (.getstatic 50, 3) := by decide +kernel
theorem d1_18 : decode method_3_code 18 = .ok (.areturn, 1) := by decide +kernel
theorem d1_19 : decode method_3_code 19 = .ok (.iload_n 1, 1) := by decide +kernel
theorem d1_20 : decode method_3_code 20 = .ok (.iconst 2, 1) := by decide +kernel
theorem d1_21 : decode method_3_code 21 = .ok (.if_icmp .ne 7, 3) := by decide +kernel
theorem d1_24 : decode method_3_code 24 = .ok (.getstatic 56, 3) := by decide +kernel
theorem d1_27 : decode method_3_code 27 = .ok (.areturn, 1) := by decide +kernel
theorem d1_28 : decode method_3_code 28 = .ok (.getstatic 59, 3) := by decide +kernel
theorem d1_31 : decode method_3_code 31 = .ok (.areturn, 1) := by decide +kernel
theorem pn_1 : plainName "com/example/sorrel/sorrel/middle/ir/FunctionBuilderIsOpenPinLaw" = true := by first | (simp [plainName, overriddenIn]; done) | decide +kernel
theorem pf_1 : plainFor (⟨"com/example/sorrel/sorrel/middle/ir/FunctionBuilderIsOpenPinLaw", "pick", "(I)Lcom/example/sorrel/sorrel/middle/ir/Value$Type;"⟩ : MethodName) = true := plainFor_of_name pn_1
theorem pd_1 : parseMethodDescriptor "(I)Lcom/example/sorrel/sorrel/middle/ir/Value$Type;" = some ⟨[.int], (some (.object "com/example/sorrel/sorrel/middle/ir/Value$Type"))⟩ := by decide +kernel
theorem d17_0 : decode method_4_code 0 = .ok (.iload_n 1, 1) := by decide +kernel
theorem d17_1 : decode method_4_code 1 = .ok (.ifCond .ge 5, 3) := by decide +kernel
theorem d17_4 : decode method_4_code 4 = .ok (.iconst (-1), 1) := by decide +kernel
theorem d17_5 : decode method_4_code 5 = .ok (.ireturn, 1) := by decide +kernel
theorem d17_6 : decode method_4_code 6 = .ok (.iload_n 1, 1) := by decide +kernel
theorem d17_7 : decode method_4_code 7 = .ok (.iconst 1, 1) := by decide +kernel
theorem d17_8 : decode method_4_code 8 = .ok (.if_icmp .ne 55, 3) := by decide +kernel
theorem d17_11 : decode method_4_code 11 = .ok (.iload_n 2, 1) := by decide +kernel
theorem d17_12 : decode method_4_code 12 = .ok (.iconst 3, 1) := by decide +kernel
theorem d17_13 : decode method_4_code 13 = .ok (.iand, 1) := by decide +kernel
theorem d17_14 : decode method_4_code 14 = .ok (.istore 7, 2) := by decide +kernel
theorem d17_16 : decode method_4_code 16 = .ok (.iload 7, 2) := by decide +kernel
theorem d17_18 : decode method_4_code 18 = .ok (.iconst 2, 1) := by decide +kernel
theorem d17_19 : decode method_4_code 19 = .ok (.if_icmp .ne 14, 3) := by decide +kernel
theorem d17_22 : decode method_4_code 22 = .ok (.aload_n 0, 1) := by decide +kernel
theorem d17_23 : decode method_4_code 23 = .ok (.aload_n 3, 1) := by decide +kernel
theorem d17_24 : decode method_4_code 24 = .ok (.invokevirtual 62, 3) := by decide +kernel
theorem d17_27 : decode method_4_code 27 = .ok (.iconst 0, 1) := by decide +kernel
theorem d17_28 : decode method_4_code 28 = .ok (.istore 6, 2) := by decide +kernel
theorem d17_30 : decode method_4_code 30 = .ok (.goto 30, 3) := by decide +kernel
theorem d17_33 : decode method_4_code 33 = .ok (.iload 7, 2) := by decide +kernel
theorem d17_35 : decode method_4_code 35 = .ok (.iconst 3, 1) := by decide +kernel
theorem d17_36 : decode method_4_code 36 = .ok (.if_icmp .ne 15, 3) := by decide +kernel
theorem d17_39 : decode method_4_code 39 = .ok (.aload_n 0, 1) := by decide +kernel
theorem d17_40 : decode method_4_code 40 = .ok (.aload 4, 2) := by decide +kernel
theorem d17_42 : decode method_4_code 42 = .ok (.invokevirtual 62, 3) := by decide +kernel
theorem d17_45 : decode method_4_code 45 = .ok (.iconst 0, 1) := by decide +kernel
theorem d17_46 : decode method_4_code 46 = .ok (.istore 6, 2) := by decide +kernel
theorem d17_48 : decode method_4_code 48 = .ok (.goto 12, 3) := by decide +kernel
theorem d17_51 : decode method_4_code 51 = .ok (.aload_n 0, 1) := by decide +kernel
theorem d17_52 : decode method_4_code 52 = .ok (.aload 5, 2) := by decide +kernel
theorem d17_54 : decode method_4_code 54 = .ok (.invokevirtual 62, 3) := by decide +kernel
theorem d17_57 : decode method_4_code 57 = .ok (.iconst 1, 1) := by decide +kernel
theorem d17_58 : decode method_4_code 58 = .ok (.istore 6, 2) := by decide +kernel
theorem d17_60 : decode method_4_code 60 = .ok (.goto 12, 3) := by decide +kernel
theorem d17_63 : decode method_4_code 63 = .ok (.aload_n 0, 1) := by decide +kernel
theorem d17_64 : decode method_4_code 64 = .ok (.ldc 15, 2) := by decide +kernel
theorem d17_66 : decode method_4_code 66 = .ok (.invokevirtual 66, 3) := by decide +kernel
theorem d17_69 : decode method_4_code 69 = .ok (.iconst 1, 1) := by decide +kernel
theorem d17_70 : decode method_4_code 70 = .ok (.istore 6, 2) := by decide +kernel
theorem d17_72 : decode method_4_code 72 = .ok (.aload_n 0, 1) := by decide +kernel
theorem d17_73 : decode method_4_code 73 = .ok (.invokevirtual 42, 3) := by decide +kernel
theorem d17_76 : decode method_4_code 76 = .ok (.iload 6, 2) := by decide +kernel
theorem d17_78 : decode method_4_code 78 = .ok (.if_icmp .eq 5, 3) := by decide +kernel
theorem d17_81 : decode method_4_code 81 = .ok (.iconst (-1), 1) := by decide +kernel
theorem d17_82 : decode method_4_code 82 = .ok (.ireturn, 1) := by decide +kernel
theorem d17_83 : decode method_4_code 83 = .ok (.iload 6, 2) := by decide +kernel
theorem d17_85 : decode method_4_code 85 = .ok (.ifCond .eq 7, 3) := by decide +kernel
theorem d17_88 : decode method_4_code 88 = .ok (.iconst 1, 1) := by decide +kernel
theorem d17_89 : decode method_4_code 89 = .ok (.goto 4, 3) := by decide +kernel
theorem d17_92 : decode method_4_code 92 = .ok (.iconst 0, 1) := by decide +kernel
theorem d17_93 : decode method_4_code 93 = .ok (.ireturn, 1) := by decide +kernel
theorem pn_17 : plainName "com/example/sorrel/sorrel/middle/ir/FunctionBuilderIsOpenPinLaw" = true := by first | (simp [plainName, overriddenIn]; done) | decide +kernel
theorem pf_17 : plainFor (⟨"com/example/sorrel/sorrel/middle/ir/FunctionBuilderIsOpenPinLaw", "step", "(Lcom/example/sorrel/sorrel/middle/ir/FunctionBuilder;IILcom/example/sorrel/sorrel/middle/ir/Instruction;Lcom/example/sorrel/sorrel/middle/ir/Instruction;Lcom/example/sorrel/sorrel/middle/ir/Instruction;)I"⟩ : MethodName) = true := plainFor_of_name pn_17
theorem pd_17 : parseMethodDescriptor "(Lcom/example/sorrel/sorrel/middle/ir/FunctionBuilder;IILcom/example/sorrel/sorrel/middle/ir/Instruction;Lcom/example/sorrel/sorrel/middle/ir/Instruction;Lcom/example/sorrel/sorrel/middle/ir/Instruction;)I" = some ⟨[(.object "com/example/sorrel/sorrel/middle/ir/FunctionBuilder"), .int, .int, (.object "com/example/sorrel/sorrel/middle/ir/Instruction"), (.object "com/example/sorrel/sorrel/middle/ir/Instruction"), (.object "com/example/sorrel/sorrel/middle/ir/Instruction")], (some .int)⟩ := by decide +kernel
theorem d2_0 : decode prog_125_method_1_code 0 = .ok (.aload_n 0, 1) := by decide +kernel
theorem d2_1 : decode prog_125_method_1_code 1 = .ok (.invokespecial 1, 3) := by decide +kernel
theorem d2_4 : decode prog_125_method_1_code 4 = .ok (.aload_n 0, 1) := by decide +kernel
theorem d2_5 : decode prog_125_method_1_code 5 = .ok (.aload_n 1, 1) := by decide +kernel
theorem d2_6 : decode prog_125_method_1_code 6 = .ok (.putfield 7, 3) := by decide +kernel
theorem d2_9 : decode prog_125_method_1_code 9 = .ok (.return_, 1) := by decide +kernel
theorem pn_2 : plainName "com/example/sorrel/sorrel/middle/ir/Instruction$Jump" = true := by first | (simp [plainName, overriddenIn]; done) | decide +kernel
theorem pf_2 : plainFor (⟨"com/example/sorrel/sorrel/middle/ir/Instruction$Jump", "<init>", "(Ljava/lang/String;)V"⟩ : MethodName) = true := plainFor_of_name pn_2
theorem pd_2 : parseMethodDescriptor "(Ljava/lang/String;)V" = some ⟨[(.object "java/lang/String")], none⟩ := by decide +kernel
theorem d5_0 : decode prog_132_method_1_code 0 = .ok (.aload_n 0, 1) := by decide +kernel
theorem d5_1 : decode prog_132_method_1_code 1 = .ok (.invokespecial 1, 3) := by decide +kernel
theorem d5_4 : decode prog_132_method_1_code 4 = .ok (.aload_n 0, 1) := by decide +kernel
theorem d5_5 : decode prog_132_method_1_code 5 = .ok (.aload_n 1, 1) := by decide +kernel
theorem d5_6 : decode prog_132_method_1_code 6 = .ok (.putfield 7, 3) := by decide +kernel
theorem d5_9 : decode prog_132_method_1_code 9 = .ok (.return_, 1) := by decide +kernel
theorem pn_5 : plainName "com/example/sorrel/sorrel/middle/ir/Instruction$Return" = true := by first | (simp [plainName, overriddenIn]; done) | decide +kernel
theorem pf_5 : plainFor (⟨"com/example/sorrel/sorrel/middle/ir/Instruction$Return", "<init>", "(Lcom/example/sorrel/sorrel/middle/ir/Value;)V"⟩ : MethodName) = true := plainFor_of_name pn_5
theorem pd_5 : parseMethodDescriptor "(Lcom/example/sorrel/sorrel/middle/ir/Value;)V" = some ⟨[(.object "com/example/sorrel/sorrel/middle/ir/Value")], none⟩ := by decide +kernel
theorem d9_0 : decode prog_119_method_1_code 0 = .ok (.aload_n 0, 1) := by decide +kernel
theorem d9_1 : decode prog_119_method_1_code 1 = .ok (.invokespecial 7, 3) := by decide +kernel
theorem d9_4 : decode prog_119_method_1_code 4 = .ok (.aload_n 3, 1) := by decide +kernel
theorem d9_5 : decode prog_119_method_1_code 5 = .ok (.invokestatic 13, 3) := by decide +kernel
theorem d9_8 : decode prog_119_method_1_code 8 = .ok (.astore_n 3, 1) := by decide +kernel
theorem d9_9 : decode prog_119_method_1_code 9 = .ok (.aload_n 0, 1) := by decide +kernel
theorem d9_10 : decode prog_119_method_1_code 10 = .ok (.aload_n 1, 1) := by decide +kernel
theorem d9_11 : decode prog_119_method_1_code 11 = .ok (.putfield 19, 3) := by decide +kernel
theorem d9_14 : decode prog_119_method_1_code 14 = .ok (.aload_n 0, 1) := by decide +kernel
theorem d9_15 : decode prog_119_method_1_code 15 = .ok (.aload_n 2, 1) := by decide +kernel
theorem d9_16 : decode prog_119_method_1_code 16 = .ok (.putfield 25, 3) := by decide +kernel
theorem d9_19 : decode prog_119_method_1_code 19 = .ok (.aload_n 0, 1) := by decide +kernel
theorem d9_20 : decode prog_119_method_1_code 20 = .ok (.aload_n 3, 1) := by decide +kernel
theorem d9_21 : decode prog_119_method_1_code 21 = .ok (.putfield 29, 3) := by decide +kernel
theorem d9_24 : decode prog_119_method_1_code 24 = .ok (.return_, 1) := by decide +kernel
theorem pn_9 : plainName "com/example/sorrel/sorrel/middle/ir/Instruction$Call" = true := by first | (simp [plainName, overriddenIn]; done) | decide +kernel
theorem pf_9 : plainFor (⟨"com/example/sorrel/sorrel/middle/ir/Instruction$Call", "<init>", "(Lcom/example/sorrel/sorrel/middle/ir/Value;Ljava/lang/String;Ljava/util/List;)V"⟩ : MethodName) = true := plainFor_of_name pn_9
theorem pd_9 : parseMethodDescriptor "(Lcom/example/sorrel/sorrel/middle/ir/Value;Ljava/lang/String;Ljava/util/List;)V" = some ⟨[(.object "com/example/sorrel/sorrel/middle/ir/Value"), (.object "java/lang/String"), (.object "java/util/List")], none⟩ := by decide +kernel
theorem d14_0 : decode prog_113_method_1_code 0 = .ok (.aload_n 0, 1) := by decide +kernel
theorem d14_1 : decode prog_113_method_1_code 1 = .ok (.invokespecial 1, 3) := by decide +kernel
theorem d14_4 : decode prog_113_method_1_code 4 = .ok (.aload_n 0, 1) := by decide +kernel
theorem d14_5 : decode prog_113_method_1_code 5 = .ok (.new 7, 3) := by decide +kernel
theorem d14_8 : decode prog_113_method_1_code 8 = .ok (.dup, 1) := by decide +kernel
theorem d14_9 : decode prog_113_method_1_code 9 = .ok (.invokespecial 9, 3) := by decide +kernel
theorem d14_12 : decode prog_113_method_1_code 12 = .ok (.putfield 10, 3) := by decide +kernel
theorem d14_15 : decode prog_113_method_1_code 15 = .ok (.aload_n 0, 1) := by decide +kernel
theorem d14_16 : decode prog_113_method_1_code 16 = .ok (.new 7, 3) := by decide +kernel
theorem d14_19 : decode prog_113_method_1_code 19 = .ok (.dup, 1) := by decide +kernel
theorem d14_20 : decode prog_113_method_1_code 20 = .ok (.invokespecial 9, 3) := by decide +kernel
theorem d14_23 : decode prog_113_method_1_code 23 = .ok (.putfield 16, 3) := by decide +kernel
theorem d14_26 : decode prog_113_method_1_code 26 = .ok (.aload_n 0, 1) := by decide +kernel
theorem d14_27 : decode prog_113_method_1_code 27 = .ok (.aload_n 1, 1) := by decide +kernel
theorem d14_28 : decode prog_113_method_1_code 28 = .ok (.putfield 19, 3) := by decide +kernel
theorem d14_31 : decode prog_113_method_1_code 31 = .ok (.aload_n 0, 1) := by decide +kernel
theorem d14_32 : decode prog_113_method_1_code 32 = .ok (.aload_n 2, 1) := by decide +kernel
theorem d14_33 : decode prog_113_method_1_code 33 = .ok (.putfield 23, 3) := by decide +kernel
theorem d14_36 : decode prog_113_method_1_code 36 = .ok (.aload_n 0, 1) := by decide +kernel
theorem d14_37 : decode prog_113_method_1_code 37 = .ok (.ldc 27, 2) := by decide +kernel
theorem d14_39 : decode prog_113_method_1_code 39 = .ok (.invokevirtual 29, 3) := by decide +kernel
theorem d14_42 : decode prog_113_method_1_code 42 = .ok (.return_, 1) := by decide +kernel
theorem pn_14 : plainName "com/example/sorrel/sorrel/middle/ir/FunctionBuilder" = true := by first | (simp [plainName, overriddenIn]; done) | decide +kernel
theorem pf_14 : plainFor (⟨"com/example/sorrel/sorrel/middle/ir/FunctionBuilder", "<init>", "(Ljava/lang/String;Lcom/example/sorrel/sorrel/middle/ir/Value$Type;)V"⟩ : MethodName) = true := plainFor_of_name pn_14
theorem pd_14 : parseMethodDescriptor "(Ljava/lang/String;Lcom/example/sorrel/sorrel/middle/ir/Value$Type;)V" = some ⟨[(.object "java/lang/String"), (.object "com/example/sorrel/sorrel/middle/ir/Value$Type")], none⟩ := by decide +kernel
theorem d15_0 : decode prog_113_method_7_code 0 = .ok (.aload_n 0, 1) := by decide +kernel
theorem d15_1 : decode prog_113_method_7_code 1 = .ok (.invokevirtual 62, 3) := by decide +kernel
theorem d15_4 : decode prog_113_method_7_code 4 = .ok (.ifCond .eq 21, 3) := by decide +kernel
theorem d15_7 : decode prog_113_method_7_code 7 = .ok (.new 66, 3) := by decide +kernel
theorem d15_10 : decode prog_113_method_7_code 10 = .ok (.dup, 1) := by decide +kernel
theorem d15_11 : decode prog_113_method_7_code 11 = .ok (.aload_n 0, 1) := by decide +kernel
theorem d15_12 : decode prog_113_method_7_code 12 = .ok (.getfield 59, 3) := by decide +kernel
theorem d15_15 : decode prog_113_method_7_code 15 = .ok (.aload_n 1, 1) := by decide +kernel
theorem d15_16 : decode prog_113_method_7_code 16 = .ok (.invokedynamic 92, 5) := by decide +kernel
theorem d15_21 : decode prog_113_method_7_code 21 = .ok (.invokespecial 77, 3) := by decide +kernel
theorem d15_24 : decode prog_113_method_7_code 24 = .ok (.athrow, 1) := by decide +kernel
theorem d15_25 : decode prog_113_method_7_code 25 = .ok (.aload_n 0, 1) := by decide +kernel
theorem d15_26 : decode prog_113_method_7_code 26 = .ok (.aload_n 1, 1) := by decide +kernel
theorem d15_27 : decode prog_113_method_7_code 27 = .ok (.putfield 59, 3) := by decide +kernel
theorem d15_30 : decode prog_113_method_7_code 30 = .ok (.aload_n 0, 1) := by decide +kernel
theorem d15_31 : decode prog_113_method_7_code 31 = .ok (.new 7, 3) := by decide +kernel
theorem d15_34 : decode prog_113_method_7_code 34 = .ok (.dup, 1) := by decide +kernel
theorem d15_35 : decode prog_113_method_7_code 35 = .ok (.invokespecial 9, 3) := by decide +kernel
theorem d15_38 : decode prog_113_method_7_code 38 = .ok (.putfield 79, 3) := by decide +kernel
theorem d15_41 : decode prog_113_method_7_code 41 = .ok (.return_, 1) := by decide +kernel
theorem pn_15 : plainName "com/example/sorrel/sorrel/middle/ir/FunctionBuilder" = true := by first | (simp [plainName, overriddenIn]; done) | decide +kernel
theorem pf_15 : plainFor (⟨"com/example/sorrel/sorrel/middle/ir/FunctionBuilder", "startBlock", "(Ljava/lang/String;)V"⟩ : MethodName) = true := plainFor_of_name pn_15
theorem pd_15 : parseMethodDescriptor "(Ljava/lang/String;)V" = some ⟨[(.object "java/lang/String")], none⟩ := by decide +kernel
theorem d16_0 : decode prog_113_method_5_code 0 = .ok (.aload_n 0, 1) := by decide +kernel
theorem d16_1 : decode prog_113_method_5_code 1 = .ok (.getfield 59, 3) := by decide +kernel
theorem d16_4 : decode prog_113_method_5_code 4 = .ok (.ifnull 7, 3) := by decide +kernel
theorem d16_7 : decode prog_113_method_5_code 7 = .ok (.iconst 1, 1) := by decide +kernel
theorem d16_8 : decode prog_113_method_5_code 8 = .ok (.goto 4, 3) := by decide +kernel
theorem d16_11 : decode prog_113_method_5_code 11 = .ok (.iconst 0, 1) := by decide +kernel
theorem d16_12 : decode prog_113_method_5_code 12 = .ok (.ireturn, 1) := by decide +kernel
theorem pn_16 : plainName "com/example/sorrel/sorrel/middle/ir/FunctionBuilder" = true := by first | (simp [plainName, overriddenIn]; done) | decide +kernel
theorem pf_16 : plainFor (⟨"com/example/sorrel/sorrel/middle/ir/FunctionBuilder", "isOpen", "()Z"⟩ : MethodName) = true := plainFor_of_name pn_16
theorem pd_16 : parseMethodDescriptor "()Z" = some ⟨[], (some .boolean)⟩ := by decide +kernel
theorem d18_0 : decode prog_113_method_6_code 0 = .ok (.aload_n 0, 1) := by decide +kernel
theorem d18_1 : decode prog_113_method_6_code 1 = .ok (.invokevirtual 62, 3) := by decide +kernel
theorem d18_4 : decode prog_113_method_6_code 4 = .ok (.ifCond .ne 20, 3) := by decide +kernel
theorem d18_7 : decode prog_113_method_6_code 7 = .ok (.new 66, 3) := by decide +kernel
theorem d18_10 : decode prog_113_method_6_code 10 = .ok (.dup, 1) := by decide +kernel
theorem d18_11 : decode prog_113_method_6_code 11 = .ok (.aload_n 1, 1) := by decide +kernel
theorem d18_12 : decode prog_113_method_6_code 12 = .ok (.invokestatic 68, 3) := by decide +kernel
theorem d18_15 : decode prog_113_method_6_code 15 = .ok (.invokedynamic 74, 5) := by decide +kernel
theorem d18_20 : decode prog_113_method_6_code 20 = .ok (.invokespecial 77, 3) := by decide +kernel
theorem d18_23 : decode prog_113_method_6_code 23 = .ok (.athrow, 1) := by decide +kernel
theorem d18_24 : decode prog_113_method_6_code 24 = .ok (.aload_n 0, 1) := by decide +kernel
theorem d18_25 : decode prog_113_method_6_code 25 = .ok (.getfield 79, 3) := by decide +kernel
theorem d18_28 : decode prog_113_method_6_code 28 = .ok (.aload_n 1, 1) := by decide +kernel
theorem d18_29 : decode prog_113_method_6_code 29 = .ok (.invokeinterface 37 2, 5) := by decide +kernel
theorem d18_34 : decode prog_113_method_6_code 34 = .ok (.pop, 1) := by decide +kernel
theorem d18_35 : decode prog_113_method_6_code 35 = .ok (.aload_n 1, 1) := by decide +kernel
theorem d18_36 : decode prog_113_method_6_code 36 = .ok (.invokeinterface 82 1, 5) := by decide +kernel
theorem d18_41 : decode prog_113_method_6_code 41 = .ok (.ifCond .eq 33, 3) := by decide +kernel
theorem d18_44 : decode prog_113_method_6_code 44 = .ok (.aload_n 0, 1) := by decide +kernel
theorem d18_45 : decode prog_113_method_6_code 45 = .ok (.getfield 16, 3) := by decide +kernel
theorem d18_48 : decode prog_113_method_6_code 48 = .ok (.new 87, 3) := by decide +kernel
theorem d18_51 : decode prog_113_method_6_code 51 = .ok (.dup, 1) := by decide +kernel
theorem d18_52 : decode prog_113_method_6_code 52 = .ok (.aload_n 0, 1) := by decide +kernel
theorem d18_53 : decode prog_113_method_6_code 53 = .ok (.getfield 59, 3) := by decide +kernel
theorem d18_56 : decode prog_113_method_6_code 56 = .ok (.aload_n 0, 1) := by decide +kernel
theorem d18_57 : decode prog_113_method_6_code 57 = .ok (.getfield 79, 3) := by decide +kernel
theorem d18_60 : decode prog_113_method_6_code 60 = .ok (.invokespecial 89, 3) := by decide +kernel
theorem d18_63 : decode prog_113_method_6_code 63 = .ok (.invokeinterface 37 2, 5) := by decide +kernel
theorem d18_68 : decode prog_113_method_6_code 68 = .ok (.pop, 1) := by decide +kernel
theorem d18_69 : decode prog_113_method_6_code 69 = .ok (.aload_n 0, 1) := by decide +kernel
theorem d18_70 : decode prog_113_method_6_code 70 = .ok (.aconst_null, 1) := by decide +kernel
theorem d18_71 : decode prog_113_method_6_code 71 = .ok (.putfield 59, 3) := by decide +kernel
theorem d18_74 : decode prog_113_method_6_code 74 = .ok (.return_, 1) := by decide +kernel
theorem pn_18 : plainName "com/example/sorrel/sorrel/middle/ir/FunctionBuilder" = true := by first | (simp [plainName, overriddenIn]; done) | decide +kernel
theorem pf_18 : plainFor (⟨"com/example/sorrel/sorrel/middle/ir/FunctionBuilder", "add", "(Lcom/example/sorrel/sorrel/middle/ir/Instruction;)V"⟩ : MethodName) = true := plainFor_of_name pn_18
theorem pd_18 : parseMethodDescriptor "(Lcom/example/sorrel/sorrel/middle/ir/Instruction;)V" = some ⟨[(.object "com/example/sorrel/sorrel/middle/ir/Instruction")], none⟩ := by decide +kernel
theorem d26_0 : decode prog_108_method_1_code 0 = .ok (.aload_n 0, 1) := by decide +kernel
theorem d26_1 : decode prog_108_method_1_code 1 = .ok (.invokespecial 1, 3) := by decide +kernel
theorem d26_4 : decode prog_108_method_1_code 4 = .ok (.aload_n 2, 1) := by decide +kernel
theorem d26_5 : decode prog_108_method_1_code 5 = .ok (.invokestatic 7, 3) := by decide +kernel
theorem d26_8 : decode prog_108_method_1_code 8 = .ok (.astore_n 2, 1) := by decide +kernel
theorem d26_9 : decode prog_108_method_1_code 9 = .ok (.aload_n 0, 1) := by decide +kernel
theorem d26_10 : decode prog_108_method_1_code 10 = .ok (.aload_n 1, 1) := by decide +kernel
theorem d26_11 : decode prog_108_method_1_code 11 = .ok (.putfield 13, 3) := by decide +kernel
theorem d26_14 : decode prog_108_method_1_code 14 = .ok (.aload_n 0, 1) := by decide +kernel
theorem d26_15 : decode prog_108_method_1_code 15 = .ok (.aload_n 2, 1) := by decide +kernel
theorem d26_16 : decode prog_108_method_1_code 16 = .ok (.putfield 19, 3) := by decide +kernel
theorem d26_19 : decode prog_108_method_1_code 19 = .ok (.return_, 1) := by decide +kernel
theorem pn_26 : plainName "com/example/sorrel/sorrel/middle/ir/Block" = true := by first | (simp [plainName, overriddenIn]; done) | decide +kernel
theorem pf_26 : plainFor (⟨"com/example/sorrel/sorrel/middle/ir/Block", "<init>", "(Ljava/lang/String;Ljava/util/List;)V"⟩ : MethodName) = true := plainFor_of_name pn_26
theorem pd_26 : parseMethodDescriptor "(Ljava/lang/String;Ljava/util/List;)V" = some ⟨[(.object "java/lang/String"), (.object "java/util/List")], none⟩ := by decide +kernel
theorem d3_0 : decode jdk_30_method_1_code 0 = .ok (.aload_n 0, 1) := by decide +kernel
theorem d3_1 : decode jdk_30_method_1_code 1 = .ok (.invokespecial 1, 3) := by decide +kernel
theorem d3_4 : decode jdk_30_method_1_code 4 = .ok (.return_, 1) := by decide +kernel
theorem pn_3 : plainName "java/lang/Record" = true := by first | (simp [plainName, overriddenIn]; done) | decide +kernel
theorem pf_3 : plainFor (⟨"java/lang/Record", "<init>", "()V"⟩ : MethodName) = true := plainFor_of_name pn_3
theorem pd_3 : parseMethodDescriptor "()V" = some ⟨[], none⟩ := by decide +kernel
theorem d24_0 : decode prog_115_method_3_code 0 = .ok (.iconst 0, 1) := by decide +kernel
theorem d24_1 : decode prog_115_method_3_code 1 = .ok (.ireturn, 1) := by decide +kernel
theorem pn_24 : plainName "com/example/sorrel/sorrel/middle/ir/Instruction" = true := by first | (simp [plainName, overriddenIn]; done) | decide +kernel
theorem pf_24 : plainFor (⟨"com/example/sorrel/sorrel/middle/ir/Instruction", "endsBlock", "()Z"⟩ : MethodName) = true := plainFor_of_name pn_24
theorem pd_24 : parseMethodDescriptor "()Z" = some ⟨[], (some .boolean)⟩ := by decide +kernel
theorem d25_0 : decode prog_132_method_4_code 0 = .ok (.iconst 1, 1) := by decide +kernel
theorem d25_1 : decode prog_132_method_4_code 1 = .ok (.ireturn, 1) := by decide +kernel
theorem pn_25 : plainName "com/example/sorrel/sorrel/middle/ir/Instruction$Return" = true := by first | (simp [plainName, overriddenIn]; done) | decide +kernel
theorem pf_25 : plainFor (⟨"com/example/sorrel/sorrel/middle/ir/Instruction$Return", "endsBlock", "()Z"⟩ : MethodName) = true := plainFor_of_name pn_25
theorem pd_25 : parseMethodDescriptor "()Z" = some ⟨[], (some .boolean)⟩ := by decide +kernel
theorem d37_0 : decode prog_125_method_3_code 0 = .ok (.iconst 1, 1) := by decide +kernel
theorem d37_1 : decode prog_125_method_3_code 1 = .ok (.ireturn, 1) := by decide +kernel
theorem pn_37 : plainName "com/example/sorrel/sorrel/middle/ir/Instruction$Jump" = true := by first | (simp [plainName, overriddenIn]; done) | decide +kernel
theorem pf_37 : plainFor (⟨"com/example/sorrel/sorrel/middle/ir/Instruction$Jump", "endsBlock", "()Z"⟩ : MethodName) = true := plainFor_of_name pn_37
theorem pd_37 : parseMethodDescriptor "()Z" = some ⟨[], (some .boolean)⟩ := by decide +kernel
theorem d8_0 : decode jdk_22_method_1_code 0 = .ok (.aload_n 0, 1) := by decide +kernel
theorem d8_1 : decode jdk_22_method_1_code 1 = .ok (.invokespecial 1, 3) := by decide +kernel
theorem d8_4 : decode jdk_22_method_1_code 4 = .ok (.return_, 1) := by decide +kernel
theorem pn_8 : plainName "java/util/AbstractCollection" = true := by first | (simp [plainName, overriddenIn]; done) | decide +kernel
theorem pf_8 : plainFor (⟨"java/util/AbstractCollection", "<init>", "()V"⟩ : MethodName) = true := plainFor_of_name pn_8
theorem pd_8 : parseMethodDescriptor "()V" = some ⟨[], none⟩ := by decide +kernel
theorem d7_0 : decode jdk_39_method_1_code 0 = .ok (.aload_n 0, 1) := by decide +kernel
theorem d7_1 : decode jdk_39_method_1_code 1 = .ok (.invokespecial 1, 3) := by decide +kernel
theorem d7_4 : decode jdk_39_method_1_code 4 = .ok (.aload_n 0, 1) := by decide +kernel
theorem d7_5 : decode jdk_39_method_1_code 5 = .ok (.iconst 0, 1) := by decide +kernel
theorem d7_6 : decode jdk_39_method_1_code 6 = .ok (.putfield 7, 3) := by decide +kernel
theorem d7_9 : decode jdk_39_method_1_code 9 = .ok (.return_, 1) := by decide +kernel
theorem pn_7 : plainName "java/util/AbstractList" = true := by first | (simp [plainName, overriddenIn]; done) | decide +kernel
theorem pf_7 : plainFor (⟨"java/util/AbstractList", "<init>", "()V"⟩ : MethodName) = true := plainFor_of_name pn_7
theorem pd_7 : parseMethodDescriptor "()V" = some ⟨[], none⟩ := by decide +kernel
theorem d6_0 : decode jdk_38_method_2_code 0 = .ok (.aload_n 0, 1) := by decide +kernel
theorem d6_1 : decode jdk_38_method_2_code 1 = .ok (.invokespecial 1, 3) := by decide +kernel
theorem d6_4 : decode jdk_38_method_2_code 4 = .ok (.aload_n 0, 1) := by decide +kernel
theorem d6_5 : decode jdk_38_method_2_code 5 = .ok (.getstatic 39, 3) := by decide +kernel
theorem d6_8 : decode jdk_38_method_2_code 8 = .ok (.putfield 9, 3) := by decide +kernel
theorem d6_11 : decode jdk_38_method_2_code 11 = .ok (.return_, 1) := by decide +kernel
theorem pn_6 : plainName "java/util/ArrayList" = true := by first | (simp [plainName, overriddenIn]; done) | decide +kernel
theorem pf_6 : plainFor (⟨"java/util/ArrayList", "<init>", "()V"⟩ : MethodName) = true := plainFor_of_name pn_6
theorem pd_6 : parseMethodDescriptor "()V" = some ⟨[], none⟩ := by decide +kernel
theorem ef_8 (a1 : Addr) (m : MethodId) : entryFrame m #[(.ref a1)] 1 = mkF m 0 #[.val (.ref a1)] [] := by first | (simp [entryFrame, mkF, argsToLocals, Value.category]; done) | rfl
set_option maxRecDepth 65536 in
set_option maxHeartbeats 40000000 in
theorem rm8 (l : Launch) (Z : State) (a0 : Array Value) (hw : ∀ d ∈ tables_1, d.before a0 Z = true) (a1 : Addr) (h0 : Heap) (n0 : Nat)   :
    Ctr l Z (⟨"java/util/AbstractCollection", "<init>", "()V"⟩ : MethodName) jdk_22_method_1_code 1 none ({ frames := 1, cells := 0, slots := 0, locals := 12 } : Room) #[(.ref a1)] h0 (fun v h L => v = none ∧ Fr n0 L ∧ h = h0) := by
  refine Ctr.of pf_8 (ef_8 a1) ?_
  intro p e s m below meth c T0 hx hby hml hret hlk hnm hZ hown e0 X0
  refine Go.by (g' := (mkF m 1 #[.val (.ref a1)] [(.ref a1)])) (fun _ k => XS.aloadN X0.here hx rfl (hb hby d8_0) rfl rfl k) ?_
  obtain ⟨T1, X1, e1, st1⟩ := initO X0 hx hZ hown (hw _ (List.mem_of_getElem? (i := 62) rfl)) (hw _ (List.mem_of_getElem? (i := 27) rfl)) (hw _ (List.mem_of_getElem? (i := 28) rfl)) e0 (g := (mkF m 1 #[.val (.ref a1)] [(.ref a1)])) rfl (by rw [hml]; rfl) rfl (hb hby d8_1) (by decide) (W := 0) (by show 2 * 0 + _ ≤ _; exact Nat.le_of_eq rfl) (by decide)
  refine Go.by (g' := (mkF m 4 #[.val (.ref a1)] [])) st1 ?_
  exact Go.outN X1 hx hret (Lv.narrow X1 hlk (by decide) (by decide)) (hb hby d8_4) (by rw [e1]; exact ⟨rfl, Fr.nil _, rfl⟩)
theorem ef_7 (a1 : Addr) (m : MethodId) : entryFrame m #[(.ref a1)] 1 = mkF m 0 #[.val (.ref a1)] [] := by first | (simp [entryFrame, mkF, argsToLocals, Value.category]; done) | rfl
set_option maxRecDepth 65536 in
set_option maxHeartbeats 40000000 in
theorem rm7 (l : Launch) (Z : State) (a0 : Array Value) (hw : ∀ d ∈ tables_1, d.before a0 Z = true) (a1 : Addr) (h0 : Heap) (n0 : Nat) (u1 u2 u3 : Value) (Ea : Exa Z h0 a1 "java/util/ArrayList") (Fm : Fld Z h0 a1 "java/util/AbstractList" "modCount" "I" u1) (Fe : Fld Z h0 a1 "java/util/ArrayList" "elementData" "[Ljava/lang/Object;" u2) (Fz : Fld Z h0 a1 "java/util/ArrayList" "size" "I" u3) (g1 : n0 ≤ a1) :
    Ctr l Z (⟨"java/util/AbstractList", "<init>", "()V"⟩ : MethodName) jdk_39_method_1_code 1 none ({ frames := 2, cells := 0, slots := 0, locals := 24 } : Room) #[(.ref a1)] h0 (fun v h L => v = none ∧ Fr n0 L ∧ Keep h0 h [a1] ∧ Fld Z h a1 "java/util/AbstractList" "modCount" "I" (.int 0) ∧ Fld Z h a1 "java/util/ArrayList" "elementData" "[Ljava/lang/Object;" u2 ∧ Fld Z h a1 "java/util/ArrayList" "size" "I" u3) := by
  refine Ctr.of pf_7 (ef_7 a1) ?_
  intro p e s m below meth c T0 hx hby hml hret hlk hnm hZ hown e0 X0
  refine Go.by (g' := (mkF m 1 #[.val (.ref a1)] [(.ref a1)])) (fun _ k => XS.aloadN X0.here hx rfl (hb hby d7_0) rfl rfl k) ?_
  refine Go.callI X0 hx hZ (y := (⟨"java/util/AbstractCollection", "<init>", "()V"⟩ : MethodName)) rfl hown (hw _ (List.mem_of_getElem? (i := 56) rfl)) (hw _ (List.mem_of_getElem? (i := 57) rfl)) (hw _ (List.mem_of_getElem? (i := 60) rfl)) (hw _ (List.mem_of_getElem? (i := 61) rfl)) (by decide) (W := 0) (a := a1) (argsL := []) (rest := []) (rm8 l Z a0 hw a1 h0 n0) (by decide) (by decide) (by decide) (by decide) (g := (mkF m 1 #[.val (.ref a1)] [(.ref a1)])) rfl (by rw [hml]; rfl) (lenOf pd_8 rfl) rfl (by show 2 * 0 + _ ≤ _; exact Nat.le_of_eq rfl) (hb hby d7_1) e0 ?_
  rintro T2 L2 _ X2 ⟨rfl, N2, q2⟩
  have M2 := Fr.app (Fr.nil n0) N2
  show Go p e below _ _ T2 (mkF m 4 #[.val (.ref a1)] [])
  refine Go.by (g' := (mkF m 5 #[.val (.ref a1)] [(.ref a1)])) (fun _ k => XS.aloadN X2.here hx rfl (hb hby d7_4) rfl rfl k) ?_
  refine Go.by (g' := (mkF m 6 #[.val (.ref a1)] [(.int (0 : Int32)), (.ref a1)])) (fun _ k => XS.iconst X2.here hx rfl (hb hby d7_5) k) ?_
  obtain ⟨T3, h3, X3, e3, W3, st3⟩ := putF X2 hx hZ hown (host := "") (Or.inl (hw _ (List.mem_of_getElem? (i := 63) rfl))) Via.refl q2 Fm Ea (Or.inl (hw _ (List.mem_of_getElem? (i := 64) rfl))) (hw _ (List.mem_of_getElem? (i := 45) rfl)) (ty := .int) (by decide) rfl rfl (g := (mkF m 6 #[.val (.ref a1)] [(.int (0 : Int32)), (.ref a1)])) rfl rfl (hb hby d7_6)
  have M3 := Fr.snoc X3 M2 g1
  have KP3 : Keep h0 h3 [a1] := (Keep.refl h0 [a1]).wr W3 (Or.inl (List.mem_of_getElem? (i := 0) rfl))
  have F3_Fm := Fm.same W3
  refine Go.by (g' := (mkF m 9 #[.val (.ref a1)] [])) st3 ?_
  have f4_Fe := (Fe.other W3 (Or.inr (slot_ne (Or.inl (hw _ (List.mem_of_getElem? (i := 67) rfl))) (Or.inl (hw _ (List.mem_of_getElem? (i := 64) rfl))) (by decide) (t := (.array (.object "java/lang/Object"))) (t' := .int) (by decide) (by decide))))
  have f5_Fz := (Fz.other W3 (Or.inr (slot_ne (Or.inl (hw _ (List.mem_of_getElem? (i := 96) rfl))) (Or.inl (hw _ (List.mem_of_getElem? (i := 64) rfl))) (by decide) (t := .int) (t' := .int) (by decide) (by decide))))
  exact Go.outN X3 hx hret (Lv.narrow X3 hlk (by decide) (by decide)) (hb hby d7_9) (by rw [e3]; exact ⟨rfl, M3, KP3, F3_Fm, f4_Fe, f5_Fz⟩)
theorem ef_6 (a1 : Addr) (m : MethodId) : entryFrame m #[(.ref a1)] 1 = mkF m 0 #[.val (.ref a1)] [] := by first | (simp [entryFrame, mkF, argsToLocals, Value.category]; done) | rfl
set_option maxRecDepth 65536 in
set_option maxHeartbeats 40000000 in
theorem rm6 (l : Launch) (Z : State) (a0 : Array Value) (hw : ∀ d ∈ tables_1, d.before a0 Z = true) (a1 : Addr) (h0 : Heap) (n0 : Nat) (aD : Addr) (u1 u2 : Value) (Ea : Exa Z h0 a1 "java/util/ArrayList") (Fm : Fld Z h0 a1 "java/util/AbstractList" "modCount" "I" u1) (Fe : Fld Z h0 a1 "java/util/ArrayList" "elementData" "[Ljava/lang/Object;" u2) (Fz : Fld Z h0 a1 "java/util/ArrayList" "size" "I" (.int 0)) (g1 : n0 ≤ a1) (OL : Old Z n0 h0) (SD : Sta Z Z.heap "java/util/ArrayList" "DEFAULTCAPACITY_EMPTY_ELEMENTDATA" "[Ljava/lang/Object;" (.ref aD)) :
    Ctr l Z (⟨"java/util/ArrayList", "<init>", "()V"⟩ : MethodName) jdk_38_method_2_code 1 none ({ frames := 3, cells := 0, slots := 0, locals := 36 } : Room) #[(.ref a1)] h0 (fun v h L => v = none ∧ Fr n0 L ∧ Keep h0 h [a1] ∧ Emp Z h aD a1) := by
  refine Ctr.of pf_6 (ef_6 a1) ?_
  intro p e s m below meth c T0 hx hby hml hret hlk hnm hZ hown e0 X0
  refine Go.by (g' := (mkF m 1 #[.val (.ref a1)] [(.ref a1)])) (fun _ k => XS.aloadN X0.here hx rfl (hb hby d6_0) rfl rfl k) ?_
  refine Go.callI X0 hx hZ (y := (⟨"java/util/AbstractList", "<init>", "()V"⟩ : MethodName)) rfl hown (hw _ (List.mem_of_getElem? (i := 50) rfl)) (hw _ (List.mem_of_getElem? (i := 51) rfl)) (hw _ (List.mem_of_getElem? (i := 54) rfl)) (hw _ (List.mem_of_getElem? (i := 55) rfl)) (by decide) (W := 0) (a := a1) (argsL := []) (rest := []) (rm7 l Z a0 hw a1 h0 n0 u1 u2 (.int 0) Ea Fm Fe Fz g1) (by decide) (by decide) (by decide) (by decide) (g := (mkF m 1 #[.val (.ref a1)] [(.ref a1)])) rfl (by rw [hml]; rfl) (lenOf pd_7 rfl) rfl (by show 2 * 0 + _ ≤ _; exact Nat.le_of_eq rfl) (hb hby d6_1) e0 ?_
  rintro T6 L6 _ X6 ⟨rfl, N6, K6, Fm6, Fe6, Fz6⟩
  have M6 := Fr.app (Fr.nil n0) N6
  have KP6 : Keep h0 T6.heap [a1] := (Keep.refl h0 [a1]).trans K6 (allS (Or.inl (List.mem_of_getElem? (i := 0) rfl)) all0)
  show Go p e below _ _ T6 (mkF m 4 #[.val (.ref a1)] [])
  refine Go.by (g' := (mkF m 5 #[.val (.ref a1)] [(.ref a1)])) (fun _ k => XS.aloadN X6.here hx rfl (hb hby d6_4) rfl rfl k) ?_
  have f7_OL := (OL.keep K6 (allS g1 all0))
  obtain ⟨T8, X8, e8, st8⟩ := getS2 X6 hx hZ hown (host := "") (Or.inl (hw _ (List.mem_of_getElem? (i := 65) rfl))) Via.refl rfl (SD.ext f7_OL.2) (g := (mkF m 5 #[.val (.ref a1)] [(.ref a1)])) rfl (hb hby d6_5)
  refine Go.by (g' := (mkF m 8 #[.val (.ref a1)] [(.ref aD), (.ref a1)])) st8 ?_
  have f9_Ea := (Ea.keep K6)
  obtain ⟨T10, h10, X10, e10, W10, st10⟩ := putF X8 hx hZ hown (host := "") (Or.inl (hw _ (List.mem_of_getElem? (i := 66) rfl))) Via.refl e8 Fe6 f9_Ea (Or.inl (hw _ (List.mem_of_getElem? (i := 67) rfl))) (hw _ (List.mem_of_getElem? (i := 45) rfl)) (ty := (.array (.object "java/lang/Object"))) (by decide) rfl rfl (g := (mkF m 8 #[.val (.ref a1)] [(.ref aD), (.ref a1)])) rfl rfl (hb hby d6_8)
  have M10 := Fr.snoc X10 M6 g1
  have KP10 : Keep h0 h10 [a1] := KP6.wr W10 (Or.inl (List.mem_of_getElem? (i := 0) rfl))
  have F10_Fe := Fe6.same W10
  refine Go.by (g' := (mkF m 11 #[.val (.ref a1)] [])) st10 ?_
  have f11_Ea := (f9_Ea.wr W10)
  have f12_Fm := (Fm6.other W10 (Or.inr (slot_ne (Or.inl (hw _ (List.mem_of_getElem? (i := 64) rfl))) (Or.inl (hw _ (List.mem_of_getElem? (i := 67) rfl))) (by decide) (t := .int) (t' := (.array (.object "java/lang/Object"))) (by decide) (by decide))))
  have f13_Fz := (Fz6.other W10 (Or.inr (slot_ne (Or.inl (hw _ (List.mem_of_getElem? (i := 96) rfl))) (Or.inl (hw _ (List.mem_of_getElem? (i := 67) rfl))) (by decide) (t := .int) (t' := (.array (.object "java/lang/Object"))) (by decide) (by decide))))
  exact Go.outN X10 hx hret (Lv.narrow X10 hlk (by decide) (by decide)) (hb hby d6_11) (by rw [e10]; exact ⟨rfl, M10, KP10, f11_Ea, ⟨_, f12_Fm⟩, f13_Fz, F10_Fe⟩)
theorem d23_0 : decode jdk_29_method_65_code 0 = .ok (.iload_n 0, 1) := by decide +kernel
theorem d23_1 : decode jdk_29_method_65_code 1 = .ok (.iload_n 1, 1) := by decide +kernel
theorem d23_2 : decode jdk_29_method_65_code 2 = .ok (.if_icmp .lt 7, 3) := by decide +kernel
theorem d23_5 : decode jdk_29_method_65_code 5 = .ok (.iload_n 0, 1) := by decide +kernel
theorem d23_6 : decode jdk_29_method_65_code 6 = .ok (.goto 4, 3) := by decide +kernel
theorem d23_9 : decode jdk_29_method_65_code 9 = .ok (.iload_n 1, 1) := by decide +kernel
theorem d23_10 : decode jdk_29_method_65_code 10 = .ok (.ireturn, 1) := by decide +kernel
theorem pf_23 : plainFor (⟨"java/lang/Math", "max", "(II)I"⟩ : MethodName) = true := Jvm.Free.JP.mathPlain rfl (by decide +kernel)
theorem pd_23 : parseMethodDescriptor "(II)I" = some ⟨[.int, .int], (some .int)⟩ := by decide +kernel
theorem d22_0 : decode jdk_38_method_6_code 0 = .ok (.aload_n 0, 1) := by decide +kernel
theorem d22_1 : decode jdk_38_method_6_code 1 = .ok (.getfield 9, 3) := by decide +kernel
theorem d22_4 : decode jdk_38_method_6_code 4 = .ok (.arraylength, 1) := by decide +kernel
theorem d22_5 : decode jdk_38_method_6_code 5 = .ok (.istore_n 2, 1) := by decide +kernel
theorem d22_6 : decode jdk_38_method_6_code 6 = .ok (.iload_n 2, 1) := by decide +kernel
theorem d22_7 : decode jdk_38_method_6_code 7 = .ok (.ifCond .gt 13, 3) := by decide +kernel
theorem d22_10 : decode jdk_38_method_6_code 10 = .ok (.aload_n 0, 1) := by decide +kernel
theorem d22_11 : decode jdk_38_method_6_code 11 = .ok (.getfield 9, 3) := by decide +kernel
theorem d22_14 : decode jdk_38_method_6_code 14 = .ok (.getstatic 39, 3) := by decide +kernel
theorem d22_17 : decode jdk_38_method_6_code 17 = .ok (.if_acmp .eq 28, 3) := by decide +kernel
theorem d22_20 : decode jdk_38_method_6_code 20 = .ok (.iload_n 2, 1) := by decide +kernel
theorem d22_21 : decode jdk_38_method_6_code 21 = .ok (.iload_n 1, 1) := by decide +kernel
theorem d22_22 : decode jdk_38_method_6_code 22 = .ok (.iload_n 2, 1) := by decide +kernel
theorem d22_23 : decode jdk_38_method_6_code 23 = .ok (.isub, 1) := by decide +kernel
theorem d22_24 : decode jdk_38_method_6_code 24 = .ok (.iload_n 2, 1) := by decide +kernel
theorem d22_25 : decode jdk_38_method_6_code 25 = .ok (.iconst 1, 1) := by decide +kernel
theorem d22_26 : decode jdk_38_method_6_code 26 = .ok (.ishr, 1) := by decide +kernel
theorem d22_27 : decode jdk_38_method_6_code 27 = .ok (.invokestatic 73, 3) := by decide +kernel
theorem d22_30 : decode jdk_38_method_6_code 30 = .ok (.istore_n 3, 1) := by decide +kernel
theorem d22_31 : decode jdk_38_method_6_code 31 = .ok (.aload_n 0, 1) := by decide +kernel
theorem d22_32 : decode jdk_38_method_6_code 32 = .ok (.aload_n 0, 1) := by decide +kernel
theorem d22_33 : decode jdk_38_method_6_code 33 = .ok (.getfield 9, 3) := by decide +kernel
theorem d22_36 : decode jdk_38_method_6_code 36 = .ok (.iload_n 3, 1) := by decide +kernel
theorem d22_37 : decode jdk_38_method_6_code 37 = .ok (.invokestatic 66, 3) := by decide +kernel
theorem d22_40 : decode jdk_38_method_6_code 40 = .ok (.dup_x1, 1) := by decide +kernel
theorem d22_41 : decode jdk_38_method_6_code 41 = .ok (.putfield 9, 3) := by decide +kernel
theorem d22_44 : decode jdk_38_method_6_code 44 = .ok (.areturn, 1) := by decide +kernel
theorem d22_45 : decode jdk_38_method_6_code 45 = .ok (.aload_n 0, 1) := by decide +kernel
theorem d22_46 : decode jdk_38_method_6_code 46 = .ok (.bipush 10, 2) := by decide +kernel
theorem d22_48 : decode jdk_38_method_6_code 48 = .ok (.iload_n 1, 1) := by decide +kernel
theorem d22_49 : decode jdk_38_method_6_code 49 = .ok (.invokestatic 79, 3) := by decide +kernel
theorem d22_52 : decode jdk_38_method_6_code 52 = .ok (.anewarray 7, 3) := by decide +kernel
theorem d22_55 : decode jdk_38_method_6_code 55 = .ok (.dup_x1, 1) := by decide +kernel
theorem d22_56 : decode jdk_38_method_6_code 56 = .ok (.putfield 9, 3) := by decide +kernel
theorem d22_59 : decode jdk_38_method_6_code 59 = .ok (.areturn, 1) := by decide +kernel
theorem pn_22 : plainName "java/util/ArrayList" = true := by first | (simp [plainName, overriddenIn]; done) | decide +kernel
theorem pf_22 : plainFor (⟨"java/util/ArrayList", "grow", "(I)[Ljava/lang/Object;"⟩ : MethodName) = true := plainFor_of_name pn_22
theorem pd_22 : parseMethodDescriptor "(I)[Ljava/lang/Object;" = some ⟨[.int], (some (.array (.object "java/lang/Object")))⟩ := by decide +kernel
theorem d21_0 : decode jdk_38_method_7_code 0 = .ok (.aload_n 0, 1) := by decide +kernel
theorem d21_1 : decode jdk_38_method_7_code 1 = .ok (.aload_n 0, 1) := by decide +kernel
theorem d21_2 : decode jdk_38_method_7_code 2 = .ok (.getfield 48, 3) := by decide +kernel
theorem d21_5 : decode jdk_38_method_7_code 5 = .ok (.iconst 1, 1) := by decide +kernel
theorem d21_6 : decode jdk_38_method_7_code 6 = .ok (.iadd, 1) := by decide +kernel
theorem d21_7 : decode jdk_38_method_7_code 7 = .ok (.invokevirtual 69, 3) := by decide +kernel
theorem d21_10 : decode jdk_38_method_7_code 10 = .ok (.areturn, 1) := by decide +kernel
theorem pn_21 : plainName "java/util/ArrayList" = true := by first | (simp [plainName, overriddenIn]; done) | decide +kernel
theorem pf_21 : plainFor (⟨"java/util/ArrayList", "grow", "()[Ljava/lang/Object;"⟩ : MethodName) = true := plainFor_of_name pn_21
theorem pd_21 : parseMethodDescriptor "()[Ljava/lang/Object;" = some ⟨[], (some (.array (.object "java/lang/Object")))⟩ := by decide +kernel
theorem d20_0 : decode jdk_38_method_24_code 0 = .ok (.iload_n 3, 1) := by decide +kernel
theorem d20_1 : decode jdk_38_method_24_code 1 = .ok (.aload_n 2, 1) := by decide +kernel
theorem d20_2 : decode jdk_38_method_24_code 2 = .ok (.arraylength, 1) := by decide +kernel
theorem d20_3 : decode jdk_38_method_24_code 3 = .ok (.if_icmp .ne 8, 3) := by decide +kernel
theorem d20_6 : decode jdk_38_method_24_code 6 = .ok (.aload_n 0, 1) := by decide +kernel
theorem d20_7 : decode jdk_38_method_24_code 7 = .ok (.invokevirtual 129, 3) := by decide +kernel
theorem d20_10 : decode jdk_38_method_24_code 10 = .ok (.astore_n 2, 1) := by decide +kernel
theorem d20_11 : decode jdk_38_method_24_code 11 = .ok (.aload_n 2, 1) := by decide +kernel
theorem d20_12 : decode jdk_38_method_24_code 12 = .ok (.iload_n 3, 1) := by decide +kernel
theorem d20_13 : decode jdk_38_method_24_code 13 = .ok (.aload_n 1, 1) := by decide +kernel
theorem d20_14 : decode jdk_38_method_24_code 14 = .ok (.aastore, 1) := by decide +kernel
theorem d20_15 : decode jdk_38_method_24_code 15 = .ok (.aload_n 0, 1) := by decide +kernel
theorem d20_16 : decode jdk_38_method_24_code 16 = .ok (.iload_n 3, 1) := by decide +kernel
theorem d20_17 : decode jdk_38_method_24_code 17 = .ok (.iconst 1, 1) := by decide +kernel
theorem d20_18 : decode jdk_38_method_24_code 18 = .ok (.iadd, 1) := by decide +kernel
theorem d20_19 : decode jdk_38_method_24_code 19 = .ok (.putfield 48, 3) := by decide +kernel
theorem d20_22 : decode jdk_38_method_24_code 22 = .ok (.return_, 1) := by decide +kernel
theorem pn_20 : plainName "java/util/ArrayList" = true := by first | (simp [plainName, overriddenIn]; done) | decide +kernel
theorem pf_20 : plainFor (⟨"java/util/ArrayList", "add", "(Ljava/lang/Object;[Ljava/lang/Object;I)V"⟩ : MethodName) = true := plainFor_of_name pn_20
theorem pd_20 : parseMethodDescriptor "(Ljava/lang/Object;[Ljava/lang/Object;I)V" = some ⟨[(.object "java/lang/Object"), (.array (.object "java/lang/Object")), .int], none⟩ := by decide +kernel
theorem d19_0 : decode jdk_38_method_25_code 0 = .ok (.aload_n 0, 1) := by decide +kernel
theorem d19_1 : decode jdk_38_method_25_code 1 = .ok (.dup, 1) := by decide +kernel
theorem d19_2 : decode jdk_38_method_25_code 2 = .ok (.getfield 63, 3) := by decide +kernel
theorem d19_5 : decode jdk_38_method_25_code 5 = .ok (.iconst 1, 1) := by decide +kernel
theorem d19_6 : decode jdk_38_method_25_code 6 = .ok (.iadd, 1) := by decide +kernel
theorem d19_7 : decode jdk_38_method_25_code 7 = .ok (.putfield 63, 3) := by decide +kernel
theorem d19_10 : decode jdk_38_method_25_code 10 = .ok (.aload_n 0, 1) := by decide +kernel
theorem d19_11 : decode jdk_38_method_25_code 11 = .ok (.aload_n 1, 1) := by decide +kernel
theorem d19_12 : decode jdk_38_method_25_code 12 = .ok (.aload_n 0, 1) := by decide +kernel
theorem d19_13 : decode jdk_38_method_25_code 13 = .ok (.getfield 9, 3) := by decide +kernel
theorem d19_16 : decode jdk_38_method_25_code 16 = .ok (.aload_n 0, 1) := by decide +kernel
theorem d19_17 : decode jdk_38_method_25_code 17 = .ok (.getfield 48, 3) := by decide +kernel
theorem d19_20 : decode jdk_38_method_25_code 20 = .ok (.invokevirtual 131, 3) := by decide +kernel
theorem d19_23 : decode jdk_38_method_25_code 23 = .ok (.iconst 1, 1) := by decide +kernel
theorem d19_24 : decode jdk_38_method_25_code 24 = .ok (.ireturn, 1) := by decide +kernel
theorem pn_19 : plainName "java/util/ArrayList" = true := by first | (simp [plainName, overriddenIn]; done) | decide +kernel
theorem pf_19 : plainFor (⟨"java/util/ArrayList", "add", "(Ljava/lang/Object;)Z"⟩ : MethodName) = true := plainFor_of_name pn_19
theorem pd_19 : parseMethodDescriptor "(Ljava/lang/Object;)Z" = some ⟨[(.object "java/lang/Object")], (some .boolean)⟩ := by decide +kernel
theorem ef_23 (p1 : Int32) (p2 : Int32) (m : MethodId) : entryFrame m #[(.int p1), (.int p2)] 2 = mkF m 0 #[.val (.int p1), .val (.int p2)] [] := by first | (simp [entryFrame, mkF, argsToLocals, Value.category]; done) | rfl
set_option maxRecDepth 65536 in
set_option maxHeartbeats 40000000 in
theorem rm23 (l : Launch) (Z : State) (a0 : Array Value) (hw : ∀ d ∈ tables_1, d.before a0 Z = true) (p1 : Int32) (p2 : Int32) (h0 : Heap) (n0 : Nat)  (hc : ¬ p1 < p2) :
    Ctr l Z (⟨"java/lang/Math", "max", "(II)I"⟩ : MethodName) jdk_29_method_65_code 2 (some .int) ({ frames := 0, cells := 0, slots := 0, locals := 0 } : Room) #[(.int p1), (.int p2)] h0 (fun v h L => v = some (.int p1) ∧ Fr n0 L ∧ h = h0) := by
  refine Ctr.of pf_23 (ef_23 p1 p2) ?_
  intro p e s m below meth c T0 hx hby hml hret hlk hnm hZ hown e0 X0
  refine Go.by (g' := (mkF m 1 #[.val (.int p1), .val (.int p2)] [(.int p1)])) (fun _ k => XS.iloadN X0.here hx rfl (hb hby d23_0) rfl k) ?_
  refine Go.by (g' := (mkF m 2 #[.val (.int p1), .val (.int p2)] [(.int p2), (.int p1)])) (fun _ k => XS.iloadN X0.here hx rfl (hb hby d23_1) rfl k) ?_
  refine Go.by (g' := (mkF m 5 #[.val (.int p1), .val (.int p2)] [])) (fun _ k => XS.icmpNo X0.here hx rfl (hb hby d23_2) rfl (flt hc).1 k) ?_
  refine Go.by (g' := (mkF m 6 #[.val (.int p1), .val (.int p2)] [(.int p1)])) (fun _ k => XS.iloadN X0.here hx rfl (hb hby d23_5) rfl k) ?_
  refine Go.by (g' := (mkF m 10 #[.val (.int p1), .val (.int p2)] [(.int p1)])) (fun _ k => XS.goto X0.here hx rfl (pc0 := 6) (pc' := 10) rfl (hb hby d23_6) (by decide) (by decide) k) ?_
  exact Go.outI X0 hx hret (Lv.narrow X0 hlk (by decide) (by decide)) (hb hby d23_10) (by rw [e0]; exact ⟨rfl, Fr.nil _, rfl⟩)
theorem ef_22 (a1 : Addr) (p2 : Int32) (m : MethodId) : entryFrame m #[(.ref a1), (.int p2)] 4 = mkF m 0 #[.val (.ref a1), .val (.int p2), .unset, .unset] [] := by first | (simp [entryFrame, mkF, argsToLocals, Value.category]; done) | rfl
set_option maxRecDepth 65536 in
set_option maxHeartbeats 40000000 in
theorem rm22 (l : Launch) (Z : State) (a0 : Array Value) (hw : ∀ d ∈ tables_1, d.before a0 Z = true) (a1 : Addr) (p2 : Int32) (h0 : Heap) (n0 : Nat) (Z0 : n0 ≤ h0.size) (aD : Addr) (kD : ClassId) (Em : Emp Z h0 aD a1) (g1 : n0 ≤ a1) (OL : Old Z n0 h0) (SD : Sta Z Z.heap "java/util/ArrayList" "DEFAULTCAPACITY_EMPTY_ELEMENTDATA" "[Ljava/lang/Object;" (.ref aD)) (AD : Arv Z Z.heap aD kD OA 0 [] .null) (hp : p2 = 1) :
    Ctr l Z (⟨"java/util/ArrayList", "grow", "(I)[Ljava/lang/Object;"⟩ : MethodName) jdk_38_method_6_code 4 (some (.array (.object "java/lang/Object"))) ({ frames := 1, cells := 1, slots := 10, locals := 14 } : Room) #[(.ref a1), (.int p2)] h0 (fun v h L => ∃ b k, v = some (.ref b) ∧ Fr n0 L ∧ Keep h0 h [a1] ∧ h0.size ≤ b ∧ Ful Z h a1 b k []) := by
  refine Ctr.of pf_22 (ef_22 a1 p2) ?_
  intro p e s m below meth c T0 hx hby hml hret hlk hnm hZ hown e0 X0
  subst hp
  obtain ⟨Ea, ⟨mc, Fm⟩, Fz, Fe⟩ := Em
  have ADh := AD.ext OL.2
  refine Go.by (g' := (mkF m 1 #[.val (.ref a1), .val (.int (1 : Int32)), .unset, .unset] [(.ref a1)])) (fun _ k => XS.aloadN X0.here hx rfl (hb hby d22_0) rfl rfl k) ?_
  obtain ⟨T14, X14, e14, st14⟩ := getF X0 hx hZ hown (host := "") (Or.inl (hw _ (List.mem_of_getElem? (i := 66) rfl))) Via.refl e0 Fe (g := (mkF m 1 #[.val (.ref a1), .val (.int (1 : Int32)), .unset, .unset] [(.ref a1)])) rfl rfl (hb hby d22_1)
  refine Go.by (g' := (mkF m 4 #[.val (.ref a1), .val (.int (1 : Int32)), .unset, .unset] [(.ref aD)])) st14 ?_
  refine Go.by (g' := (mkF m 5 #[.val (.ref a1), .val (.int (1 : Int32)), .unset, .unset] [(.int (0 : Int32))])) (lnA X14 hx hZ e14 ADh (g := (mkF m 4 #[.val (.ref a1), .val (.int (1 : Int32)), .unset, .unset] [(.ref aD)])) rfl rfl (hb hby d22_4)) ?_
  refine Go.by (g' := (mkF m 6 #[.val (.ref a1), .val (.int (1 : Int32)), .val (.int (0 : Int32)), .unset] [])) (fun _ k => XS.istoreN X14.here hx rfl (hb hby d22_5) rfl (l' := #[.val (.ref a1), .val (.int (1 : Int32)), .val (.int (0 : Int32)), .unset]) rfl k) ?_
  refine Go.by (g' := (mkF m 7 #[.val (.ref a1), .val (.int (1 : Int32)), .val (.int (0 : Int32)), .unset] [(.int (0 : Int32))])) (fun _ k => XS.iloadN X14.here hx rfl (hb hby d22_6) rfl k) ?_
  refine Go.by (g' := (mkF m 10 #[.val (.ref a1), .val (.int (1 : Int32)), .val (.int (0 : Int32)), .unset] [])) (fun _ k => XS.ifNo X14.here hx rfl (hb hby d22_7) rfl ((if0 _ _).trans (flt (by decide)).2.2.1) k) ?_
  refine Go.by (g' := (mkF m 11 #[.val (.ref a1), .val (.int (1 : Int32)), .val (.int (0 : Int32)), .unset] [(.ref a1)])) (fun _ k => XS.aloadN X14.here hx rfl (hb hby d22_10) rfl rfl k) ?_
  obtain ⟨T15, X15, e15, st15⟩ := getF X14 hx hZ hown (host := "") (Or.inl (hw _ (List.mem_of_getElem? (i := 66) rfl))) Via.refl e14 Fe (g := (mkF m 11 #[.val (.ref a1), .val (.int (1 : Int32)), .val (.int (0 : Int32)), .unset] [(.ref a1)])) rfl rfl (hb hby d22_11)
  refine Go.by (g' := (mkF m 14 #[.val (.ref a1), .val (.int (1 : Int32)), .val (.int (0 : Int32)), .unset] [(.ref aD)])) st15 ?_
  obtain ⟨T16, X16, e16, st16⟩ := getS2 X15 hx hZ hown (host := "") (Or.inl (hw _ (List.mem_of_getElem? (i := 65) rfl))) Via.refl e15 (SD.ext OL.2) (g := (mkF m 14 #[.val (.ref a1), .val (.int (1 : Int32)), .val (.int (0 : Int32)), .unset] [(.ref aD)])) rfl (hb hby d22_14)
  refine Go.by (g' := (mkF m 17 #[.val (.ref a1), .val (.int (1 : Int32)), .val (.int (0 : Int32)), .unset] [(.ref aD), (.ref aD)])) st16 ?_
  refine Go.by (g' := (mkF m 45 #[.val (.ref a1), .val (.int (1 : Int32)), .val (.int (0 : Int32)), .unset] [])) (fun _ k => Jvm.RoadKit.acmp (g := (mkF m 17 #[.val (.ref a1), .val (.int (1 : Int32)), .val (.int (0 : Int32)), .unset] [(.ref aD), (.ref aD)])) X16 hx rfl rfl rfl (pc0 := 17) (pc' := 45) (same := true) rfl (hb hby d22_17) rfl (decide_eq_true rfl) (by decide) (by decide) k) ?_
  refine Go.by (g' := (mkF m 46 #[.val (.ref a1), .val (.int (1 : Int32)), .val (.int (0 : Int32)), .unset] [(.ref a1)])) (fun _ k => XS.aloadN X16.here hx rfl (hb hby d22_45) rfl rfl k) ?_
  refine Go.by (g' := (mkF m 48 #[.val (.ref a1), .val (.int (1 : Int32)), .val (.int (0 : Int32)), .unset] [(.int (10 : Int32)), (.ref a1)])) (fun _ k => XS.bipush X16.here hx rfl (hb hby d22_46) k) ?_
  refine Go.by (g' := (mkF m 49 #[.val (.ref a1), .val (.int (1 : Int32)), .val (.int (0 : Int32)), .unset] [(.int (1 : Int32)), (.int (10 : Int32)), (.ref a1)])) (fun _ k => XS.iloadN X16.here hx rfl (hb hby d22_48) rfl k) ?_
  refine Go.callS X16 hx hZ (y := (⟨"java/lang/Math", "max", "(II)I"⟩ : MethodName)) hown (hw _ (List.mem_of_getElem? (i := 175) rfl)) (hw _ (List.mem_of_getElem? (i := 176) rfl)) (hw _ (List.mem_of_getElem? (i := 177) rfl)) (hw _ (List.mem_of_getElem? (i := 178) rfl)) (by decide) (W := 1) (argsL := [(.int (10 : Int32)), (.int (1 : Int32))]) (rest := [(.ref a1)]) (rm23 l Z a0 hw (10 : Int32) (1 : Int32) h0 n0 (by decide)) (by decide) (by decide) (by decide) (by decide) (g := (mkF m 49 #[.val (.ref a1), .val (.int (1 : Int32)), .val (.int (0 : Int32)), .unset] [(.int (1 : Int32)), (.int (10 : Int32)), (.ref a1)])) rfl (by rw [hml]; rfl) (lenOf pd_23 rfl) rfl (by show 2 * 0 + _ ≤ _; exact Nat.le_of_eq rfl) (hb hby d22_49) e16 ?_
  rintro T17 L17 _ X17 ⟨rfl, N17, q17⟩
  have M17 := Fr.app (Fr.nil n0) N17
  show Go p e below _ _ T17 (mkF m 52 #[.val (.ref a1), .val (.int (1 : Int32)), .val (.int (0 : Int32)), .unset] [(.int (10 : Int32)), (.ref a1)])
  obtain ⟨T18, h18, k18, X18, e18, E18, A18, Xa18, O18, st18⟩ := newRE X17 hx hZ hown (hw _ (List.mem_of_getElem? (i := 179) rfl)) (hw _ (List.mem_of_getElem? (i := 180) rfl)) q17 (g := (mkF m 52 #[.val (.ref a1), .val (.int (1 : Int32)), .val (.int (0 : Int32)), .unset] [(.int (10 : Int32)), (.ref a1)])) rfl (hb hby d22_52) rfl (by decide) (cap := 10) (by decide) (by decide) (by decide) (by decide) (ad := "[Ljava/lang/Object;") (by decide)
  obtain ⟨b, g18⟩ : ∃ z, z = h0.size := ⟨_, rfl⟩
  rw [← g18] at A18 Xa18 st18
  have ne_a1_b : a1 ≠ b := Nat.ne_of_lt (by rw [g18]; exact Ea.lt)
  have ne_aD_b : aD ≠ b := Nat.ne_of_lt (by rw [g18]; exact ADh.lt)
  have ge_b : n0 ≤ b := Nat.le_trans Z0 (Nat.le_of_eq g18.symm)
  have sz_b : h0.size ≤ b := Nat.le_trans (Keep.refl h0 [a1]).1 (Nat.le_of_eq g18.symm)
  have Z18 : n0 ≤ h18.size := Nat.le_trans Z0 E18.1
  have KP18 : Keep h0 h18 [a1] := (Keep.refl h0 [a1]).ext E18
  refine Go.by (g' := (mkF m 55 #[.val (.ref a1), .val (.int (1 : Int32)), .val (.int (0 : Int32)), .unset] [(.ref b), (.ref a1)])) st18 ?_
  have V0 : Arv Z h18 b k18 OA 10 (pad []) .null := (Arv.new A18 (by decide)).pad (pad_rep [] _ 10)
  refine Go.by (g' := (mkF m 56 #[.val (.ref a1), .val (.int (1 : Int32)), .val (.int (0 : Int32)), .unset] [(.ref b), (.ref a1), (.ref b)])) (fun _ k => XS.dupX1 X18.here hx rfl (hb hby d22_55) rfl rfl rfl k) ?_
  have f19_Fe := (Fe.ext E18)
  have f20_Ea := (Ea.ext E18)
  obtain ⟨T21, h21, X21, e21, W21, st21⟩ := putF X18 hx hZ hown (host := "") (Or.inl (hw _ (List.mem_of_getElem? (i := 66) rfl))) Via.refl e18 f19_Fe f20_Ea (Or.inl (hw _ (List.mem_of_getElem? (i := 67) rfl))) (hw _ (List.mem_of_getElem? (i := 45) rfl)) (ty := (.array (.object "java/lang/Object"))) (by decide) rfl rfl (g := (mkF m 56 #[.val (.ref a1), .val (.int (1 : Int32)), .val (.int (0 : Int32)), .unset] [(.ref b), (.ref a1), (.ref b)])) rfl rfl (hb hby d22_56)
  have Z21 : n0 ≤ h21.size := Nat.le_trans Z18 (Nat.le_of_eq W21.size.symm)
  have M21 := Fr.snoc X21 M17 g1
  have KP21 : Keep h0 h21 [a1] := KP18.wr W21 (Or.inl (List.mem_of_getElem? (i := 0) rfl))
  have F21_Fe := f19_Fe.same W21
  refine Go.by (g' := (mkF m 59 #[.val (.ref a1), .val (.int (1 : Int32)), .val (.int (0 : Int32)), .unset] [(.ref b)])) st21 ?_
  have f22_Ea := (f20_Ea.wr W21)
  have f23_Fm := ((Fm.ext E18).other W21 (Or.inr (slot_ne (Or.inl (hw _ (List.mem_of_getElem? (i := 64) rfl))) (Or.inl (hw _ (List.mem_of_getElem? (i := 67) rfl))) (by decide) (t := .int) (t' := (.array (.object "java/lang/Object"))) (by decide) (by decide))))
  have f24_Fz := ((Fz.ext E18).other W21 (Or.inr (slot_ne (Or.inl (hw _ (List.mem_of_getElem? (i := 96) rfl))) (Or.inl (hw _ (List.mem_of_getElem? (i := 67) rfl))) (by decide) (t := .int) (t' := (.array (.object "java/lang/Object"))) (by decide) (by decide))))
  have f25_V0 := (V0.other W21 (Ne.symm ne_a1_b))
  have f26_Ex := (Xa18.wr W21)
  exact Go.outA X21 hx hret (Lv.narrow X21 hlk (by decide) (by decide)) rfl rfl (hb hby d22_59) (by rw [e21]; exact ⟨b, k18, rfl, M21, KP21, sz_b, f22_Ea, ⟨_, f23_Fm⟩, f24_Fz, F21_Fe, O18, f25_V0, f26_Ex⟩)
theorem ef_21 (a1 : Addr) (m : MethodId) : entryFrame m #[(.ref a1)] 1 = mkF m 0 #[.val (.ref a1)] [] := by first | (simp [entryFrame, mkF, argsToLocals, Value.category]; done) | rfl
set_option maxRecDepth 65536 in
set_option maxHeartbeats 40000000 in
theorem rm21 (l : Launch) (Z : State) (a0 : Array Value) (hw : ∀ d ∈ tables_1, d.before a0 Z = true) (a1 : Addr) (h0 : Heap) (n0 : Nat) (Z0 : n0 ≤ h0.size) (aD : Addr) (kD : ClassId) (Em : Emp Z h0 aD a1) (g1 : n0 ≤ a1) (OL : Old Z n0 h0) (SD : Sta Z Z.heap "java/util/ArrayList" "DEFAULTCAPACITY_EMPTY_ELEMENTDATA" "[Ljava/lang/Object;" (.ref aD)) (AD : Arv Z Z.heap aD kD OA 0 [] .null) :
    Ctr l Z (⟨"java/util/ArrayList", "grow", "()[Ljava/lang/Object;"⟩ : MethodName) jdk_38_method_7_code 1 (some (.array (.object "java/lang/Object"))) ({ frames := 2, cells := 1, slots := 10, locals := 29 } : Room) #[(.ref a1)] h0 (fun v h L => ∃ b k, v = some (.ref b) ∧ Fr n0 L ∧ Keep h0 h [a1] ∧ h0.size ≤ b ∧ Ful Z h a1 b k []) := by
  refine Ctr.of pf_21 (ef_21 a1) ?_
  intro p e s m below meth c T0 hx hby hml hret hlk hnm hZ hown e0 X0
  refine Go.by (g' := (mkF m 1 #[.val (.ref a1)] [(.ref a1)])) (fun _ k => XS.aloadN X0.here hx rfl (hb hby d21_0) rfl rfl k) ?_
  refine Go.by (g' := (mkF m 2 #[.val (.ref a1)] [(.ref a1), (.ref a1)])) (fun _ k => XS.aloadN X0.here hx rfl (hb hby d21_1) rfl rfl k) ?_
  obtain ⟨T27, X27, e27, st27⟩ := getF X0 hx hZ hown (host := "") (Or.inl (hw _ (List.mem_of_getElem? (i := 95) rfl))) Via.refl e0 Em.2.2.1 (g := (mkF m 2 #[.val (.ref a1)] [(.ref a1), (.ref a1)])) rfl rfl (hb hby d21_2)
  refine Go.by (g' := (mkF m 5 #[.val (.ref a1)] [(.int (0 : Int32)), (.ref a1)])) st27 ?_
  refine Go.by (g' := (mkF m 6 #[.val (.ref a1)] [(.int (1 : Int32)), (.int (0 : Int32)), (.ref a1)])) (fun _ k => XS.iconst X27.here hx rfl (hb hby d21_5) k) ?_
  refine Go.by (g' := (mkF m 7 #[.val (.ref a1)] [(.int ((0 : Int32) + (1 : Int32))), (.ref a1)])) (fun _ k => XS.iadd X27.here hx rfl (hb hby d21_6) rfl k) ?_
  refine Go.callP X27 hx hZ (y := (⟨"java/util/ArrayList", "grow", "(I)[Ljava/lang/Object;"⟩ : MethodName)) hown (hw _ (List.mem_of_getElem? (i := 170) rfl)) (hw _ (List.mem_of_getElem? (i := 171) rfl)) (hw _ (List.mem_of_getElem? (i := 173) rfl)) (hw _ (List.mem_of_getElem? (i := 172) rfl)) (hw _ (List.mem_of_getElem? (i := 46) rfl)) (hw _ (List.mem_of_getElem? (i := 174) rfl)) (by decide) (W := 0) (a := a1) (argsL := [(.int ((0 : Int32) + (1 : Int32)))]) (rest := []) Em.1 (rm22 l Z a0 hw a1 ((0 : Int32) + (1 : Int32)) h0 n0 Z0 aD kD Em g1 OL SD AD (by decide)) (by decide) (by decide) (by decide) (by decide) (g := (mkF m 7 #[.val (.ref a1)] [(.int ((0 : Int32) + (1 : Int32))), (.ref a1)])) rfl (by rw [hml]; rfl) (lenOf pd_22 rfl) rfl (by show 2 * 0 + _ ≤ _; exact Nat.le_of_eq rfl) (hb hby d21_7) e27 ?_
  rintro T28 L28 _ X28 ⟨b, k, rfl, N28, K28, sz, Fu⟩
  have M28 := Fr.app (Fr.nil n0) N28
  have Z28 : n0 ≤ T28.heap.size := Nat.le_trans Z0 K28.1
  have KP28 : Keep h0 T28.heap [a1] := (Keep.refl h0 [a1]).trans K28 (allS (Or.inl (List.mem_of_getElem? (i := 0) rfl)) all0)
  show Go p e below _ _ T28 (mkF m 10 #[.val (.ref a1)] [(.ref b)])
  exact Go.outA X28 hx hret (Lv.narrow X28 hlk (by decide) (by decide)) rfl rfl (hb hby d21_10) ⟨b, k, rfl, M28, KP28, sz, Fu⟩
theorem ef_20E (a1 : Addr) (a2 : Addr) (a3 : Addr) (p4 : Int32) (m : MethodId) : entryFrame m #[(.ref a1), (.ref a2), (.ref a3), (.int p4)] 4 = mkF m 0 #[.val (.ref a1), .val (.ref a2), .val (.ref a3), .val (.int p4)] [] := by first | (simp [entryFrame, mkF, argsToLocals, Value.category]; done) | rfl
set_option maxRecDepth 65536 in
set_option maxHeartbeats 40000000 in
theorem rm20E (l : Launch) (Z : State) (a0 : Array Value) (hw : ∀ d ∈ tables_1, d.before a0 Z = true) (a1 : Addr) (a2 : Addr) (a3 : Addr) (p4 : Int32) (h0 : Heap) (n0 : Nat) (Z0 : n0 ≤ h0.size) (aD : Addr) (kD : ClassId) (KE : String) (Em : Emp Z h0 aD a1) (g1 : n0 ≤ a1) (OL : Old Z n0 h0) (SD : Sta Z Z.heap "java/util/ArrayList" "DEFAULTCAPACITY_EMPTY_ELEMENTDATA" "[Ljava/lang/Object;" (.ref aD)) (AD : Arv Z Z.heap aD kD OA 0 [] .null) (E2 : Exa Z h0 a2 KE) (wc : (Cond.castable KE "java/lang/Object").before a0 Z = true) (hp : p4 = 0) (ha : a3 = aD) :
    Ctr l Z (⟨"java/util/ArrayList", "add", "(Ljava/lang/Object;[Ljava/lang/Object;I)V"⟩ : MethodName) jdk_38_method_24_code 4 none ({ frames := 3, cells := 1, slots := 10, locals := 41 } : Room) #[(.ref a1), (.ref a2), (.ref a3), (.int p4)] h0 (fun v h L => ∃ b k, v = none ∧ Fr n0 L ∧ Keep h0 h [a1] ∧ h0.size ≤ b ∧ Ful Z h a1 b k [a2]) := by
  refine Ctr.of pf_20 (ef_20E a1 a2 a3 p4) ?_
  intro p e s m below meth c T0 hx hby hml hret hlk hnm hZ hown e0 X0
  subst hp ha
  have ADh := AD.ext OL.2
  refine Go.by (g' := (mkF m 1 #[.val (.ref a1), .val (.ref a2), .val (.ref a3), .val (.int (0 : Int32))] [(.int (0 : Int32))])) (fun _ k => XS.iloadN X0.here hx rfl (hb hby d20_0) rfl k) ?_
  refine Go.by (g' := (mkF m 2 #[.val (.ref a1), .val (.ref a2), .val (.ref a3), .val (.int (0 : Int32))] [(.ref a3), (.int (0 : Int32))])) (fun _ k => XS.aloadN X0.here hx rfl (hb hby d20_1) rfl rfl k) ?_
  refine Go.by (g' := (mkF m 3 #[.val (.ref a1), .val (.ref a2), .val (.ref a3), .val (.int (0 : Int32))] [(.int (0 : Int32)), (.int (0 : Int32))])) (lnA X0 hx hZ e0 ADh (g := (mkF m 2 #[.val (.ref a1), .val (.ref a2), .val (.ref a3), .val (.int (0 : Int32))] [(.ref a3), (.int (0 : Int32))])) rfl rfl (hb hby d20_2)) ?_
  refine Go.by (g' := (mkF m 6 #[.val (.ref a1), .val (.ref a2), .val (.ref a3), .val (.int (0 : Int32))] [])) (fun _ k => XS.icmpNo X0.here hx rfl (hb hby d20_3) rfl (teq rfl).2 k) ?_
  refine Go.by (g' := (mkF m 7 #[.val (.ref a1), .val (.ref a2), .val (.ref a3), .val (.int (0 : Int32))] [(.ref a1)])) (fun _ k => XS.aloadN X0.here hx rfl (hb hby d20_6) rfl rfl k) ?_
  refine Go.callP X0 hx hZ (y := (⟨"java/util/ArrayList", "grow", "()[Ljava/lang/Object;"⟩ : MethodName)) hown (hw _ (List.mem_of_getElem? (i := 165) rfl)) (hw _ (List.mem_of_getElem? (i := 166) rfl)) (hw _ (List.mem_of_getElem? (i := 168) rfl)) (hw _ (List.mem_of_getElem? (i := 167) rfl)) (hw _ (List.mem_of_getElem? (i := 46) rfl)) (hw _ (List.mem_of_getElem? (i := 169) rfl)) (by decide) (W := 0) (a := a1) (argsL := []) (rest := []) Em.1 (rm21 l Z a0 hw a1 h0 n0 Z0 a3 kD Em g1 OL SD AD) (by decide) (by decide) (by decide) (by decide) (g := (mkF m 7 #[.val (.ref a1), .val (.ref a2), .val (.ref a3), .val (.int (0 : Int32))] [(.ref a1)])) rfl (by rw [hml]; rfl) (lenOf pd_21 rfl) rfl (by show 2 * 0 + _ ≤ _; exact Nat.le_of_eq rfl) (hb hby d20_7) e0 ?_
  rintro T29 L29 _ X29 ⟨b, k, rfl, N29, K29, sz, Fu⟩
  have M29 := Fr.app (Fr.nil n0) N29
  have Z29 : n0 ≤ T29.heap.size := Nat.le_trans Z0 K29.1
  have KP29 : Keep h0 T29.heap [a1] := (Keep.refl h0 [a1]).trans K29 (allS (Or.inl (List.mem_of_getElem? (i := 0) rfl)) all0)
  show Go p e below _ _ T29 (mkF m 10 #[.val (.ref a1), .val (.ref a2), .val (.ref a3), .val (.int (0 : Int32))] [(.ref b)])
  have ne_a1_b : a1 ≠ b := Nat.ne_of_lt (Nat.lt_of_lt_of_le Em.lt sz)
  have ne_a2_b : a2 ≠ b := Nat.ne_of_lt (Nat.lt_of_lt_of_le E2.lt sz)
  have ge_b : n0 ≤ b := Nat.le_trans Z0 sz
  obtain ⟨Ea, ⟨mc, Fm⟩, Fz, Fe, Ov, V, Ex⟩ := Fu
  refine Go.by (g' := (mkF m 11 #[.val (.ref a1), .val (.ref a2), .val (.ref b), .val (.int (0 : Int32))] [])) (fun _ k => XS.astoreN X29.here hx rfl (hb hby d20_10) rfl rfl (l' := #[.val (.ref a1), .val (.ref a2), .val (.ref b), .val (.int (0 : Int32))]) rfl k) ?_
  refine Go.by (g' := (mkF m 12 #[.val (.ref a1), .val (.ref a2), .val (.ref b), .val (.int (0 : Int32))] [(.ref b)])) (fun _ k => XS.aloadN X29.here hx rfl (hb hby d20_11) rfl rfl k) ?_
  refine Go.by (g' := (mkF m 13 #[.val (.ref a1), .val (.ref a2), .val (.ref b), .val (.int (0 : Int32))] [(.int (0 : Int32)), (.ref b)])) (fun _ k => XS.iloadN X29.here hx rfl (hb hby d20_12) rfl k) ?_
  refine Go.by (g' := (mkF m 14 #[.val (.ref a1), .val (.ref a2), .val (.ref b), .val (.int (0 : Int32))] [(.ref a2), (.int (0 : Int32)), (.ref b)])) (fun _ k => XS.aloadN X29.here hx rfl (hb hby d20_13) rfl rfl k) ?_
  have f30_E2 := (E2.keep K29)
  obtain ⟨T31, h31, X31, e31, W31, V31, st31⟩ := stRA X29 hx hZ rfl V Ov (Ins.of_exa f30_E2 wc) rfl ([] : List Addr).length rfl (by decide) (by decide) (pad_len (by decide)) (g := (mkF m 14 #[.val (.ref a1), .val (.ref a2), .val (.ref b), .val (.int (0 : Int32))] [(.ref a2), (.int (0 : Int32)), (.ref b)])) rfl rfl (hb hby d20_14)
  have Z31 : n0 ≤ h31.size := Nat.le_trans Z29 (Nat.le_of_eq W31.size.symm)
  have M31 := Fr.snoc X31 M29 ge_b
  have KP31 : Keep h0 h31 [a1] := KP29.wr W31 (Or.inr sz)
  refine Go.by (g' := (mkF m 15 #[.val (.ref a1), .val (.ref a2), .val (.ref b), .val (.int (0 : Int32))] [])) st31 ?_
  have U31 : Arv Z h31 b k OA 10 (pad [a2]) .null := by have q := V31; rw [pad_set (by decide)] at q; exact q
  refine Go.by (g' := (mkF m 16 #[.val (.ref a1), .val (.ref a2), .val (.ref b), .val (.int (0 : Int32))] [(.ref a1)])) (fun _ k => XS.aloadN X31.here hx rfl (hb hby d20_15) rfl rfl k) ?_
  refine Go.by (g' := (mkF m 17 #[.val (.ref a1), .val (.ref a2), .val (.ref b), .val (.int (0 : Int32))] [(.int (0 : Int32)), (.ref a1)])) (fun _ k => XS.iloadN X31.here hx rfl (hb hby d20_16) rfl k) ?_
  refine Go.by (g' := (mkF m 18 #[.val (.ref a1), .val (.ref a2), .val (.ref b), .val (.int (0 : Int32))] [(.int (1 : Int32)), (.int (0 : Int32)), (.ref a1)])) (fun _ k => XS.iconst X31.here hx rfl (hb hby d20_17) k) ?_
  refine Go.by (g' := (mkF m 19 #[.val (.ref a1), .val (.ref a2), .val (.ref b), .val (.int (0 : Int32))] [(.int ((0 : Int32) + (1 : Int32))), (.ref a1)])) (fun _ k => XS.iadd X31.here hx rfl (hb hby d20_18) rfl k) ?_
  have f32_Fz := (Fz.other W31 (Or.inl ne_a1_b))
  have f33_Ea := (Ea.wr W31)
  obtain ⟨T34, h34, X34, e34, W34, st34⟩ := putF X31 hx hZ hown (host := "") (Or.inl (hw _ (List.mem_of_getElem? (i := 95) rfl))) Via.refl e31 f32_Fz f33_Ea (Or.inl (hw _ (List.mem_of_getElem? (i := 96) rfl))) (hw _ (List.mem_of_getElem? (i := 45) rfl)) (ty := .int) (by decide) rfl rfl (g := (mkF m 19 #[.val (.ref a1), .val (.ref a2), .val (.ref b), .val (.int (0 : Int32))] [(.int ((0 : Int32) + (1 : Int32))), (.ref a1)])) rfl rfl (hb hby d20_19)
  have Z34 : n0 ≤ h34.size := Nat.le_trans Z31 (Nat.le_of_eq W34.size.symm)
  have M34 := Fr.snoc X34 M31 g1
  have KP34 : Keep h0 h34 [a1] := KP31.wr W34 (Or.inl (List.mem_of_getElem? (i := 0) rfl))
  have F34_Fz := f32_Fz.same W34
  refine Go.by (g' := (mkF m 22 #[.val (.ref a1), .val (.ref a2), .val (.ref b), .val (.int (0 : Int32))] [])) st34 ?_
  have f35_Ea := (f33_Ea.wr W34)
  have f36_Fm := ((Fm.other W31 (Or.inl ne_a1_b)).other W34 (Or.inr (slot_ne (Or.inl (hw _ (List.mem_of_getElem? (i := 64) rfl))) (Or.inl (hw _ (List.mem_of_getElem? (i := 96) rfl))) (by decide) (t := .int) (t' := .int) (by decide) (by decide))))
  have f37_Fe := ((Fe.other W31 (Or.inl ne_a1_b)).other W34 (Or.inr (slot_ne (Or.inl (hw _ (List.mem_of_getElem? (i := 67) rfl))) (Or.inl (hw _ (List.mem_of_getElem? (i := 96) rfl))) (by decide) (t := (.array (.object "java/lang/Object"))) (t' := .int) (by decide) (by decide))))
  have f38_V := (U31.other W34 (Ne.symm ne_a1_b))
  have f39_Ex := ((Ex.wr W31).wr W34)
  exact Go.outN X34 hx hret (Lv.narrow X34 hlk (by decide) (by decide)) (hb hby d20_22) (by rw [e34]; exact ⟨b, k, rfl, M34, KP34, sz, f35_Ea, ⟨_, f36_Fm⟩, F34_Fz, f37_Fe, Ov, f38_V, f39_Ex⟩)
theorem ef_19E (a1 : Addr) (a2 : Addr) (m : MethodId) : entryFrame m #[(.ref a1), (.ref a2)] 2 = mkF m 0 #[.val (.ref a1), .val (.ref a2)] [] := by first | (simp [entryFrame, mkF, argsToLocals, Value.category]; done) | rfl
set_option maxRecDepth 65536 in
set_option maxHeartbeats 40000000 in
theorem rm19E (l : Launch) (Z : State) (a0 : Array Value) (hw : ∀ d ∈ tables_1, d.before a0 Z = true) (a1 : Addr) (a2 : Addr) (h0 : Heap) (n0 : Nat) (Z0 : n0 ≤ h0.size) (aD : Addr) (kD : ClassId) (KE : String) (Em : Emp Z h0 aD a1) (g1 : n0 ≤ a1) (OL : Old Z n0 h0) (SD : Sta Z Z.heap "java/util/ArrayList" "DEFAULTCAPACITY_EMPTY_ELEMENTDATA" "[Ljava/lang/Object;" (.ref aD)) (AD : Arv Z Z.heap aD kD OA 0 [] .null) (E2 : Exa Z h0 a2 KE) (wc : (Cond.castable KE "java/lang/Object").before a0 Z = true) :
    Ctr l Z (⟨"java/util/ArrayList", "add", "(Ljava/lang/Object;)Z"⟩ : MethodName) jdk_38_method_25_code 2 (some .boolean) ({ frames := 4, cells := 1, slots := 10, locals := 56 } : Room) #[(.ref a1), (.ref a2)] h0 (fun v h L => ∃ b k, v = some (.int 1) ∧ Fr n0 L ∧ Keep h0 h [a1] ∧ h0.size ≤ b ∧ Ful Z h a1 b k [a2]) := by
  refine Ctr.of pf_19 (ef_19E a1 a2) ?_
  intro p e s m below meth c T0 hx hby hml hret hlk hnm hZ hown e0 X0
  obtain ⟨Ea, ⟨mc, Fm⟩, Fz, Fe⟩ := Em
  refine Go.by (g' := (mkF m 1 #[.val (.ref a1), .val (.ref a2)] [(.ref a1)])) (fun _ k => XS.aloadN X0.here hx rfl (hb hby d19_0) rfl rfl k) ?_
  refine Go.by (g' := (mkF m 2 #[.val (.ref a1), .val (.ref a2)] [(.ref a1), (.ref a1)])) (fun _ k => XS.dup X0.here hx rfl (hb hby d19_1) rfl rfl k) ?_
  obtain ⟨T40, X40, e40, st40⟩ := getF X0 hx hZ hown (host := "") (Or.inl (hw _ (List.mem_of_getElem? (i := 158) rfl))) (Via.of (hw _ (List.mem_of_getElem? (i := 159) rfl))) e0 Fm (g := (mkF m 2 #[.val (.ref a1), .val (.ref a2)] [(.ref a1), (.ref a1)])) rfl rfl (hb hby d19_2)
  refine Go.by (g' := (mkF m 5 #[.val (.ref a1), .val (.ref a2)] [(.int mc), (.ref a1)])) st40 ?_
  refine Go.by (g' := (mkF m 6 #[.val (.ref a1), .val (.ref a2)] [(.int (1 : Int32)), (.int mc), (.ref a1)])) (fun _ k => XS.iconst X40.here hx rfl (hb hby d19_5) k) ?_
  refine Go.by (g' := (mkF m 7 #[.val (.ref a1), .val (.ref a2)] [(.int (mc + (1 : Int32))), (.ref a1)])) (fun _ k => XS.iadd X40.here hx rfl (hb hby d19_6) rfl k) ?_
  obtain ⟨T41, h41, X41, e41, W41, st41⟩ := putF X40 hx hZ hown (host := "") (Or.inl (hw _ (List.mem_of_getElem? (i := 158) rfl))) (Via.of (hw _ (List.mem_of_getElem? (i := 159) rfl))) e40 Fm Ea (Or.inl (hw _ (List.mem_of_getElem? (i := 64) rfl))) (hw _ (List.mem_of_getElem? (i := 45) rfl)) (ty := .int) (by decide) rfl rfl (g := (mkF m 7 #[.val (.ref a1), .val (.ref a2)] [(.int (mc + (1 : Int32))), (.ref a1)])) rfl rfl (hb hby d19_7)
  have Z41 : n0 ≤ h41.size := Nat.le_trans Z0 (Nat.le_of_eq W41.size.symm)
  have M41 := Fr.snoc X41 (Fr.nil n0) g1
  have KP41 : Keep h0 h41 [a1] := (Keep.refl h0 [a1]).wr W41 (Or.inl (List.mem_of_getElem? (i := 0) rfl))
  have F41_Fm := Fm.same W41
  refine Go.by (g' := (mkF m 10 #[.val (.ref a1), .val (.ref a2)] [])) st41 ?_
  refine Go.by (g' := (mkF m 11 #[.val (.ref a1), .val (.ref a2)] [(.ref a1)])) (fun _ k => XS.aloadN X41.here hx rfl (hb hby d19_10) rfl rfl k) ?_
  refine Go.by (g' := (mkF m 12 #[.val (.ref a1), .val (.ref a2)] [(.ref a2), (.ref a1)])) (fun _ k => XS.aloadN X41.here hx rfl (hb hby d19_11) rfl rfl k) ?_
  refine Go.by (g' := (mkF m 13 #[.val (.ref a1), .val (.ref a2)] [(.ref a1), (.ref a2), (.ref a1)])) (fun _ k => XS.aloadN X41.here hx rfl (hb hby d19_12) rfl rfl k) ?_
  have f42_Fe := (Fe.other W41 (Or.inr (slot_ne (Or.inl (hw _ (List.mem_of_getElem? (i := 67) rfl))) (Or.inl (hw _ (List.mem_of_getElem? (i := 64) rfl))) (by decide) (t := (.array (.object "java/lang/Object"))) (t' := .int) (by decide) (by decide))))
  obtain ⟨T43, X43, e43, st43⟩ := getF X41 hx hZ hown (host := "") (Or.inl (hw _ (List.mem_of_getElem? (i := 66) rfl))) Via.refl e41 f42_Fe (g := (mkF m 13 #[.val (.ref a1), .val (.ref a2)] [(.ref a1), (.ref a2), (.ref a1)])) rfl rfl (hb hby d19_13)
  refine Go.by (g' := (mkF m 16 #[.val (.ref a1), .val (.ref a2)] [(.ref aD), (.ref a2), (.ref a1)])) st43 ?_
  refine Go.by (g' := (mkF m 17 #[.val (.ref a1), .val (.ref a2)] [(.ref a1), (.ref aD), (.ref a2), (.ref a1)])) (fun _ k => XS.aloadN X43.here hx rfl (hb hby d19_16) rfl rfl k) ?_
  have f44_Fz := (Fz.other W41 (Or.inr (slot_ne (Or.inl (hw _ (List.mem_of_getElem? (i := 96) rfl))) (Or.inl (hw _ (List.mem_of_getElem? (i := 64) rfl))) (by decide) (t := .int) (t' := .int) (by decide) (by decide))))
  obtain ⟨T45, X45, e45, st45⟩ := getF X43 hx hZ hown (host := "") (Or.inl (hw _ (List.mem_of_getElem? (i := 95) rfl))) Via.refl e43 f44_Fz (g := (mkF m 17 #[.val (.ref a1), .val (.ref a2)] [(.ref a1), (.ref aD), (.ref a2), (.ref a1)])) rfl rfl (hb hby d19_17)
  refine Go.by (g' := (mkF m 20 #[.val (.ref a1), .val (.ref a2)] [(.int (0 : Int32)), (.ref aD), (.ref a2), (.ref a1)])) st45 ?_
  have f46_Ea := (Ea.wr W41)
  have Em : Emp Z h41 aD a1 := ⟨f46_Ea, ⟨_, F41_Fm⟩, f44_Fz, f42_Fe⟩
  have f47_OL := (OL.wr W41 g1)
  have f48_E2 := (E2.wr W41)
  refine Go.callP X45 hx hZ (y := (⟨"java/util/ArrayList", "add", "(Ljava/lang/Object;[Ljava/lang/Object;I)V"⟩ : MethodName)) hown (hw _ (List.mem_of_getElem? (i := 160) rfl)) (hw _ (List.mem_of_getElem? (i := 161) rfl)) (hw _ (List.mem_of_getElem? (i := 163) rfl)) (hw _ (List.mem_of_getElem? (i := 162) rfl)) (hw _ (List.mem_of_getElem? (i := 46) rfl)) (hw _ (List.mem_of_getElem? (i := 164) rfl)) (by decide) (W := 0) (a := a1) (argsL := [(.ref a2), (.ref aD), (.int (0 : Int32))]) (rest := []) f46_Ea (rm20E l Z a0 hw a1 a2 aD (0 : Int32) h41 n0 Z41 aD kD KE Em g1 f47_OL SD AD f48_E2 wc rfl rfl) (by decide) (by decide) (by decide) (by decide) (g := (mkF m 20 #[.val (.ref a1), .val (.ref a2)] [(.int (0 : Int32)), (.ref aD), (.ref a2), (.ref a1)])) rfl (by rw [hml]; rfl) (lenOf pd_20 rfl) rfl (by show 2 * 0 + _ ≤ _; exact Nat.le_of_eq rfl) (hb hby d19_20) e45 ?_
  rintro T49 L49 _ X49 ⟨b, k, rfl, N49, K49, sz, Fu⟩
  have M49 := Fr.app M41 N49
  have Z49 : n0 ≤ T49.heap.size := Nat.le_trans Z41 K49.1
  have KP49 : Keep h0 T49.heap [a1] := KP41.trans K49 (allS (Or.inl (List.mem_of_getElem? (i := 0) rfl)) all0)
  show Go p e below _ _ T49 (mkF m 23 #[.val (.ref a1), .val (.ref a2)] [])
  refine Go.by (g' := (mkF m 24 #[.val (.ref a1), .val (.ref a2)] [(.int (1 : Int32))])) (fun _ k => XS.iconst X49.here hx rfl (hb hby d19_23) k) ?_
  exact Go.outZ X49 hx hret (Lv.narrow X49 hlk (by decide) (by decide)) (hb hby d19_24) (Or.inr rfl) ⟨b, k, rfl, M49, KP49, Nat.le_trans (Nat.le_of_eq W41.size.symm) sz, Fu⟩
theorem ef_20F (a1 : Addr) (a2 : Addr) (a3 : Addr) (p4 : Int32) (m : MethodId) : entryFrame m #[(.ref a1), (.ref a2), (.ref a3), (.int p4)] 4 = mkF m 0 #[.val (.ref a1), .val (.ref a2), .val (.ref a3), .val (.int p4)] [] := by first | (simp [entryFrame, mkF, argsToLocals, Value.category]; done) | rfl
set_option maxRecDepth 65536 in
set_option maxHeartbeats 40000000 in
theorem rm20F (l : Launch) (Z : State) (a0 : Array Value) (hw : ∀ d ∈ tables_1, d.before a0 Z = true) (a1 : Addr) (a2 : Addr) (a3 : Addr) (p4 : Int32) (h0 : Heap) (n0 : Nat) (k : ClassId) (xs : List Addr) (KE : String) (Fu : Ful Z h0 a1 a3 k xs) (hx10 : xs.length < 10) (g1 : n0 ≤ a1) (g3 : n0 ≤ a3) (E2 : Exa Z h0 a2 KE) (wc : (Cond.castable KE "java/lang/Object").before a0 Z = true) (hp : p4 = szI xs.length) :
    Ctr l Z (⟨"java/util/ArrayList", "add", "(Ljava/lang/Object;[Ljava/lang/Object;I)V"⟩ : MethodName) jdk_38_method_24_code 4 none ({ frames := 0, cells := 0, slots := 0, locals := 0 } : Room) #[(.ref a1), (.ref a2), (.ref a3), (.int p4)] h0 (fun v h L => v = none ∧ Fr n0 L ∧ Keep h0 h [a1, a3] ∧ Ful Z h a1 a3 k (xs ++ [a2])) := by
  refine Ctr.of pf_20 (ef_20F a1 a2 a3 p4) ?_
  intro p e s m below meth c T0 hx hby hml hret hlk hnm hZ hown e0 X0
  subst hp
  obtain ⟨Ea, ⟨mc, Fm⟩, Fz, Fe, Ov, V, Ex⟩ := Fu
  have ne_a1_a3 : a1 ≠ a3 := Exa.neArv Ea V (hw _ (List.mem_of_getElem? (i := 45) rfl))
  refine Go.by (g' := (mkF m 1 #[.val (.ref a1), .val (.ref a2), .val (.ref a3), .val (.int (szI xs.length))] [(.int (szI xs.length))])) (fun _ k => XS.iloadN X0.here hx rfl (hb hby d20_0) rfl k) ?_
  refine Go.by (g' := (mkF m 2 #[.val (.ref a1), .val (.ref a2), .val (.ref a3), .val (.int (szI xs.length))] [(.ref a3), (.int (szI xs.length))])) (fun _ k => XS.aloadN X0.here hx rfl (hb hby d20_1) rfl rfl k) ?_
  refine Go.by (g' := (mkF m 3 #[.val (.ref a1), .val (.ref a2), .val (.ref a3), .val (.int (szI xs.length))] [(.int (10 : Int32)), (.int (szI xs.length))])) (lnA X0 hx hZ e0 V (g := (mkF m 2 #[.val (.ref a1), .val (.ref a2), .val (.ref a3), .val (.int (szI xs.length))] [(.ref a3), (.int (szI xs.length))])) rfl rfl (hb hby d20_2)) ?_
  refine Go.by (g' := (mkF m 11 #[.val (.ref a1), .val (.ref a2), .val (.ref a3), .val (.int (szI xs.length))] [])) (fun _ k => XS.icmpYes X0.here hx rfl (pc0 := 3) (pc' := 11) rfl (hb hby d20_3) rfl (feq (szI_ne hx10)).2 (by decide) (by decide) k) ?_
  refine Go.by (g' := (mkF m 12 #[.val (.ref a1), .val (.ref a2), .val (.ref a3), .val (.int (szI xs.length))] [(.ref a3)])) (fun _ k => XS.aloadN X0.here hx rfl (hb hby d20_11) rfl rfl k) ?_
  refine Go.by (g' := (mkF m 13 #[.val (.ref a1), .val (.ref a2), .val (.ref a3), .val (.int (szI xs.length))] [(.int (szI xs.length)), (.ref a3)])) (fun _ k => XS.iloadN X0.here hx rfl (hb hby d20_12) rfl k) ?_
  refine Go.by (g' := (mkF m 14 #[.val (.ref a1), .val (.ref a2), .val (.ref a3), .val (.int (szI xs.length))] [(.ref a2), (.int (szI xs.length)), (.ref a3)])) (fun _ k => XS.aloadN X0.here hx rfl (hb hby d20_13) rfl rfl k) ?_
  obtain ⟨T50, h50, X50, e50, W50, V50, st50⟩ := stRA X0 hx hZ e0 V Ov (Ins.of_exa E2 wc) rfl xs.length (szI_nat (by omega)) (szI_nn (by omega)) (szI_lt hx10) (pad_len hx10) (g := (mkF m 14 #[.val (.ref a1), .val (.ref a2), .val (.ref a3), .val (.int (szI xs.length))] [(.ref a2), (.int (szI xs.length)), (.ref a3)])) rfl rfl (hb hby d20_14)
  have M50 := Fr.snoc X50 (Fr.nil n0) g3
  have KP50 : Keep h0 h50 [a1, a3] := (Keep.refl h0 [a1, a3]).wr W50 (Or.inl (List.mem_of_getElem? (i := 1) rfl))
  refine Go.by (g' := (mkF m 15 #[.val (.ref a1), .val (.ref a2), .val (.ref a3), .val (.int (szI xs.length))] [])) st50 ?_
  have U50 : Arv Z h50 a3 k OA 10 (pad (xs ++ [a2])) .null := by have q := V50; rw [pad_set hx10] at q; exact q
  refine Go.by (g' := (mkF m 16 #[.val (.ref a1), .val (.ref a2), .val (.ref a3), .val (.int (szI xs.length))] [(.ref a1)])) (fun _ k => XS.aloadN X50.here hx rfl (hb hby d20_15) rfl rfl k) ?_
  refine Go.by (g' := (mkF m 17 #[.val (.ref a1), .val (.ref a2), .val (.ref a3), .val (.int (szI xs.length))] [(.int (szI xs.length)), (.ref a1)])) (fun _ k => XS.iloadN X50.here hx rfl (hb hby d20_16) rfl k) ?_
  refine Go.by (g' := (mkF m 18 #[.val (.ref a1), .val (.ref a2), .val (.ref a3), .val (.int (szI xs.length))] [(.int (1 : Int32)), (.int (szI xs.length)), (.ref a1)])) (fun _ k => XS.iconst X50.here hx rfl (hb hby d20_17) k) ?_
  refine Go.by (g' := (mkF m 19 #[.val (.ref a1), .val (.ref a2), .val (.ref a3), .val (.int (szI xs.length))] [(.int ((szI xs.length) + (1 : Int32))), (.ref a1)])) (fun _ k => XS.iadd X50.here hx rfl (hb hby d20_18) rfl k) ?_
  have f51_Fz := (Fz.other W50 (Or.inl ne_a1_a3))
  have f52_Ea := (Ea.wr W50)
  obtain ⟨T53, h53, X53, e53, W53, st53⟩ := putF X50 hx hZ hown (host := "") (Or.inl (hw _ (List.mem_of_getElem? (i := 95) rfl))) Via.refl e50 f51_Fz f52_Ea (Or.inl (hw _ (List.mem_of_getElem? (i := 96) rfl))) (hw _ (List.mem_of_getElem? (i := 45) rfl)) (ty := .int) (by decide) rfl rfl (g := (mkF m 19 #[.val (.ref a1), .val (.ref a2), .val (.ref a3), .val (.int (szI xs.length))] [(.int ((szI xs.length) + (1 : Int32))), (.ref a1)])) rfl rfl (hb hby d20_19)
  have M53 := Fr.snoc X53 M50 g1
  have KP53 : Keep h0 h53 [a1, a3] := KP50.wr W53 (Or.inl (List.mem_of_getElem? (i := 0) rfl))
  have F53_Fz := f51_Fz.same W53
  refine Go.by (g' := (mkF m 22 #[.val (.ref a1), .val (.ref a2), .val (.ref a3), .val (.int (szI xs.length))] [])) st53 ?_
  have f54_Ea := (f52_Ea.wr W53)
  have f55_Fm := ((Fm.other W50 (Or.inl ne_a1_a3)).other W53 (Or.inr (slot_ne (Or.inl (hw _ (List.mem_of_getElem? (i := 64) rfl))) (Or.inl (hw _ (List.mem_of_getElem? (i := 96) rfl))) (by decide) (t := .int) (t' := .int) (by decide) (by decide))))
  have f56_Fe := ((Fe.other W50 (Or.inl ne_a1_a3)).other W53 (Or.inr (slot_ne (Or.inl (hw _ (List.mem_of_getElem? (i := 67) rfl))) (Or.inl (hw _ (List.mem_of_getElem? (i := 96) rfl))) (by decide) (t := (.array (.object "java/lang/Object"))) (t' := .int) (by decide) (by decide))))
  have f57_V := (U50.other W53 (Ne.symm ne_a1_a3))
  have f58_Ex := ((Ex.wr W50).wr W53)
  exact Go.outN X53 hx hret (Lv.narrow X53 hlk (by decide) (by decide)) (hb hby d20_22) (by rw [e53]; exact ⟨rfl, M53, KP53, f54_Ea, ⟨_, f55_Fm⟩, (by have q := F53_Fz; rw [szI_succ hx10] at q; rw [List.length_append]; exact q), f56_Fe, Ov, f57_V, f58_Ex⟩)
theorem ef_19F (a1 : Addr) (a2 : Addr) (m : MethodId) : entryFrame m #[(.ref a1), (.ref a2)] 2 = mkF m 0 #[.val (.ref a1), .val (.ref a2)] [] := by first | (simp [entryFrame, mkF, argsToLocals, Value.category]; done) | rfl
set_option maxRecDepth 65536 in
set_option maxHeartbeats 40000000 in
theorem rm19F (l : Launch) (Z : State) (a0 : Array Value) (hw : ∀ d ∈ tables_1, d.before a0 Z = true) (a1 : Addr) (a2 : Addr) (h0 : Heap) (n0 : Nat) (a3 : Addr) (k : ClassId) (xs : List Addr) (KE : String) (Fu : Ful Z h0 a1 a3 k xs) (hx10 : xs.length < 10) (g1 : n0 ≤ a1) (g3 : n0 ≤ a3) (E2 : Exa Z h0 a2 KE) (wc : (Cond.castable KE "java/lang/Object").before a0 Z = true) :
    Ctr l Z (⟨"java/util/ArrayList", "add", "(Ljava/lang/Object;)Z"⟩ : MethodName) jdk_38_method_25_code 2 (some .boolean) ({ frames := 4, cells := 1, slots := 10, locals := 56 } : Room) #[(.ref a1), (.ref a2)] h0 (fun v h L => v = some (.int 1) ∧ Fr n0 L ∧ Keep h0 h [a1, a3] ∧ Ful Z h a1 a3 k (xs ++ [a2])) := by
  refine Ctr.of pf_19 (ef_19F a1 a2) ?_
  intro p e s m below meth c T0 hx hby hml hret hlk hnm hZ hown e0 X0
  obtain ⟨Ea, ⟨mc, Fm⟩, Fz, Fe, Ov, V, Ex⟩ := Fu
  have ne_a1_a3 : a1 ≠ a3 := Exa.neArv Ea V (hw _ (List.mem_of_getElem? (i := 45) rfl))
  refine Go.by (g' := (mkF m 1 #[.val (.ref a1), .val (.ref a2)] [(.ref a1)])) (fun _ k => XS.aloadN X0.here hx rfl (hb hby d19_0) rfl rfl k) ?_
  refine Go.by (g' := (mkF m 2 #[.val (.ref a1), .val (.ref a2)] [(.ref a1), (.ref a1)])) (fun _ k => XS.dup X0.here hx rfl (hb hby d19_1) rfl rfl k) ?_
  obtain ⟨T59, X59, e59, st59⟩ := getF X0 hx hZ hown (host := "") (Or.inl (hw _ (List.mem_of_getElem? (i := 158) rfl))) (Via.of (hw _ (List.mem_of_getElem? (i := 159) rfl))) e0 Fm (g := (mkF m 2 #[.val (.ref a1), .val (.ref a2)] [(.ref a1), (.ref a1)])) rfl rfl (hb hby d19_2)
  refine Go.by (g' := (mkF m 5 #[.val (.ref a1), .val (.ref a2)] [(.int mc), (.ref a1)])) st59 ?_
  refine Go.by (g' := (mkF m 6 #[.val (.ref a1), .val (.ref a2)] [(.int (1 : Int32)), (.int mc), (.ref a1)])) (fun _ k => XS.iconst X59.here hx rfl (hb hby d19_5) k) ?_
  refine Go.by (g' := (mkF m 7 #[.val (.ref a1), .val (.ref a2)] [(.int (mc + (1 : Int32))), (.ref a1)])) (fun _ k => XS.iadd X59.here hx rfl (hb hby d19_6) rfl k) ?_
  obtain ⟨T60, h60, X60, e60, W60, st60⟩ := putF X59 hx hZ hown (host := "") (Or.inl (hw _ (List.mem_of_getElem? (i := 158) rfl))) (Via.of (hw _ (List.mem_of_getElem? (i := 159) rfl))) e59 Fm Ea (Or.inl (hw _ (List.mem_of_getElem? (i := 64) rfl))) (hw _ (List.mem_of_getElem? (i := 45) rfl)) (ty := .int) (by decide) rfl rfl (g := (mkF m 7 #[.val (.ref a1), .val (.ref a2)] [(.int (mc + (1 : Int32))), (.ref a1)])) rfl rfl (hb hby d19_7)
  have M60 := Fr.snoc X60 (Fr.nil n0) g1
  have KP60 : Keep h0 h60 [a1, a3] := (Keep.refl h0 [a1, a3]).wr W60 (Or.inl (List.mem_of_getElem? (i := 0) rfl))
  have F60_Fm := Fm.same W60
  refine Go.by (g' := (mkF m 10 #[.val (.ref a1), .val (.ref a2)] [])) st60 ?_
  refine Go.by (g' := (mkF m 11 #[.val (.ref a1), .val (.ref a2)] [(.ref a1)])) (fun _ k => XS.aloadN X60.here hx rfl (hb hby d19_10) rfl rfl k) ?_
  refine Go.by (g' := (mkF m 12 #[.val (.ref a1), .val (.ref a2)] [(.ref a2), (.ref a1)])) (fun _ k => XS.aloadN X60.here hx rfl (hb hby d19_11) rfl rfl k) ?_
  refine Go.by (g' := (mkF m 13 #[.val (.ref a1), .val (.ref a2)] [(.ref a1), (.ref a2), (.ref a1)])) (fun _ k => XS.aloadN X60.here hx rfl (hb hby d19_12) rfl rfl k) ?_
  have f61_Fe := (Fe.other W60 (Or.inr (slot_ne (Or.inl (hw _ (List.mem_of_getElem? (i := 67) rfl))) (Or.inl (hw _ (List.mem_of_getElem? (i := 64) rfl))) (by decide) (t := (.array (.object "java/lang/Object"))) (t' := .int) (by decide) (by decide))))
  obtain ⟨T62, X62, e62, st62⟩ := getF X60 hx hZ hown (host := "") (Or.inl (hw _ (List.mem_of_getElem? (i := 66) rfl))) Via.refl e60 f61_Fe (g := (mkF m 13 #[.val (.ref a1), .val (.ref a2)] [(.ref a1), (.ref a2), (.ref a1)])) rfl rfl (hb hby d19_13)
  refine Go.by (g' := (mkF m 16 #[.val (.ref a1), .val (.ref a2)] [(.ref a3), (.ref a2), (.ref a1)])) st62 ?_
  refine Go.by (g' := (mkF m 17 #[.val (.ref a1), .val (.ref a2)] [(.ref a1), (.ref a3), (.ref a2), (.ref a1)])) (fun _ k => XS.aloadN X62.here hx rfl (hb hby d19_16) rfl rfl k) ?_
  have f63_Fz := (Fz.other W60 (Or.inr (slot_ne (Or.inl (hw _ (List.mem_of_getElem? (i := 96) rfl))) (Or.inl (hw _ (List.mem_of_getElem? (i := 64) rfl))) (by decide) (t := .int) (t' := .int) (by decide) (by decide))))
  obtain ⟨T64, X64, e64, st64⟩ := getF X62 hx hZ hown (host := "") (Or.inl (hw _ (List.mem_of_getElem? (i := 95) rfl))) Via.refl e62 f63_Fz (g := (mkF m 17 #[.val (.ref a1), .val (.ref a2)] [(.ref a1), (.ref a3), (.ref a2), (.ref a1)])) rfl rfl (hb hby d19_17)
  refine Go.by (g' := (mkF m 20 #[.val (.ref a1), .val (.ref a2)] [(.int (szI xs.length)), (.ref a3), (.ref a2), (.ref a1)])) st64 ?_
  have f65_Ea := (Ea.wr W60)
  have f66_V := (V.other W60 (Ne.symm ne_a1_a3))
  have f67_Ex := (Ex.wr W60)
  have Fu : Ful Z h60 a1 a3 k xs := ⟨f65_Ea, ⟨_, F60_Fm⟩, f63_Fz, f61_Fe, Ov, f66_V, f67_Ex⟩
  have f68_E2 := (E2.wr W60)
  refine Go.callP X64 hx hZ (y := (⟨"java/util/ArrayList", "add", "(Ljava/lang/Object;[Ljava/lang/Object;I)V"⟩ : MethodName)) hown (hw _ (List.mem_of_getElem? (i := 160) rfl)) (hw _ (List.mem_of_getElem? (i := 161) rfl)) (hw _ (List.mem_of_getElem? (i := 163) rfl)) (hw _ (List.mem_of_getElem? (i := 162) rfl)) (hw _ (List.mem_of_getElem? (i := 46) rfl)) (hw _ (List.mem_of_getElem? (i := 164) rfl)) (by decide) (W := 0) (a := a1) (argsL := [(.ref a2), (.ref a3), (.int (szI xs.length))]) (rest := []) f65_Ea (rm20F l Z a0 hw a1 a2 a3 (szI xs.length) h60 n0 k xs KE Fu hx10 g1 g3 f68_E2 wc rfl) (by decide) (by decide) (by decide) (by decide) (g := (mkF m 20 #[.val (.ref a1), .val (.ref a2)] [(.int (szI xs.length)), (.ref a3), (.ref a2), (.ref a1)])) rfl (by rw [hml]; rfl) (lenOf pd_20 rfl) rfl (by show 2 * 0 + _ ≤ _; exact Nat.le_of_eq rfl) (hb hby d19_20) e64 ?_
  rintro T69 L69 _ X69 ⟨rfl, N69, K69, Fv⟩
  have M69 := Fr.app M60 N69
  have KP69 : Keep h0 T69.heap [a1, a3] := KP60.trans K69 (allS (Or.inl (List.mem_of_getElem? (i := 0) rfl)) (allS (Or.inl (List.mem_of_getElem? (i := 1) rfl)) all0))
  show Go p e below _ _ T69 (mkF m 23 #[.val (.ref a1), .val (.ref a2)] [])
  refine Go.by (g' := (mkF m 24 #[.val (.ref a1), .val (.ref a2)] [(.int (1 : Int32))])) (fun _ k => XS.iconst X69.here hx rfl (hb hby d19_23) k) ?_
  exact Go.outZ X69 hx hret (Lv.narrow X69 hlk (by decide) (by decide)) (hb hby d19_24) (Or.inr rfl) ⟨rfl, M69, KP69, Fv⟩
theorem d34_0 : decode jdk_47_method_1_code 0 = .ok (.aload_n 0, 1) := by decide +kernel
theorem d34_1 : decode jdk_47_method_1_code 1 = .ok (.invokespecial 1, 3) := by decide +kernel
theorem d34_4 : decode jdk_47_method_1_code 4 = .ok (.return_, 1) := by decide +kernel
theorem pn_34 : plainName "java/util/ImmutableCollections$AbstractImmutableCollection" = true := by first | (simp [plainName, overriddenIn]; done) | decide +kernel
theorem pf_34 : plainFor (⟨"java/util/ImmutableCollections$AbstractImmutableCollection", "<init>", "()V"⟩ : MethodName) = true := plainFor_of_name pn_34
theorem pd_34 : parseMethodDescriptor "()V" = some ⟨[], none⟩ := by decide +kernel
theorem d33_0 : decode jdk_46_method_1_code 0 = .ok (.aload_n 0, 1) := by decide +kernel
theorem d33_1 : decode jdk_46_method_1_code 1 = .ok (.invokespecial 1, 3) := by decide +kernel
theorem d33_4 : decode jdk_46_method_1_code 4 = .ok (.return_, 1) := by decide +kernel
theorem pn_33 : plainName "java/util/ImmutableCollections$AbstractImmutableList" = true := by first | (simp [plainName, overriddenIn]; done) | decide +kernel
theorem pf_33 : plainFor (⟨"java/util/ImmutableCollections$AbstractImmutableList", "<init>", "()V"⟩ : MethodName) = true := plainFor_of_name pn_33
theorem pd_33 : parseMethodDescriptor "()V" = some ⟨[], none⟩ := by decide +kernel
theorem d35_0 : decode jdk_31_method_10_code 0 = .ok (.aload_n 0, 1) := by decide +kernel
theorem d35_1 : decode jdk_31_method_10_code 1 = .ok (.ifnonnull 11, 3) := by decide +kernel
theorem d35_4 : decode jdk_31_method_10_code 4 = .ok (.new 84, 3) := by decide +kernel
theorem d35_7 : decode jdk_31_method_10_code 7 = .ok (.dup, 1) := by decide +kernel
theorem d35_8 : decode jdk_31_method_10_code 8 = .ok (.invokespecial 86, 3) := by decide +kernel
theorem d35_11 : decode jdk_31_method_10_code 11 = .ok (.athrow, 1) := by decide +kernel
theorem d35_12 : decode jdk_31_method_10_code 12 = .ok (.aload_n 0, 1) := by decide +kernel
theorem d35_13 : decode jdk_31_method_10_code 13 = .ok (.areturn, 1) := by decide +kernel
theorem pn_35 : plainName "java/util/Objects" = true := by first | (simp [plainName, overriddenIn]; done) | decide +kernel
theorem pf_35 : plainFor (⟨"java/util/Objects", "requireNonNull", "(Ljava/lang/Object;)Ljava/lang/Object;"⟩ : MethodName) = true := plainFor_of_name pn_35
theorem pd_35 : parseMethodDescriptor "(Ljava/lang/Object;)Ljava/lang/Object;" = some ⟨[(.object "java/lang/Object")], (some (.object "java/lang/Object"))⟩ := by decide +kernel
theorem d36_0 : decode jdk_44_method_1_code 0 = .ok (.aload_n 0, 1) := by decide +kernel
theorem d36_1 : decode jdk_44_method_1_code 1 = .ok (.invokespecial 1, 3) := by decide +kernel
theorem d36_4 : decode jdk_44_method_1_code 4 = .ok (.aload_n 0, 1) := by decide +kernel
theorem d36_5 : decode jdk_44_method_1_code 5 = .ok (.aload_n 1, 1) := by decide +kernel
theorem d36_6 : decode jdk_44_method_1_code 6 = .ok (.invokestatic 7, 3) := by decide +kernel
theorem d36_9 : decode jdk_44_method_1_code 9 = .ok (.putfield 13, 3) := by decide +kernel
theorem d36_12 : decode jdk_44_method_1_code 12 = .ok (.aload_n 0, 1) := by decide +kernel
theorem d36_13 : decode jdk_44_method_1_code 13 = .ok (.getstatic 19, 3) := by decide +kernel
theorem d36_16 : decode jdk_44_method_1_code 16 = .ok (.putfield 24, 3) := by decide +kernel
theorem d36_19 : decode jdk_44_method_1_code 19 = .ok (.return_, 1) := by decide +kernel
theorem pn_36 : plainName "java/util/ImmutableCollections$List12" = true := by first | (simp [plainName, overriddenIn]; done) | decide +kernel
theorem pf_36 : plainFor (⟨"java/util/ImmutableCollections$List12", "<init>", "(Ljava/lang/Object;)V"⟩ : MethodName) = true := plainFor_of_name pn_36
theorem pd_36 : parseMethodDescriptor "(Ljava/lang/Object;)V" = some ⟨[(.object "java/lang/Object")], none⟩ := by decide +kernel
theorem d32_0 : decode jdk_44_method_2_code 0 = .ok (.aload_n 0, 1) := by decide +kernel
theorem d32_1 : decode jdk_44_method_2_code 1 = .ok (.invokespecial 1, 3) := by decide +kernel
theorem d32_4 : decode jdk_44_method_2_code 4 = .ok (.aload_n 0, 1) := by decide +kernel
theorem d32_5 : decode jdk_44_method_2_code 5 = .ok (.aload_n 1, 1) := by decide +kernel
theorem d32_6 : decode jdk_44_method_2_code 6 = .ok (.invokestatic 7, 3) := by decide +kernel
theorem d32_9 : decode jdk_44_method_2_code 9 = .ok (.putfield 13, 3) := by decide +kernel
theorem d32_12 : decode jdk_44_method_2_code 12 = .ok (.aload_n 0, 1) := by decide +kernel
theorem d32_13 : decode jdk_44_method_2_code 13 = .ok (.aload_n 2, 1) := by decide +kernel
theorem d32_14 : decode jdk_44_method_2_code 14 = .ok (.invokestatic 7, 3) := by decide +kernel
theorem d32_17 : decode jdk_44_method_2_code 17 = .ok (.putfield 24, 3) := by decide +kernel
theorem d32_20 : decode jdk_44_method_2_code 20 = .ok (.return_, 1) := by decide +kernel
theorem pn_32 : plainName "java/util/ImmutableCollections$List12" = true := by first | (simp [plainName, overriddenIn]; done) | decide +kernel
theorem pf_32 : plainFor (⟨"java/util/ImmutableCollections$List12", "<init>", "(Ljava/lang/Object;Ljava/lang/Object;)V"⟩ : MethodName) = true := plainFor_of_name pn_32
theorem pd_32 : parseMethodDescriptor "(Ljava/lang/Object;Ljava/lang/Object;)V" = some ⟨[(.object "java/lang/Object"), (.object "java/lang/Object")], none⟩ := by decide +kernel
theorem d39_0 : decode jdk_45_method_1_code 0 = .ok (.aload_n 0, 1) := by decide +kernel
theorem d39_1 : decode jdk_45_method_1_code 1 = .ok (.invokespecial 1, 3) := by decide +kernel
theorem d39_4 : decode jdk_45_method_1_code 4 = .ok (.aload_n 0, 1) := by decide +kernel
theorem d39_5 : decode jdk_45_method_1_code 5 = .ok (.aload_n 1, 1) := by decide +kernel
theorem d39_6 : decode jdk_45_method_1_code 6 = .ok (.putfield 7, 3) := by decide +kernel
theorem d39_9 : decode jdk_45_method_1_code 9 = .ok (.aload_n 0, 1) := by decide +kernel
theorem d39_10 : decode jdk_45_method_1_code 10 = .ok (.iload_n 2, 1) := by decide +kernel
theorem d39_11 : decode jdk_45_method_1_code 11 = .ok (.putfield 13, 3) := by decide +kernel
theorem d39_14 : decode jdk_45_method_1_code 14 = .ok (.return_, 1) := by decide +kernel
theorem pn_39 : plainName "java/util/ImmutableCollections$ListN" = true := by first | (simp [plainName, overriddenIn]; done) | decide +kernel
theorem pf_39 : plainFor (⟨"java/util/ImmutableCollections$ListN", "<init>", "([Ljava/lang/Object;Z)V"⟩ : MethodName) = true := plainFor_of_name pn_39
theorem pd_39 : parseMethodDescriptor "([Ljava/lang/Object;Z)V" = some ⟨[(.array (.object "java/lang/Object")), .boolean], none⟩ := by decide +kernel
theorem d30_0 : decode jdk_29_method_69_code 0 = .ok (.iload_n 0, 1) := by decide +kernel
theorem d30_1 : decode jdk_29_method_69_code 1 = .ok (.iload_n 1, 1) := by decide +kernel
theorem d30_2 : decode jdk_29_method_69_code 2 = .ok (.if_icmp .gt 7, 3) := by decide +kernel
theorem d30_5 : decode jdk_29_method_69_code 5 = .ok (.iload_n 0, 1) := by decide +kernel
theorem d30_6 : decode jdk_29_method_69_code 6 = .ok (.goto 4, 3) := by decide +kernel
theorem d30_9 : decode jdk_29_method_69_code 9 = .ok (.iload_n 1, 1) := by decide +kernel
theorem d30_10 : decode jdk_29_method_69_code 10 = .ok (.ireturn, 1) := by decide +kernel
theorem pf_30 : plainFor (⟨"java/lang/Math", "min", "(II)I"⟩ : MethodName) = true := Jvm.Free.JP.mathPlain rfl (by decide +kernel)
theorem pd_30 : parseMethodDescriptor "(II)I" = some ⟨[.int, .int], (some .int)⟩ := by decide +kernel
theorem d29_0 : decode jdk_65_method_120_code 0 = .ok (.aload_n 2, 1) := by decide +kernel
theorem d29_1 : decode jdk_65_method_120_code 1 = .ok (.ldc 110, 2) := by decide +kernel
theorem d29_3 : decode jdk_65_method_120_code 3 = .ok (.if_acmp .ne 10, 3) := by decide +kernel
theorem d29_6 : decode jdk_65_method_120_code 6 = .ok (.iload_n 1, 1) := by decide +kernel
theorem d29_7 : decode jdk_65_method_120_code 7 = .ok (.anewarray 2, 3) := by decide +kernel
theorem d29_10 : decode jdk_65_method_120_code 10 = .ok (.goto 14, 3) := by decide +kernel
theorem d29_13 : decode jdk_65_method_120_code 13 = .ok (.aload_n 2, 1) := by decide +kernel
theorem d29_14 : decode jdk_65_method_120_code 14 = .ok (.invokevirtual 90, 3) := by decide +kernel
theorem d29_17 : decode jdk_65_method_120_code 17 = .ok (.iload_n 1, 1) := by decide +kernel
theorem d29_18 : decode jdk_65_method_120_code 18 = .ok (.invokestatic 95, 3) := by decide +kernel
theorem d29_21 : decode jdk_65_method_120_code 21 = .ok (.checkcast 110, 3) := by decide +kernel
theorem d29_24 : decode jdk_65_method_120_code 24 = .ok (.astore_n 3, 1) := by decide +kernel
theorem d29_25 : decode jdk_65_method_120_code 25 = .ok (.aload_n 0, 1) := by decide +kernel
theorem d29_26 : decode jdk_65_method_120_code 26 = .ok (.iconst 0, 1) := by decide +kernel
theorem d29_27 : decode jdk_65_method_120_code 27 = .ok (.aload_n 3, 1) := by decide +kernel
theorem d29_28 : decode jdk_65_method_120_code 28 = .ok (.iconst 0, 1) := by decide +kernel
theorem d29_29 : decode jdk_65_method_120_code 29 = .ok (.aload_n 0, 1) := by decide +kernel
theorem d29_30 : decode jdk_65_method_120_code 30 = .ok (.arraylength, 1) := by decide +kernel
theorem d29_31 : decode jdk_65_method_120_code 31 = .ok (.iload_n 1, 1) := by decide +kernel
theorem d29_32 : decode jdk_65_method_120_code 32 = .ok (.invokestatic 304, 3) := by decide +kernel
theorem d29_35 : decode jdk_65_method_120_code 35 = .ok (.invokestatic 150, 3) := by decide +kernel
theorem d29_38 : decode jdk_65_method_120_code 38 = .ok (.aload_n 3, 1) := by decide +kernel
theorem d29_39 : decode jdk_65_method_120_code 39 = .ok (.areturn, 1) := by decide +kernel
theorem pn_29 : plainName "java/util/Arrays" = true := by first | (simp [plainName, overriddenIn]; done) | decide +kernel
theorem pf_29 : plainFor (⟨"java/util/Arrays", "copyOf", "([Ljava/lang/Object;ILjava/lang/Class;)[Ljava/lang/Object;"⟩ : MethodName) = true := plainFor_of_name pn_29
theorem pd_29 : parseMethodDescriptor "([Ljava/lang/Object;ILjava/lang/Class;)[Ljava/lang/Object;" = some ⟨[(.array (.object "java/lang/Object")), .int, (.object "java/lang/Class")], (some (.array (.object "java/lang/Object")))⟩ := by decide +kernel
theorem d28_0 : decode jdk_65_method_119_code 0 = .ok (.aload_n 0, 1) := by decide +kernel
theorem d28_1 : decode jdk_65_method_119_code 1 = .ok (.iload_n 1, 1) := by decide +kernel
theorem d28_2 : decode jdk_65_method_119_code 2 = .ok (.aload_n 0, 1) := by decide +kernel
theorem d28_3 : decode jdk_65_method_119_code 3 = .ok (.invokevirtual 86, 3) := by decide +kernel
theorem d28_6 : decode jdk_65_method_119_code 6 = .ok (.invokestatic 300, 3) := by decide +kernel
theorem d28_9 : decode jdk_65_method_119_code 9 = .ok (.areturn, 1) := by decide +kernel
theorem pn_28 : plainName "java/util/Arrays" = true := by first | (simp [plainName, overriddenIn]; done) | decide +kernel
theorem pf_28 : plainFor (⟨"java/util/Arrays", "copyOf", "([Ljava/lang/Object;I)[Ljava/lang/Object;"⟩ : MethodName) = true := plainFor_of_name pn_28
theorem pd_28 : parseMethodDescriptor "([Ljava/lang/Object;I)[Ljava/lang/Object;" = some ⟨[(.array (.object "java/lang/Object")), .int], (some (.array (.object "java/lang/Object")))⟩ := by decide +kernel
theorem d27_0 : decode jdk_38_method_16_code 0 = .ok (.aload_n 0, 1) := by decide +kernel
theorem d27_1 : decode jdk_38_method_16_code 1 = .ok (.getfield 9, 3) := by decide +kernel
theorem d27_4 : decode jdk_38_method_16_code 4 = .ok (.aload_n 0, 1) := by decide +kernel
theorem d27_5 : decode jdk_38_method_16_code 5 = .ok (.getfield 48, 3) := by decide +kernel
theorem d27_8 : decode jdk_38_method_16_code 8 = .ok (.invokestatic 66, 3) := by decide +kernel
theorem d27_11 : decode jdk_38_method_16_code 11 = .ok (.areturn, 1) := by decide +kernel
theorem pn_27 : plainName "java/util/ArrayList" = true := by first | (simp [plainName, overriddenIn]; done) | decide +kernel
theorem pf_27 : plainFor (⟨"java/util/ArrayList", "toArray", "()[Ljava/lang/Object;"⟩ : MethodName) = true := plainFor_of_name pn_27
theorem pd_27 : parseMethodDescriptor "()[Ljava/lang/Object;" = some ⟨[], (some (.array (.object "java/lang/Object")))⟩ := by decide +kernel
theorem d12_0 : decode jdk_38_method_9_code 0 = .ok (.aload_n 0, 1) := by decide +kernel
theorem d12_1 : decode jdk_38_method_9_code 1 = .ok (.getfield 48, 3) := by decide +kernel
theorem d12_4 : decode jdk_38_method_9_code 4 = .ok (.ifCond .ne 7, 3) := by decide +kernel
theorem d12_7 : decode jdk_38_method_9_code 7 = .ok (.iconst 1, 1) := by decide +kernel
theorem d12_8 : decode jdk_38_method_9_code 8 = .ok (.goto 4, 3) := by decide +kernel
theorem d12_11 : decode jdk_38_method_9_code 11 = .ok (.iconst 0, 1) := by decide +kernel
theorem d12_12 : decode jdk_38_method_9_code 12 = .ok (.ireturn, 1) := by decide +kernel
theorem pn_12 : plainName "java/util/ArrayList" = true := by first | (simp [plainName, overriddenIn]; done) | decide +kernel
theorem pf_12 : plainFor (⟨"java/util/ArrayList", "isEmpty", "()Z"⟩ : MethodName) = true := plainFor_of_name pn_12
theorem pd_12 : parseMethodDescriptor "()Z" = some ⟨[], (some .boolean)⟩ := by decide +kernel
theorem d13_0 : decode jdk_40_method_36_code 0 = .ok (.getstatic 90, 3) := by decide +kernel
theorem d13_3 : decode jdk_40_method_36_code 3 = .ok (.areturn, 1) := by decide +kernel
theorem pn_13 : plainName "java/util/List" = true := by first | (simp [plainName, overriddenIn]; done) | decide +kernel
theorem pf_13 : plainFor (⟨"java/util/List", "of", "()Ljava/util/List;"⟩ : MethodName) = true := plainFor_of_name pn_13
theorem pd_13 : parseMethodDescriptor "()Ljava/util/List;" = some ⟨[], (some (.object "java/util/List"))⟩ := by decide +kernel
theorem d31_0 : decode jdk_40_method_47_code 0 = .ok (.aload_n 0, 1) := by decide +kernel
theorem d31_1 : decode jdk_40_method_47_code 1 = .ok (.arraylength, 1) := by decide +kernel
theorem d31_2 : decode jdk_40_method_47_code 2 = .ok (.tableswitch 57 0 2 #[26, 32, 43], 26) := by decide +kernel
theorem d31_28 : decode jdk_40_method_47_code 28 = .ok (.getstatic 90, 3) := by decide +kernel
theorem d31_31 : decode jdk_40_method_47_code 31 = .ok (.astore_n 1, 1) := by decide +kernel
theorem d31_32 : decode jdk_40_method_47_code 32 = .ok (.aload_n 1, 1) := by decide +kernel
theorem d31_33 : decode jdk_40_method_47_code 33 = .ok (.areturn, 1) := by decide +kernel
theorem d31_34 : decode jdk_40_method_47_code 34 = .ok (.new 96, 3) := by decide +kernel
theorem d31_37 : decode jdk_40_method_47_code 37 = .ok (.dup, 1) := by decide +kernel
theorem d31_38 : decode jdk_40_method_47_code 38 = .ok (.aload_n 0, 1) := by decide +kernel
theorem d31_39 : decode jdk_40_method_47_code 39 = .ok (.iconst 0, 1) := by decide +kernel
theorem d31_40 : decode jdk_40_method_47_code 40 = .ok (.aaload, 1) := by decide +kernel
theorem d31_41 : decode jdk_40_method_47_code 41 = .ok (.invokespecial 98, 3) := by decide +kernel
theorem d31_44 : decode jdk_40_method_47_code 44 = .ok (.areturn, 1) := by decide +kernel
theorem d31_45 : decode jdk_40_method_47_code 45 = .ok (.new 96, 3) := by decide +kernel
theorem d31_48 : decode jdk_40_method_47_code 48 = .ok (.dup, 1) := by decide +kernel
theorem d31_49 : decode jdk_40_method_47_code 49 = .ok (.aload_n 0, 1) := by decide +kernel
theorem d31_50 : decode jdk_40_method_47_code 50 = .ok (.iconst 0, 1) := by decide +kernel
theorem d31_51 : decode jdk_40_method_47_code 51 = .ok (.aaload, 1) := by decide +kernel
theorem d31_52 : decode jdk_40_method_47_code 52 = .ok (.aload_n 0, 1) := by decide +kernel
theorem d31_53 : decode jdk_40_method_47_code 53 = .ok (.iconst 1, 1) := by decide +kernel
theorem d31_54 : decode jdk_40_method_47_code 54 = .ok (.aaload, 1) := by decide +kernel
theorem d31_55 : decode jdk_40_method_47_code 55 = .ok (.invokespecial 100, 3) := by decide +kernel
theorem d31_58 : decode jdk_40_method_47_code 58 = .ok (.areturn, 1) := by decide +kernel
theorem d31_59 : decode jdk_40_method_47_code 59 = .ok (.aload_n 0, 1) := by decide +kernel
theorem d31_60 : decode jdk_40_method_47_code 60 = .ok (.invokestatic 109, 3) := by decide +kernel
theorem d31_63 : decode jdk_40_method_47_code 63 = .ok (.areturn, 1) := by decide +kernel
theorem pn_31 : plainName "java/util/List" = true := by first | (simp [plainName, overriddenIn]; done) | decide +kernel
theorem pf_31 : plainFor (⟨"java/util/List", "of", "([Ljava/lang/Object;)Ljava/util/List;"⟩ : MethodName) = true := plainFor_of_name pn_31
theorem pd_31 : parseMethodDescriptor "([Ljava/lang/Object;)Ljava/util/List;" = some ⟨[(.array (.object "java/lang/Object"))], (some (.object "java/util/List"))⟩ := by decide +kernel
theorem d38_0 : decode jdk_56_method_4_code 0 = .ok (.aload_n 0, 1) := by decide +kernel
theorem d38_1 : decode jdk_56_method_4_code 1 = .ok (.arraylength, 1) := by decide +kernel
theorem d38_2 : decode jdk_56_method_4_code 2 = .ok (.anewarray 2, 3) := by decide +kernel
theorem d38_5 : decode jdk_56_method_4_code 5 = .ok (.astore_n 1, 1) := by decide +kernel
theorem d38_6 : decode jdk_56_method_4_code 6 = .ok (.iconst 0, 1) := by decide +kernel
theorem d38_7 : decode jdk_56_method_4_code 7 = .ok (.istore_n 2, 1) := by decide +kernel
theorem d38_8 : decode jdk_56_method_4_code 8 = .ok (.iload_n 2, 1) := by decide +kernel
theorem d38_9 : decode jdk_56_method_4_code 9 = .ok (.aload_n 0, 1) := by decide +kernel
theorem d38_10 : decode jdk_56_method_4_code 10 = .ok (.arraylength, 1) := by decide +kernel
theorem d38_11 : decode jdk_56_method_4_code 11 = .ok (.if_icmp .ge 18, 3) := by decide +kernel
theorem d38_14 : decode jdk_56_method_4_code 14 = .ok (.aload_n 1, 1) := by decide +kernel
theorem d38_15 : decode jdk_56_method_4_code 15 = .ok (.iload_n 2, 1) := by decide +kernel
theorem d38_16 : decode jdk_56_method_4_code 16 = .ok (.aload_n 0, 1) := by decide +kernel
theorem d38_17 : decode jdk_56_method_4_code 17 = .ok (.iload_n 2, 1) := by decide +kernel
theorem d38_18 : decode jdk_56_method_4_code 18 = .ok (.aaload, 1) := by decide +kernel
theorem d38_19 : decode jdk_56_method_4_code 19 = .ok (.invokestatic 37, 3) := by decide +kernel
theorem d38_22 : decode jdk_56_method_4_code 22 = .ok (.aastore, 1) := by decide +kernel
theorem d38_23 : decode jdk_56_method_4_code 23 = .ok (.iinc 2 1, 3) := by decide +kernel
theorem d38_26 : decode jdk_56_method_4_code 26 = .ok (.goto (-18), 3) := by decide +kernel
theorem d38_29 : decode jdk_56_method_4_code 29 = .ok (.new 12, 3) := by decide +kernel
theorem d38_32 : decode jdk_56_method_4_code 32 = .ok (.dup, 1) := by decide +kernel
theorem d38_33 : decode jdk_56_method_4_code 33 = .ok (.aload_n 1, 1) := by decide +kernel
theorem d38_34 : decode jdk_56_method_4_code 34 = .ok (.iconst 0, 1) := by decide +kernel
theorem d38_35 : decode jdk_56_method_4_code 35 = .ok (.invokespecial 43, 3) := by decide +kernel
theorem d38_38 : decode jdk_56_method_4_code 38 = .ok (.areturn, 1) := by decide +kernel
theorem pn_38 : plainName "java/util/ImmutableCollections" = true := by first | (simp [plainName, overriddenIn]; done) | decide +kernel
theorem pf_38 : plainFor (⟨"java/util/ImmutableCollections", "listFromArray", "([Ljava/lang/Object;)Ljava/util/List;"⟩ : MethodName) = true := plainFor_of_name pn_38
theorem pd_38 : parseMethodDescriptor "([Ljava/lang/Object;)Ljava/util/List;" = some ⟨[(.array (.object "java/lang/Object"))], (some (.object "java/util/List"))⟩ := by decide +kernel
theorem d11_0 : decode jdk_56_method_3_code 0 = .ok (.aload_n 0, 1) := by decide +kernel
theorem d11_1 : decode jdk_56_method_3_code 1 = .ok (.instanceof 10, 3) := by decide +kernel
theorem d11_4 : decode jdk_56_method_3_code 4 = .ok (.ifCond .ne 22, 3) := by decide +kernel
theorem d11_7 : decode jdk_56_method_3_code 7 = .ok (.aload_n 0, 1) := by decide +kernel
theorem d11_8 : decode jdk_56_method_3_code 8 = .ok (.instanceof 12, 3) := by decide +kernel
theorem d11_11 : decode jdk_56_method_3_code 11 = .ok (.ifCond .eq 20, 3) := by decide +kernel
theorem d11_14 : decode jdk_56_method_3_code 14 = .ok (.aload_n 0, 1) := by decide +kernel
theorem d11_15 : decode jdk_56_method_3_code 15 = .ok (.checkcast 12, 3) := by decide +kernel
theorem d11_18 : decode jdk_56_method_3_code 18 = .ok (.astore_n 1, 1) := by decide +kernel
theorem d11_19 : decode jdk_56_method_3_code 19 = .ok (.aload_n 1, 1) := by decide +kernel
theorem d11_20 : decode jdk_56_method_3_code 20 = .ok (.getfield 14, 3) := by decide +kernel
theorem d11_23 : decode jdk_56_method_3_code 23 = .ok (.ifCond .ne 8, 3) := by decide +kernel
theorem d11_26 : decode jdk_56_method_3_code 26 = .ok (.aload_n 0, 1) := by decide +kernel
theorem d11_27 : decode jdk_56_method_3_code 27 = .ok (.checkcast 18, 3) := by decide +kernel
theorem d11_30 : decode jdk_56_method_3_code 30 = .ok (.areturn, 1) := by decide +kernel
theorem d11_31 : decode jdk_56_method_3_code 31 = .ok (.aload_n 0, 1) := by decide +kernel
theorem d11_32 : decode jdk_56_method_3_code 32 = .ok (.invokeinterface 20 1, 5) := by decide +kernel
theorem d11_37 : decode jdk_56_method_3_code 37 = .ok (.ifCond .eq 7, 3) := by decide +kernel
theorem d11_40 : decode jdk_56_method_3_code 40 = .ok (.invokestatic 26, 3) := by decide +kernel
theorem d11_43 : decode jdk_56_method_3_code 43 = .ok (.areturn, 1) := by decide +kernel
theorem d11_44 : decode jdk_56_method_3_code 44 = .ok (.aload_n 0, 1) := by decide +kernel
theorem d11_45 : decode jdk_56_method_3_code 45 = .ok (.invokeinterface 30 1, 5) := by decide +kernel
theorem d11_50 : decode jdk_56_method_3_code 50 = .ok (.invokestatic 34, 3) := by decide +kernel
theorem d11_53 : decode jdk_56_method_3_code 53 = .ok (.areturn, 1) := by decide +kernel
theorem pn_11 : plainName "java/util/ImmutableCollections" = true := by first | (simp [plainName, overriddenIn]; done) | decide +kernel
theorem pf_11 : plainFor (⟨"java/util/ImmutableCollections", "listCopy", "(Ljava/util/Collection;)Ljava/util/List;"⟩ : MethodName) = true := plainFor_of_name pn_11
theorem pd_11 : parseMethodDescriptor "(Ljava/util/Collection;)Ljava/util/List;" = some ⟨[(.object "java/util/Collection")], (some (.object "java/util/List"))⟩ := by decide +kernel
theorem d10_0 : decode jdk_40_method_48_code 0 = .ok (.aload_n 0, 1) := by decide +kernel
theorem d10_1 : decode jdk_40_method_48_code 1 = .ok (.invokestatic 112, 3) := by decide +kernel
theorem d10_4 : decode jdk_40_method_48_code 4 = .ok (.areturn, 1) := by decide +kernel
theorem pn_10 : plainName "java/util/List" = true := by first | (simp [plainName, overriddenIn]; done) | decide +kernel
theorem pf_10 : plainFor (⟨"java/util/List", "copyOf", "(Ljava/util/Collection;)Ljava/util/List;"⟩ : MethodName) = true := plainFor_of_name pn_10
theorem pd_10 : parseMethodDescriptor "(Ljava/util/Collection;)Ljava/util/List;" = some ⟨[(.object "java/util/Collection")], (some (.object "java/util/List"))⟩ := by decide +kernel
theorem ef_34 (a1 : Addr) (m : MethodId) : entryFrame m #[(.ref a1)] 1 = mkF m 0 #[.val (.ref a1)] [] := by first | (simp [entryFrame, mkF, argsToLocals, Value.category]; done) | rfl
set_option maxRecDepth 65536 in
set_option maxHeartbeats 40000000 in
theorem rm34 (l : Launch) (Z : State) (a0 : Array Value) (hw : ∀ d ∈ tables_1, d.before a0 Z = true) (a1 : Addr) (h0 : Heap) (n0 : Nat)   :
    Ctr l Z (⟨"java/util/ImmutableCollections$AbstractImmutableCollection", "<init>", "()V"⟩ : MethodName) jdk_47_method_1_code 1 none ({ frames := 2, cells := 0, slots := 0, locals := 24 } : Room) #[(.ref a1)] h0 (fun v h L => v = none ∧ Fr n0 L ∧ h = h0) := by
  refine Ctr.of pf_34 (ef_34 a1) ?_
  intro p e s m below meth c T0 hx hby hml hret hlk hnm hZ hown e0 X0
  refine Go.by (g' := (mkF m 1 #[.val (.ref a1)] [(.ref a1)])) (fun _ k => XS.aloadN X0.here hx rfl (hb hby d34_0) rfl rfl k) ?_
  refine Go.callI X0 hx hZ (y := (⟨"java/util/AbstractCollection", "<init>", "()V"⟩ : MethodName)) rfl hown (hw _ (List.mem_of_getElem? (i := 257) rfl)) (hw _ (List.mem_of_getElem? (i := 57) rfl)) (hw _ (List.mem_of_getElem? (i := 60) rfl)) (hw _ (List.mem_of_getElem? (i := 61) rfl)) (by decide) (W := 0) (a := a1) (argsL := []) (rest := []) (rm8 l Z a0 hw a1 h0 n0) (by decide) (by decide) (by decide) (by decide) (g := (mkF m 1 #[.val (.ref a1)] [(.ref a1)])) rfl (by rw [hml]; rfl) (lenOf pd_8 rfl) rfl (by show 2 * 0 + _ ≤ _; exact Nat.le_of_eq rfl) (hb hby d34_1) e0 ?_
  rintro T70 L70 _ X70 ⟨rfl, N70, q70⟩
  have M70 := Fr.app (Fr.nil n0) N70
  show Go p e below _ _ T70 (mkF m 4 #[.val (.ref a1)] [])
  exact Go.outN X70 hx hret (Lv.narrow X70 hlk (by decide) (by decide)) (hb hby d34_4) (by rw [q70]; exact ⟨rfl, M70, rfl⟩)
theorem ef_33 (a1 : Addr) (m : MethodId) : entryFrame m #[(.ref a1)] 1 = mkF m 0 #[.val (.ref a1)] [] := by first | (simp [entryFrame, mkF, argsToLocals, Value.category]; done) | rfl
set_option maxRecDepth 65536 in
set_option maxHeartbeats 40000000 in
theorem rm33 (l : Launch) (Z : State) (a0 : Array Value) (hw : ∀ d ∈ tables_1, d.before a0 Z = true) (a1 : Addr) (h0 : Heap) (n0 : Nat)   :
    Ctr l Z (⟨"java/util/ImmutableCollections$AbstractImmutableList", "<init>", "()V"⟩ : MethodName) jdk_46_method_1_code 1 none ({ frames := 3, cells := 0, slots := 0, locals := 36 } : Room) #[(.ref a1)] h0 (fun v h L => v = none ∧ Fr n0 L ∧ h = h0) := by
  refine Ctr.of pf_33 (ef_33 a1) ?_
  intro p e s m below meth c T0 hx hby hml hret hlk hnm hZ hown e0 X0
  refine Go.by (g' := (mkF m 1 #[.val (.ref a1)] [(.ref a1)])) (fun _ k => XS.aloadN X0.here hx rfl (hb hby d33_0) rfl rfl k) ?_
  refine Go.callI X0 hx hZ (y := (⟨"java/util/ImmutableCollections$AbstractImmutableCollection", "<init>", "()V"⟩ : MethodName)) rfl hown (hw _ (List.mem_of_getElem? (i := 251) rfl)) (hw _ (List.mem_of_getElem? (i := 252) rfl)) (hw _ (List.mem_of_getElem? (i := 255) rfl)) (hw _ (List.mem_of_getElem? (i := 256) rfl)) (by decide) (W := 0) (a := a1) (argsL := []) (rest := []) (rm34 l Z a0 hw a1 h0 n0) (by decide) (by decide) (by decide) (by decide) (g := (mkF m 1 #[.val (.ref a1)] [(.ref a1)])) rfl (by rw [hml]; rfl) (lenOf pd_34 rfl) rfl (by show 2 * 0 + _ ≤ _; exact Nat.le_of_eq rfl) (hb hby d33_1) e0 ?_
  rintro T71 L71 _ X71 ⟨rfl, N71, q71⟩
  have M71 := Fr.app (Fr.nil n0) N71
  show Go p e below _ _ T71 (mkF m 4 #[.val (.ref a1)] [])
  exact Go.outN X71 hx hret (Lv.narrow X71 hlk (by decide) (by decide)) (hb hby d33_4) (by rw [q71]; exact ⟨rfl, M71, rfl⟩)
theorem ef_35 (a1 : Addr) (m : MethodId) : entryFrame m #[(.ref a1)] 1 = mkF m 0 #[.val (.ref a1)] [] := by first | (simp [entryFrame, mkF, argsToLocals, Value.category]; done) | rfl
set_option maxRecDepth 65536 in
set_option maxHeartbeats 40000000 in
theorem rm35 (l : Launch) (Z : State) (a0 : Array Value) (hw : ∀ d ∈ tables_1, d.before a0 Z = true) (a1 : Addr) (h0 : Heap) (n0 : Nat)   :
    Ctr l Z (⟨"java/util/Objects", "requireNonNull", "(Ljava/lang/Object;)Ljava/lang/Object;"⟩ : MethodName) jdk_31_method_10_code 1 (some (.object "java/lang/Object")) ({ frames := 0, cells := 0, slots := 0, locals := 0 } : Room) #[(.ref a1)] h0 (fun v h L => v = some (.ref a1) ∧ Fr n0 L ∧ h = h0) := by
  refine Ctr.of pf_35 (ef_35 a1) ?_
  intro p e s m below meth c T0 hx hby hml hret hlk hnm hZ hown e0 X0
  refine Go.by (g' := (mkF m 1 #[.val (.ref a1)] [(.ref a1)])) (fun _ k => XS.aloadN X0.here hx rfl (hb hby d35_0) rfl rfl k) ?_
  refine Go.by (g' := (mkF m 12 #[.val (.ref a1)] [])) (fun _ k => XS.ifnonnullYes X0.here hx rfl (pc0 := 1) (pc' := 12) rfl (hb hby d35_1) rfl (by decide) (by decide) k) ?_
  refine Go.by (g' := (mkF m 13 #[.val (.ref a1)] [(.ref a1)])) (fun _ k => XS.aloadN X0.here hx rfl (hb hby d35_12) rfl rfl k) ?_
  exact Go.outA X0 hx hret (Lv.narrow X0 hlk (by decide) (by decide)) rfl rfl (hb hby d35_13) (by rw [e0]; exact ⟨rfl, (Fr.nil n0), rfl⟩)
theorem ef_36 (a1 : Addr) (a2 : Addr) (m : MethodId) : entryFrame m #[(.ref a1), (.ref a2)] 2 = mkF m 0 #[.val (.ref a1), .val (.ref a2)] [] := by first | (simp [entryFrame, mkF, argsToLocals, Value.category]; done) | rfl
set_option maxRecDepth 65536 in
set_option maxHeartbeats 40000000 in
theorem rm36 (l : Launch) (Z : State) (a0 : Array Value) (hw : ∀ d ∈ tables_1, d.before a0 Z = true) (a1 : Addr) (a2 : Addr) (h0 : Heap) (n0 : Nat) (u1 u2 : Value) (aM : Addr) (Ea : Exa Z h0 a1 "java/util/ImmutableCollections$List12") (F1 : Fld Z h0 a1 "java/util/ImmutableCollections$List12" "e0" "Ljava/lang/Object;" u1) (F2 : Fld Z h0 a1 "java/util/ImmutableCollections$List12" "e1" "Ljava/lang/Object;" u2) (g1 : n0 ≤ a1) (OL : Old Z n0 h0) (SEM : Sta Z Z.heap "java/util/ImmutableCollections" "EMPTY" "Ljava/lang/Object;" (.ref aM)) :
    Ctr l Z (⟨"java/util/ImmutableCollections$List12", "<init>", "(Ljava/lang/Object;)V"⟩ : MethodName) jdk_44_method_1_code 2 none ({ frames := 4, cells := 0, slots := 0, locals := 50 } : Room) #[(.ref a1), (.ref a2)] h0 (fun v h L => v = none ∧ Fr n0 L ∧ Keep h0 h [a1]) := by
  refine Ctr.of pf_36 (ef_36 a1 a2) ?_
  intro p e s m below meth c T0 hx hby hml hret hlk hnm hZ hown e0 X0
  refine Go.by (g' := (mkF m 1 #[.val (.ref a1), .val (.ref a2)] [(.ref a1)])) (fun _ k => XS.aloadN X0.here hx rfl (hb hby d36_0) rfl rfl k) ?_
  refine Go.callI X0 hx hZ (y := (⟨"java/util/ImmutableCollections$AbstractImmutableList", "<init>", "()V"⟩ : MethodName)) rfl hown (hw _ (List.mem_of_getElem? (i := 245) rfl)) (hw _ (List.mem_of_getElem? (i := 246) rfl)) (hw _ (List.mem_of_getElem? (i := 249) rfl)) (hw _ (List.mem_of_getElem? (i := 250) rfl)) (by decide) (W := 0) (a := a1) (argsL := []) (rest := []) (rm33 l Z a0 hw a1 h0 n0) (by decide) (by decide) (by decide) (by decide) (g := (mkF m 1 #[.val (.ref a1), .val (.ref a2)] [(.ref a1)])) rfl (by rw [hml]; rfl) (lenOf pd_33 rfl) rfl (by show 2 * 0 + _ ≤ _; exact Nat.le_of_eq rfl) (hb hby d36_1) e0 ?_
  rintro T72 L72 _ X72 ⟨rfl, N72, q72⟩
  have M72 := Fr.app (Fr.nil n0) N72
  show Go p e below _ _ T72 (mkF m 4 #[.val (.ref a1), .val (.ref a2)] [])
  refine Go.by (g' := (mkF m 5 #[.val (.ref a1), .val (.ref a2)] [(.ref a1)])) (fun _ k => XS.aloadN X72.here hx rfl (hb hby d36_4) rfl rfl k) ?_
  refine Go.by (g' := (mkF m 6 #[.val (.ref a1), .val (.ref a2)] [(.ref a2), (.ref a1)])) (fun _ k => XS.aloadN X72.here hx rfl (hb hby d36_5) rfl rfl k) ?_
  refine Go.callS X72 hx hZ (y := (⟨"java/util/Objects", "requireNonNull", "(Ljava/lang/Object;)Ljava/lang/Object;"⟩ : MethodName)) hown (hw _ (List.mem_of_getElem? (i := 259) rfl)) (hw _ (List.mem_of_getElem? (i := 260) rfl)) (hw _ (List.mem_of_getElem? (i := 261) rfl)) (hw _ (List.mem_of_getElem? (i := 262) rfl)) (by decide) (W := 1) (argsL := [(.ref a2)]) (rest := [(.ref a1)]) (rm35 l Z a0 hw a2 h0 n0) (by decide) (by decide) (by decide) (by decide) (g := (mkF m 6 #[.val (.ref a1), .val (.ref a2)] [(.ref a2), (.ref a1)])) rfl (by rw [hml]; rfl) (lenOf pd_35 rfl) rfl (by show 2 * 0 + _ ≤ _; exact Nat.le_of_eq rfl) (hb hby d36_6) q72 ?_
  rintro T73 L73 _ X73 ⟨rfl, N73, q73⟩
  have M73 := Fr.app M72 N73
  show Go p e below _ _ T73 (mkF m 9 #[.val (.ref a1), .val (.ref a2)] [(.ref a2), (.ref a1)])
  obtain ⟨T74, h74, X74, e74, W74, st74⟩ := putF X73 hx hZ hown (host := "") (Or.inl (hw _ (List.mem_of_getElem? (i := 263) rfl))) Via.refl q73 F1 Ea (Or.inr ⟨(hw _ (List.mem_of_getElem? (i := 264) rfl)), rfl, hnm⟩) (hw _ (List.mem_of_getElem? (i := 239) rfl)) (ty := (.object "java/lang/Object")) (by decide) rfl rfl (g := (mkF m 9 #[.val (.ref a1), .val (.ref a2)] [(.ref a2), (.ref a1)])) rfl rfl (hb hby d36_9)
  have M74 := Fr.snoc X74 M73 g1
  have KP74 : Keep h0 h74 [a1] := (Keep.refl h0 [a1]).wr W74 (Or.inl (List.mem_of_getElem? (i := 0) rfl))
  have F74_F1 := F1.same W74
  refine Go.by (g' := (mkF m 12 #[.val (.ref a1), .val (.ref a2)] [])) st74 ?_
  refine Go.by (g' := (mkF m 13 #[.val (.ref a1), .val (.ref a2)] [(.ref a1)])) (fun _ k => XS.aloadN X74.here hx rfl (hb hby d36_12) rfl rfl k) ?_
  have f75_OL := (OL.wr W74 g1)
  obtain ⟨T76, X76, e76, st76⟩ := getS2 X74 hx hZ hown (Or.inr (hw _ (List.mem_of_getElem? (i := 278) rfl))) Via.refl e74 (SEM.ext f75_OL.2) (g := (mkF m 13 #[.val (.ref a1), .val (.ref a2)] [(.ref a1)])) rfl (hb hby d36_13)
  refine Go.by (g' := (mkF m 16 #[.val (.ref a1), .val (.ref a2)] [(.ref aM), (.ref a1)])) st76 ?_
  have f77_F2 := (F2.other W74 (Or.inr (slot_ne (Or.inr (hw _ (List.mem_of_getElem? (i := 266) rfl))) (Or.inr (hw _ (List.mem_of_getElem? (i := 264) rfl))) (by decide) (t := (.object "java/lang/Object")) (t' := (.object "java/lang/Object")) (by decide) (by decide))))
  have f78_Ea := (Ea.wr W74)
  obtain ⟨T79, h79, X79, e79, W79, st79⟩ := putF X76 hx hZ hown (host := "") (Or.inl (hw _ (List.mem_of_getElem? (i := 265) rfl))) Via.refl e76 f77_F2 f78_Ea (Or.inr ⟨(hw _ (List.mem_of_getElem? (i := 266) rfl)), rfl, hnm⟩) (hw _ (List.mem_of_getElem? (i := 239) rfl)) (ty := (.object "java/lang/Object")) (by decide) rfl rfl (g := (mkF m 16 #[.val (.ref a1), .val (.ref a2)] [(.ref aM), (.ref a1)])) rfl rfl (hb hby d36_16)
  have M79 := Fr.snoc X79 M74 g1
  have KP79 : Keep h0 h79 [a1] := KP74.wr W79 (Or.inl (List.mem_of_getElem? (i := 0) rfl))
  have F79_F2 := f77_F2.same W79
  refine Go.by (g' := (mkF m 19 #[.val (.ref a1), .val (.ref a2)] [])) st79 ?_
  exact Go.outN X79 hx hret (Lv.narrow X79 hlk (by decide) (by decide)) (hb hby d36_19) (by rw [e79]; exact ⟨rfl, M79, KP79⟩)
theorem ef_32 (a1 : Addr) (a2 : Addr) (a3 : Addr) (m : MethodId) : entryFrame m #[(.ref a1), (.ref a2), (.ref a3)] 3 = mkF m 0 #[.val (.ref a1), .val (.ref a2), .val (.ref a3)] [] := by first | (simp [entryFrame, mkF, argsToLocals, Value.category]; done) | rfl
set_option maxRecDepth 65536 in
set_option maxHeartbeats 40000000 in
theorem rm32 (l : Launch) (Z : State) (a0 : Array Value) (hw : ∀ d ∈ tables_1, d.before a0 Z = true) (a1 : Addr) (a2 : Addr) (a3 : Addr) (h0 : Heap) (n0 : Nat) (u1 u2 : Value) (Ea : Exa Z h0 a1 "java/util/ImmutableCollections$List12") (F1 : Fld Z h0 a1 "java/util/ImmutableCollections$List12" "e0" "Ljava/lang/Object;" u1) (F2 : Fld Z h0 a1 "java/util/ImmutableCollections$List12" "e1" "Ljava/lang/Object;" u2) (g1 : n0 ≤ a1) :
    Ctr l Z (⟨"java/util/ImmutableCollections$List12", "<init>", "(Ljava/lang/Object;Ljava/lang/Object;)V"⟩ : MethodName) jdk_44_method_2_code 3 none ({ frames := 4, cells := 0, slots := 0, locals := 50 } : Room) #[(.ref a1), (.ref a2), (.ref a3)] h0 (fun v h L => v = none ∧ Fr n0 L ∧ Keep h0 h [a1]) := by
  refine Ctr.of pf_32 (ef_32 a1 a2 a3) ?_
  intro p e s m below meth c T0 hx hby hml hret hlk hnm hZ hown e0 X0
  refine Go.by (g' := (mkF m 1 #[.val (.ref a1), .val (.ref a2), .val (.ref a3)] [(.ref a1)])) (fun _ k => XS.aloadN X0.here hx rfl (hb hby d32_0) rfl rfl k) ?_
  refine Go.callI X0 hx hZ (y := (⟨"java/util/ImmutableCollections$AbstractImmutableList", "<init>", "()V"⟩ : MethodName)) rfl hown (hw _ (List.mem_of_getElem? (i := 245) rfl)) (hw _ (List.mem_of_getElem? (i := 246) rfl)) (hw _ (List.mem_of_getElem? (i := 249) rfl)) (hw _ (List.mem_of_getElem? (i := 250) rfl)) (by decide) (W := 0) (a := a1) (argsL := []) (rest := []) (rm33 l Z a0 hw a1 h0 n0) (by decide) (by decide) (by decide) (by decide) (g := (mkF m 1 #[.val (.ref a1), .val (.ref a2), .val (.ref a3)] [(.ref a1)])) rfl (by rw [hml]; rfl) (lenOf pd_33 rfl) rfl (by show 2 * 0 + _ ≤ _; exact Nat.le_of_eq rfl) (hb hby d32_1) e0 ?_
  rintro T80 L80 _ X80 ⟨rfl, N80, q80⟩
  have M80 := Fr.app (Fr.nil n0) N80
  show Go p e below _ _ T80 (mkF m 4 #[.val (.ref a1), .val (.ref a2), .val (.ref a3)] [])
  refine Go.by (g' := (mkF m 5 #[.val (.ref a1), .val (.ref a2), .val (.ref a3)] [(.ref a1)])) (fun _ k => XS.aloadN X80.here hx rfl (hb hby d32_4) rfl rfl k) ?_
  refine Go.by (g' := (mkF m 6 #[.val (.ref a1), .val (.ref a2), .val (.ref a3)] [(.ref a2), (.ref a1)])) (fun _ k => XS.aloadN X80.here hx rfl (hb hby d32_5) rfl rfl k) ?_
  refine Go.callS X80 hx hZ (y := (⟨"java/util/Objects", "requireNonNull", "(Ljava/lang/Object;)Ljava/lang/Object;"⟩ : MethodName)) hown (hw _ (List.mem_of_getElem? (i := 259) rfl)) (hw _ (List.mem_of_getElem? (i := 260) rfl)) (hw _ (List.mem_of_getElem? (i := 261) rfl)) (hw _ (List.mem_of_getElem? (i := 262) rfl)) (by decide) (W := 1) (argsL := [(.ref a2)]) (rest := [(.ref a1)]) (rm35 l Z a0 hw a2 h0 n0) (by decide) (by decide) (by decide) (by decide) (g := (mkF m 6 #[.val (.ref a1), .val (.ref a2), .val (.ref a3)] [(.ref a2), (.ref a1)])) rfl (by rw [hml]; rfl) (lenOf pd_35 rfl) rfl (by show 2 * 0 + _ ≤ _; exact Nat.le_of_eq rfl) (hb hby d32_6) q80 ?_
  rintro T81 L81 _ X81 ⟨rfl, N81, q81⟩
  have M81 := Fr.app M80 N81
  show Go p e below _ _ T81 (mkF m 9 #[.val (.ref a1), .val (.ref a2), .val (.ref a3)] [(.ref a2), (.ref a1)])
  obtain ⟨T82, h82, X82, e82, W82, st82⟩ := putF X81 hx hZ hown (host := "") (Or.inl (hw _ (List.mem_of_getElem? (i := 263) rfl))) Via.refl q81 F1 Ea (Or.inr ⟨(hw _ (List.mem_of_getElem? (i := 264) rfl)), rfl, hnm⟩) (hw _ (List.mem_of_getElem? (i := 239) rfl)) (ty := (.object "java/lang/Object")) (by decide) rfl rfl (g := (mkF m 9 #[.val (.ref a1), .val (.ref a2), .val (.ref a3)] [(.ref a2), (.ref a1)])) rfl rfl (hb hby d32_9)
  have M82 := Fr.snoc X82 M81 g1
  have KP82 : Keep h0 h82 [a1] := (Keep.refl h0 [a1]).wr W82 (Or.inl (List.mem_of_getElem? (i := 0) rfl))
  have F82_F1 := F1.same W82
  refine Go.by (g' := (mkF m 12 #[.val (.ref a1), .val (.ref a2), .val (.ref a3)] [])) st82 ?_
  refine Go.by (g' := (mkF m 13 #[.val (.ref a1), .val (.ref a2), .val (.ref a3)] [(.ref a1)])) (fun _ k => XS.aloadN X82.here hx rfl (hb hby d32_12) rfl rfl k) ?_
  refine Go.by (g' := (mkF m 14 #[.val (.ref a1), .val (.ref a2), .val (.ref a3)] [(.ref a3), (.ref a1)])) (fun _ k => XS.aloadN X82.here hx rfl (hb hby d32_13) rfl rfl k) ?_
  refine Go.callS X82 hx hZ (y := (⟨"java/util/Objects", "requireNonNull", "(Ljava/lang/Object;)Ljava/lang/Object;"⟩ : MethodName)) hown (hw _ (List.mem_of_getElem? (i := 259) rfl)) (hw _ (List.mem_of_getElem? (i := 260) rfl)) (hw _ (List.mem_of_getElem? (i := 261) rfl)) (hw _ (List.mem_of_getElem? (i := 262) rfl)) (by decide) (W := 1) (argsL := [(.ref a3)]) (rest := [(.ref a1)]) (rm35 l Z a0 hw a3 h82 n0) (by decide) (by decide) (by decide) (by decide) (g := (mkF m 14 #[.val (.ref a1), .val (.ref a2), .val (.ref a3)] [(.ref a3), (.ref a1)])) rfl (by rw [hml]; rfl) (lenOf pd_35 rfl) rfl (by show 2 * 0 + _ ≤ _; exact Nat.le_of_eq rfl) (hb hby d32_14) e82 ?_
  rintro T83 L83 _ X83 ⟨rfl, N83, q83⟩
  have M83 := Fr.app M82 N83
  show Go p e below _ _ T83 (mkF m 17 #[.val (.ref a1), .val (.ref a2), .val (.ref a3)] [(.ref a3), (.ref a1)])
  have f84_F2 := (F2.other W82 (Or.inr (slot_ne (Or.inr (hw _ (List.mem_of_getElem? (i := 266) rfl))) (Or.inr (hw _ (List.mem_of_getElem? (i := 264) rfl))) (by decide) (t := (.object "java/lang/Object")) (t' := (.object "java/lang/Object")) (by decide) (by decide))))
  have f85_Ea := (Ea.wr W82)
  obtain ⟨T86, h86, X86, e86, W86, st86⟩ := putF X83 hx hZ hown (host := "") (Or.inl (hw _ (List.mem_of_getElem? (i := 265) rfl))) Via.refl q83 f84_F2 f85_Ea (Or.inr ⟨(hw _ (List.mem_of_getElem? (i := 266) rfl)), rfl, hnm⟩) (hw _ (List.mem_of_getElem? (i := 239) rfl)) (ty := (.object "java/lang/Object")) (by decide) rfl rfl (g := (mkF m 17 #[.val (.ref a1), .val (.ref a2), .val (.ref a3)] [(.ref a3), (.ref a1)])) rfl rfl (hb hby d32_17)
  have M86 := Fr.snoc X86 M83 g1
  have KP86 : Keep h0 h86 [a1] := KP82.wr W86 (Or.inl (List.mem_of_getElem? (i := 0) rfl))
  have F86_F2 := f84_F2.same W86
  refine Go.by (g' := (mkF m 20 #[.val (.ref a1), .val (.ref a2), .val (.ref a3)] [])) st86 ?_
  exact Go.outN X86 hx hret (Lv.narrow X86 hlk (by decide) (by decide)) (hb hby d32_20) (by rw [e86]; exact ⟨rfl, M86, KP86⟩)
theorem ef_39 (a1 : Addr) (a2 : Addr) (p3 : Int32) (m : MethodId) : entryFrame m #[(.ref a1), (.ref a2), (.int p3)] 3 = mkF m 0 #[.val (.ref a1), .val (.ref a2), .val (.int p3)] [] := by first | (simp [entryFrame, mkF, argsToLocals, Value.category]; done) | rfl
set_option maxRecDepth 65536 in
set_option maxHeartbeats 40000000 in
theorem rm39 (l : Launch) (Z : State) (a0 : Array Value) (hw : ∀ d ∈ tables_1, d.before a0 Z = true) (a1 : Addr) (a2 : Addr) (p3 : Int32) (h0 : Heap) (n0 : Nat) (u1 u2 : Value) (Ea : Exa Z h0 a1 "java/util/ImmutableCollections$ListN") (F1 : Fld Z h0 a1 "java/util/ImmutableCollections$ListN" "elements" "[Ljava/lang/Object;" u1) (F2 : Fld Z h0 a1 "java/util/ImmutableCollections$ListN" "allowNulls" "Z" u2) (g1 : n0 ≤ a1) (hp : p3 = 0) :
    Ctr l Z (⟨"java/util/ImmutableCollections$ListN", "<init>", "([Ljava/lang/Object;Z)V"⟩ : MethodName) jdk_45_method_1_code 3 none ({ frames := 4, cells := 0, slots := 0, locals := 50 } : Room) #[(.ref a1), (.ref a2), (.int p3)] h0 (fun v h L => v = none ∧ Fr n0 L ∧ Keep h0 h [a1]) := by
  refine Ctr.of pf_39 (ef_39 a1 a2 p3) ?_
  intro p e s m below meth c T0 hx hby hml hret hlk hnm hZ hown e0 X0
  subst hp
  refine Go.by (g' := (mkF m 1 #[.val (.ref a1), .val (.ref a2), .val (.int (0 : Int32))] [(.ref a1)])) (fun _ k => XS.aloadN X0.here hx rfl (hb hby d39_0) rfl rfl k) ?_
  refine Go.callI X0 hx hZ (y := (⟨"java/util/ImmutableCollections$AbstractImmutableList", "<init>", "()V"⟩ : MethodName)) rfl hown (hw _ (List.mem_of_getElem? (i := 297) rfl)) (hw _ (List.mem_of_getElem? (i := 246) rfl)) (hw _ (List.mem_of_getElem? (i := 249) rfl)) (hw _ (List.mem_of_getElem? (i := 250) rfl)) (by decide) (W := 0) (a := a1) (argsL := []) (rest := []) (rm33 l Z a0 hw a1 h0 n0) (by decide) (by decide) (by decide) (by decide) (g := (mkF m 1 #[.val (.ref a1), .val (.ref a2), .val (.int (0 : Int32))] [(.ref a1)])) rfl (by rw [hml]; rfl) (lenOf pd_33 rfl) rfl (by show 2 * 0 + _ ≤ _; exact Nat.le_of_eq rfl) (hb hby d39_1) e0 ?_
  rintro T87 L87 _ X87 ⟨rfl, N87, q87⟩
  have M87 := Fr.app (Fr.nil n0) N87
  show Go p e below _ _ T87 (mkF m 4 #[.val (.ref a1), .val (.ref a2), .val (.int (0 : Int32))] [])
  refine Go.by (g' := (mkF m 5 #[.val (.ref a1), .val (.ref a2), .val (.int (0 : Int32))] [(.ref a1)])) (fun _ k => XS.aloadN X87.here hx rfl (hb hby d39_4) rfl rfl k) ?_
  refine Go.by (g' := (mkF m 6 #[.val (.ref a1), .val (.ref a2), .val (.int (0 : Int32))] [(.ref a2), (.ref a1)])) (fun _ k => XS.aloadN X87.here hx rfl (hb hby d39_5) rfl rfl k) ?_
  obtain ⟨T88, h88, X88, e88, W88, st88⟩ := putF X87 hx hZ hown (host := "") (Or.inl (hw _ (List.mem_of_getElem? (i := 301) rfl))) Via.refl q87 F1 Ea (Or.inr ⟨(hw _ (List.mem_of_getElem? (i := 302) rfl)), rfl, hnm⟩) (hw _ (List.mem_of_getElem? (i := 291) rfl)) (ty := (.array (.object "java/lang/Object"))) (by decide) rfl rfl (g := (mkF m 6 #[.val (.ref a1), .val (.ref a2), .val (.int (0 : Int32))] [(.ref a2), (.ref a1)])) rfl rfl (hb hby d39_6)
  have M88 := Fr.snoc X88 M87 g1
  have KP88 : Keep h0 h88 [a1] := (Keep.refl h0 [a1]).wr W88 (Or.inl (List.mem_of_getElem? (i := 0) rfl))
  have F88_F1 := F1.same W88
  refine Go.by (g' := (mkF m 9 #[.val (.ref a1), .val (.ref a2), .val (.int (0 : Int32))] [])) st88 ?_
  refine Go.by (g' := (mkF m 10 #[.val (.ref a1), .val (.ref a2), .val (.int (0 : Int32))] [(.ref a1)])) (fun _ k => XS.aloadN X88.here hx rfl (hb hby d39_9) rfl rfl k) ?_
  refine Go.by (g' := (mkF m 11 #[.val (.ref a1), .val (.ref a2), .val (.int (0 : Int32))] [(.int (0 : Int32)), (.ref a1)])) (fun _ k => XS.iloadN X88.here hx rfl (hb hby d39_10) rfl k) ?_
  have f89_F2 := (F2.other W88 (Or.inr (slot_ne (Or.inr (hw _ (List.mem_of_getElem? (i := 304) rfl))) (Or.inr (hw _ (List.mem_of_getElem? (i := 302) rfl))) (by decide) (t := .boolean) (t' := (.array (.object "java/lang/Object"))) (by decide) (by decide))))
  have f90_Ea := (Ea.wr W88)
  obtain ⟨T91, h91, X91, e91, W91, st91⟩ := putFN X88 hx hZ hown (hw _ (List.mem_of_getElem? (i := 303) rfl)) Via.refl e88 f89_F2 f90_Ea (Or.inr ⟨(hw _ (List.mem_of_getElem? (i := 304) rfl)), rfl, hnm⟩) (hw _ (List.mem_of_getElem? (i := 291) rfl)) (ty := .boolean) (v' := (.int 0)) (by decide) rfl rfl (g := (mkF m 11 #[.val (.ref a1), .val (.ref a2), .val (.int (0 : Int32))] [(.int (0 : Int32)), (.ref a1)])) rfl rfl (hb hby d39_11)
  have M91 := Fr.snoc X91 M88 g1
  have KP91 : Keep h0 h91 [a1] := KP88.wr W91 (Or.inl (List.mem_of_getElem? (i := 0) rfl))
  have F91_F2 := f89_F2.same W91
  refine Go.by (g' := (mkF m 14 #[.val (.ref a1), .val (.ref a2), .val (.int (0 : Int32))] [])) st91 ?_
  exact Go.outN X91 hx hret (Lv.narrow X91 hlk (by decide) (by decide)) (hb hby d39_14) (by rw [e91]; exact ⟨rfl, M91, KP91⟩)
theorem ef_30 (p1 : Int32) (p2 : Int32) (m : MethodId) : entryFrame m #[(.int p1), (.int p2)] 2 = mkF m 0 #[.val (.int p1), .val (.int p2)] [] := by first | (simp [entryFrame, mkF, argsToLocals, Value.category]; done) | rfl
set_option maxRecDepth 65536 in
set_option maxHeartbeats 40000000 in
theorem rm30 (l : Launch) (Z : State) (a0 : Array Value) (hw : ∀ d ∈ tables_1, d.before a0 Z = true) (p1 : Int32) (p2 : Int32) (h0 : Heap) (n0 : Nat)  (hc : p2 < p1) :
    Ctr l Z (⟨"java/lang/Math", "min", "(II)I"⟩ : MethodName) jdk_29_method_69_code 2 (some .int) ({ frames := 0, cells := 0, slots := 0, locals := 0 } : Room) #[(.int p1), (.int p2)] h0 (fun v h L => v = some (.int p2) ∧ Fr n0 L ∧ h = h0) := by
  refine Ctr.of pf_30 (ef_30 p1 p2) ?_
  intro p e s m below meth c T0 hx hby hml hret hlk hnm hZ hown e0 X0
  refine Go.by (g' := (mkF m 1 #[.val (.int p1), .val (.int p2)] [(.int p1)])) (fun _ k => XS.iloadN X0.here hx rfl (hb hby d30_0) rfl k) ?_
  refine Go.by (g' := (mkF m 2 #[.val (.int p1), .val (.int p2)] [(.int p2), (.int p1)])) (fun _ k => XS.iloadN X0.here hx rfl (hb hby d30_1) rfl k) ?_
  refine Go.by (g' := (mkF m 9 #[.val (.int p1), .val (.int p2)] [])) (fun _ k => XS.icmpYes X0.here hx rfl (pc0 := 2) (pc' := 9) rfl (hb hby d30_2) rfl (tlt hc).2.2.1 (by decide) (by decide) k) ?_
  refine Go.by (g' := (mkF m 10 #[.val (.int p1), .val (.int p2)] [(.int p2)])) (fun _ k => XS.iloadN X0.here hx rfl (hb hby d30_9) rfl k) ?_
  exact Go.outI X0 hx hret (Lv.narrow X0 hlk (by decide) (by decide)) (hb hby d30_10) (by rw [e0]; exact ⟨rfl, (Fr.nil n0), rfl⟩)
theorem ef_29 (a1 : Addr) (p2 : Int32) (a3 : Addr) (m : MethodId) : entryFrame m #[(.ref a1), (.int p2), (.ref a3)] 4 = mkF m 0 #[.val (.ref a1), .val (.int p2), .val (.ref a3), .unset] [] := by first | (simp [entryFrame, mkF, argsToLocals, Value.category]; done) | rfl
set_option maxRecDepth 65536 in
set_option maxHeartbeats 40000000 in
theorem rm29 (l : Launch) (Z : State) (a0 : Array Value) (hw : ∀ d ∈ tables_1, d.before a0 Z = true) (a1 : Addr) (p2 : Int32) (a3 : Addr) (h0 : Heap) (n0 : Nat) (Z0 : n0 ≤ h0.size) (k : ClassId) (xs : List Addr) (mr : Addr) (V : Arv Z h0 a1 k OA 10 (pad xs) .null) (hp : p2 = szI xs.length) (hx9 : xs.length < 10) (hel : ∀ x ∈ xs, El Z a0 h0 x) (MM : MirM Z "[Ljava/lang/Object;" mr) (ha : a3 = mr) :
    Ctr l Z (⟨"java/util/Arrays", "copyOf", "([Ljava/lang/Object;ILjava/lang/Class;)[Ljava/lang/Object;"⟩ : MethodName) jdk_65_method_120_code 4 (some (.array (.object "java/lang/Object"))) ({ frames := 1, cells := 1, slots := 10, locals := 60 } : Room) #[(.ref a1), (.int p2), (.ref a3)] h0 (fun v h L => ∃ b k, v = some (.ref b) ∧ Fr n0 L ∧ Keep h0 h [] ∧ h0.size ≤ b ∧ Arv Z h b k OA (szI xs.length) (xs.map Value.ref) .null) := by
  refine Ctr.of pf_29 (ef_29 a1 p2 a3) ?_
  intro p e s m below meth c T0 hx hby hml hret hlk hnm hZ hown e0 X0
  subst hp ha
  refine Go.by (g' := (mkF m 1 #[.val (.ref a1), .val (.int (szI xs.length)), .val (.ref a3), .unset] [(.ref a3)])) (fun _ k => XS.aloadN X0.here hx rfl (hb hby d29_0) rfl rfl k) ?_
  obtain ⟨T92, X92, e92, st92⟩ := ldcMr X0 hx hZ hown (hw _ (List.mem_of_getElem? (i := 226) rfl)) e0 MM (g := (mkF m 1 #[.val (.ref a1), .val (.int (szI xs.length)), .val (.ref a3), .unset] [(.ref a3)])) rfl (hb hby d29_1)
  refine Go.by (g' := (mkF m 3 #[.val (.ref a1), .val (.int (szI xs.length)), .val (.ref a3), .unset] [(.ref a3), (.ref a3)])) st92 ?_
  refine Go.by (g' := (mkF m 6 #[.val (.ref a1), .val (.int (szI xs.length)), .val (.ref a3), .unset] [])) (fun _ k => Jvm.RoadKit.acmp (g := (mkF m 3 #[.val (.ref a1), .val (.int (szI xs.length)), .val (.ref a3), .unset] [(.ref a3), (.ref a3)])) X92 hx rfl rfl rfl (pc0 := 3) (pc' := 6) (same := true) rfl (hb hby d29_3) rfl (decide_eq_true rfl) (by decide) (by decide) k) ?_
  refine Go.by (g' := (mkF m 7 #[.val (.ref a1), .val (.int (szI xs.length)), .val (.ref a3), .unset] [(.int (szI xs.length))])) (fun _ k => XS.iloadN X92.here hx rfl (hb hby d29_6) rfl k) ?_
  have hnn := szI_nn (n := xs.length) (by omega)
  have hnt := szI_nat (n := xs.length) (by omega)
  obtain ⟨T93, h93, k93, X93, e93, E93, A93, O93, st93⟩ := newR X92 hx hZ hown (hw _ (List.mem_of_getElem? (i := 227) rfl)) (hw _ (List.mem_of_getElem? (i := 180) rfl)) e92 (g := (mkF m 7 #[.val (.ref a1), .val (.int (szI xs.length)), .val (.ref a3), .unset] [(.int (szI xs.length))])) rfl (hb hby d29_7) rfl hnn (cap := 10) (by rw [hnt]; omega) (by decide) (by decide) (by decide)
  obtain ⟨b, g93⟩ : ∃ z, z = h0.size := ⟨_, rfl⟩
  rw [← g93] at A93 st93
  have ne_a1_b : a1 ≠ b := Nat.ne_of_lt (by rw [g93]; exact V.lt)
  have ge_b : n0 ≤ b := Nat.le_trans Z0 (Nat.le_of_eq g93.symm)
  have sz_b : h0.size ≤ b := Nat.le_trans (Keep.refl h0 []).1 (Nat.le_of_eq g93.symm)
  have Z93 : n0 ≤ h93.size := Nat.le_trans Z0 E93.1
  have KP93 : Keep h0 h93 [] := (Keep.refl h0 []).ext E93
  refine Go.by (g' := (mkF m 10 #[.val (.ref a1), .val (.int (szI xs.length)), .val (.ref a3), .unset] [(.ref b)])) st93 ?_
  have V0 : Arv Z h93 b k93 OA (szI xs.length) (List.replicate xs.length .null) .null := (Arv.new A93 hnn).pad (pad_rep [] _ xs.length)
  refine Go.by (g' := (mkF m 24 #[.val (.ref a1), .val (.int (szI xs.length)), .val (.ref a3), .unset] [(.ref b)])) (fun _ k => XS.goto X93.here hx rfl (pc0 := 10) (pc' := 24) rfl (hb hby d29_10) (by decide) (by decide) k) ?_
  refine Go.by (g' := (mkF m 25 #[.val (.ref a1), .val (.int (szI xs.length)), .val (.ref a3), .val (.ref b)] [])) (fun _ k => XS.astoreN X93.here hx rfl (hb hby d29_24) rfl rfl (l' := #[.val (.ref a1), .val (.int (szI xs.length)), .val (.ref a3), .val (.ref b)]) rfl k) ?_
  refine Go.by (g' := (mkF m 26 #[.val (.ref a1), .val (.int (szI xs.length)), .val (.ref a3), .val (.ref b)] [(.ref a1)])) (fun _ k => XS.aloadN X93.here hx rfl (hb hby d29_25) rfl rfl k) ?_
  refine Go.by (g' := (mkF m 27 #[.val (.ref a1), .val (.int (szI xs.length)), .val (.ref a3), .val (.ref b)] [(.int (0 : Int32)), (.ref a1)])) (fun _ k => XS.iconst X93.here hx rfl (hb hby d29_26) k) ?_
  refine Go.by (g' := (mkF m 28 #[.val (.ref a1), .val (.int (szI xs.length)), .val (.ref a3), .val (.ref b)] [(.ref b), (.int (0 : Int32)), (.ref a1)])) (fun _ k => XS.aloadN X93.here hx rfl (hb hby d29_27) rfl rfl k) ?_
  refine Go.by (g' := (mkF m 29 #[.val (.ref a1), .val (.int (szI xs.length)), .val (.ref a3), .val (.ref b)] [(.int (0 : Int32)), (.ref b), (.int (0 : Int32)), (.ref a1)])) (fun _ k => XS.iconst X93.here hx rfl (hb hby d29_28) k) ?_
  refine Go.by (g' := (mkF m 30 #[.val (.ref a1), .val (.int (szI xs.length)), .val (.ref a3), .val (.ref b)] [(.ref a1), (.int (0 : Int32)), (.ref b), (.int (0 : Int32)), (.ref a1)])) (fun _ k => XS.aloadN X93.here hx rfl (hb hby d29_29) rfl rfl k) ?_
  have f94_V := (V.ext E93)
  refine Go.by (g' := (mkF m 31 #[.val (.ref a1), .val (.int (szI xs.length)), .val (.ref a3), .val (.ref b)] [(.int (10 : Int32)), (.int (0 : Int32)), (.ref b), (.int (0 : Int32)), (.ref a1)])) (lnA X93 hx hZ e93 f94_V (g := (mkF m 30 #[.val (.ref a1), .val (.int (szI xs.length)), .val (.ref a3), .val (.ref b)] [(.ref a1), (.int (0 : Int32)), (.ref b), (.int (0 : Int32)), (.ref a1)])) rfl rfl (hb hby d29_30)) ?_
  refine Go.by (g' := (mkF m 32 #[.val (.ref a1), .val (.int (szI xs.length)), .val (.ref a3), .val (.ref b)] [(.int (szI xs.length)), (.int (10 : Int32)), (.int (0 : Int32)), (.ref b), (.int (0 : Int32)), (.ref a1)])) (fun _ k => XS.iloadN X93.here hx rfl (hb hby d29_31) rfl k) ?_
  refine Go.callS X93 hx hZ (y := (⟨"java/lang/Math", "min", "(II)I"⟩ : MethodName)) hown (hw _ (List.mem_of_getElem? (i := 228) rfl)) (hw _ (List.mem_of_getElem? (i := 229) rfl)) (hw _ (List.mem_of_getElem? (i := 177) rfl)) (hw _ (List.mem_of_getElem? (i := 230) rfl)) (by decide) (W := 4) (argsL := [(.int (10 : Int32)), (.int (szI xs.length))]) (rest := [(.int (0 : Int32)), (.ref b), (.int (0 : Int32)), (.ref a1)]) (rm30 l Z a0 hw (10 : Int32) (szI xs.length) h93 n0 (szI_lt hx9)) (by decide) (by decide) (by decide) (by decide) (g := (mkF m 32 #[.val (.ref a1), .val (.int (szI xs.length)), .val (.ref a3), .val (.ref b)] [(.int (szI xs.length)), (.int (10 : Int32)), (.int (0 : Int32)), (.ref b), (.int (0 : Int32)), (.ref a1)])) rfl (by rw [hml]; rfl) (lenOf pd_30 rfl) rfl (by show 2 * 0 + _ ≤ _; exact Nat.le_of_eq rfl) (hb hby d29_32) e93 ?_
  rintro T95 L95 _ X95 ⟨rfl, N95, q95⟩
  have M95 := Fr.app (Fr.nil n0) N95
  show Go p e below _ _ T95 (mkF m 35 #[.val (.ref a1), .val (.int (szI xs.length)), .val (.ref a3), .val (.ref b)] [(.int (szI xs.length)), (.int (0 : Int32)), (.ref b), (.int (0 : Int32)), (.ref a1)])
  have f96_hel := (fun x hx => (hel x hx).ext E93)
  have V0c := V0
  obtain ⟨cB, ArB, qB, -⟩ := V0c
  obtain ⟨T97, h97, L97, X97, e97, N97, K97, V97, st97⟩ := cpA X95 hx hZ hown (hw _ (List.mem_of_getElem? (i := 231) rfl)) (hw _ (List.mem_of_getElem? (i := 234) rfl)) (hw _ (List.mem_of_getElem? (i := 232) rfl)) (hw _ (List.mem_of_getElem? (i := 233) rfl)) q95 (us := xs.map Value.ref) f94_V V0 (Or.inr ⟨rfl, rfl, stoL_of_el ArB qB O93 xs f96_hel⟩) (by decide) (by decide) hnn (by rw [hnt]; show 0 + xs.length ≤ 10; omega) (by rw [hnt]; show 0 + xs.length ≤ xs.length; omega) (by rw [hnt]; exact range_map.symm) (by rw [hnt]; show 0 + xs.length ≤ (List.replicate xs.length Value.null).length; simp) M95 ge_b (g := (mkF m 35 #[.val (.ref a1), .val (.int (szI xs.length)), .val (.ref a3), .val (.ref b)] [(.int (szI xs.length)), (.int (0 : Int32)), (.ref b), (.int (0 : Int32)), (.ref a1)])) rfl (by rw [hml]; rfl) rfl (hb hby d29_35) (by decide) (W := 0) (by show 2 * 0 + _ ≤ _; exact Nat.le_of_eq rfl) (by decide +kernel)
  have U97 : Arv Z h97 b k93 OA (szI xs.length) (xs.map Value.ref) .null := by
    have q := V97
    rw [hnt] at q
    have r : (List.replicate xs.length Value.null).take (0 : Int32).toNatClampNeg ++ xs.map Value.ref ++ (List.replicate xs.length Value.null).drop ((0 : Int32).toNatClampNeg + xs.length) = xs.map Value.ref := by
      show [] ++ xs.map Value.ref ++ (List.replicate xs.length Value.null).drop (0 + xs.length) = xs.map Value.ref
      simp
    rw [r] at q
    exact q
  have KP97 : Keep h0 h97 [] := KP93.trans K97 (allS (Or.inr sz_b) all0)
  refine Go.by (g' := (mkF m 38 #[.val (.ref a1), .val (.int (szI xs.length)), .val (.ref a3), .val (.ref b)] [])) st97 ?_
  refine Go.by (g' := (mkF m 39 #[.val (.ref a1), .val (.int (szI xs.length)), .val (.ref a3), .val (.ref b)] [(.ref b)])) (fun _ k => XS.aloadN X97.here hx rfl (hb hby d29_38) rfl rfl k) ?_
  exact Go.outA X97 hx hret (Lv.narrow X97 hlk (by decide) (by decide)) rfl rfl (hb hby d29_39) (by rw [e97]; exact ⟨b, k93, rfl, N97, KP97, sz_b, U97⟩)
theorem ef_28 (a1 : Addr) (p2 : Int32) (m : MethodId) : entryFrame m #[(.ref a1), (.int p2)] 2 = mkF m 0 #[.val (.ref a1), .val (.int p2)] [] := by first | (simp [entryFrame, mkF, argsToLocals, Value.category]; done) | rfl
set_option maxRecDepth 65536 in
set_option maxHeartbeats 40000000 in
theorem rm28 (l : Launch) (Z : State) (a0 : Array Value) (hw : ∀ d ∈ tables_1, d.before a0 Z = true) (a1 : Addr) (p2 : Int32) (h0 : Heap) (n0 : Nat) (Z0 : n0 ≤ h0.size) (k : ClassId) (xs : List Addr) (mr : Addr) (V : Arv Z h0 a1 k OA 10 (pad xs) .null) (Ex : Exa Z h0 a1 "[Ljava/lang/Object;") (hp : p2 = szI xs.length) (hx9 : xs.length < 10) (hel : ∀ x ∈ xs, El Z a0 h0 x) (MM : MirM Z "[Ljava/lang/Object;" mr) :
    Ctr l Z (⟨"java/util/Arrays", "copyOf", "([Ljava/lang/Object;I)[Ljava/lang/Object;"⟩ : MethodName) jdk_65_method_119_code 2 (some (.array (.object "java/lang/Object"))) ({ frames := 2, cells := 1, slots := 10, locals := 80 } : Room) #[(.ref a1), (.int p2)] h0 (fun v h L => ∃ b k, v = some (.ref b) ∧ Fr n0 L ∧ Keep h0 h [] ∧ h0.size ≤ b ∧ Arv Z h b k OA (szI xs.length) (xs.map Value.ref) .null) := by
  refine Ctr.of pf_28 (ef_28 a1 p2) ?_
  intro p e s m below meth c T0 hx hby hml hret hlk hnm hZ hown e0 X0
  refine Go.by (g' := (mkF m 1 #[.val (.ref a1), .val (.int p2)] [(.ref a1)])) (fun _ k => XS.aloadN X0.here hx rfl (hb hby d28_0) rfl rfl k) ?_
  refine Go.by (g' := (mkF m 2 #[.val (.ref a1), .val (.int p2)] [(.int p2), (.ref a1)])) (fun _ k => XS.iloadN X0.here hx rfl (hb hby d28_1) rfl k) ?_
  refine Go.by (g' := (mkF m 3 #[.val (.ref a1), .val (.int p2)] [(.ref a1), (.int p2), (.ref a1)])) (fun _ k => XS.aloadN X0.here hx rfl (hb hby d28_2) rfl rfl k) ?_
  obtain ⟨T98, X98, e98, st98⟩ := gclsM X0 hx hZ hown (hw _ (List.mem_of_getElem? (i := 217) rfl)) (hw _ (List.mem_of_getElem? (i := 218) rfl)) (hw _ (List.mem_of_getElem? (i := 84) rfl)) (hw _ (List.mem_of_getElem? (i := 220) rfl)) (hw _ (List.mem_of_getElem? (i := 219) rfl)) (hw _ (List.mem_of_getElem? (i := 221) rfl)) e0 Ex MM (g := (mkF m 3 #[.val (.ref a1), .val (.int p2)] [(.ref a1), (.int p2), (.ref a1)])) rfl (by rw [hml]; rfl) rfl (hb hby d28_3) (by decide) (W := 2) (by show 2 * 0 + _ ≤ _; exact Nat.le_of_eq rfl) (by decide)
  refine Go.by (g' := (mkF m 6 #[.val (.ref a1), .val (.int p2)] [(.ref mr), (.int p2), (.ref a1)])) st98 ?_
  refine Go.callS X98 hx hZ (y := (⟨"java/util/Arrays", "copyOf", "([Ljava/lang/Object;ILjava/lang/Class;)[Ljava/lang/Object;"⟩ : MethodName)) hown (hw _ (List.mem_of_getElem? (i := 223) rfl)) (hw _ (List.mem_of_getElem? (i := 224) rfl)) (hw _ (List.mem_of_getElem? (i := 215) rfl)) (hw _ (List.mem_of_getElem? (i := 225) rfl)) (by decide) (W := 0) (argsL := [(.ref a1), (.int p2), (.ref mr)]) (rest := []) (rm29 l Z a0 hw a1 p2 mr h0 n0 Z0 k xs mr V hp hx9 hel MM rfl) (by decide) (by decide) (by decide) (by decide) (g := (mkF m 6 #[.val (.ref a1), .val (.int p2)] [(.ref mr), (.int p2), (.ref a1)])) rfl (by rw [hml]; rfl) (lenOf pd_29 rfl) rfl (by show 2 * 0 + _ ≤ _; exact Nat.le_of_eq rfl) (hb hby d28_6) e98 ?_
  rintro T99 L99 _ X99 ⟨b, kb, rfl, N99, K99, sz, Vb⟩
  have M99 := Fr.app (Fr.nil n0) N99
  have Z99 : n0 ≤ T99.heap.size := Nat.le_trans Z0 K99.1
  have KP99 : Keep h0 T99.heap [] := (Keep.refl h0 []).trans K99 all0
  show Go p e below _ _ T99 (mkF m 9 #[.val (.ref a1), .val (.int p2)] [(.ref b)])
  exact Go.outA X99 hx hret (Lv.narrow X99 hlk (by decide) (by decide)) rfl rfl (hb hby d28_9) ⟨b, kb, rfl, M99, KP99, sz, Vb⟩
theorem ef_27 (a1 : Addr) (m : MethodId) : entryFrame m #[(.ref a1)] 1 = mkF m 0 #[.val (.ref a1)] [] := by first | (simp [entryFrame, mkF, argsToLocals, Value.category]; done) | rfl
set_option maxRecDepth 65536 in
set_option maxHeartbeats 40000000 in
theorem rm27 (l : Launch) (Z : State) (a0 : Array Value) (hw : ∀ d ∈ tables_1, d.before a0 Z = true) (a1 : Addr) (h0 : Heap) (n0 : Nat) (Z0 : n0 ≤ h0.size) (ed : Addr) (k : ClassId) (xs : List Addr) (mr : Addr) (Fu : Ful Z h0 a1 ed k xs) (hx9 : xs.length < 10) (hel : ∀ x ∈ xs, El Z a0 h0 x) (MM : MirM Z "[Ljava/lang/Object;" mr) :
    Ctr l Z (⟨"java/util/ArrayList", "toArray", "()[Ljava/lang/Object;"⟩ : MethodName) jdk_38_method_16_code 1 (some (.array (.object "java/lang/Object"))) ({ frames := 3, cells := 1, slots := 10, locals := 100 } : Room) #[(.ref a1)] h0 (fun v h L => ∃ b k, v = some (.ref b) ∧ Fr n0 L ∧ Keep h0 h [] ∧ h0.size ≤ b ∧ Arv Z h b k OA (szI xs.length) (xs.map Value.ref) .null) := by
  refine Ctr.of pf_27 (ef_27 a1) ?_
  intro p e s m below meth c T0 hx hby hml hret hlk hnm hZ hown e0 X0
  refine Go.by (g' := (mkF m 1 #[.val (.ref a1)] [(.ref a1)])) (fun _ k => XS.aloadN X0.here hx rfl (hb hby d27_0) rfl rfl k) ?_
  obtain ⟨T100, X100, e100, st100⟩ := getF X0 hx hZ hown (host := "") (Or.inl (hw _ (List.mem_of_getElem? (i := 66) rfl))) Via.refl e0 Fu.2.2.2.1 (g := (mkF m 1 #[.val (.ref a1)] [(.ref a1)])) rfl rfl (hb hby d27_1)
  refine Go.by (g' := (mkF m 4 #[.val (.ref a1)] [(.ref ed)])) st100 ?_
  refine Go.by (g' := (mkF m 5 #[.val (.ref a1)] [(.ref a1), (.ref ed)])) (fun _ k => XS.aloadN X100.here hx rfl (hb hby d27_4) rfl rfl k) ?_
  obtain ⟨T101, X101, e101, st101⟩ := getF X100 hx hZ hown (host := "") (Or.inl (hw _ (List.mem_of_getElem? (i := 95) rfl))) Via.refl e100 Fu.2.2.1 (g := (mkF m 5 #[.val (.ref a1)] [(.ref a1), (.ref ed)])) rfl rfl (hb hby d27_5)
  refine Go.by (g' := (mkF m 8 #[.val (.ref a1)] [(.int (szI xs.length)), (.ref ed)])) st101 ?_
  refine Go.callS X101 hx hZ (y := (⟨"java/util/Arrays", "copyOf", "([Ljava/lang/Object;I)[Ljava/lang/Object;"⟩ : MethodName)) hown (hw _ (List.mem_of_getElem? (i := 213) rfl)) (hw _ (List.mem_of_getElem? (i := 214) rfl)) (hw _ (List.mem_of_getElem? (i := 215) rfl)) (hw _ (List.mem_of_getElem? (i := 216) rfl)) (by decide) (W := 0) (argsL := [(.ref ed), (.int (szI xs.length))]) (rest := []) (rm28 l Z a0 hw ed (szI xs.length) h0 n0 Z0 k xs mr Fu.2.2.2.2.2.1 Fu.2.2.2.2.2.2 rfl hx9 hel MM) (by decide) (by decide) (by decide) (by decide) (g := (mkF m 8 #[.val (.ref a1)] [(.int (szI xs.length)), (.ref ed)])) rfl (by rw [hml]; rfl) (lenOf pd_28 rfl) rfl (by show 2 * 0 + _ ≤ _; exact Nat.le_of_eq rfl) (hb hby d27_8) e101 ?_
  rintro T102 L102 _ X102 ⟨b, kb, rfl, N102, K102, sz, Vb⟩
  have M102 := Fr.app (Fr.nil n0) N102
  have Z102 : n0 ≤ T102.heap.size := Nat.le_trans Z0 K102.1
  have KP102 : Keep h0 T102.heap [] := (Keep.refl h0 []).trans K102 all0
  show Go p e below _ _ T102 (mkF m 11 #[.val (.ref a1)] [(.ref b)])
  exact Go.outA X102 hx hret (Lv.narrow X102 hlk (by decide) (by decide)) rfl rfl (hb hby d27_11) ⟨b, kb, rfl, M102, KP102, sz, Vb⟩
theorem ef_12E (a1 : Addr) (m : MethodId) : entryFrame m #[(.ref a1)] 1 = mkF m 0 #[.val (.ref a1)] [] := by first | (simp [entryFrame, mkF, argsToLocals, Value.category]; done) | rfl
set_option maxRecDepth 65536 in
set_option maxHeartbeats 40000000 in
theorem rm12E (l : Launch) (Z : State) (a0 : Array Value) (hw : ∀ d ∈ tables_1, d.before a0 Z = true) (a1 : Addr) (h0 : Heap) (n0 : Nat) (q : Int32) (Fz : Fld Z h0 a1 "java/util/ArrayList" "size" "I" (.int q)) (hq : q = 0) :
    Ctr l Z (⟨"java/util/ArrayList", "isEmpty", "()Z"⟩ : MethodName) jdk_38_method_9_code 1 (some .boolean) ({ frames := 0, cells := 0, slots := 0, locals := 0 } : Room) #[(.ref a1)] h0 (fun v h L => v = some (.int 1) ∧ Fr n0 L ∧ h = h0) := by
  refine Ctr.of pf_12 (ef_12E a1) ?_
  intro p e s m below meth c T0 hx hby hml hret hlk hnm hZ hown e0 X0
  refine Go.by (g' := (mkF m 1 #[.val (.ref a1)] [(.ref a1)])) (fun _ k => XS.aloadN X0.here hx rfl (hb hby d12_0) rfl rfl k) ?_
  obtain ⟨T103, X103, e103, st103⟩ := getF X0 hx hZ hown (host := "") (Or.inl (hw _ (List.mem_of_getElem? (i := 95) rfl))) Via.refl e0 Fz (g := (mkF m 1 #[.val (.ref a1)] [(.ref a1)])) rfl rfl (hb hby d12_1)
  refine Go.by (g' := (mkF m 4 #[.val (.ref a1)] [(.int q)])) st103 ?_
  refine Go.by (g' := (mkF m 7 #[.val (.ref a1)] [])) (fun _ k => XS.ifNo X103.here hx rfl (hb hby d12_4) rfl ((if0 _ _).trans (teq hq).2) k) ?_
  refine Go.by (g' := (mkF m 8 #[.val (.ref a1)] [(.int (1 : Int32))])) (fun _ k => XS.iconst X103.here hx rfl (hb hby d12_7) k) ?_
  refine Go.by (g' := (mkF m 12 #[.val (.ref a1)] [(.int (1 : Int32))])) (fun _ k => XS.goto X103.here hx rfl (pc0 := 8) (pc' := 12) rfl (hb hby d12_8) (by decide) (by decide) k) ?_
  exact Go.outZ X103 hx hret (Lv.narrow X103 hlk (by decide) (by decide)) (hb hby d12_12) (by decide) (by rw [e103]; exact ⟨rfl, (Fr.nil n0), rfl⟩)
theorem ef_12F (a1 : Addr) (m : MethodId) : entryFrame m #[(.ref a1)] 1 = mkF m 0 #[.val (.ref a1)] [] := by first | (simp [entryFrame, mkF, argsToLocals, Value.category]; done) | rfl
set_option maxRecDepth 65536 in
set_option maxHeartbeats 40000000 in
theorem rm12F (l : Launch) (Z : State) (a0 : Array Value) (hw : ∀ d ∈ tables_1, d.before a0 Z = true) (a1 : Addr) (h0 : Heap) (n0 : Nat) (q : Int32) (Fz : Fld Z h0 a1 "java/util/ArrayList" "size" "I" (.int q)) (hq : ¬ q = 0) :
    Ctr l Z (⟨"java/util/ArrayList", "isEmpty", "()Z"⟩ : MethodName) jdk_38_method_9_code 1 (some .boolean) ({ frames := 0, cells := 0, slots := 0, locals := 0 } : Room) #[(.ref a1)] h0 (fun v h L => v = some (.int 0) ∧ Fr n0 L ∧ h = h0) := by
  refine Ctr.of pf_12 (ef_12F a1) ?_
  intro p e s m below meth c T0 hx hby hml hret hlk hnm hZ hown e0 X0
  refine Go.by (g' := (mkF m 1 #[.val (.ref a1)] [(.ref a1)])) (fun _ k => XS.aloadN X0.here hx rfl (hb hby d12_0) rfl rfl k) ?_
  obtain ⟨T104, X104, e104, st104⟩ := getF X0 hx hZ hown (host := "") (Or.inl (hw _ (List.mem_of_getElem? (i := 95) rfl))) Via.refl e0 Fz (g := (mkF m 1 #[.val (.ref a1)] [(.ref a1)])) rfl rfl (hb hby d12_1)
  refine Go.by (g' := (mkF m 4 #[.val (.ref a1)] [(.int q)])) st104 ?_
  refine Go.by (g' := (mkF m 11 #[.val (.ref a1)] [])) (fun _ k => XS.ifYes X104.here hx rfl (pc0 := 4) (pc' := 11) rfl (hb hby d12_4) rfl ((if0 _ _).trans (feq hq).2) (by decide) (by decide) k) ?_
  refine Go.by (g' := (mkF m 12 #[.val (.ref a1)] [(.int (0 : Int32))])) (fun _ k => XS.iconst X104.here hx rfl (hb hby d12_11) k) ?_
  exact Go.outZ X104 hx hret (Lv.narrow X104 hlk (by decide) (by decide)) (hb hby d12_12) (by decide) (by rw [e104]; exact ⟨rfl, (Fr.nil n0), rfl⟩)
theorem ef_13  (m : MethodId) : entryFrame m #[] 0 = mkF m 0 #[] [] := by first | (simp [entryFrame, mkF, argsToLocals, Value.category]; done) | rfl
set_option maxRecDepth 65536 in
set_option maxHeartbeats 40000000 in
theorem rm13 (l : Launch) (Z : State) (a0 : Array Value) (hw : ∀ d ∈ tables_1, d.before a0 Z = true)  (h0 : Heap) (n0 : Nat) (aL : Addr) (OL : Old Z n0 h0) (SEL : Sta Z Z.heap "java/util/ImmutableCollections" "EMPTY_LIST" "Ljava/util/ImmutableCollections$ListN;" (.ref aL)) :
    Ctr l Z (⟨"java/util/List", "of", "()Ljava/util/List;"⟩ : MethodName) jdk_40_method_36_code 0 (some (.object "java/util/List")) ({ frames := 0, cells := 0, slots := 0, locals := 0 } : Room) #[] h0 (fun v h L => v = some (.ref aL) ∧ Fr n0 L ∧ h = h0) := by
  refine Ctr.of pf_13 (ef_13 ) ?_
  intro p e s m below meth c T0 hx hby hml hret hlk hnm hZ hown e0 X0
  obtain ⟨T105, X105, e105, st105⟩ := getS2 X0 hx hZ hown (host := "") (Or.inl (hw _ (List.mem_of_getElem? (i := 100) rfl))) Via.refl e0 (SEL.ext OL.2) (g := (mkF m 0 #[] [])) rfl (hb hby d13_0)
  refine Go.by (g' := (mkF m 3 #[] [(.ref aL)])) st105 ?_
  exact Go.outA X105 hx hret (Lv.narrow X105 hlk (by decide) (by decide)) rfl rfl (hb hby d13_3) (by rw [e105]; exact ⟨rfl, (Fr.nil n0), rfl⟩)
theorem ef_38 (a1 : Addr) (m : MethodId) : entryFrame m #[(.ref a1)] 3 = mkF m 0 #[.val (.ref a1), .unset, .unset] [] := by first | (simp [entryFrame, mkF, argsToLocals, Value.category]; done) | rfl
set_option maxRecDepth 65536 in
set_option maxHeartbeats 40000000 in
theorem rm38 (l : Launch) (Z : State) (a0 : Array Value) (hw : ∀ d ∈ tables_1, d.before a0 Z = true) (a1 : Addr) (h0 : Heap) (n0 : Nat) (Z0 : n0 ≤ h0.size) (k : ClassId) (x1 x2 x3 : Addr) (V : Arv Z h0 a1 k OA (szI 3) [.ref x1, .ref x2, .ref x3] .null) (H1 : El Z a0 h0 x1) (H2 : El Z a0 h0 x2) (H3 : El Z a0 h0 x3)  :
    Ctr l Z (⟨"java/util/ImmutableCollections", "listFromArray", "([Ljava/lang/Object;)Ljava/util/List;"⟩ : MethodName) jdk_56_method_4_code 3 (some (.object "java/util/List")) ({ frames := 5, cells := 2, slots := 5, locals := 65 } : Room) #[(.ref a1)] h0 (fun v h L => ∃ y, v = some (.ref y) ∧ Fr n0 L ∧ Keep h0 h []) := by
  refine Ctr.of pf_38 (ef_38 a1) ?_
  intro p e s m below meth c T0 hx hby hml hret hlk hnm hZ hown e0 X0
  refine Go.by (g' := (mkF m 1 #[.val (.ref a1), .unset, .unset] [(.ref a1)])) (fun _ k => XS.aloadN X0.here hx rfl (hb hby d38_0) rfl rfl k) ?_
  refine Go.by (g' := (mkF m 2 #[.val (.ref a1), .unset, .unset] [(.int (szI 3))])) (lnA X0 hx hZ e0 V (g := (mkF m 1 #[.val (.ref a1), .unset, .unset] [(.ref a1)])) rfl rfl (hb hby d38_1)) ?_
  obtain ⟨T106, h106, k106, X106, e106, E106, A106, O106, st106⟩ := newR X0 hx hZ hown (hw _ (List.mem_of_getElem? (i := 289) rfl)) (hw _ (List.mem_of_getElem? (i := 180) rfl)) e0 (g := (mkF m 2 #[.val (.ref a1), .unset, .unset] [(.int (szI 3))])) rfl (hb hby d38_2) rfl (by decide) (cap := 3) (by decide) (by decide) (by decide) (by decide)
  obtain ⟨b, g106⟩ : ∃ z, z = h0.size := ⟨_, rfl⟩
  rw [← g106] at A106 st106
  have ne_a1_b : a1 ≠ b := Nat.ne_of_lt (by rw [g106]; exact V.lt)
  have ge_b : n0 ≤ b := Nat.le_trans Z0 (Nat.le_of_eq g106.symm)
  have sz_b : h0.size ≤ b := Nat.le_trans (Keep.refl h0 []).1 (Nat.le_of_eq g106.symm)
  have Z106 : n0 ≤ h106.size := Nat.le_trans Z0 E106.1
  have KP106 : Keep h0 h106 [] := (Keep.refl h0 []).ext E106
  refine Go.by (g' := (mkF m 5 #[.val (.ref a1), .unset, .unset] [(.ref b)])) st106 ?_
  have V0 : Arv Z h106 b k106 OA (szI 3) [.null, .null, .null] .null := (Arv.new A106 (by decide)).pad (pad_rep [] _ 3)
  refine Go.by (g' := (mkF m 6 #[.val (.ref a1), .val (.ref b), .unset] [])) (fun _ k => XS.astoreN X106.here hx rfl (hb hby d38_5) rfl rfl (l' := #[.val (.ref a1), .val (.ref b), .unset]) rfl k) ?_
  refine Go.by (g' := (mkF m 7 #[.val (.ref a1), .val (.ref b), .unset] [(.int (0 : Int32))])) (fun _ k => XS.iconst X106.here hx rfl (hb hby d38_6) k) ?_
  refine Go.by (g' := (mkF m 8 #[.val (.ref a1), .val (.ref b), .val (.int (0 : Int32))] [])) (fun _ k => XS.istoreN X106.here hx rfl (hb hby d38_7) rfl (l' := #[.val (.ref a1), .val (.ref b), .val (.int (0 : Int32))]) rfl k) ?_
  refine Go.by (g' := (mkF m 9 #[.val (.ref a1), .val (.ref b), .val (.int (0 : Int32))] [(.int (0 : Int32))])) (fun _ k => XS.iloadN X106.here hx rfl (hb hby d38_8) rfl k) ?_
  refine Go.by (g' := (mkF m 10 #[.val (.ref a1), .val (.ref b), .val (.int (0 : Int32))] [(.ref a1), (.int (0 : Int32))])) (fun _ k => XS.aloadN X106.here hx rfl (hb hby d38_9) rfl rfl k) ?_
  have f107_V := (V.ext E106)
  refine Go.by (g' := (mkF m 11 #[.val (.ref a1), .val (.ref b), .val (.int (0 : Int32))] [(.int (szI 3)), (.int (0 : Int32))])) (lnA X106 hx hZ e106 f107_V (g := (mkF m 10 #[.val (.ref a1), .val (.ref b), .val (.int (0 : Int32))] [(.ref a1), (.int (0 : Int32))])) rfl rfl (hb hby d38_10)) ?_
  refine Go.by (g' := (mkF m 14 #[.val (.ref a1), .val (.ref b), .val (.int (0 : Int32))] [])) (fun _ k => XS.icmpNo X106.here hx rfl (hb hby d38_11) rfl (tlt (by decide)).2.1 k) ?_
  refine Go.by (g' := (mkF m 15 #[.val (.ref a1), .val (.ref b), .val (.int (0 : Int32))] [(.ref b)])) (fun _ k => XS.aloadN X106.here hx rfl (hb hby d38_14) rfl rfl k) ?_
  refine Go.by (g' := (mkF m 16 #[.val (.ref a1), .val (.ref b), .val (.int (0 : Int32))] [(.int (0 : Int32)), (.ref b)])) (fun _ k => XS.iloadN X106.here hx rfl (hb hby d38_15) rfl k) ?_
  refine Go.by (g' := (mkF m 17 #[.val (.ref a1), .val (.ref b), .val (.int (0 : Int32))] [(.ref a1), (.int (0 : Int32)), (.ref b)])) (fun _ k => XS.aloadN X106.here hx rfl (hb hby d38_16) rfl rfl k) ?_
  refine Go.by (g' := (mkF m 18 #[.val (.ref a1), .val (.ref b), .val (.int (0 : Int32))] [(.int (0 : Int32)), (.ref a1), (.int (0 : Int32)), (.ref b)])) (fun _ k => XS.iloadN X106.here hx rfl (hb hby d38_17) rfl k) ?_
  refine Go.by (g' := (mkF m 19 #[.val (.ref a1), .val (.ref b), .val (.int (0 : Int32))] [(.ref x1), (.int (0 : Int32)), (.ref b)])) (ldRA X106 hx hZ e106 f107_V rfl (v := (.ref x1)) (by decide) (by decide) rfl (g := (mkF m 18 #[.val (.ref a1), .val (.ref b), .val (.int (0 : Int32))] [(.int (0 : Int32)), (.ref a1), (.int (0 : Int32)), (.ref b)])) rfl rfl (hb hby d38_18)) ?_
  refine Go.callS X106 hx hZ (y := (⟨"java/util/Objects", "requireNonNull", "(Ljava/lang/Object;)Ljava/lang/Object;"⟩ : MethodName)) hown (hw _ (List.mem_of_getElem? (i := 290) rfl)) (hw _ (List.mem_of_getElem? (i := 260) rfl)) (hw _ (List.mem_of_getElem? (i := 261) rfl)) (hw _ (List.mem_of_getElem? (i := 262) rfl)) (by decide) (W := 2) (argsL := [(.ref x1)]) (rest := [(.int (0 : Int32)), (.ref b)]) (rm35 l Z a0 hw x1 h106 n0) (by decide) (by decide) (by decide) (by decide) (g := (mkF m 19 #[.val (.ref a1), .val (.ref b), .val (.int (0 : Int32))] [(.ref x1), (.int (0 : Int32)), (.ref b)])) rfl (by rw [hml]; rfl) (lenOf pd_35 rfl) rfl (by show 2 * 0 + _ ≤ _; exact Nat.le_of_eq rfl) (hb hby d38_19) e106 ?_
  rintro T108 L108 _ X108 ⟨rfl, N108, q108⟩
  have M108 := Fr.app (Fr.nil n0) N108
  show Go p e below _ _ T108 (mkF m 22 #[.val (.ref a1), .val (.ref b), .val (.int (0 : Int32))] [(.ref x1), (.int (0 : Int32)), (.ref b)])
  have f109_H1 := (H1.ext E106)
  obtain ⟨T110, h110, X110, e110, W110, V110, st110⟩ := stRA X108 hx hZ q108 V0 O106 f109_H1.ins rfl 0 rfl (by decide) (by decide) (by simp) (g := (mkF m 22 #[.val (.ref a1), .val (.ref b), .val (.int (0 : Int32))] [(.ref x1), (.int (0 : Int32)), (.ref b)])) rfl rfl (hb hby d38_22)
  have Z110 : n0 ≤ h110.size := Nat.le_trans Z106 (Nat.le_of_eq W110.size.symm)
  have M110 := Fr.snoc X110 M108 ge_b
  have KP110 : Keep h0 h110 [] := KP106.wr W110 (Or.inr sz_b)
  refine Go.by (g' := (mkF m 23 #[.val (.ref a1), .val (.ref b), .val (.int (0 : Int32))] [])) st110 ?_
  have U110 : Arv Z h110 b k106 OA (szI 3) [.ref x1, .null, .null] .null := V110
  refine Go.by (g' := (mkF m 26 #[.val (.ref a1), .val (.ref b), .val (.int (1 : Int32))] [])) (fun _ k => XS.iinc X110.here hx rfl (hb hby d38_23) rfl (l' := #[.val (.ref a1), .val (.ref b), .val (.int (1 : Int32))]) rfl k) ?_
  refine Go.by (g' := (mkF m 8 #[.val (.ref a1), .val (.ref b), .val (.int (1 : Int32))] [])) (fun _ k => XS.goto X110.here hx rfl (pc0 := 26) (pc' := 8) rfl (hb hby d38_26) (by decide) (by decide) k) ?_
  refine Go.by (g' := (mkF m 9 #[.val (.ref a1), .val (.ref b), .val (.int (1 : Int32))] [(.int (1 : Int32))])) (fun _ k => XS.iloadN X110.here hx rfl (hb hby d38_8) rfl k) ?_
  refine Go.by (g' := (mkF m 10 #[.val (.ref a1), .val (.ref b), .val (.int (1 : Int32))] [(.ref a1), (.int (1 : Int32))])) (fun _ k => XS.aloadN X110.here hx rfl (hb hby d38_9) rfl rfl k) ?_
  have f111_V := (f107_V.other W110 ne_a1_b)
  refine Go.by (g' := (mkF m 11 #[.val (.ref a1), .val (.ref b), .val (.int (1 : Int32))] [(.int (szI 3)), (.int (1 : Int32))])) (lnA X110 hx hZ e110 f111_V (g := (mkF m 10 #[.val (.ref a1), .val (.ref b), .val (.int (1 : Int32))] [(.ref a1), (.int (1 : Int32))])) rfl rfl (hb hby d38_10)) ?_
  refine Go.by (g' := (mkF m 14 #[.val (.ref a1), .val (.ref b), .val (.int (1 : Int32))] [])) (fun _ k => XS.icmpNo X110.here hx rfl (hb hby d38_11) rfl (tlt (by decide)).2.1 k) ?_
  refine Go.by (g' := (mkF m 15 #[.val (.ref a1), .val (.ref b), .val (.int (1 : Int32))] [(.ref b)])) (fun _ k => XS.aloadN X110.here hx rfl (hb hby d38_14) rfl rfl k) ?_
  refine Go.by (g' := (mkF m 16 #[.val (.ref a1), .val (.ref b), .val (.int (1 : Int32))] [(.int (1 : Int32)), (.ref b)])) (fun _ k => XS.iloadN X110.here hx rfl (hb hby d38_15) rfl k) ?_
  refine Go.by (g' := (mkF m 17 #[.val (.ref a1), .val (.ref b), .val (.int (1 : Int32))] [(.ref a1), (.int (1 : Int32)), (.ref b)])) (fun _ k => XS.aloadN X110.here hx rfl (hb hby d38_16) rfl rfl k) ?_
  refine Go.by (g' := (mkF m 18 #[.val (.ref a1), .val (.ref b), .val (.int (1 : Int32))] [(.int (1 : Int32)), (.ref a1), (.int (1 : Int32)), (.ref b)])) (fun _ k => XS.iloadN X110.here hx rfl (hb hby d38_17) rfl k) ?_
  refine Go.by (g' := (mkF m 19 #[.val (.ref a1), .val (.ref b), .val (.int (1 : Int32))] [(.ref x2), (.int (1 : Int32)), (.ref b)])) (ldRA X110 hx hZ e110 f111_V rfl (v := (.ref x2)) (by decide) (by decide) rfl (g := (mkF m 18 #[.val (.ref a1), .val (.ref b), .val (.int (1 : Int32))] [(.int (1 : Int32)), (.ref a1), (.int (1 : Int32)), (.ref b)])) rfl rfl (hb hby d38_18)) ?_
  refine Go.callS X110 hx hZ (y := (⟨"java/util/Objects", "requireNonNull", "(Ljava/lang/Object;)Ljava/lang/Object;"⟩ : MethodName)) hown (hw _ (List.mem_of_getElem? (i := 290) rfl)) (hw _ (List.mem_of_getElem? (i := 260) rfl)) (hw _ (List.mem_of_getElem? (i := 261) rfl)) (hw _ (List.mem_of_getElem? (i := 262) rfl)) (by decide) (W := 2) (argsL := [(.ref x2)]) (rest := [(.int (1 : Int32)), (.ref b)]) (rm35 l Z a0 hw x2 h110 n0) (by decide) (by decide) (by decide) (by decide) (g := (mkF m 19 #[.val (.ref a1), .val (.ref b), .val (.int (1 : Int32))] [(.ref x2), (.int (1 : Int32)), (.ref b)])) rfl (by rw [hml]; rfl) (lenOf pd_35 rfl) rfl (by show 2 * 0 + _ ≤ _; exact Nat.le_of_eq rfl) (hb hby d38_19) e110 ?_
  rintro T112 L112 _ X112 ⟨rfl, N112, q112⟩
  have M112 := Fr.app M110 N112
  show Go p e below _ _ T112 (mkF m 22 #[.val (.ref a1), .val (.ref b), .val (.int (1 : Int32))] [(.ref x2), (.int (1 : Int32)), (.ref b)])
  have f113_H2 := ((H2.ext E106).keep (Keep.of_wr W110))
  obtain ⟨T114, h114, X114, e114, W114, V114, st114⟩ := stRA X112 hx hZ q112 U110 O106 f113_H2.ins rfl 1 rfl (by decide) (by decide) (by simp) (g := (mkF m 22 #[.val (.ref a1), .val (.ref b), .val (.int (1 : Int32))] [(.ref x2), (.int (1 : Int32)), (.ref b)])) rfl rfl (hb hby d38_22)
  have Z114 : n0 ≤ h114.size := Nat.le_trans Z110 (Nat.le_of_eq W114.size.symm)
  have M114 := Fr.snoc X114 M112 ge_b
  have KP114 : Keep h0 h114 [] := KP110.wr W114 (Or.inr sz_b)
  refine Go.by (g' := (mkF m 23 #[.val (.ref a1), .val (.ref b), .val (.int (1 : Int32))] [])) st114 ?_
  have U114 : Arv Z h114 b k106 OA (szI 3) [.ref x1, .ref x2, .null] .null := V114
  refine Go.by (g' := (mkF m 26 #[.val (.ref a1), .val (.ref b), .val (.int (2 : Int32))] [])) (fun _ k => XS.iinc X114.here hx rfl (hb hby d38_23) rfl (l' := #[.val (.ref a1), .val (.ref b), .val (.int (2 : Int32))]) rfl k) ?_
  refine Go.by (g' := (mkF m 8 #[.val (.ref a1), .val (.ref b), .val (.int (2 : Int32))] [])) (fun _ k => XS.goto X114.here hx rfl (pc0 := 26) (pc' := 8) rfl (hb hby d38_26) (by decide) (by decide) k) ?_
  refine Go.by (g' := (mkF m 9 #[.val (.ref a1), .val (.ref b), .val (.int (2 : Int32))] [(.int (2 : Int32))])) (fun _ k => XS.iloadN X114.here hx rfl (hb hby d38_8) rfl k) ?_
  refine Go.by (g' := (mkF m 10 #[.val (.ref a1), .val (.ref b), .val (.int (2 : Int32))] [(.ref a1), (.int (2 : Int32))])) (fun _ k => XS.aloadN X114.here hx rfl (hb hby d38_9) rfl rfl k) ?_
  have f115_V := (f111_V.other W114 ne_a1_b)
  refine Go.by (g' := (mkF m 11 #[.val (.ref a1), .val (.ref b), .val (.int (2 : Int32))] [(.int (szI 3)), (.int (2 : Int32))])) (lnA X114 hx hZ e114 f115_V (g := (mkF m 10 #[.val (.ref a1), .val (.ref b), .val (.int (2 : Int32))] [(.ref a1), (.int (2 : Int32))])) rfl rfl (hb hby d38_10)) ?_
  refine Go.by (g' := (mkF m 14 #[.val (.ref a1), .val (.ref b), .val (.int (2 : Int32))] [])) (fun _ k => XS.icmpNo X114.here hx rfl (hb hby d38_11) rfl (tlt (by decide)).2.1 k) ?_
  refine Go.by (g' := (mkF m 15 #[.val (.ref a1), .val (.ref b), .val (.int (2 : Int32))] [(.ref b)])) (fun _ k => XS.aloadN X114.here hx rfl (hb hby d38_14) rfl rfl k) ?_
  refine Go.by (g' := (mkF m 16 #[.val (.ref a1), .val (.ref b), .val (.int (2 : Int32))] [(.int (2 : Int32)), (.ref b)])) (fun _ k => XS.iloadN X114.here hx rfl (hb hby d38_15) rfl k) ?_
  refine Go.by (g' := (mkF m 17 #[.val (.ref a1), .val (.ref b), .val (.int (2 : Int32))] [(.ref a1), (.int (2 : Int32)), (.ref b)])) (fun _ k => XS.aloadN X114.here hx rfl (hb hby d38_16) rfl rfl k) ?_
  refine Go.by (g' := (mkF m 18 #[.val (.ref a1), .val (.ref b), .val (.int (2 : Int32))] [(.int (2 : Int32)), (.ref a1), (.int (2 : Int32)), (.ref b)])) (fun _ k => XS.iloadN X114.here hx rfl (hb hby d38_17) rfl k) ?_
  refine Go.by (g' := (mkF m 19 #[.val (.ref a1), .val (.ref b), .val (.int (2 : Int32))] [(.ref x3), (.int (2 : Int32)), (.ref b)])) (ldRA X114 hx hZ e114 f115_V rfl (v := (.ref x3)) (by decide) (by decide) rfl (g := (mkF m 18 #[.val (.ref a1), .val (.ref b), .val (.int (2 : Int32))] [(.int (2 : Int32)), (.ref a1), (.int (2 : Int32)), (.ref b)])) rfl rfl (hb hby d38_18)) ?_
  refine Go.callS X114 hx hZ (y := (⟨"java/util/Objects", "requireNonNull", "(Ljava/lang/Object;)Ljava/lang/Object;"⟩ : MethodName)) hown (hw _ (List.mem_of_getElem? (i := 290) rfl)) (hw _ (List.mem_of_getElem? (i := 260) rfl)) (hw _ (List.mem_of_getElem? (i := 261) rfl)) (hw _ (List.mem_of_getElem? (i := 262) rfl)) (by decide) (W := 2) (argsL := [(.ref x3)]) (rest := [(.int (2 : Int32)), (.ref b)]) (rm35 l Z a0 hw x3 h114 n0) (by decide) (by decide) (by decide) (by decide) (g := (mkF m 19 #[.val (.ref a1), .val (.ref b), .val (.int (2 : Int32))] [(.ref x3), (.int (2 : Int32)), (.ref b)])) rfl (by rw [hml]; rfl) (lenOf pd_35 rfl) rfl (by show 2 * 0 + _ ≤ _; exact Nat.le_of_eq rfl) (hb hby d38_19) e114 ?_
  rintro T116 L116 _ X116 ⟨rfl, N116, q116⟩
  have M116 := Fr.app M114 N116
  show Go p e below _ _ T116 (mkF m 22 #[.val (.ref a1), .val (.ref b), .val (.int (2 : Int32))] [(.ref x3), (.int (2 : Int32)), (.ref b)])
  have f117_H3 := (((H3.ext E106).keep (Keep.of_wr W110)).keep (Keep.of_wr W114))
  obtain ⟨T118, h118, X118, e118, W118, V118, st118⟩ := stRA X116 hx hZ q116 U114 O106 f117_H3.ins rfl 2 rfl (by decide) (by decide) (by simp) (g := (mkF m 22 #[.val (.ref a1), .val (.ref b), .val (.int (2 : Int32))] [(.ref x3), (.int (2 : Int32)), (.ref b)])) rfl rfl (hb hby d38_22)
  have Z118 : n0 ≤ h118.size := Nat.le_trans Z114 (Nat.le_of_eq W118.size.symm)
  have M118 := Fr.snoc X118 M116 ge_b
  have KP118 : Keep h0 h118 [] := KP114.wr W118 (Or.inr sz_b)
  refine Go.by (g' := (mkF m 23 #[.val (.ref a1), .val (.ref b), .val (.int (2 : Int32))] [])) st118 ?_
  have U118 : Arv Z h118 b k106 OA (szI 3) [.ref x1, .ref x2, .ref x3] .null := V118
  refine Go.by (g' := (mkF m 26 #[.val (.ref a1), .val (.ref b), .val (.int (3 : Int32))] [])) (fun _ k => XS.iinc X118.here hx rfl (hb hby d38_23) rfl (l' := #[.val (.ref a1), .val (.ref b), .val (.int (3 : Int32))]) rfl k) ?_
  refine Go.by (g' := (mkF m 8 #[.val (.ref a1), .val (.ref b), .val (.int (3 : Int32))] [])) (fun _ k => XS.goto X118.here hx rfl (pc0 := 26) (pc' := 8) rfl (hb hby d38_26) (by decide) (by decide) k) ?_
  refine Go.by (g' := (mkF m 9 #[.val (.ref a1), .val (.ref b), .val (.int (3 : Int32))] [(.int (3 : Int32))])) (fun _ k => XS.iloadN X118.here hx rfl (hb hby d38_8) rfl k) ?_
  refine Go.by (g' := (mkF m 10 #[.val (.ref a1), .val (.ref b), .val (.int (3 : Int32))] [(.ref a1), (.int (3 : Int32))])) (fun _ k => XS.aloadN X118.here hx rfl (hb hby d38_9) rfl rfl k) ?_
  have f119_V := (f115_V.other W118 ne_a1_b)
  refine Go.by (g' := (mkF m 11 #[.val (.ref a1), .val (.ref b), .val (.int (3 : Int32))] [(.int (szI 3)), (.int (3 : Int32))])) (lnA X118 hx hZ e118 f119_V (g := (mkF m 10 #[.val (.ref a1), .val (.ref b), .val (.int (3 : Int32))] [(.ref a1), (.int (3 : Int32))])) rfl rfl (hb hby d38_10)) ?_
  refine Go.by (g' := (mkF m 29 #[.val (.ref a1), .val (.ref b), .val (.int (3 : Int32))] [])) (fun _ k => XS.icmpYes X118.here hx rfl (pc0 := 11) (pc' := 29) rfl (hb hby d38_11) rfl (flt (by decide)).2.1 (by decide) (by decide) k) ?_
  obtain ⟨T120, h120, X120, e120, E120, A120, D120, -, st120⟩ := newO X118 hx hZ hown (hw _ (List.mem_of_getElem? (i := 85) rfl)) (hw _ (List.mem_of_getElem? (i := 291) rfl)) (hw _ (List.mem_of_getElem? (i := 292) rfl)) e118 (g := (mkF m 29 #[.val (.ref a1), .val (.ref b), .val (.int (3 : Int32))] [])) rfl (hb hby d38_29) (by decide) (by decide)
  obtain ⟨y, g120⟩ : ∃ z, z = h118.size := ⟨_, rfl⟩
  rw [← g120] at A120 D120 st120
  have ne_a1_y : a1 ≠ y := Nat.ne_of_lt (by rw [g120]; exact f119_V.lt)
  have ne_b_y : b ≠ y := Nat.ne_of_lt (by rw [g120]; exact U118.lt)
  have ge_y : n0 ≤ y := Nat.le_trans Z118 (Nat.le_of_eq g120.symm)
  have sz_y : h0.size ≤ y := Nat.le_trans KP118.1 (Nat.le_of_eq g120.symm)
  have Z120 : n0 ≤ h120.size := Nat.le_trans Z118 E120.1
  have KP120 : Keep h0 h120 [] := KP118.ext E120
  refine Go.by (g' := (mkF m 32 #[.val (.ref a1), .val (.ref b), .val (.int (3 : Int32))] [(.ref y)])) st120 ?_
  have F1 : Fld Z h120 y "java/util/ImmutableCollections$ListN" "elements" "[Ljava/lang/Object;" .null := (D120 (Or.inr (hw _ (List.mem_of_getElem? (i := 302) rfl))) (ty := (.array (.object "java/lang/Object"))) (by decide))
  have F2 : Fld Z h120 y "java/util/ImmutableCollections$ListN" "allowNulls" "Z" (.int 0) := (D120 (Or.inr (hw _ (List.mem_of_getElem? (i := 304) rfl))) (ty := .boolean) (by decide))
  refine Go.by (g' := (mkF m 33 #[.val (.ref a1), .val (.ref b), .val (.int (3 : Int32))] [(.ref y), (.ref y)])) (fun _ k => XS.dup X120.here hx rfl (hb hby d38_32) rfl rfl k) ?_
  refine Go.by (g' := (mkF m 34 #[.val (.ref a1), .val (.ref b), .val (.int (3 : Int32))] [(.ref b), (.ref y), (.ref y)])) (fun _ k => XS.aloadN X120.here hx rfl (hb hby d38_33) rfl rfl k) ?_
  refine Go.by (g' := (mkF m 35 #[.val (.ref a1), .val (.ref b), .val (.int (3 : Int32))] [(.int (0 : Int32)), (.ref b), (.ref y), (.ref y)])) (fun _ k => XS.iconst X120.here hx rfl (hb hby d38_34) k) ?_
  refine Go.callIN X120 hx hZ (y := (⟨"java/util/ImmutableCollections$ListN", "<init>", "([Ljava/lang/Object;Z)V"⟩ : MethodName)) rfl hown (hw _ (List.mem_of_getElem? (i := 293) rfl)) (hw _ (List.mem_of_getElem? (i := 294) rfl)) (hw _ (List.mem_of_getElem? (i := 292) rfl)) (hw _ (List.mem_of_getElem? (i := 296) rfl)) (by decide) (W := 1) (a := y) (argsL := [(.ref b), (.int (0 : Int32))]) (rest := [(.ref y)]) (rm39 l Z a0 hw y b (0 : Int32) h120 n0 .null (.int 0) A120 F1 F2 ge_y rfl) (by decide) (by decide) (by decide) (by decide) (g := (mkF m 35 #[.val (.ref a1), .val (.ref b), .val (.int (3 : Int32))] [(.int (0 : Int32)), (.ref b), (.ref y), (.ref y)])) rfl (by rw [hml]; rfl) (lenOf pd_39 rfl) rfl (by show 2 * 0 + _ ≤ _; exact Nat.le_of_eq rfl) (hb hby d38_35) e120 ?_
  rintro T121 L121 _ X121 ⟨rfl, N121, K121⟩
  have M121 := Fr.app M118 N121
  have Z121 : n0 ≤ T121.heap.size := Nat.le_trans Z120 K121.1
  have KP121 : Keep h0 T121.heap [] := KP120.trans K121 (allS (Or.inr sz_y) all0)
  show Go p e below _ _ T121 (mkF m 38 #[.val (.ref a1), .val (.ref b), .val (.int (3 : Int32))] [(.ref y)])
  exact Go.outA X121 hx hret (Lv.narrow X121 hlk (by decide) (by decide)) rfl rfl (hb hby d38_38) ⟨y, rfl, M121, KP121⟩
theorem ef_311 (a1 : Addr) (m : MethodId) : entryFrame m #[(.ref a1)] 2 = mkF m 0 #[.val (.ref a1), .unset] [] := by first | (simp [entryFrame, mkF, argsToLocals, Value.category]; done) | rfl
set_option maxRecDepth 65536 in
set_option maxHeartbeats 40000000 in
theorem rm311 (l : Launch) (Z : State) (a0 : Array Value) (hw : ∀ d ∈ tables_1, d.before a0 Z = true) (a1 : Addr) (h0 : Heap) (n0 : Nat) (Z0 : n0 ≤ h0.size) (k : ClassId) (x1 : Addr) (aM : Addr) (V : Arv Z h0 a1 k OA (szI 1) [.ref x1] .null) (OL : Old Z n0 h0) (SEM : Sta Z Z.heap "java/util/ImmutableCollections" "EMPTY" "Ljava/lang/Object;" (.ref aM)) :
    Ctr l Z (⟨"java/util/List", "of", "([Ljava/lang/Object;)Ljava/util/List;"⟩ : MethodName) jdk_40_method_47_code 2 (some (.object "java/util/List")) ({ frames := 6, cells := 2, slots := 5, locals := 80 } : Room) #[(.ref a1)] h0 (fun v h L => ∃ y, v = some (.ref y) ∧ Fr n0 L ∧ Keep h0 h []) := by
  refine Ctr.of pf_31 (ef_311 a1) ?_
  intro p e s m below meth c T0 hx hby hml hret hlk hnm hZ hown e0 X0
  refine Go.by (g' := (mkF m 1 #[.val (.ref a1), .unset] [(.ref a1)])) (fun _ k => XS.aloadN X0.here hx rfl (hb hby d31_0) rfl rfl k) ?_
  refine Go.by (g' := (mkF m 2 #[.val (.ref a1), .unset] [(.int (szI 1))])) (lnA X0 hx hZ e0 V (g := (mkF m 1 #[.val (.ref a1), .unset] [(.ref a1)])) rfl rfl (hb hby d31_1)) ?_
  refine Go.by (g' := (mkF m 34 #[.val (.ref a1), .unset] [])) (fun _ k => XS.tswIn (o := 32) X0.here hx rfl (pc0 := 2) (pc' := 34) rfl (hb hby d31_2) rfl (by decide) (by decide) (by decide) (by decide) k) ?_
  obtain ⟨T122, h122, X122, e122, E122, A122, D122, -, st122⟩ := newO X0 hx hZ hown (hw _ (List.mem_of_getElem? (i := 238) rfl)) (hw _ (List.mem_of_getElem? (i := 239) rfl)) (hw _ (List.mem_of_getElem? (i := 240) rfl)) e0 (g := (mkF m 34 #[.val (.ref a1), .unset] [])) rfl (hb hby d31_34) (by decide) (by decide)
  obtain ⟨y, g122⟩ : ∃ z, z = h0.size := ⟨_, rfl⟩
  rw [← g122] at A122 D122 st122
  have ne_a1_y : a1 ≠ y := Nat.ne_of_lt (by rw [g122]; exact V.lt)
  have ge_y : n0 ≤ y := Nat.le_trans Z0 (Nat.le_of_eq g122.symm)
  have sz_y : h0.size ≤ y := Nat.le_trans (Keep.refl h0 []).1 (Nat.le_of_eq g122.symm)
  have Z122 : n0 ≤ h122.size := Nat.le_trans Z0 E122.1
  have KP122 : Keep h0 h122 [] := (Keep.refl h0 []).ext E122
  refine Go.by (g' := (mkF m 37 #[.val (.ref a1), .unset] [(.ref y)])) st122 ?_
  have F1 : Fld Z h122 y "java/util/ImmutableCollections$List12" "e0" "Ljava/lang/Object;" .null := (D122 (Or.inr (hw _ (List.mem_of_getElem? (i := 264) rfl))) (ty := (.object "java/lang/Object")) (by decide))
  have F2 : Fld Z h122 y "java/util/ImmutableCollections$List12" "e1" "Ljava/lang/Object;" .null := (D122 (Or.inr (hw _ (List.mem_of_getElem? (i := 266) rfl))) (ty := (.object "java/lang/Object")) (by decide))
  refine Go.by (g' := (mkF m 38 #[.val (.ref a1), .unset] [(.ref y), (.ref y)])) (fun _ k => XS.dup X122.here hx rfl (hb hby d31_37) rfl rfl k) ?_
  refine Go.by (g' := (mkF m 39 #[.val (.ref a1), .unset] [(.ref a1), (.ref y), (.ref y)])) (fun _ k => XS.aloadN X122.here hx rfl (hb hby d31_38) rfl rfl k) ?_
  refine Go.by (g' := (mkF m 40 #[.val (.ref a1), .unset] [(.int (0 : Int32)), (.ref a1), (.ref y), (.ref y)])) (fun _ k => XS.iconst X122.here hx rfl (hb hby d31_39) k) ?_
  have f123_V := (V.ext E122)
  refine Go.by (g' := (mkF m 41 #[.val (.ref a1), .unset] [(.ref x1), (.ref y), (.ref y)])) (ldRA X122 hx hZ e122 f123_V rfl (v := (.ref x1)) (by decide) (by decide) rfl (g := (mkF m 40 #[.val (.ref a1), .unset] [(.int (0 : Int32)), (.ref a1), (.ref y), (.ref y)])) rfl rfl (hb hby d31_40)) ?_
  have f124_OL := (OL.ext E122)
  refine Go.callI X122 hx hZ (y := (⟨"java/util/ImmutableCollections$List12", "<init>", "(Ljava/lang/Object;)V"⟩ : MethodName)) rfl hown (hw _ (List.mem_of_getElem? (i := 275) rfl)) (hw _ (List.mem_of_getElem? (i := 276) rfl)) (hw _ (List.mem_of_getElem? (i := 240) rfl)) (hw _ (List.mem_of_getElem? (i := 277) rfl)) (by decide) (W := 1) (a := y) (argsL := [(.ref x1)]) (rest := [(.ref y)]) (rm36 l Z a0 hw y x1 h122 n0 .null .null aM A122 F1 F2 ge_y f124_OL SEM) (by decide) (by decide) (by decide) (by decide) (g := (mkF m 41 #[.val (.ref a1), .unset] [(.ref x1), (.ref y), (.ref y)])) rfl (by rw [hml]; rfl) (lenOf pd_36 rfl) rfl (by show 2 * 0 + _ ≤ _; exact Nat.le_of_eq rfl) (hb hby d31_41) e122 ?_
  rintro T125 L125 _ X125 ⟨rfl, N125, K125⟩
  have M125 := Fr.app (Fr.nil n0) N125
  have Z125 : n0 ≤ T125.heap.size := Nat.le_trans Z122 K125.1
  have KP125 : Keep h0 T125.heap [] := KP122.trans K125 (allS (Or.inr sz_y) all0)
  show Go p e below _ _ T125 (mkF m 44 #[.val (.ref a1), .unset] [(.ref y)])
  exact Go.outA X125 hx hret (Lv.narrow X125 hlk (by decide) (by decide)) rfl rfl (hb hby d31_44) ⟨y, rfl, M125, KP125⟩
theorem ef_312 (a1 : Addr) (m : MethodId) : entryFrame m #[(.ref a1)] 2 = mkF m 0 #[.val (.ref a1), .unset] [] := by first | (simp [entryFrame, mkF, argsToLocals, Value.category]; done) | rfl
set_option maxRecDepth 65536 in
set_option maxHeartbeats 40000000 in
theorem rm312 (l : Launch) (Z : State) (a0 : Array Value) (hw : ∀ d ∈ tables_1, d.before a0 Z = true) (a1 : Addr) (h0 : Heap) (n0 : Nat) (Z0 : n0 ≤ h0.size) (k : ClassId) (x1 x2 : Addr) (V : Arv Z h0 a1 k OA (szI 2) [.ref x1, .ref x2] .null)  :
    Ctr l Z (⟨"java/util/List", "of", "([Ljava/lang/Object;)Ljava/util/List;"⟩ : MethodName) jdk_40_method_47_code 2 (some (.object "java/util/List")) ({ frames := 6, cells := 2, slots := 5, locals := 80 } : Room) #[(.ref a1)] h0 (fun v h L => ∃ y, v = some (.ref y) ∧ Fr n0 L ∧ Keep h0 h []) := by
  refine Ctr.of pf_31 (ef_312 a1) ?_
  intro p e s m below meth c T0 hx hby hml hret hlk hnm hZ hown e0 X0
  refine Go.by (g' := (mkF m 1 #[.val (.ref a1), .unset] [(.ref a1)])) (fun _ k => XS.aloadN X0.here hx rfl (hb hby d31_0) rfl rfl k) ?_
  refine Go.by (g' := (mkF m 2 #[.val (.ref a1), .unset] [(.int (szI 2))])) (lnA X0 hx hZ e0 V (g := (mkF m 1 #[.val (.ref a1), .unset] [(.ref a1)])) rfl rfl (hb hby d31_1)) ?_
  refine Go.by (g' := (mkF m 45 #[.val (.ref a1), .unset] [])) (fun _ k => XS.tswIn (o := 43) X0.here hx rfl (pc0 := 2) (pc' := 45) rfl (hb hby d31_2) rfl (by decide) (by decide) (by decide) (by decide) k) ?_
  obtain ⟨T126, h126, X126, e126, E126, A126, D126, -, st126⟩ := newO X0 hx hZ hown (hw _ (List.mem_of_getElem? (i := 238) rfl)) (hw _ (List.mem_of_getElem? (i := 239) rfl)) (hw _ (List.mem_of_getElem? (i := 240) rfl)) e0 (g := (mkF m 45 #[.val (.ref a1), .unset] [])) rfl (hb hby d31_45) (by decide) (by decide)
  obtain ⟨y, g126⟩ : ∃ z, z = h0.size := ⟨_, rfl⟩
  rw [← g126] at A126 D126 st126
  have ne_a1_y : a1 ≠ y := Nat.ne_of_lt (by rw [g126]; exact V.lt)
  have ge_y : n0 ≤ y := Nat.le_trans Z0 (Nat.le_of_eq g126.symm)
  have sz_y : h0.size ≤ y := Nat.le_trans (Keep.refl h0 []).1 (Nat.le_of_eq g126.symm)
  have Z126 : n0 ≤ h126.size := Nat.le_trans Z0 E126.1
  have KP126 : Keep h0 h126 [] := (Keep.refl h0 []).ext E126
  refine Go.by (g' := (mkF m 48 #[.val (.ref a1), .unset] [(.ref y)])) st126 ?_
  have F1 : Fld Z h126 y "java/util/ImmutableCollections$List12" "e0" "Ljava/lang/Object;" .null := (D126 (Or.inr (hw _ (List.mem_of_getElem? (i := 264) rfl))) (ty := (.object "java/lang/Object")) (by decide))
  have F2 : Fld Z h126 y "java/util/ImmutableCollections$List12" "e1" "Ljava/lang/Object;" .null := (D126 (Or.inr (hw _ (List.mem_of_getElem? (i := 266) rfl))) (ty := (.object "java/lang/Object")) (by decide))
  refine Go.by (g' := (mkF m 49 #[.val (.ref a1), .unset] [(.ref y), (.ref y)])) (fun _ k => XS.dup X126.here hx rfl (hb hby d31_48) rfl rfl k) ?_
  refine Go.by (g' := (mkF m 50 #[.val (.ref a1), .unset] [(.ref a1), (.ref y), (.ref y)])) (fun _ k => XS.aloadN X126.here hx rfl (hb hby d31_49) rfl rfl k) ?_
  refine Go.by (g' := (mkF m 51 #[.val (.ref a1), .unset] [(.int (0 : Int32)), (.ref a1), (.ref y), (.ref y)])) (fun _ k => XS.iconst X126.here hx rfl (hb hby d31_50) k) ?_
  have f127_V := (V.ext E126)
  refine Go.by (g' := (mkF m 52 #[.val (.ref a1), .unset] [(.ref x1), (.ref y), (.ref y)])) (ldRA X126 hx hZ e126 f127_V rfl (v := (.ref x1)) (by decide) (by decide) rfl (g := (mkF m 51 #[.val (.ref a1), .unset] [(.int (0 : Int32)), (.ref a1), (.ref y), (.ref y)])) rfl rfl (hb hby d31_51)) ?_
  refine Go.by (g' := (mkF m 53 #[.val (.ref a1), .unset] [(.ref a1), (.ref x1), (.ref y), (.ref y)])) (fun _ k => XS.aloadN X126.here hx rfl (hb hby d31_52) rfl rfl k) ?_
  refine Go.by (g' := (mkF m 54 #[.val (.ref a1), .unset] [(.int (1 : Int32)), (.ref a1), (.ref x1), (.ref y), (.ref y)])) (fun _ k => XS.iconst X126.here hx rfl (hb hby d31_53) k) ?_
  refine Go.by (g' := (mkF m 55 #[.val (.ref a1), .unset] [(.ref x2), (.ref x1), (.ref y), (.ref y)])) (ldRA X126 hx hZ e126 f127_V rfl (v := (.ref x2)) (by decide) (by decide) rfl (g := (mkF m 54 #[.val (.ref a1), .unset] [(.int (1 : Int32)), (.ref a1), (.ref x1), (.ref y), (.ref y)])) rfl rfl (hb hby d31_54)) ?_
  refine Go.callI X126 hx hZ (y := (⟨"java/util/ImmutableCollections$List12", "<init>", "(Ljava/lang/Object;Ljava/lang/Object;)V"⟩ : MethodName)) rfl hown (hw _ (List.mem_of_getElem? (i := 241) rfl)) (hw _ (List.mem_of_getElem? (i := 242) rfl)) (hw _ (List.mem_of_getElem? (i := 240) rfl)) (hw _ (List.mem_of_getElem? (i := 244) rfl)) (by decide) (W := 1) (a := y) (argsL := [(.ref x1), (.ref x2)]) (rest := [(.ref y)]) (rm32 l Z a0 hw y x1 x2 h126 n0 .null .null A126 F1 F2 ge_y) (by decide) (by decide) (by decide) (by decide) (g := (mkF m 55 #[.val (.ref a1), .unset] [(.ref x2), (.ref x1), (.ref y), (.ref y)])) rfl (by rw [hml]; rfl) (lenOf pd_32 rfl) rfl (by show 2 * 0 + _ ≤ _; exact Nat.le_of_eq rfl) (hb hby d31_55) e126 ?_
  rintro T128 L128 _ X128 ⟨rfl, N128, K128⟩
  have M128 := Fr.app (Fr.nil n0) N128
  have Z128 : n0 ≤ T128.heap.size := Nat.le_trans Z126 K128.1
  have KP128 : Keep h0 T128.heap [] := KP126.trans K128 (allS (Or.inr sz_y) all0)
  show Go p e below _ _ T128 (mkF m 58 #[.val (.ref a1), .unset] [(.ref y)])
  exact Go.outA X128 hx hret (Lv.narrow X128 hlk (by decide) (by decide)) rfl rfl (hb hby d31_58) ⟨y, rfl, M128, KP128⟩
theorem ef_313 (a1 : Addr) (m : MethodId) : entryFrame m #[(.ref a1)] 2 = mkF m 0 #[.val (.ref a1), .unset] [] := by first | (simp [entryFrame, mkF, argsToLocals, Value.category]; done) | rfl
set_option maxRecDepth 65536 in
set_option maxHeartbeats 40000000 in
theorem rm313 (l : Launch) (Z : State) (a0 : Array Value) (hw : ∀ d ∈ tables_1, d.before a0 Z = true) (a1 : Addr) (h0 : Heap) (n0 : Nat) (Z0 : n0 ≤ h0.size) (k : ClassId) (x1 x2 x3 : Addr) (V : Arv Z h0 a1 k OA (szI 3) [.ref x1, .ref x2, .ref x3] .null) (H1 : El Z a0 h0 x1) (H2 : El Z a0 h0 x2) (H3 : El Z a0 h0 x3)  :
    Ctr l Z (⟨"java/util/List", "of", "([Ljava/lang/Object;)Ljava/util/List;"⟩ : MethodName) jdk_40_method_47_code 2 (some (.object "java/util/List")) ({ frames := 6, cells := 2, slots := 5, locals := 80 } : Room) #[(.ref a1)] h0 (fun v h L => ∃ y, v = some (.ref y) ∧ Fr n0 L ∧ Keep h0 h []) := by
  refine Ctr.of pf_31 (ef_313 a1) ?_
  intro p e s m below meth c T0 hx hby hml hret hlk hnm hZ hown e0 X0
  refine Go.by (g' := (mkF m 1 #[.val (.ref a1), .unset] [(.ref a1)])) (fun _ k => XS.aloadN X0.here hx rfl (hb hby d31_0) rfl rfl k) ?_
  refine Go.by (g' := (mkF m 2 #[.val (.ref a1), .unset] [(.int (szI 3))])) (lnA X0 hx hZ e0 V (g := (mkF m 1 #[.val (.ref a1), .unset] [(.ref a1)])) rfl rfl (hb hby d31_1)) ?_
  refine Go.by (g' := (mkF m 59 #[.val (.ref a1), .unset] [])) (fun _ k => XS.tswOut X0.here hx rfl (pc0 := 2) (pc' := 59) rfl (hb hby d31_2) rfl (by decide) (by decide) (by decide) k) ?_
  refine Go.by (g' := (mkF m 60 #[.val (.ref a1), .unset] [(.ref a1)])) (fun _ k => XS.aloadN X0.here hx rfl (hb hby d31_59) rfl rfl k) ?_
  refine Go.callS X0 hx hZ (y := (⟨"java/util/ImmutableCollections", "listFromArray", "([Ljava/lang/Object;)Ljava/util/List;"⟩ : MethodName)) hown (hw _ (List.mem_of_getElem? (i := 286) rfl)) (hw _ (List.mem_of_getElem? (i := 287) rfl)) (hw _ (List.mem_of_getElem? (i := 78) rfl)) (hw _ (List.mem_of_getElem? (i := 288) rfl)) (by decide) (W := 0) (argsL := [(.ref a1)]) (rest := []) (rm38 l Z a0 hw a1 h0 n0 Z0 k x1 x2 x3 V H1 H2 H3) (by decide) (by decide) (by decide) (by decide) (g := (mkF m 60 #[.val (.ref a1), .unset] [(.ref a1)])) rfl (by rw [hml]; rfl) (lenOf pd_38 rfl) rfl (by show 2 * 0 + _ ≤ _; exact Nat.le_of_eq rfl) (hb hby d31_60) e0 ?_
  rintro T129 L129 _ X129 ⟨y, rfl, N129, K129⟩
  have M129 := Fr.app (Fr.nil n0) N129
  have Z129 : n0 ≤ T129.heap.size := Nat.le_trans Z0 K129.1
  have KP129 : Keep h0 T129.heap [] := (Keep.refl h0 []).trans K129 all0
  show Go p e below _ _ T129 (mkF m 63 #[.val (.ref a1), .unset] [(.ref y)])
  exact Go.outA X129 hx hret (Lv.narrow X129 hlk (by decide) (by decide)) rfl rfl (hb hby d31_63) ⟨y, rfl, M129, KP129⟩
theorem ef_11E (a1 : Addr) (m : MethodId) : entryFrame m #[(.ref a1)] 2 = mkF m 0 #[.val (.ref a1), .unset] [] := by first | (simp [entryFrame, mkF, argsToLocals, Value.category]; done) | rfl
set_option maxRecDepth 65536 in
set_option maxHeartbeats 40000000 in
theorem rm11E (l : Launch) (Z : State) (a0 : Array Value) (hw : ∀ d ∈ tables_1, d.before a0 Z = true) (a1 : Addr) (h0 : Heap) (n0 : Nat) (aD aL : Addr) (Em : Emp Z h0 aD a1) (OL : Old Z n0 h0) (SEL : Sta Z Z.heap "java/util/ImmutableCollections" "EMPTY_LIST" "Ljava/util/ImmutableCollections$ListN;" (.ref aL)) :
    Ctr l Z (⟨"java/util/ImmutableCollections", "listCopy", "(Ljava/util/Collection;)Ljava/util/List;"⟩ : MethodName) jdk_56_method_3_code 2 (some (.object "java/util/List")) ({ frames := 7, cells := 3, slots := 15, locals := 113 } : Room) #[(.ref a1)] h0 (fun v h L => v = some (.ref aL) ∧ Fr n0 L ∧ h = h0) := by
  refine Ctr.of pf_11 (ef_11E a1) ?_
  intro p e s m below meth c T0 hx hby hml hret hlk hnm hZ hown e0 X0
  refine Go.by (g' := (mkF m 1 #[.val (.ref a1), .unset] [(.ref a1)])) (fun _ k => XS.aloadN X0.here hx rfl (hb hby d11_0) rfl rfl k) ?_
  obtain ⟨T130, X130, e130, st130⟩ := instNo X0 hx hZ hown (hw _ (List.mem_of_getElem? (i := 80) rfl)) e0 Em.1 (own_no (hw _ (List.mem_of_getElem? (i := 81) rfl)) (hw _ (List.mem_of_getElem? (i := 239) rfl)) (NS.step (hw _ (List.mem_of_getElem? (i := 81) rfl)) (NS.step (hw _ (List.mem_of_getElem? (i := 82) rfl)) (NS.step (hw _ (List.mem_of_getElem? (i := 83) rfl)) (own_root (hw _ (List.mem_of_getElem? (i := 84) rfl)) (hw _ (List.mem_of_getElem? (i := 239) rfl)) (by decide)) (by decide)) (by decide)) (by decide)) (by decide)) (g := (mkF m 1 #[.val (.ref a1), .unset] [(.ref a1)])) rfl rfl (hb hby d11_1)
  refine Go.by (g' := (mkF m 4 #[.val (.ref a1), .unset] [(.int (0 : Int32))])) st130 ?_
  refine Go.by (g' := (mkF m 7 #[.val (.ref a1), .unset] [])) (fun _ k => XS.ifNo X130.here hx rfl (hb hby d11_4) rfl ((if0 _ _).trans (teq rfl).2) k) ?_
  refine Go.by (g' := (mkF m 8 #[.val (.ref a1), .unset] [(.ref a1)])) (fun _ k => XS.aloadN X130.here hx rfl (hb hby d11_7) rfl rfl k) ?_
  obtain ⟨T131, X131, e131, st131⟩ := instNo X130 hx hZ hown (hw _ (List.mem_of_getElem? (i := 85) rfl)) e130 Em.1 (own_no (hw _ (List.mem_of_getElem? (i := 81) rfl)) (hw _ (List.mem_of_getElem? (i := 291) rfl)) (NS.step (hw _ (List.mem_of_getElem? (i := 81) rfl)) (NS.step (hw _ (List.mem_of_getElem? (i := 82) rfl)) (NS.step (hw _ (List.mem_of_getElem? (i := 83) rfl)) (own_root (hw _ (List.mem_of_getElem? (i := 84) rfl)) (hw _ (List.mem_of_getElem? (i := 291) rfl)) (by decide)) (by decide)) (by decide)) (by decide)) (by decide)) (g := (mkF m 8 #[.val (.ref a1), .unset] [(.ref a1)])) rfl rfl (hb hby d11_8)
  refine Go.by (g' := (mkF m 11 #[.val (.ref a1), .unset] [(.int (0 : Int32))])) st131 ?_
  refine Go.by (g' := (mkF m 31 #[.val (.ref a1), .unset] [])) (fun _ k => XS.ifYes X131.here hx rfl (pc0 := 11) (pc' := 31) rfl (hb hby d11_11) rfl ((if0 _ _).trans (teq rfl).1) (by decide) (by decide) k) ?_
  refine Go.by (g' := (mkF m 32 #[.val (.ref a1), .unset] [(.ref a1)])) (fun _ k => XS.aloadN X131.here hx rfl (hb hby d11_31) rfl rfl k) ?_
  refine Go.callF X131 hx hZ (y := (⟨"java/util/Collection", "isEmpty", "()Z"⟩ : MethodName)) (z := (⟨"java/util/ArrayList", "isEmpty", "()Z"⟩ : MethodName)) hown (hw _ (List.mem_of_getElem? (i := 86) rfl)) (hw _ (List.mem_of_getElem? (i := 87) rfl)) (mvT hZ (hw _ (List.mem_of_getElem? (i := 88) rfl))) (hw _ (List.mem_of_getElem? (i := 89) rfl)) (hw _ (List.mem_of_getElem? (i := 90) rfl)) (hw _ (List.mem_of_getElem? (i := 91) rfl)) (hw _ (List.mem_of_getElem? (i := 92) rfl)) (hw _ (List.mem_of_getElem? (i := 93) rfl)) (hw _ (List.mem_of_getElem? (i := 46) rfl)) (hw _ (List.mem_of_getElem? (i := 94) rfl)) (by decide) (W := 0) (a := a1) (argsL := []) (rest := []) Em.1 (rm12E l Z a0 hw a1 h0 n0 (0 : Int32) Em.2.2.1 rfl) (by decide) (by decide) (by decide) (by decide) (g := (mkF m 32 #[.val (.ref a1), .unset] [(.ref a1)])) rfl (by rw [hml]; rfl) (lenOf pd_12 rfl) rfl (by show 2 * 0 + _ ≤ _; exact Nat.le_of_eq rfl) (hb hby d11_32) e131 ?_
  rintro T132 L132 _ X132 ⟨rfl, N132, q132⟩
  have M132 := Fr.app (Fr.nil n0) N132
  show Go p e below _ _ T132 (mkF m 37 #[.val (.ref a1), .unset] [(.int (1 : Int32))])
  refine Go.by (g' := (mkF m 40 #[.val (.ref a1), .unset] [])) (fun _ k => XS.ifNo X132.here hx rfl (hb hby d11_37) rfl ((if0 _ _).trans (feq (by decide)).1) k) ?_
  refine Go.callS X132 hx hZ (y := (⟨"java/util/List", "of", "()Ljava/util/List;"⟩ : MethodName)) hown (hw _ (List.mem_of_getElem? (i := 97) rfl)) (hw _ (List.mem_of_getElem? (i := 98) rfl)) (hw _ (List.mem_of_getElem? (i := 74) rfl)) (hw _ (List.mem_of_getElem? (i := 99) rfl)) (by decide) (W := 0) (argsL := []) (rest := []) (rm13 l Z a0 hw h0 n0 aL OL SEL) (by decide) (by decide) (by decide) (by decide) (g := (mkF m 40 #[.val (.ref a1), .unset] [])) rfl (by rw [hml]; rfl) (lenOf pd_13 rfl) rfl (by show 2 * 0 + _ ≤ _; exact Nat.le_of_eq rfl) (hb hby d11_40) q132 ?_
  rintro T133 L133 _ X133 ⟨rfl, N133, q133⟩
  have M133 := Fr.app M132 N133
  show Go p e below _ _ T133 (mkF m 43 #[.val (.ref a1), .unset] [(.ref aL)])
  exact Go.outA X133 hx hret (Lv.narrow X133 hlk (by decide) (by decide)) rfl rfl (hb hby d11_43) (by rw [q133]; exact ⟨rfl, M133, rfl⟩)
theorem ef_11F (a1 : Addr) (m : MethodId) : entryFrame m #[(.ref a1)] 2 = mkF m 0 #[.val (.ref a1), .unset] [] := by first | (simp [entryFrame, mkF, argsToLocals, Value.category]; done) | rfl
set_option maxRecDepth 65536 in
set_option maxHeartbeats 40000000 in
theorem rm11F (l : Launch) (Z : State) (a0 : Array Value) (hw : ∀ d ∈ tables_1, d.before a0 Z = true) (a1 : Addr) (h0 : Heap) (n0 : Nat) (Z0 : n0 ≤ h0.size) (ed : Addr) (k : ClassId) (xs : List Addr) (aM mr : Addr) (Fu : Ful Z h0 a1 ed k xs) (hl1 : 1 ≤ xs.length) (hl3 : xs.length ≤ 3) (hel : ∀ x ∈ xs, El Z a0 h0 x) (OL : Old Z n0 h0) (SEM : Sta Z Z.heap "java/util/ImmutableCollections" "EMPTY" "Ljava/lang/Object;" (.ref aM)) (MM : MirM Z "[Ljava/lang/Object;" mr) :
    Ctr l Z (⟨"java/util/ImmutableCollections", "listCopy", "(Ljava/util/Collection;)Ljava/util/List;"⟩ : MethodName) jdk_56_method_3_code 2 (some (.object "java/util/List")) ({ frames := 7, cells := 3, slots := 15, locals := 113 } : Room) #[(.ref a1)] h0 (fun v h L => ∃ y, v = some (.ref y) ∧ Fr n0 L ∧ Keep h0 h []) := by
  refine Ctr.of pf_11 (ef_11F a1) ?_
  intro p e s m below meth c T0 hx hby hml hret hlk hnm hZ hown e0 X0
  refine Go.by (g' := (mkF m 1 #[.val (.ref a1), .unset] [(.ref a1)])) (fun _ k => XS.aloadN X0.here hx rfl (hb hby d11_0) rfl rfl k) ?_
  obtain ⟨T134, X134, e134, st134⟩ := instNo X0 hx hZ hown (hw _ (List.mem_of_getElem? (i := 80) rfl)) e0 Fu.1 (own_no (hw _ (List.mem_of_getElem? (i := 81) rfl)) (hw _ (List.mem_of_getElem? (i := 239) rfl)) (NS.step (hw _ (List.mem_of_getElem? (i := 81) rfl)) (NS.step (hw _ (List.mem_of_getElem? (i := 82) rfl)) (NS.step (hw _ (List.mem_of_getElem? (i := 83) rfl)) (own_root (hw _ (List.mem_of_getElem? (i := 84) rfl)) (hw _ (List.mem_of_getElem? (i := 239) rfl)) (by decide)) (by decide)) (by decide)) (by decide)) (by decide)) (g := (mkF m 1 #[.val (.ref a1), .unset] [(.ref a1)])) rfl rfl (hb hby d11_1)
  refine Go.by (g' := (mkF m 4 #[.val (.ref a1), .unset] [(.int (0 : Int32))])) st134 ?_
  refine Go.by (g' := (mkF m 7 #[.val (.ref a1), .unset] [])) (fun _ k => XS.ifNo X134.here hx rfl (hb hby d11_4) rfl ((if0 _ _).trans (teq rfl).2) k) ?_
  refine Go.by (g' := (mkF m 8 #[.val (.ref a1), .unset] [(.ref a1)])) (fun _ k => XS.aloadN X134.here hx rfl (hb hby d11_7) rfl rfl k) ?_
  obtain ⟨T135, X135, e135, st135⟩ := instNo X134 hx hZ hown (hw _ (List.mem_of_getElem? (i := 85) rfl)) e134 Fu.1 (own_no (hw _ (List.mem_of_getElem? (i := 81) rfl)) (hw _ (List.mem_of_getElem? (i := 291) rfl)) (NS.step (hw _ (List.mem_of_getElem? (i := 81) rfl)) (NS.step (hw _ (List.mem_of_getElem? (i := 82) rfl)) (NS.step (hw _ (List.mem_of_getElem? (i := 83) rfl)) (own_root (hw _ (List.mem_of_getElem? (i := 84) rfl)) (hw _ (List.mem_of_getElem? (i := 291) rfl)) (by decide)) (by decide)) (by decide)) (by decide)) (by decide)) (g := (mkF m 8 #[.val (.ref a1), .unset] [(.ref a1)])) rfl rfl (hb hby d11_8)
  refine Go.by (g' := (mkF m 11 #[.val (.ref a1), .unset] [(.int (0 : Int32))])) st135 ?_
  refine Go.by (g' := (mkF m 31 #[.val (.ref a1), .unset] [])) (fun _ k => XS.ifYes X135.here hx rfl (pc0 := 11) (pc' := 31) rfl (hb hby d11_11) rfl ((if0 _ _).trans (teq rfl).1) (by decide) (by decide) k) ?_
  refine Go.by (g' := (mkF m 32 #[.val (.ref a1), .unset] [(.ref a1)])) (fun _ k => XS.aloadN X135.here hx rfl (hb hby d11_31) rfl rfl k) ?_
  have hq : ¬ szI xs.length = 0 := by
    intro e
    have q := congrArg Int32.toInt e
    rw [szI_int (by omega)] at q
    have z : (0 : Int32).toInt = 0 := by decide
    rw [z] at q
    omega
  refine Go.callF X135 hx hZ (y := (⟨"java/util/Collection", "isEmpty", "()Z"⟩ : MethodName)) (z := (⟨"java/util/ArrayList", "isEmpty", "()Z"⟩ : MethodName)) hown (hw _ (List.mem_of_getElem? (i := 86) rfl)) (hw _ (List.mem_of_getElem? (i := 87) rfl)) (mvT hZ (hw _ (List.mem_of_getElem? (i := 88) rfl))) (hw _ (List.mem_of_getElem? (i := 89) rfl)) (hw _ (List.mem_of_getElem? (i := 90) rfl)) (hw _ (List.mem_of_getElem? (i := 91) rfl)) (hw _ (List.mem_of_getElem? (i := 92) rfl)) (hw _ (List.mem_of_getElem? (i := 93) rfl)) (hw _ (List.mem_of_getElem? (i := 46) rfl)) (hw _ (List.mem_of_getElem? (i := 94) rfl)) (by decide) (W := 0) (a := a1) (argsL := []) (rest := []) Fu.1 (rm12F l Z a0 hw a1 h0 n0 (szI xs.length) Fu.2.2.1 hq) (by decide) (by decide) (by decide) (by decide) (g := (mkF m 32 #[.val (.ref a1), .unset] [(.ref a1)])) rfl (by rw [hml]; rfl) (lenOf pd_12 rfl) rfl (by show 2 * 0 + _ ≤ _; exact Nat.le_of_eq rfl) (hb hby d11_32) e135 ?_
  rintro T136 L136 _ X136 ⟨rfl, N136, q136⟩
  have M136 := Fr.app (Fr.nil n0) N136
  show Go p e below _ _ T136 (mkF m 37 #[.val (.ref a1), .unset] [(.int (0 : Int32))])
  refine Go.by (g' := (mkF m 44 #[.val (.ref a1), .unset] [])) (fun _ k => XS.ifYes X136.here hx rfl (pc0 := 37) (pc' := 44) rfl (hb hby d11_37) rfl ((if0 _ _).trans (teq rfl).1) (by decide) (by decide) k) ?_
  refine Go.by (g' := (mkF m 45 #[.val (.ref a1), .unset] [(.ref a1)])) (fun _ k => XS.aloadN X136.here hx rfl (hb hby d11_44) rfl rfl k) ?_
  refine Go.callF X136 hx hZ (y := (⟨"java/util/Collection", "toArray", "()[Ljava/lang/Object;"⟩ : MethodName)) (z := (⟨"java/util/ArrayList", "toArray", "()[Ljava/lang/Object;"⟩ : MethodName)) hown (hw _ (List.mem_of_getElem? (i := 205) rfl)) (hw _ (List.mem_of_getElem? (i := 206) rfl)) (mvT hZ (hw _ (List.mem_of_getElem? (i := 207) rfl))) (hw _ (List.mem_of_getElem? (i := 208) rfl)) (hw _ (List.mem_of_getElem? (i := 209) rfl)) (hw _ (List.mem_of_getElem? (i := 210) rfl)) (hw _ (List.mem_of_getElem? (i := 211) rfl)) (hw _ (List.mem_of_getElem? (i := 93) rfl)) (hw _ (List.mem_of_getElem? (i := 46) rfl)) (hw _ (List.mem_of_getElem? (i := 212) rfl)) (by decide) (W := 0) (a := a1) (argsL := []) (rest := []) Fu.1 (rm27 l Z a0 hw a1 h0 n0 Z0 ed k xs mr Fu (by omega) hel MM) (by decide) (by decide) (by decide) (by decide) (g := (mkF m 45 #[.val (.ref a1), .unset] [(.ref a1)])) rfl (by rw [hml]; rfl) (lenOf pd_27 rfl) rfl (by show 2 * 0 + _ ≤ _; exact Nat.le_of_eq rfl) (hb hby d11_45) q136 ?_
  rintro T137 L137 _ X137 ⟨b, kb, rfl, N137, K137, szb, Vb⟩
  have M137 := Fr.app M136 N137
  have Z137 : n0 ≤ T137.heap.size := Nat.le_trans Z0 K137.1
  have KP137 : Keep h0 T137.heap [] := (Keep.refl h0 []).trans K137 all0
  show Go p e below _ _ T137 (mkF m 50 #[.val (.ref a1), .unset] [(.ref b)])
  rcases xs with _ | ⟨x1, _ | ⟨x2, _ | ⟨x3, _ | ⟨x4, r⟩⟩⟩⟩
  · exact absurd hl1 (by simp)
  · have f138_OL := (OL.keep K137 all0)
    refine Go.callS X137 hx hZ (y := (⟨"java/util/List", "of", "([Ljava/lang/Object;)Ljava/util/List;"⟩ : MethodName)) hown (hw _ (List.mem_of_getElem? (i := 235) rfl)) (hw _ (List.mem_of_getElem? (i := 236) rfl)) (hw _ (List.mem_of_getElem? (i := 74) rfl)) (hw _ (List.mem_of_getElem? (i := 237) rfl)) (by decide) (W := 0) (argsL := [(.ref b)]) (rest := []) (rm311 l Z a0 hw b T137.heap n0 Z137 kb x1 aM Vb f138_OL SEM) (by decide) (by decide) (by decide) (by decide) (g := (mkF m 50 #[.val (.ref a1), .unset] [(.ref b)])) rfl (by rw [hml]; rfl) (lenOf pd_31 rfl) rfl (by show 2 * 0 + _ ≤ _; exact Nat.le_of_eq rfl) (hb hby d11_50) rfl ?_
    rintro T139 L139 _ X139 ⟨y, rfl, N139, K139⟩
    have M139 := Fr.app M137 N139
    have Z139 : n0 ≤ T139.heap.size := Nat.le_trans Z137 K139.1
    have KP139 : Keep h0 T139.heap [] := KP137.trans K139 all0
    show Go p e below _ _ T139 (mkF m 53 #[.val (.ref a1), .unset] [(.ref y)])
    exact Go.outA X139 hx hret (Lv.narrow X139 hlk (by decide) (by decide)) rfl rfl (hb hby d11_53) ⟨y, rfl, M139, KP139⟩
  · refine Go.callS X137 hx hZ (y := (⟨"java/util/List", "of", "([Ljava/lang/Object;)Ljava/util/List;"⟩ : MethodName)) hown (hw _ (List.mem_of_getElem? (i := 235) rfl)) (hw _ (List.mem_of_getElem? (i := 236) rfl)) (hw _ (List.mem_of_getElem? (i := 74) rfl)) (hw _ (List.mem_of_getElem? (i := 237) rfl)) (by decide) (W := 0) (argsL := [(.ref b)]) (rest := []) (rm312 l Z a0 hw b T137.heap n0 Z137 kb x1 x2 Vb) (by decide) (by decide) (by decide) (by decide) (g := (mkF m 50 #[.val (.ref a1), .unset] [(.ref b)])) rfl (by rw [hml]; rfl) (lenOf pd_31 rfl) rfl (by show 2 * 0 + _ ≤ _; exact Nat.le_of_eq rfl) (hb hby d11_50) rfl ?_
    rintro T140 L140 _ X140 ⟨y, rfl, N140, K140⟩
    have M140 := Fr.app M137 N140
    have Z140 : n0 ≤ T140.heap.size := Nat.le_trans Z137 K140.1
    have KP140 : Keep h0 T140.heap [] := KP137.trans K140 all0
    show Go p e below _ _ T140 (mkF m 53 #[.val (.ref a1), .unset] [(.ref y)])
    exact Go.outA X140 hx hret (Lv.narrow X140 hlk (by decide) (by decide)) rfl rfl (hb hby d11_53) ⟨y, rfl, M140, KP140⟩
  · have f141_hel := (fun x hx => (hel x hx).keep K137)
    refine Go.callS X137 hx hZ (y := (⟨"java/util/List", "of", "([Ljava/lang/Object;)Ljava/util/List;"⟩ : MethodName)) hown (hw _ (List.mem_of_getElem? (i := 235) rfl)) (hw _ (List.mem_of_getElem? (i := 236) rfl)) (hw _ (List.mem_of_getElem? (i := 74) rfl)) (hw _ (List.mem_of_getElem? (i := 237) rfl)) (by decide) (W := 0) (argsL := [(.ref b)]) (rest := []) (rm313 l Z a0 hw b T137.heap n0 Z137 kb x1 x2 x3 Vb (f141_hel x1 (by simp)) (f141_hel x2 (by simp)) (f141_hel x3 (by simp))) (by decide) (by decide) (by decide) (by decide) (g := (mkF m 50 #[.val (.ref a1), .unset] [(.ref b)])) rfl (by rw [hml]; rfl) (lenOf pd_31 rfl) rfl (by show 2 * 0 + _ ≤ _; exact Nat.le_of_eq rfl) (hb hby d11_50) rfl ?_
    rintro T142 L142 _ X142 ⟨y, rfl, N142, K142⟩
    have M142 := Fr.app M137 N142
    have Z142 : n0 ≤ T142.heap.size := Nat.le_trans Z137 K142.1
    have KP142 : Keep h0 T142.heap [] := KP137.trans K142 all0
    show Go p e below _ _ T142 (mkF m 53 #[.val (.ref a1), .unset] [(.ref y)])
    exact Go.outA X142 hx hret (Lv.narrow X142 hlk (by decide) (by decide)) rfl rfl (hb hby d11_53) ⟨y, rfl, M142, KP142⟩
  · exact absurd hl3 (by simp)
theorem ef_10E (a1 : Addr) (m : MethodId) : entryFrame m #[(.ref a1)] 1 = mkF m 0 #[.val (.ref a1)] [] := by first | (simp [entryFrame, mkF, argsToLocals, Value.category]; done) | rfl
set_option maxRecDepth 65536 in
set_option maxHeartbeats 40000000 in
theorem rm10E (l : Launch) (Z : State) (a0 : Array Value) (hw : ∀ d ∈ tables_1, d.before a0 Z = true) (a1 : Addr) (h0 : Heap) (n0 : Nat) (aD aL : Addr) (Em : Emp Z h0 aD a1) (OL : Old Z n0 h0) (SEL : Sta Z Z.heap "java/util/ImmutableCollections" "EMPTY_LIST" "Ljava/util/ImmutableCollections$ListN;" (.ref aL)) :
    Ctr l Z (⟨"java/util/List", "copyOf", "(Ljava/util/Collection;)Ljava/util/List;"⟩ : MethodName) jdk_40_method_48_code 1 (some (.object "java/util/List")) ({ frames := 8, cells := 3, slots := 15, locals := 130 } : Room) #[(.ref a1)] h0 (fun v h L => v = some (.ref aL) ∧ Fr n0 L ∧ h = h0) := by
  refine Ctr.of pf_10 (ef_10E a1) ?_
  intro p e s m below meth c T0 hx hby hml hret hlk hnm hZ hown e0 X0
  refine Go.by (g' := (mkF m 1 #[.val (.ref a1)] [(.ref a1)])) (fun _ k => XS.aloadN X0.here hx rfl (hb hby d10_0) rfl rfl k) ?_
  refine Go.callS X0 hx hZ (y := (⟨"java/util/ImmutableCollections", "listCopy", "(Ljava/util/Collection;)Ljava/util/List;"⟩ : MethodName)) hown (hw _ (List.mem_of_getElem? (i := 76) rfl)) (hw _ (List.mem_of_getElem? (i := 77) rfl)) (hw _ (List.mem_of_getElem? (i := 78) rfl)) (hw _ (List.mem_of_getElem? (i := 79) rfl)) (by decide) (W := 0) (argsL := [(.ref a1)]) (rest := []) (rm11E l Z a0 hw a1 h0 n0 aD aL Em OL SEL) (by decide) (by decide) (by decide) (by decide) (g := (mkF m 1 #[.val (.ref a1)] [(.ref a1)])) rfl (by rw [hml]; rfl) (lenOf pd_11 rfl) rfl (by show 2 * 0 + _ ≤ _; exact Nat.le_of_eq rfl) (hb hby d10_1) e0 ?_
  rintro T143 L143 _ X143 ⟨rfl, N143, q143⟩
  have M143 := Fr.app (Fr.nil n0) N143
  show Go p e below _ _ T143 (mkF m 4 #[.val (.ref a1)] [(.ref aL)])
  exact Go.outA X143 hx hret (Lv.narrow X143 hlk (by decide) (by decide)) rfl rfl (hb hby d10_4) (by rw [q143]; exact ⟨rfl, M143, rfl⟩)
theorem ef_10F (a1 : Addr) (m : MethodId) : entryFrame m #[(.ref a1)] 1 = mkF m 0 #[.val (.ref a1)] [] := by first | (simp [entryFrame, mkF, argsToLocals, Value.category]; done) | rfl
set_option maxRecDepth 65536 in
set_option maxHeartbeats 40000000 in
theorem rm10F (l : Launch) (Z : State) (a0 : Array Value) (hw : ∀ d ∈ tables_1, d.before a0 Z = true) (a1 : Addr) (h0 : Heap) (n0 : Nat) (Z0 : n0 ≤ h0.size) (ed : Addr) (k : ClassId) (xs : List Addr) (aM mr : Addr) (Fu : Ful Z h0 a1 ed k xs) (hl1 : 1 ≤ xs.length) (hl3 : xs.length ≤ 3) (hel : ∀ x ∈ xs, El Z a0 h0 x) (OL : Old Z n0 h0) (SEM : Sta Z Z.heap "java/util/ImmutableCollections" "EMPTY" "Ljava/lang/Object;" (.ref aM)) (MM : MirM Z "[Ljava/lang/Object;" mr) :
    Ctr l Z (⟨"java/util/List", "copyOf", "(Ljava/util/Collection;)Ljava/util/List;"⟩ : MethodName) jdk_40_method_48_code 1 (some (.object "java/util/List")) ({ frames := 8, cells := 3, slots := 15, locals := 130 } : Room) #[(.ref a1)] h0 (fun v h L => ∃ y, v = some (.ref y) ∧ Fr n0 L ∧ Keep h0 h []) := by
  refine Ctr.of pf_10 (ef_10F a1) ?_
  intro p e s m below meth c T0 hx hby hml hret hlk hnm hZ hown e0 X0
  refine Go.by (g' := (mkF m 1 #[.val (.ref a1)] [(.ref a1)])) (fun _ k => XS.aloadN X0.here hx rfl (hb hby d10_0) rfl rfl k) ?_
  refine Go.callS X0 hx hZ (y := (⟨"java/util/ImmutableCollections", "listCopy", "(Ljava/util/Collection;)Ljava/util/List;"⟩ : MethodName)) hown (hw _ (List.mem_of_getElem? (i := 76) rfl)) (hw _ (List.mem_of_getElem? (i := 77) rfl)) (hw _ (List.mem_of_getElem? (i := 78) rfl)) (hw _ (List.mem_of_getElem? (i := 79) rfl)) (by decide) (W := 0) (argsL := [(.ref a1)]) (rest := []) (rm11F l Z a0 hw a1 h0 n0 Z0 ed k xs aM mr Fu hl1 hl3 hel OL SEM MM) (by decide) (by decide) (by decide) (by decide) (g := (mkF m 1 #[.val (.ref a1)] [(.ref a1)])) rfl (by rw [hml]; rfl) (lenOf pd_11 rfl) rfl (by show 2 * 0 + _ ≤ _; exact Nat.le_of_eq rfl) (hb hby d10_1) e0 ?_
  rintro T144 L144 _ X144 ⟨y, rfl, N144, K144⟩
  have M144 := Fr.app (Fr.nil n0) N144
  have Z144 : n0 ≤ T144.heap.size := Nat.le_trans Z0 K144.1
  have KP144 : Keep h0 T144.heap [] := (Keep.refl h0 []).trans K144 all0
  show Go p e below _ _ T144 (mkF m 4 #[.val (.ref a1)] [(.ref y)])
  exact Go.outA X144 hx hret (Lv.narrow X144 hlk (by decide) (by decide)) rfl rfl (hb hby d10_4) ⟨y, rfl, M144, KP144⟩
theorem rmAdd (l : Launch) (Z : State) (a0 : Array Value) (hw : ∀ d ∈ tables_1, d.before a0 Z = true) (a1 a2 : Addr) (h0 : Heap) (n0 : Nat) (Z0 : n0 ≤ h0.size) (aD : Addr) (kD : ClassId) (ed : Addr) (k : ClassId) (xs : List Addr) (KE : String) (F : Lst Z h0 aD a1 ed k xs) (hx10 : xs.length < 10) (g1 : n0 ≤ a1) (g3 : n0 ≤ ed) (OL : Old Z n0 h0) (SD : Sta Z Z.heap "java/util/ArrayList" "DEFAULTCAPACITY_EMPTY_ELEMENTDATA" "[Ljava/lang/Object;" (.ref aD)) (AD : Arv Z Z.heap aD kD OA 0 [] .null) (E2 : Exa Z h0 a2 KE) (wc : (Cond.castable KE "java/lang/Object").before a0 Z = true) :
    Ctr l Z (⟨"java/util/ArrayList", "add", "(Ljava/lang/Object;)Z"⟩ : MethodName) jdk_38_method_25_code 2 (some .boolean) ({ frames := 4, cells := 1, slots := 10, locals := 56 } : Room) #[.ref a1, .ref a2] h0 (fun v h L => ∃ ed' k', v = some (.int 1) ∧ Fr n0 L ∧ Keep h0 h [a1, ed] ∧ n0 ≤ ed' ∧ (ed' = ed ∨ h0.size ≤ ed') ∧ Ful Z h a1 ed' k' (xs ++ [a2])) := by
  rcases F with ⟨hxs, -, Em⟩ | Fu
  · subst hxs
    refine (rm19E l Z a0 hw a1 a2 h0 n0 Z0 aD kD KE Em g1 OL SD AD E2 wc).weaken ?_
    rintro v h' L ⟨b, k, hv, N, K, sz, Fu⟩
    exact ⟨b, k, hv, N, keep_mono K (fun x hx => List.mem_cons.mpr ((List.mem_cons.mp hx).imp id (fun q => nomatch q))), Nat.le_trans Z0 sz, Or.inr sz, Fu⟩
  · refine (rm19F l Z a0 hw a1 a2 h0 n0 ed k xs KE Fu hx10 g1 g3 E2 wc).weaken ?_
    rintro v h' L ⟨hv, N, K, Fu⟩
    exact ⟨ed, k, hv, N, K, g3, Or.inl rfl, Fu⟩
/-- a builder: what it holds, with room for so many blocks and instructions -/
def FB_ (Z : State) (a0 : Array Value) (h : Heap) (n0 : Nat) (aD fb : Addr) (lab : Value) (nb ni : Nat) : Prop := ∃ (lb eb li ei : Addr) (kb ki : ClassId) (xb xi : List Addr), Exa Z h fb "com/example/sorrel/sorrel/middle/ir/FunctionBuilder" ∧ Fld Z h fb "com/example/sorrel/sorrel/middle/ir/FunctionBuilder" "label" "Ljava/lang/String;" lab ∧ Fld Z h fb "com/example/sorrel/sorrel/middle/ir/FunctionBuilder" "blocks" "Ljava/util/List;" (.ref lb) ∧ Fld Z h fb "com/example/sorrel/sorrel/middle/ir/FunctionBuilder" "instructions" "Ljava/util/List;" (.ref li) ∧ Lst Z h aD lb eb kb xb ∧ Lst Z h aD li ei ki xi ∧ (n0 ≤ lb ∧ n0 ≤ eb ∧ n0 ≤ li ∧ n0 ≤ ei) ∧ (lb ≠ li ∧ lb ≠ ei ∧ eb ≠ li ∧ eb ≠ ei ∧ fb ≠ lb ∧ fb ≠ eb ∧ fb ≠ li ∧ fb ≠ ei) ∧ xb.length ≤ nb ∧ xi.length ≤ ni ∧ ∀ x ∈ xi, El Z a0 h x
theorem FB_.ext {Z : State} {a0 : Array Value} {h h' : Heap} {n0 : Nat} {aD fb : Addr} {lab : Value} {nb ni : Nat} (F : FB_ Z a0 h n0 aD fb lab nb ni) (E : Ext h h') : FB_ Z a0 h' n0 aD fb lab nb ni := by
  obtain ⟨lb, eb, li, ei, kb, ki, xb, xi, f1, f2, f3, f4, f5, f6, f7, f8, f9, f10, f11⟩ := F
  exact ⟨lb, eb, li, ei, kb, ki, xb, xi, f1.ext E, f2.ext E, f3.ext E, f4.ext E, f5.ext E, f6.ext E, f7, f8, f9, f10, fun x hx => (f11 x hx).ext E⟩
theorem FB_.mono {Z : State} {a0 : Array Value} {h : Heap} {n0 : Nat} {aD fb : Addr} {lab : Value} {nb ni nb' ni' : Nat} (F : FB_ Z a0 h n0 aD fb lab nb ni) (q : nb ≤ nb') (r : ni ≤ ni') : FB_ Z a0 h n0 aD fb lab nb' ni' := by
  obtain ⟨lb, eb, li, ei, kb, ki, xb, xi, f1, f2, f3, f4, f5, f6, f7, f8, f9, f10, f11⟩ := F
  exact ⟨lb, eb, li, ei, kb, ki, xb, xi, f1, f2, f3, f4, f5, f6, f7, f8, Nat.le_trans f9 q, Nat.le_trans f10 r, f11⟩
theorem FB_.exa {Z : State} {a0 : Array Value} {h : Heap} {n0 : Nat} {aD fb : Addr} {lab : Value} {nb ni : Nat} (F : FB_ Z a0 h n0 aD fb lab nb ni) : Exa Z h fb "com/example/sorrel/sorrel/middle/ir/FunctionBuilder" := by
  obtain ⟨lb, eb, li, ei, kb, ki, xb, xi, f1, f2, -⟩ := F; exact f1
theorem FB_.lab {Z : State} {a0 : Array Value} {h : Heap} {n0 : Nat} {aD fb : Addr} {lab : Value} {nb ni : Nat} (F : FB_ Z a0 h n0 aD fb lab nb ni) : Fld Z h fb "com/example/sorrel/sorrel/middle/ir/FunctionBuilder" "label" "Ljava/lang/String;" lab := by
  obtain ⟨lb, eb, li, ei, kb, ki, xb, xi, f1, f2, -⟩ := F; exact f2
/-- open (1) or shut (0) -/
def FBs (Z : State) (a0 : Array Value) (h : Heap) (n0 : Nat) (aD fb : Addr) (r : Int32) (nb ni : Nat) : Prop := (r = 1 ∧ ∃ lab, FB_ Z a0 h n0 aD fb (.ref lab) nb ni) ∨ (r = 0 ∧ FB_ Z a0 h n0 aD fb .null nb ni)
theorem FBs.nn {Z : State} {a0 : Array Value} {h : Heap} {n0 : Nat} {aD fb : Addr} {r : Int32} {nb ni : Nat} (F : FBs Z a0 h n0 aD fb r nb ni) : ¬ r < 0 := by
  rcases F with ⟨q, -⟩ | ⟨q, -⟩ <;> rw [q] <;> decide
theorem els_app {Z : State} {a0 : Array Value} {h : Heap} {xs : List Addr} {y : Addr} (H : ∀ x ∈ xs, El Z a0 h x) (G : El Z a0 h y) : ∀ x ∈ xs ++ [y], El Z a0 h x := fun x hx => (List.mem_append.mp hx).elim (H x) (fun q => by cases List.mem_singleton.mp q; exact G)
theorem ef_3 (a1 : Addr) (m : MethodId) : entryFrame m #[(.ref a1)] 1 = mkF m 0 #[.val (.ref a1)] [] := by first | (simp [entryFrame, mkF, argsToLocals, Value.category]; done) | rfl
set_option maxRecDepth 65536 in
set_option maxHeartbeats 40000000 in
theorem rm3 (l : Launch) (Z : State) (a0 : Array Value) (hw : ∀ d ∈ tables_1, d.before a0 Z = true) (a1 : Addr) (h0 : Heap) (n0 : Nat)   :
    Ctr l Z (⟨"java/lang/Record", "<init>", "()V"⟩ : MethodName) jdk_30_method_1_code 1 none ({ frames := 1, cells := 0, slots := 0, locals := 12 } : Room) #[(.ref a1)] h0 (fun v h L => v = none ∧ Fr n0 L ∧ h = h0) := by
  refine Ctr.of pf_3 (ef_3 a1) ?_
  intro p e s m below meth c T0 hx hby hml hret hlk hnm hZ hown e0 X0
  refine Go.by (g' := (mkF m 1 #[.val (.ref a1)] [(.ref a1)])) (fun _ k => XS.aloadN X0.here hx rfl (hb hby d3_0) rfl rfl k) ?_
  obtain ⟨T145, X145, e145, st145⟩ := initO X0 hx hZ hown (hw _ (List.mem_of_getElem? (i := 26) rfl)) (hw _ (List.mem_of_getElem? (i := 27) rfl)) (hw _ (List.mem_of_getElem? (i := 28) rfl)) e0 (g := (mkF m 1 #[.val (.ref a1)] [(.ref a1)])) rfl (by rw [hml]; rfl) rfl (hb hby d3_1) (by decide) (W := 0) (by show 2 * 0 + _ ≤ _; exact Nat.le_of_eq rfl) (by decide)
  refine Go.by (g' := (mkF m 4 #[.val (.ref a1)] [])) st145 ?_
  exact Go.outN X145 hx hret (Lv.narrow X145 hlk (by decide) (by decide)) (hb hby d3_4) (by rw [e145]; exact ⟨rfl, (Fr.nil n0), rfl⟩)
theorem ef_1 (p1 : Int32) (m : MethodId) : entryFrame m #[(.int p1)] 2 = mkF m 0 #[.val (.int p1), .unset] [] := by first | (simp [entryFrame, mkF, argsToLocals, Value.category]; done) | rfl
set_option maxRecDepth 65536 in
set_option maxHeartbeats 40000000 in
theorem rm1 (l : Launch) (Z : State) (a0 : Array Value) (hw : ∀ d ∈ tables_1, d.before a0 Z = true) (p1 : Int32) (h0 : Heap) (n0 : Nat) (aI aB aR : Addr) (OL : Old Z n0 h0) (SI : Sta Z Z.heap "com/example/sorrel/sorrel/middle/ir/Value$Type" "INT" "Lcom/example/sorrel/sorrel/middle/ir/Value$Type;" (.ref aI)) (SB : Sta Z Z.heap "com/example/sorrel/sorrel/middle/ir/Value$Type" "BOOL" "Lcom/example/sorrel/sorrel/middle/ir/Value$Type;" (.ref aB)) (SR : Sta Z Z.heap "com/example/sorrel/sorrel/middle/ir/Value$Type" "REF" "Lcom/example/sorrel/sorrel/middle/ir/Value$Type;" (.ref aR)) :
    Ctr l Z (⟨"com/example/sorrel/sorrel/middle/ir/FunctionBuilderIsOpenPinLaw", "pick", "(I)Lcom/example/sorrel/sorrel/middle/ir/Value$Type;"⟩ : MethodName) method_3_code 2 (some (.object "com/example/sorrel/sorrel/middle/ir/Value$Type")) ({ frames := 0, cells := 0, slots := 0, locals := 0 } : Room) #[(.int p1)] h0 (fun v h L => ∃ w, v = some w ∧ w.isRef = true ∧ Fr n0 L ∧ h = h0) := by
  refine Ctr.of pf_1 (ef_1 p1) ?_
  intro p e s m below meth c T0 hx hby hml hret hlk hnm hZ hown e0 X0
  refine Go.by (g' := (mkF m 1 #[.val (.int p1), .unset] [(.int p1)])) (fun _ k => XS.iloadN X0.here hx rfl (hb hby d1_0) rfl k) ?_
  refine Go.by (g' := (mkF m 2 #[.val (.int p1), .unset] [(.int (3 : Int32)), (.int p1)])) (fun _ k => XS.iconst X0.here hx rfl (hb hby d1_1) k) ?_
  refine Go.by (g' := (mkF m 3 #[.val (.int p1), .unset] [(.int (p1 &&& (3 : Int32)))])) (fun _ k => XS.iand X0.here hx rfl (hb hby d1_2) rfl k) ?_
  refine Go.by (g' := (mkF m 4 #[.val (.int p1), .val (.int (p1 &&& (3 : Int32)))] [])) (fun _ k => XS.istoreN X0.here hx rfl (hb hby d1_3) rfl (l' := #[.val (.int p1), .val (.int (p1 &&& (3 : Int32)))]) rfl k) ?_
  refine Go.by (g' := (mkF m 5 #[.val (.int p1), .val (.int (p1 &&& (3 : Int32)))] [(.int (p1 &&& (3 : Int32)))])) (fun _ k => XS.iloadN X0.here hx rfl (hb hby d1_4) rfl k) ?_
  by_cases h5 : (p1 &&& (3 : Int32)) = (0 : Int32)
  · refine Go.by (g' := (mkF m 8 #[.val (.int p1), .val (.int (p1 &&& (3 : Int32)))] [])) (fun _ k => XS.ifNo X0.here hx rfl (hb hby d1_5) rfl ((if0 _ _).trans (teq h5).2) k) ?_
    refine Go.by (g' := (mkF m 9 #[.val (.int p1), .val (.int (p1 &&& (3 : Int32)))] [.null])) (fun _ k => XS.aconstNull X0.here hx rfl (hb hby d1_8) k) ?_
    exact Go.outA X0 hx hret (Lv.narrow X0 hlk (by decide) (by decide)) rfl rfl (hb hby d1_9) (by rw [e0]; exact ⟨_, rfl, rfl, Fr.nil _, rfl⟩)
  · refine Go.by (g' := (mkF m 10 #[.val (.int p1), .val (.int (p1 &&& (3 : Int32)))] [])) (fun _ k => XS.ifYes X0.here hx rfl (pc0 := 5) (pc' := 10) rfl (hb hby d1_5) rfl ((if0 _ _).trans (feq h5).2) (by decide) (by decide) k) ?_
    refine Go.by (g' := (mkF m 11 #[.val (.int p1), .val (.int (p1 &&& (3 : Int32)))] [(.int (p1 &&& (3 : Int32)))])) (fun _ k => XS.iloadN X0.here hx rfl (hb hby d1_10) rfl k) ?_
    refine Go.by (g' := (mkF m 12 #[.val (.int p1), .val (.int (p1 &&& (3 : Int32)))] [(.int (1 : Int32)), (.int (p1 &&& (3 : Int32)))])) (fun _ k => XS.iconst X0.here hx rfl (hb hby d1_11) k) ?_
    by_cases h12 : (p1 &&& (3 : Int32)) = (1 : Int32)
    · refine Go.by (g' := (mkF m 15 #[.val (.int p1), .val (.int (p1 &&& (3 : Int32)))] [])) (fun _ k => XS.icmpNo X0.here hx rfl (hb hby d1_12) rfl (teq h12).2 k) ?_
      obtain ⟨T146, X146, e146, st146⟩ := getS2 X0 hx hZ hown (host := "") (Or.inl (hw _ (List.mem_of_getElem? (i := 4) rfl))) Via.refl e0 (SI.ext OL.2) (g := (mkF m 15 #[.val (.int p1), .val (.int (p1 &&& (3 : Int32)))] [])) rfl (hb hby d1_15)
      refine Go.by (g' := (mkF m 18 #[.val (.int p1), .val (.int (p1 &&& (3 : Int32)))] [(.ref aI)])) st146 ?_
      exact Go.outA X146 hx hret (Lv.narrow X146 hlk (by decide) (by decide)) rfl rfl (hb hby d1_18) (by rw [e146]; exact ⟨_, rfl, rfl, Fr.nil _, rfl⟩)
    · refine Go.by (g' := (mkF m 19 #[.val (.int p1), .val (.int (p1 &&& (3 : Int32)))] [])) (fun _ k => XS.icmpYes X0.here hx rfl (pc0 := 12) (pc' := 19) rfl (hb hby d1_12) rfl (feq h12).2 (by decide) (by decide) k) ?_
      refine Go.by (g' := (mkF m 20 #[.val (.int p1), .val (.int (p1 &&& (3 : Int32)))] [(.int (p1 &&& (3 : Int32)))])) (fun _ k => XS.iloadN X0.here hx rfl (hb hby d1_19) rfl k) ?_
      refine Go.by (g' := (mkF m 21 #[.val (.int p1), .val (.int (p1 &&& (3 : Int32)))] [(.int (2 : Int32)), (.int (p1 &&& (3 : Int32)))])) (fun _ k => XS.iconst X0.here hx rfl (hb hby d1_20) k) ?_
      by_cases h21 : (p1 &&& (3 : Int32)) = (2 : Int32)
      · refine Go.by (g' := (mkF m 24 #[.val (.int p1), .val (.int (p1 &&& (3 : Int32)))] [])) (fun _ k => XS.icmpNo X0.here hx rfl (hb hby d1_21) rfl (teq h21).2 k) ?_
        obtain ⟨T147, X147, e147, st147⟩ := getS2 X0 hx hZ hown (host := "") (Or.inl (hw _ (List.mem_of_getElem? (i := 273) rfl))) Via.refl e0 (SB.ext OL.2) (g := (mkF m 24 #[.val (.int p1), .val (.int (p1 &&& (3 : Int32)))] [])) rfl (hb hby d1_24)
        refine Go.by (g' := (mkF m 27 #[.val (.int p1), .val (.int (p1 &&& (3 : Int32)))] [(.ref aB)])) st147 ?_
        exact Go.outA X147 hx hret (Lv.narrow X147 hlk (by decide) (by decide)) rfl rfl (hb hby d1_27) (by rw [e147]; exact ⟨_, rfl, rfl, Fr.nil _, rfl⟩)
      · refine Go.by (g' := (mkF m 28 #[.val (.int p1), .val (.int (p1 &&& (3 : Int32)))] [])) (fun _ k => XS.icmpYes X0.here hx rfl (pc0 := 21) (pc' := 28) rfl (hb hby d1_21) rfl (feq h21).2 (by decide) (by decide) k) ?_
        obtain ⟨T148, X148, e148, st148⟩ := getS2 X0 hx hZ hown (host := "") (Or.inl (hw _ (List.mem_of_getElem? (i := 305) rfl))) Via.refl e0 (SR.ext OL.2) (g := (mkF m 28 #[.val (.int p1), .val (.int (p1 &&& (3 : Int32)))] [])) rfl (hb hby d1_28)
        refine Go.by (g' := (mkF m 31 #[.val (.int p1), .val (.int (p1 &&& (3 : Int32)))] [(.ref aR)])) st148 ?_
        exact Go.outA X148 hx hret (Lv.narrow X148 hlk (by decide) (by decide)) rfl rfl (hb hby d1_31) (by rw [e148]; exact ⟨_, rfl, rfl, Fr.nil _, rfl⟩)
theorem ef_2 (a1 : Addr) (a2 : Addr) (m : MethodId) : entryFrame m #[(.ref a1), (.ref a2)] 2 = mkF m 0 #[.val (.ref a1), .val (.ref a2)] [] := by first | (simp [entryFrame, mkF, argsToLocals, Value.category]; done) | rfl
set_option maxRecDepth 65536 in
set_option maxHeartbeats 40000000 in
theorem rm2 (l : Launch) (Z : State) (a0 : Array Value) (hw : ∀ d ∈ tables_1, d.before a0 Z = true) (a1 : Addr) (a2 : Addr) (h0 : Heap) (n0 : Nat) (u1 : Value) (Ea : Exa Z h0 a1 "com/example/sorrel/sorrel/middle/ir/Instruction$Jump") (F1 : Fld Z h0 a1 "com/example/sorrel/sorrel/middle/ir/Instruction$Jump" "target" "Ljava/lang/String;" u1) (g1 : n0 ≤ a1) :
    Ctr l Z (⟨"com/example/sorrel/sorrel/middle/ir/Instruction$Jump", "<init>", "(Ljava/lang/String;)V"⟩ : MethodName) prog_125_method_1_code 2 none ({ frames := 2, cells := 0, slots := 0, locals := 24 } : Room) #[(.ref a1), (.ref a2)] h0 (fun v h L => v = none ∧ Fr n0 L ∧ Keep h0 h [a1]) := by
  refine Ctr.of pf_2 (ef_2 a1 a2) ?_
  intro p e s m below meth c T0 hx hby hml hret hlk hnm hZ hown e0 X0
  refine Go.by (g' := (mkF m 1 #[.val (.ref a1), .val (.ref a2)] [(.ref a1)])) (fun _ k => XS.aloadN X0.here hx rfl (hb hby d2_0) rfl rfl k) ?_
  refine Go.callI X0 hx hZ (y := (⟨"java/lang/Record", "<init>", "()V"⟩ : MethodName)) rfl hown (hw _ (List.mem_of_getElem? (i := 21) rfl)) (hw _ (List.mem_of_getElem? (i := 22) rfl)) (hw _ (List.mem_of_getElem? (i := 24) rfl)) (hw _ (List.mem_of_getElem? (i := 25) rfl)) (by decide) (W := 0) (a := a1) (argsL := []) (rest := []) (rm3 l Z a0 hw a1 h0 n0) (by decide) (by decide) (by decide) (by decide) (g := (mkF m 1 #[.val (.ref a1), .val (.ref a2)] [(.ref a1)])) rfl (by rw [hml]; rfl) (lenOf pd_3 rfl) rfl (by show 2 * 0 + _ ≤ _; exact Nat.le_of_eq rfl) (hb hby d2_1) e0 ?_
  rintro T149 L149 _ X149 ⟨rfl, N149, q149⟩
  have M149 := Fr.app (Fr.nil n0) N149
  show Go p e below _ _ T149 (mkF m 4 #[.val (.ref a1), .val (.ref a2)] [])
  refine Go.by (g' := (mkF m 5 #[.val (.ref a1), .val (.ref a2)] [(.ref a1)])) (fun _ k => XS.aloadN X149.here hx rfl (hb hby d2_4) rfl rfl k) ?_
  refine Go.by (g' := (mkF m 6 #[.val (.ref a1), .val (.ref a2)] [(.ref a2), (.ref a1)])) (fun _ k => XS.aloadN X149.here hx rfl (hb hby d2_5) rfl rfl k) ?_
  obtain ⟨T150, h150, X150, e150, W150, st150⟩ := putF X149 hx hZ hown (host := "") (Or.inl (hw _ (List.mem_of_getElem? (i := 29) rfl))) Via.refl q149 F1 Ea (Or.inr ⟨(hw _ (List.mem_of_getElem? (i := 30) rfl)), rfl, hnm⟩) (hw _ (List.mem_of_getElem? (i := 8) rfl)) (ty := (.object "java/lang/String")) (by decide) rfl rfl (g := (mkF m 6 #[.val (.ref a1), .val (.ref a2)] [(.ref a2), (.ref a1)])) rfl rfl (hb hby d2_6)
  have M150 := Fr.snoc X150 M149 g1
  have KP150 : Keep h0 h150 [a1] := (Keep.refl h0 [a1]).wr W150 (Or.inl (List.mem_of_getElem? (i := 0) rfl))
  have F150_F1 := F1.same W150
  refine Go.by (g' := (mkF m 9 #[.val (.ref a1), .val (.ref a2)] [])) st150 ?_
  exact Go.outN X150 hx hret (Lv.narrow X150 hlk (by decide) (by decide)) (hb hby d2_9) (by rw [e150]; exact ⟨rfl, M150, KP150⟩)
theorem ef_5 (a1 : Addr) (m : MethodId) : entryFrame m #[(.ref a1), .null] 2 = mkF m 0 #[.val (.ref a1), .val .null] [] := by first | (simp [entryFrame, mkF, argsToLocals, Value.category]; done) | rfl
set_option maxRecDepth 65536 in
set_option maxHeartbeats 40000000 in
theorem rm5 (l : Launch) (Z : State) (a0 : Array Value) (hw : ∀ d ∈ tables_1, d.before a0 Z = true) (a1 : Addr) (h0 : Heap) (n0 : Nat) (u1 : Value) (Ea : Exa Z h0 a1 "com/example/sorrel/sorrel/middle/ir/Instruction$Return") (F1 : Fld Z h0 a1 "com/example/sorrel/sorrel/middle/ir/Instruction$Return" "value" "Lcom/example/sorrel/sorrel/middle/ir/Value;" u1) (g1 : n0 ≤ a1) :
    Ctr l Z (⟨"com/example/sorrel/sorrel/middle/ir/Instruction$Return", "<init>", "(Lcom/example/sorrel/sorrel/middle/ir/Value;)V"⟩ : MethodName) prog_132_method_1_code 2 none ({ frames := 2, cells := 0, slots := 0, locals := 24 } : Room) #[(.ref a1), .null] h0 (fun v h L => v = none ∧ Fr n0 L ∧ Keep h0 h [a1]) := by
  refine Ctr.of pf_5 (ef_5 a1) ?_
  intro p e s m below meth c T0 hx hby hml hret hlk hnm hZ hown e0 X0
  refine Go.by (g' := (mkF m 1 #[.val (.ref a1), .val .null] [(.ref a1)])) (fun _ k => XS.aloadN X0.here hx rfl (hb hby d5_0) rfl rfl k) ?_
  refine Go.callI X0 hx hZ (y := (⟨"java/lang/Record", "<init>", "()V"⟩ : MethodName)) rfl hown (hw _ (List.mem_of_getElem? (i := 37) rfl)) (hw _ (List.mem_of_getElem? (i := 22) rfl)) (hw _ (List.mem_of_getElem? (i := 24) rfl)) (hw _ (List.mem_of_getElem? (i := 25) rfl)) (by decide) (W := 0) (a := a1) (argsL := []) (rest := []) (rm3 l Z a0 hw a1 h0 n0) (by decide) (by decide) (by decide) (by decide) (g := (mkF m 1 #[.val (.ref a1), .val .null] [(.ref a1)])) rfl (by rw [hml]; rfl) (lenOf pd_3 rfl) rfl (by show 2 * 0 + _ ≤ _; exact Nat.le_of_eq rfl) (hb hby d5_1) e0 ?_
  rintro T151 L151 _ X151 ⟨rfl, N151, q151⟩
  have M151 := Fr.app (Fr.nil n0) N151
  show Go p e below _ _ T151 (mkF m 4 #[.val (.ref a1), .val .null] [])
  refine Go.by (g' := (mkF m 5 #[.val (.ref a1), .val .null] [(.ref a1)])) (fun _ k => XS.aloadN X151.here hx rfl (hb hby d5_4) rfl rfl k) ?_
  refine Go.by (g' := (mkF m 6 #[.val (.ref a1), .val .null] [.null, (.ref a1)])) (fun _ k => XS.aloadN X151.here hx rfl (hb hby d5_5) rfl rfl k) ?_
  obtain ⟨T152, h152, X152, e152, W152, st152⟩ := putF X151 hx hZ hown (host := "") (Or.inl (hw _ (List.mem_of_getElem? (i := 38) rfl))) Via.refl q151 F1 Ea (Or.inr ⟨(hw _ (List.mem_of_getElem? (i := 39) rfl)), rfl, hnm⟩) (hw _ (List.mem_of_getElem? (i := 32) rfl)) (ty := (.object "com/example/sorrel/sorrel/middle/ir/Value")) (by decide) rfl rfl (g := (mkF m 6 #[.val (.ref a1), .val .null] [.null, (.ref a1)])) rfl rfl (hb hby d5_6)
  have M152 := Fr.snoc X152 M151 g1
  have KP152 : Keep h0 h152 [a1] := (Keep.refl h0 [a1]).wr W152 (Or.inl (List.mem_of_getElem? (i := 0) rfl))
  have F152_F1 := F1.same W152
  refine Go.by (g' := (mkF m 9 #[.val (.ref a1), .val .null] [])) st152 ?_
  exact Go.outN X152 hx hret (Lv.narrow X152 hlk (by decide) (by decide)) (hb hby d5_9) (by rw [e152]; exact ⟨rfl, M152, KP152⟩)
theorem ef_9 (a1 : Addr) (a3 : Addr) (a4 : Addr) (m : MethodId) : entryFrame m #[(.ref a1), .null, (.ref a3), (.ref a4)] 4 = mkF m 0 #[.val (.ref a1), .val .null, .val (.ref a3), .val (.ref a4)] [] := by first | (simp [entryFrame, mkF, argsToLocals, Value.category]; done) | rfl
set_option maxRecDepth 65536 in
set_option maxHeartbeats 40000000 in
theorem rm9 (l : Launch) (Z : State) (a0 : Array Value) (hw : ∀ d ∈ tables_1, d.before a0 Z = true) (a1 : Addr) (a3 : Addr) (a4 : Addr) (h0 : Heap) (n0 : Nat) (u1 u2 u3 : Value) (aD aL : Addr) (Ea : Exa Z h0 a1 "com/example/sorrel/sorrel/middle/ir/Instruction$Call") (F1 : Fld Z h0 a1 "com/example/sorrel/sorrel/middle/ir/Instruction$Call" "result" "Lcom/example/sorrel/sorrel/middle/ir/Value;" u1) (F2 : Fld Z h0 a1 "com/example/sorrel/sorrel/middle/ir/Instruction$Call" "function" "Ljava/lang/String;" u2) (F3 : Fld Z h0 a1 "com/example/sorrel/sorrel/middle/ir/Instruction$Call" "arguments" "Ljava/util/List;" u3) (g1 : n0 ≤ a1) (Em : Emp Z h0 aD a4) (OL : Old Z n0 h0) (SEL : Sta Z Z.heap "java/util/ImmutableCollections" "EMPTY_LIST" "Ljava/util/ImmutableCollections$ListN;" (.ref aL)) :
    Ctr l Z (⟨"com/example/sorrel/sorrel/middle/ir/Instruction$Call", "<init>", "(Lcom/example/sorrel/sorrel/middle/ir/Value;Ljava/lang/String;Ljava/util/List;)V"⟩ : MethodName) prog_119_method_1_code 4 none ({ frames := 9, cells := 3, slots := 15, locals := 142 } : Room) #[(.ref a1), .null, (.ref a3), (.ref a4)] h0 (fun v h L => v = none ∧ Fr n0 L ∧ Keep h0 h [a1]) := by
  refine Ctr.of pf_9 (ef_9 a1 a3 a4) ?_
  intro p e s m below meth c T0 hx hby hml hret hlk hnm hZ hown e0 X0
  refine Go.by (g' := (mkF m 1 #[.val (.ref a1), .val .null, .val (.ref a3), .val (.ref a4)] [(.ref a1)])) (fun _ k => XS.aloadN X0.here hx rfl (hb hby d9_0) rfl rfl k) ?_
  refine Go.callI X0 hx hZ (y := (⟨"java/lang/Record", "<init>", "()V"⟩ : MethodName)) rfl hown (hw _ (List.mem_of_getElem? (i := 71) rfl)) (hw _ (List.mem_of_getElem? (i := 22) rfl)) (hw _ (List.mem_of_getElem? (i := 24) rfl)) (hw _ (List.mem_of_getElem? (i := 25) rfl)) (by decide) (W := 0) (a := a1) (argsL := []) (rest := []) (rm3 l Z a0 hw a1 h0 n0) (by decide) (by decide) (by decide) (by decide) (g := (mkF m 1 #[.val (.ref a1), .val .null, .val (.ref a3), .val (.ref a4)] [(.ref a1)])) rfl (by rw [hml]; rfl) (lenOf pd_3 rfl) rfl (by show 2 * 0 + _ ≤ _; exact Nat.le_of_eq rfl) (hb hby d9_1) e0 ?_
  rintro T153 L153 _ X153 ⟨rfl, N153, q153⟩
  have M153 := Fr.app (Fr.nil n0) N153
  show Go p e below _ _ T153 (mkF m 4 #[.val (.ref a1), .val .null, .val (.ref a3), .val (.ref a4)] [])
  refine Go.by (g' := (mkF m 5 #[.val (.ref a1), .val .null, .val (.ref a3), .val (.ref a4)] [(.ref a4)])) (fun _ k => XS.aloadN X153.here hx rfl (hb hby d9_4) rfl rfl k) ?_
  refine Go.callS X153 hx hZ (y := (⟨"java/util/List", "copyOf", "(Ljava/util/Collection;)Ljava/util/List;"⟩ : MethodName)) hown (hw _ (List.mem_of_getElem? (i := 72) rfl)) (hw _ (List.mem_of_getElem? (i := 73) rfl)) (hw _ (List.mem_of_getElem? (i := 74) rfl)) (hw _ (List.mem_of_getElem? (i := 75) rfl)) (by decide) (W := 0) (argsL := [(.ref a4)]) (rest := []) (rm10E l Z a0 hw a4 h0 n0 aD aL Em OL SEL) (by decide) (by decide) (by decide) (by decide) (g := (mkF m 5 #[.val (.ref a1), .val .null, .val (.ref a3), .val (.ref a4)] [(.ref a4)])) rfl (by rw [hml]; rfl) (lenOf pd_10 rfl) rfl (by show 2 * 0 + _ ≤ _; exact Nat.le_of_eq rfl) (hb hby d9_5) q153 ?_
  rintro T154 L154 _ X154 ⟨rfl, N154, q154⟩
  have M154 := Fr.app M153 N154
  show Go p e below _ _ T154 (mkF m 8 #[.val (.ref a1), .val .null, .val (.ref a3), .val (.ref a4)] [(.ref aL)])
  refine Go.by (g' := (mkF m 9 #[.val (.ref a1), .val .null, .val (.ref a3), .val (.ref aL)] [])) (fun _ k => XS.astoreN X154.here hx rfl (hb hby d9_8) rfl rfl (l' := #[.val (.ref a1), .val .null, .val (.ref a3), .val (.ref aL)]) rfl k) ?_
  refine Go.by (g' := (mkF m 10 #[.val (.ref a1), .val .null, .val (.ref a3), .val (.ref aL)] [(.ref a1)])) (fun _ k => XS.aloadN X154.here hx rfl (hb hby d9_9) rfl rfl k) ?_
  refine Go.by (g' := (mkF m 11 #[.val (.ref a1), .val .null, .val (.ref a3), .val (.ref aL)] [.null, (.ref a1)])) (fun _ k => XS.aloadN X154.here hx rfl (hb hby d9_10) rfl rfl k) ?_
  obtain ⟨T155, h155, X155, e155, W155, st155⟩ := putF X154 hx hZ hown (host := "") (Or.inl (hw _ (List.mem_of_getElem? (i := 101) rfl))) Via.refl q154 F1 Ea (Or.inr ⟨(hw _ (List.mem_of_getElem? (i := 102) rfl)), rfl, hnm⟩) (hw _ (List.mem_of_getElem? (i := 41) rfl)) (ty := (.object "com/example/sorrel/sorrel/middle/ir/Value")) (by decide) rfl rfl (g := (mkF m 11 #[.val (.ref a1), .val .null, .val (.ref a3), .val (.ref aL)] [.null, (.ref a1)])) rfl rfl (hb hby d9_11)
  have M155 := Fr.snoc X155 M154 g1
  have KP155 : Keep h0 h155 [a1] := (Keep.refl h0 [a1]).wr W155 (Or.inl (List.mem_of_getElem? (i := 0) rfl))
  have F155_F1 := F1.same W155
  refine Go.by (g' := (mkF m 14 #[.val (.ref a1), .val .null, .val (.ref a3), .val (.ref aL)] [])) st155 ?_
  refine Go.by (g' := (mkF m 15 #[.val (.ref a1), .val .null, .val (.ref a3), .val (.ref aL)] [(.ref a1)])) (fun _ k => XS.aloadN X155.here hx rfl (hb hby d9_14) rfl rfl k) ?_
  refine Go.by (g' := (mkF m 16 #[.val (.ref a1), .val .null, .val (.ref a3), .val (.ref aL)] [(.ref a3), (.ref a1)])) (fun _ k => XS.aloadN X155.here hx rfl (hb hby d9_15) rfl rfl k) ?_
  have f156_F2 := (F2.other W155 (Or.inr (slot_ne (Or.inr (hw _ (List.mem_of_getElem? (i := 104) rfl))) (Or.inr (hw _ (List.mem_of_getElem? (i := 102) rfl))) (by decide) (t := (.object "java/lang/String")) (t' := (.object "com/example/sorrel/sorrel/middle/ir/Value")) (by decide) (by decide))))
  have f157_Ea := (Ea.wr W155)
  obtain ⟨T158, h158, X158, e158, W158, st158⟩ := putF X155 hx hZ hown (host := "") (Or.inl (hw _ (List.mem_of_getElem? (i := 103) rfl))) Via.refl e155 f156_F2 f157_Ea (Or.inr ⟨(hw _ (List.mem_of_getElem? (i := 104) rfl)), rfl, hnm⟩) (hw _ (List.mem_of_getElem? (i := 41) rfl)) (ty := (.object "java/lang/String")) (by decide) rfl rfl (g := (mkF m 16 #[.val (.ref a1), .val .null, .val (.ref a3), .val (.ref aL)] [(.ref a3), (.ref a1)])) rfl rfl (hb hby d9_16)
  have M158 := Fr.snoc X158 M155 g1
  have KP158 : Keep h0 h158 [a1] := KP155.wr W158 (Or.inl (List.mem_of_getElem? (i := 0) rfl))
  have F158_F2 := f156_F2.same W158
  refine Go.by (g' := (mkF m 19 #[.val (.ref a1), .val .null, .val (.ref a3), .val (.ref aL)] [])) st158 ?_
  refine Go.by (g' := (mkF m 20 #[.val (.ref a1), .val .null, .val (.ref a3), .val (.ref aL)] [(.ref a1)])) (fun _ k => XS.aloadN X158.here hx rfl (hb hby d9_19) rfl rfl k) ?_
  refine Go.by (g' := (mkF m 21 #[.val (.ref a1), .val .null, .val (.ref a3), .val (.ref aL)] [(.ref aL), (.ref a1)])) (fun _ k => XS.aloadN X158.here hx rfl (hb hby d9_20) rfl rfl k) ?_
  have f159_F3 := ((F3.other W155 (Or.inr (slot_ne (Or.inr (hw _ (List.mem_of_getElem? (i := 106) rfl))) (Or.inr (hw _ (List.mem_of_getElem? (i := 102) rfl))) (by decide) (t := (.object "java/util/List")) (t' := (.object "com/example/sorrel/sorrel/middle/ir/Value")) (by decide) (by decide)))).other W158 (Or.inr (slot_ne (Or.inr (hw _ (List.mem_of_getElem? (i := 106) rfl))) (Or.inr (hw _ (List.mem_of_getElem? (i := 104) rfl))) (by decide) (t := (.object "java/util/List")) (t' := (.object "java/lang/String")) (by decide) (by decide))))
  have f160_Ea := (f157_Ea.wr W158)
  obtain ⟨T161, h161, X161, e161, W161, st161⟩ := putF X158 hx hZ hown (host := "") (Or.inl (hw _ (List.mem_of_getElem? (i := 105) rfl))) Via.refl e158 f159_F3 f160_Ea (Or.inr ⟨(hw _ (List.mem_of_getElem? (i := 106) rfl)), rfl, hnm⟩) (hw _ (List.mem_of_getElem? (i := 41) rfl)) (ty := (.object "java/util/List")) (by decide) rfl rfl (g := (mkF m 21 #[.val (.ref a1), .val .null, .val (.ref a3), .val (.ref aL)] [(.ref aL), (.ref a1)])) rfl rfl (hb hby d9_21)
  have M161 := Fr.snoc X161 M158 g1
  have KP161 : Keep h0 h161 [a1] := KP158.wr W161 (Or.inl (List.mem_of_getElem? (i := 0) rfl))
  have F161_F3 := f159_F3.same W161
  refine Go.by (g' := (mkF m 24 #[.val (.ref a1), .val .null, .val (.ref a3), .val (.ref aL)] [])) st161 ?_
  exact Go.outN X161 hx hret (Lv.narrow X161 hlk (by decide) (by decide)) (hb hby d9_24) (by rw [e161]; exact ⟨rfl, M161, KP161⟩)
theorem ef_25 (a1 : Addr) (m : MethodId) : entryFrame m #[(.ref a1)] 1 = mkF m 0 #[.val (.ref a1)] [] := by first | (simp [entryFrame, mkF, argsToLocals, Value.category]; done) | rfl
set_option maxRecDepth 65536 in
set_option maxHeartbeats 40000000 in
theorem rm25 (l : Launch) (Z : State) (a0 : Array Value) (hw : ∀ d ∈ tables_1, d.before a0 Z = true) (a1 : Addr) (h0 : Heap) (n0 : Nat)   :
    Ctr l Z (⟨"com/example/sorrel/sorrel/middle/ir/Instruction$Return", "endsBlock", "()Z"⟩ : MethodName) prog_132_method_4_code 1 (some .boolean) ({ frames := 0, cells := 0, slots := 0, locals := 0 } : Room) #[(.ref a1)] h0 (fun v h L => v = some (.int 1) ∧ Fr n0 L ∧ h = h0) := by
  refine Ctr.of pf_25 (ef_25 a1) ?_
  intro p e s m below meth c T0 hx hby hml hret hlk hnm hZ hown e0 X0
  refine Go.by (g' := (mkF m 1 #[.val (.ref a1)] [(.int (1 : Int32))])) (fun _ k => XS.iconst X0.here hx rfl (hb hby d25_0) k) ?_
  exact Go.outZ X0 hx hret (Lv.narrow X0 hlk (by decide) (by decide)) (hb hby d25_1) (by decide) (by rw [e0]; exact ⟨rfl, (Fr.nil n0), rfl⟩)
theorem ef_37 (a1 : Addr) (m : MethodId) : entryFrame m #[(.ref a1)] 1 = mkF m 0 #[.val (.ref a1)] [] := by first | (simp [entryFrame, mkF, argsToLocals, Value.category]; done) | rfl
set_option maxRecDepth 65536 in
set_option maxHeartbeats 40000000 in
theorem rm37 (l : Launch) (Z : State) (a0 : Array Value) (hw : ∀ d ∈ tables_1, d.before a0 Z = true) (a1 : Addr) (h0 : Heap) (n0 : Nat)   :
    Ctr l Z (⟨"com/example/sorrel/sorrel/middle/ir/Instruction$Jump", "endsBlock", "()Z"⟩ : MethodName) prog_125_method_3_code 1 (some .boolean) ({ frames := 0, cells := 0, slots := 0, locals := 0 } : Room) #[(.ref a1)] h0 (fun v h L => v = some (.int 1) ∧ Fr n0 L ∧ h = h0) := by
  refine Ctr.of pf_37 (ef_37 a1) ?_
  intro p e s m below meth c T0 hx hby hml hret hlk hnm hZ hown e0 X0
  refine Go.by (g' := (mkF m 1 #[.val (.ref a1)] [(.int (1 : Int32))])) (fun _ k => XS.iconst X0.here hx rfl (hb hby d37_0) k) ?_
  exact Go.outZ X0 hx hret (Lv.narrow X0 hlk (by decide) (by decide)) (hb hby d37_1) (by decide) (by rw [e0]; exact ⟨rfl, (Fr.nil n0), rfl⟩)
theorem ef_16N (a1 : Addr) (m : MethodId) : entryFrame m #[(.ref a1)] 1 = mkF m 0 #[.val (.ref a1)] [] := by first | (simp [entryFrame, mkF, argsToLocals, Value.category]; done) | rfl
set_option maxRecDepth 65536 in
set_option maxHeartbeats 40000000 in
theorem rm16N (l : Launch) (Z : State) (a0 : Array Value) (hw : ∀ d ∈ tables_1, d.before a0 Z = true) (a1 : Addr) (h0 : Heap) (n0 : Nat)  (Fl : Fld Z h0 a1 "com/example/sorrel/sorrel/middle/ir/FunctionBuilder" "label" "Ljava/lang/String;" .null) :
    Ctr l Z (⟨"com/example/sorrel/sorrel/middle/ir/FunctionBuilder", "isOpen", "()Z"⟩ : MethodName) prog_113_method_5_code 1 (some .boolean) ({ frames := 0, cells := 0, slots := 0, locals := 0 } : Room) #[(.ref a1)] h0 (fun v h L => v = some (.int 0) ∧ Fr n0 L ∧ h = h0) := by
  refine Ctr.of pf_16 (ef_16N a1) ?_
  intro p e s m below meth c T0 hx hby hml hret hlk hnm hZ hown e0 X0
  refine Go.by (g' := (mkF m 1 #[.val (.ref a1)] [(.ref a1)])) (fun _ k => XS.aloadN X0.here hx rfl (hb hby d16_0) rfl rfl k) ?_
  obtain ⟨T162, X162, e162, st162⟩ := getF X0 hx hZ hown (host := "") (Or.inl (hw _ (List.mem_of_getElem? (i := 136) rfl))) Via.refl e0 Fl (g := (mkF m 1 #[.val (.ref a1)] [(.ref a1)])) rfl rfl (hb hby d16_1)
  refine Go.by (g' := (mkF m 4 #[.val (.ref a1)] [.null])) st162 ?_
  refine Go.by (g' := (mkF m 11 #[.val (.ref a1)] [])) (fun _ k => XS.ifnullYes X162.here hx rfl (pc0 := 4) (pc' := 11) rfl (hb hby d16_4) rfl (by decide) (by decide) k) ?_
  refine Go.by (g' := (mkF m 12 #[.val (.ref a1)] [(.int (0 : Int32))])) (fun _ k => XS.iconst X162.here hx rfl (hb hby d16_11) k) ?_
  exact Go.outZ X162 hx hret (Lv.narrow X162 hlk (by decide) (by decide)) (hb hby d16_12) (by decide) (by rw [e162]; exact ⟨rfl, (Fr.nil n0), rfl⟩)
theorem ef_16R (a1 : Addr) (m : MethodId) : entryFrame m #[(.ref a1)] 1 = mkF m 0 #[.val (.ref a1)] [] := by first | (simp [entryFrame, mkF, argsToLocals, Value.category]; done) | rfl
set_option maxRecDepth 65536 in
set_option maxHeartbeats 40000000 in
theorem rm16R (l : Launch) (Z : State) (a0 : Array Value) (hw : ∀ d ∈ tables_1, d.before a0 Z = true) (a1 : Addr) (h0 : Heap) (n0 : Nat) (lab : Addr) (Fl : Fld Z h0 a1 "com/example/sorrel/sorrel/middle/ir/FunctionBuilder" "label" "Ljava/lang/String;" (.ref lab)) :
    Ctr l Z (⟨"com/example/sorrel/sorrel/middle/ir/FunctionBuilder", "isOpen", "()Z"⟩ : MethodName) prog_113_method_5_code 1 (some .boolean) ({ frames := 0, cells := 0, slots := 0, locals := 0 } : Room) #[(.ref a1)] h0 (fun v h L => v = some (.int 1) ∧ Fr n0 L ∧ h = h0) := by
  refine Ctr.of pf_16 (ef_16R a1) ?_
  intro p e s m below meth c T0 hx hby hml hret hlk hnm hZ hown e0 X0
  refine Go.by (g' := (mkF m 1 #[.val (.ref a1)] [(.ref a1)])) (fun _ k => XS.aloadN X0.here hx rfl (hb hby d16_0) rfl rfl k) ?_
  obtain ⟨T163, X163, e163, st163⟩ := getF X0 hx hZ hown (host := "") (Or.inl (hw _ (List.mem_of_getElem? (i := 136) rfl))) Via.refl e0 Fl (g := (mkF m 1 #[.val (.ref a1)] [(.ref a1)])) rfl rfl (hb hby d16_1)
  refine Go.by (g' := (mkF m 4 #[.val (.ref a1)] [(.ref lab)])) st163 ?_
  refine Go.by (g' := (mkF m 7 #[.val (.ref a1)] [])) (fun _ k => XS.ifnullNo X163.here hx rfl (hb hby d16_4) rfl k) ?_
  refine Go.by (g' := (mkF m 8 #[.val (.ref a1)] [(.int (1 : Int32))])) (fun _ k => XS.iconst X163.here hx rfl (hb hby d16_7) k) ?_
  refine Go.by (g' := (mkF m 12 #[.val (.ref a1)] [(.int (1 : Int32))])) (fun _ k => XS.goto X163.here hx rfl (pc0 := 8) (pc' := 12) rfl (hb hby d16_8) (by decide) (by decide) k) ?_
  exact Go.outZ X163 hx hret (Lv.narrow X163 hlk (by decide) (by decide)) (hb hby d16_12) (by decide) (by rw [e163]; exact ⟨rfl, (Fr.nil n0), rfl⟩)
theorem ef_15 (a1 : Addr) (a2 : Addr) (m : MethodId) : entryFrame m #[(.ref a1), (.ref a2)] 2 = mkF m 0 #[.val (.ref a1), .val (.ref a2)] [] := by first | (simp [entryFrame, mkF, argsToLocals, Value.category]; done) | rfl
set_option maxRecDepth 65536 in
set_option maxHeartbeats 40000000 in
theorem rm15 (l : Launch) (Z : State) (a0 : Array Value) (hw : ∀ d ∈ tables_1, d.before a0 Z = true) (a1 : Addr) (a2 : Addr) (h0 : Heap) (n0 : Nat) (Z0 : n0 ≤ h0.size) (aD : Addr) (u1 u2 : Value) (Ef : Exa Z h0 a1 "com/example/sorrel/sorrel/middle/ir/FunctionBuilder") (Fl : Fld Z h0 a1 "com/example/sorrel/sorrel/middle/ir/FunctionBuilder" "label" "Ljava/lang/String;" .null) (Fi : Fld Z h0 a1 "com/example/sorrel/sorrel/middle/ir/FunctionBuilder" "instructions" "Ljava/util/List;" u1) (Fb : Fld Z h0 a1 "com/example/sorrel/sorrel/middle/ir/FunctionBuilder" "blocks" "Ljava/util/List;" u2) (g1 : n0 ≤ a1) (OL : Old Z n0 h0) (SD : Sta Z Z.heap "java/util/ArrayList" "DEFAULTCAPACITY_EMPTY_ELEMENTDATA" "[Ljava/lang/Object;" (.ref aD)) :
    Ctr l Z (⟨"com/example/sorrel/sorrel/middle/ir/FunctionBuilder", "startBlock", "(Ljava/lang/String;)V"⟩ : MethodName) prog_113_method_7_code 2 none ({ frames := 4, cells := 1, slots := 3, locals := 50 } : Room) #[(.ref a1), (.ref a2)] h0 (fun v h L => ∃ li, v = none ∧ Fr n0 L ∧ Keep h0 h [a1] ∧ h0.size ≤ li ∧ Fld Z h a1 "com/example/sorrel/sorrel/middle/ir/FunctionBuilder" "label" "Ljava/lang/String;" (.ref a2) ∧ Fld Z h a1 "com/example/sorrel/sorrel/middle/ir/FunctionBuilder" "instructions" "Ljava/util/List;" (.ref li) ∧ Fld Z h a1 "com/example/sorrel/sorrel/middle/ir/FunctionBuilder" "blocks" "Ljava/util/List;" u2 ∧ Emp Z h aD li) := by
  refine Ctr.of pf_15 (ef_15 a1 a2) ?_
  intro p e s m below meth c T0 hx hby hml hret hlk hnm hZ hown e0 X0
  refine Go.by (g' := (mkF m 1 #[.val (.ref a1), .val (.ref a2)] [(.ref a1)])) (fun _ k => XS.aloadN X0.here hx rfl (hb hby d15_0) rfl rfl k) ?_
  refine Go.callV X0 hx hZ (y := (⟨"com/example/sorrel/sorrel/middle/ir/FunctionBuilder", "isOpen", "()Z"⟩ : MethodName)) (z := (⟨"com/example/sorrel/sorrel/middle/ir/FunctionBuilder", "isOpen", "()Z"⟩ : MethodName)) hown (hw _ (List.mem_of_getElem? (i := 131) rfl)) (hw _ (List.mem_of_getElem? (i := 132) rfl)) (notFace_of_selects (args := #[]) (mvT hZ (hw _ (List.mem_of_getElem? (i := 134) rfl)))) (hw _ (List.mem_of_getElem? (i := 134) rfl)) (hw _ (List.mem_of_getElem? (i := 133) rfl)) (hw _ (List.mem_of_getElem? (i := 109) rfl)) (hw _ (List.mem_of_getElem? (i := 135) rfl)) (by decide) (W := 0) (a := a1) (argsL := []) (rest := []) Ef (rm16N l Z a0 hw a1 h0 n0 Fl) (by decide) (by decide) (by decide) (by decide) (g := (mkF m 1 #[.val (.ref a1), .val (.ref a2)] [(.ref a1)])) rfl (by rw [hml]; rfl) (lenOf pd_16 rfl) rfl (by show 2 * 0 + _ ≤ _; exact Nat.le_of_eq rfl) (hb hby d15_1) e0 ?_
  rintro T164 L164 _ X164 ⟨rfl, N164, q164⟩
  have M164 := Fr.app (Fr.nil n0) N164
  show Go p e below _ _ T164 (mkF m 4 #[.val (.ref a1), .val (.ref a2)] [(.int (0 : Int32))])
  refine Go.by (g' := (mkF m 25 #[.val (.ref a1), .val (.ref a2)] [])) (fun _ k => XS.ifYes X164.here hx rfl (pc0 := 4) (pc' := 25) rfl (hb hby d15_4) rfl ((if0 _ _).trans (teq rfl).1) (by decide) (by decide) k) ?_
  refine Go.by (g' := (mkF m 26 #[.val (.ref a1), .val (.ref a2)] [(.ref a1)])) (fun _ k => XS.aloadN X164.here hx rfl (hb hby d15_25) rfl rfl k) ?_
  refine Go.by (g' := (mkF m 27 #[.val (.ref a1), .val (.ref a2)] [(.ref a2), (.ref a1)])) (fun _ k => XS.aloadN X164.here hx rfl (hb hby d15_26) rfl rfl k) ?_
  obtain ⟨T165, h165, X165, e165, W165, st165⟩ := putF X164 hx hZ hown (host := "") (Or.inl (hw _ (List.mem_of_getElem? (i := 136) rfl))) Via.refl q164 Fl Ef (Or.inl (hw _ (List.mem_of_getElem? (i := 137) rfl))) (hw _ (List.mem_of_getElem? (i := 108) rfl)) (ty := (.object "java/lang/String")) (by decide) rfl rfl (g := (mkF m 27 #[.val (.ref a1), .val (.ref a2)] [(.ref a2), (.ref a1)])) rfl rfl (hb hby d15_27)
  have Z165 : n0 ≤ h165.size := Nat.le_trans Z0 (Nat.le_of_eq W165.size.symm)
  have M165 := Fr.snoc X165 M164 g1
  have KP165 : Keep h0 h165 [a1] := (Keep.refl h0 [a1]).wr W165 (Or.inl (List.mem_of_getElem? (i := 0) rfl))
  have F165_Fl := Fl.same W165
  refine Go.by (g' := (mkF m 30 #[.val (.ref a1), .val (.ref a2)] [])) st165 ?_
  refine Go.by (g' := (mkF m 31 #[.val (.ref a1), .val (.ref a2)] [(.ref a1)])) (fun _ k => XS.aloadN X165.here hx rfl (hb hby d15_30) rfl rfl k) ?_
  obtain ⟨T166, h166, X166, e166, E166, A166, D166, -, st166⟩ := newO X165 hx hZ hown (hw _ (List.mem_of_getElem? (i := 115) rfl)) (hw _ (List.mem_of_getElem? (i := 45) rfl)) (hw _ (List.mem_of_getElem? (i := 46) rfl)) e165 (g := (mkF m 31 #[.val (.ref a1), .val (.ref a2)] [(.ref a1)])) rfl (hb hby d15_31) (by decide) (by decide)
  obtain ⟨li, g166⟩ : ∃ z, z = h165.size := ⟨_, rfl⟩
  rw [← g166] at A166 D166 st166
  have f167_Ef := (Ef.wr W165)
  have ne_a1_li : a1 ≠ li := Nat.ne_of_lt (by rw [g166]; exact f167_Ef.lt)
  have ge_li : n0 ≤ li := Nat.le_trans Z165 (Nat.le_of_eq g166.symm)
  have sz_li : h0.size ≤ li := Nat.le_trans KP165.1 (Nat.le_of_eq g166.symm)
  have Z166 : n0 ≤ h166.size := Nat.le_trans Z165 E166.1
  have KP166 : Keep h0 h166 [a1] := KP165.ext E166
  refine Go.by (g' := (mkF m 34 #[.val (.ref a1), .val (.ref a2)] [(.ref li), (.ref a1)])) st166 ?_
  have Lm_li : Fld Z h166 li "java/util/AbstractList" "modCount" "I" (.int 0) := (D166 (Or.inl (hw _ (List.mem_of_getElem? (i := 64) rfl))) (ty := .int) (by decide))
  have Le_li : Fld Z h166 li "java/util/ArrayList" "elementData" "[Ljava/lang/Object;" .null := (D166 (Or.inl (hw _ (List.mem_of_getElem? (i := 67) rfl))) (ty := (.array (.object "java/lang/Object"))) (by decide))
  have Lz_li : Fld Z h166 li "java/util/ArrayList" "size" "I" (.int 0) := (D166 (Or.inl (hw _ (List.mem_of_getElem? (i := 96) rfl))) (ty := .int) (by decide))
  refine Go.by (g' := (mkF m 35 #[.val (.ref a1), .val (.ref a2)] [(.ref li), (.ref li), (.ref a1)])) (fun _ k => XS.dup X166.here hx rfl (hb hby d15_34) rfl rfl k) ?_
  have f168_OL := ((OL.wr W165 g1).ext E166)
  refine Go.callI X166 hx hZ (y := (⟨"java/util/ArrayList", "<init>", "()V"⟩ : MethodName)) rfl hown (hw _ (List.mem_of_getElem? (i := 116) rfl)) (hw _ (List.mem_of_getElem? (i := 48) rfl)) (hw _ (List.mem_of_getElem? (i := 46) rfl)) (hw _ (List.mem_of_getElem? (i := 49) rfl)) (by decide) (W := 2) (a := li) (argsL := []) (rest := [(.ref li), (.ref a1)]) (rm6 l Z a0 hw li h166 n0 aD (.int 0) .null A166 Lm_li Le_li Lz_li ge_li f168_OL SD) (by decide) (by decide) (by decide) (by decide) (g := (mkF m 35 #[.val (.ref a1), .val (.ref a2)] [(.ref li), (.ref li), (.ref a1)])) rfl (by rw [hml]; rfl) (lenOf pd_6 rfl) rfl (by show 2 * 0 + _ ≤ _; exact Nat.le_of_eq rfl) (hb hby d15_35) e166 ?_
  rintro T169 L169 _ X169 ⟨rfl, N169, K169, Em_li⟩
  have M169 := Fr.app M165 N169
  have Z169 : n0 ≤ T169.heap.size := Nat.le_trans Z166 K169.1
  have KP169 : Keep h0 T169.heap [a1] := KP166.trans K169 (allS (Or.inr sz_li) all0)
  show Go p e below _ _ T169 (mkF m 38 #[.val (.ref a1), .val (.ref a2)] [(.ref li), (.ref a1)])
  have f170_Fi := (((Fi.other W165 (Or.inr (slot_ne (Or.inl (hw _ (List.mem_of_getElem? (i := 139) rfl))) (Or.inl (hw _ (List.mem_of_getElem? (i := 137) rfl))) (by decide) (t := (.object "java/util/List")) (t' := (.object "java/lang/String")) (by decide) (by decide)))).ext E166).keep K169 (ninS ne_a1_li nin0))
  have f171_Ef := ((f167_Ef.ext E166).keep K169)
  obtain ⟨T172, h172, X172, e172, W172, st172⟩ := putF X169 hx hZ hown (host := "") (Or.inl (hw _ (List.mem_of_getElem? (i := 138) rfl))) Via.refl rfl f170_Fi f171_Ef (Or.inl (hw _ (List.mem_of_getElem? (i := 139) rfl))) (hw _ (List.mem_of_getElem? (i := 108) rfl)) (ty := (.object "java/util/List")) (by decide) rfl rfl (g := (mkF m 38 #[.val (.ref a1), .val (.ref a2)] [(.ref li), (.ref a1)])) rfl rfl (hb hby d15_38)
  have Z172 : n0 ≤ h172.size := Nat.le_trans Z169 (Nat.le_of_eq W172.size.symm)
  have M172 := Fr.snoc X172 M169 g1
  have KP172 : Keep h0 h172 [a1] := KP169.wr W172 (Or.inl (List.mem_of_getElem? (i := 0) rfl))
  have F172_Fi := f170_Fi.same W172
  refine Go.by (g' := (mkF m 41 #[.val (.ref a1), .val (.ref a2)] [])) st172 ?_
  have f173_Fl := (((F165_Fl.ext E166).keep K169 (ninS ne_a1_li nin0)).other W172 (Or.inr (slot_ne (Or.inl (hw _ (List.mem_of_getElem? (i := 137) rfl))) (Or.inl (hw _ (List.mem_of_getElem? (i := 139) rfl))) (by decide) (t := (.object "java/lang/String")) (t' := (.object "java/util/List")) (by decide) (by decide))))
  have f174_Fb := ((((Fb.other W165 (Or.inr (slot_ne (Or.inr (hw _ (List.mem_of_getElem? (i := 120) rfl))) (Or.inl (hw _ (List.mem_of_getElem? (i := 137) rfl))) (by decide) (t := (.object "java/util/List")) (t' := (.object "java/lang/String")) (by decide) (by decide)))).ext E166).keep K169 (ninS ne_a1_li nin0)).other W172 (Or.inr (slot_ne (Or.inr (hw _ (List.mem_of_getElem? (i := 120) rfl))) (Or.inl (hw _ (List.mem_of_getElem? (i := 139) rfl))) (by decide) (t := (.object "java/util/List")) (t' := (.object "java/util/List")) (by decide) (by decide))))
  have f175_Em_li := (Em_li.keep (Keep.of_wr W172) (ninS (Ne.symm ne_a1_li) nin0))
  exact Go.outN X172 hx hret (Lv.narrow X172 hlk (by decide) (by decide)) (hb hby d15_41) (by rw [e172]; exact ⟨li, rfl, M172, KP172, sz_li, f173_Fl, F172_Fi, f174_Fb, f175_Em_li⟩)
theorem ef_26 (a1 : Addr) (a2 : Addr) (a3 : Addr) (m : MethodId) : entryFrame m #[(.ref a1), (.ref a2), (.ref a3)] 3 = mkF m 0 #[.val (.ref a1), .val (.ref a2), .val (.ref a3)] [] := by first | (simp [entryFrame, mkF, argsToLocals, Value.category]; done) | rfl
set_option maxRecDepth 65536 in
set_option maxHeartbeats 40000000 in
theorem rm26 (l : Launch) (Z : State) (a0 : Array Value) (hw : ∀ d ∈ tables_1, d.before a0 Z = true) (a1 : Addr) (a2 : Addr) (a3 : Addr) (h0 : Heap) (n0 : Nat) (Z0 : n0 ≤ h0.size) (u1 u2 : Value) (ed : Addr) (k : ClassId) (xs : List Addr) (aM mr : Addr) (Ea : Exa Z h0 a1 "com/example/sorrel/sorrel/middle/ir/Block") (F1 : Fld Z h0 a1 "com/example/sorrel/sorrel/middle/ir/Block" "label" "Ljava/lang/String;" u1) (F2 : Fld Z h0 a1 "com/example/sorrel/sorrel/middle/ir/Block" "instructions" "Ljava/util/List;" u2) (g1 : n0 ≤ a1) (Fu : Ful Z h0 a3 ed k xs) (hl1 : 1 ≤ xs.length) (hl3 : xs.length ≤ 3) (hel : ∀ x ∈ xs, El Z a0 h0 x) (OL : Old Z n0 h0) (SEM : Sta Z Z.heap "java/util/ImmutableCollections" "EMPTY" "Ljava/lang/Object;" (.ref aM)) (MM : MirM Z "[Ljava/lang/Object;" mr) :
    Ctr l Z (⟨"com/example/sorrel/sorrel/middle/ir/Block", "<init>", "(Ljava/lang/String;Ljava/util/List;)V"⟩ : MethodName) prog_108_method_1_code 3 none ({ frames := 9, cells := 3, slots := 15, locals := 142 } : Room) #[(.ref a1), (.ref a2), (.ref a3)] h0 (fun v h L => v = none ∧ Fr n0 L ∧ Keep h0 h [a1]) := by
  refine Ctr.of pf_26 (ef_26 a1 a2 a3) ?_
  intro p e s m below meth c T0 hx hby hml hret hlk hnm hZ hown e0 X0
  refine Go.by (g' := (mkF m 1 #[.val (.ref a1), .val (.ref a2), .val (.ref a3)] [(.ref a1)])) (fun _ k => XS.aloadN X0.here hx rfl (hb hby d26_0) rfl rfl k) ?_
  refine Go.callI X0 hx hZ (y := (⟨"java/lang/Record", "<init>", "()V"⟩ : MethodName)) rfl hown (hw _ (List.mem_of_getElem? (i := 203) rfl)) (hw _ (List.mem_of_getElem? (i := 22) rfl)) (hw _ (List.mem_of_getElem? (i := 24) rfl)) (hw _ (List.mem_of_getElem? (i := 25) rfl)) (by decide) (W := 0) (a := a1) (argsL := []) (rest := []) (rm3 l Z a0 hw a1 h0 n0) (by decide) (by decide) (by decide) (by decide) (g := (mkF m 1 #[.val (.ref a1), .val (.ref a2), .val (.ref a3)] [(.ref a1)])) rfl (by rw [hml]; rfl) (lenOf pd_3 rfl) rfl (by show 2 * 0 + _ ≤ _; exact Nat.le_of_eq rfl) (hb hby d26_1) e0 ?_
  rintro T176 L176 _ X176 ⟨rfl, N176, q176⟩
  have M176 := Fr.app (Fr.nil n0) N176
  show Go p e below _ _ T176 (mkF m 4 #[.val (.ref a1), .val (.ref a2), .val (.ref a3)] [])
  refine Go.by (g' := (mkF m 5 #[.val (.ref a1), .val (.ref a2), .val (.ref a3)] [(.ref a3)])) (fun _ k => XS.aloadN X176.here hx rfl (hb hby d26_4) rfl rfl k) ?_
  refine Go.callS X176 hx hZ (y := (⟨"java/util/List", "copyOf", "(Ljava/util/Collection;)Ljava/util/List;"⟩ : MethodName)) hown (hw _ (List.mem_of_getElem? (i := 204) rfl)) (hw _ (List.mem_of_getElem? (i := 73) rfl)) (hw _ (List.mem_of_getElem? (i := 74) rfl)) (hw _ (List.mem_of_getElem? (i := 75) rfl)) (by decide) (W := 0) (argsL := [(.ref a3)]) (rest := []) (rm10F l Z a0 hw a3 h0 n0 Z0 ed k xs aM mr Fu hl1 hl3 hel OL SEM MM) (by decide) (by decide) (by decide) (by decide) (g := (mkF m 5 #[.val (.ref a1), .val (.ref a2), .val (.ref a3)] [(.ref a3)])) rfl (by rw [hml]; rfl) (lenOf pd_10 rfl) rfl (by show 2 * 0 + _ ≤ _; exact Nat.le_of_eq rfl) (hb hby d26_5) q176 ?_
  rintro T177 L177 _ X177 ⟨y, rfl, N177, K177⟩
  have M177 := Fr.app M176 N177
  have Z177 : n0 ≤ T177.heap.size := Nat.le_trans Z0 K177.1
  have KP177 : Keep h0 T177.heap [a1] := (Keep.refl h0 [a1]).trans K177 all0
  show Go p e below _ _ T177 (mkF m 8 #[.val (.ref a1), .val (.ref a2), .val (.ref a3)] [(.ref y)])
  refine Go.by (g' := (mkF m 9 #[.val (.ref a1), .val (.ref a2), .val (.ref y)] [])) (fun _ k => XS.astoreN X177.here hx rfl (hb hby d26_8) rfl rfl (l' := #[.val (.ref a1), .val (.ref a2), .val (.ref y)]) rfl k) ?_
  refine Go.by (g' := (mkF m 10 #[.val (.ref a1), .val (.ref a2), .val (.ref y)] [(.ref a1)])) (fun _ k => XS.aloadN X177.here hx rfl (hb hby d26_9) rfl rfl k) ?_
  refine Go.by (g' := (mkF m 11 #[.val (.ref a1), .val (.ref a2), .val (.ref y)] [(.ref a2), (.ref a1)])) (fun _ k => XS.aloadN X177.here hx rfl (hb hby d26_10) rfl rfl k) ?_
  have f178_F1 := (F1.keep K177 nin0)
  have f179_Ea := (Ea.keep K177)
  obtain ⟨T180, h180, X180, e180, W180, st180⟩ := putF X177 hx hZ hown (host := "") (Or.inl (hw _ (List.mem_of_getElem? (i := 267) rfl))) Via.refl rfl f178_F1 f179_Ea (Or.inr ⟨(hw _ (List.mem_of_getElem? (i := 268) rfl)), rfl, hnm⟩) (hw _ (List.mem_of_getElem? (i := 198) rfl)) (ty := (.object "java/lang/String")) (by decide) rfl rfl (g := (mkF m 11 #[.val (.ref a1), .val (.ref a2), .val (.ref y)] [(.ref a2), (.ref a1)])) rfl rfl (hb hby d26_11)
  have Z180 : n0 ≤ h180.size := Nat.le_trans Z177 (Nat.le_of_eq W180.size.symm)
  have M180 := Fr.snoc X180 M177 g1
  have KP180 : Keep h0 h180 [a1] := KP177.wr W180 (Or.inl (List.mem_of_getElem? (i := 0) rfl))
  have F180_F1 := f178_F1.same W180
  refine Go.by (g' := (mkF m 14 #[.val (.ref a1), .val (.ref a2), .val (.ref y)] [])) st180 ?_
  refine Go.by (g' := (mkF m 15 #[.val (.ref a1), .val (.ref a2), .val (.ref y)] [(.ref a1)])) (fun _ k => XS.aloadN X180.here hx rfl (hb hby d26_14) rfl rfl k) ?_
  refine Go.by (g' := (mkF m 16 #[.val (.ref a1), .val (.ref a2), .val (.ref y)] [(.ref y), (.ref a1)])) (fun _ k => XS.aloadN X180.here hx rfl (hb hby d26_15) rfl rfl k) ?_
  have f181_F2 := ((F2.keep K177 nin0).other W180 (Or.inr (slot_ne (Or.inr (hw _ (List.mem_of_getElem? (i := 270) rfl))) (Or.inr (hw _ (List.mem_of_getElem? (i := 268) rfl))) (by decide) (t := (.object "java/util/List")) (t' := (.object "java/lang/String")) (by decide) (by decide))))
  have f182_Ea := (f179_Ea.wr W180)
  obtain ⟨T183, h183, X183, e183, W183, st183⟩ := putF X180 hx hZ hown (host := "") (Or.inl (hw _ (List.mem_of_getElem? (i := 269) rfl))) Via.refl e180 f181_F2 f182_Ea (Or.inr ⟨(hw _ (List.mem_of_getElem? (i := 270) rfl)), rfl, hnm⟩) (hw _ (List.mem_of_getElem? (i := 198) rfl)) (ty := (.object "java/util/List")) (by decide) rfl rfl (g := (mkF m 16 #[.val (.ref a1), .val (.ref a2), .val (.ref y)] [(.ref y), (.ref a1)])) rfl rfl (hb hby d26_16)
  have Z183 : n0 ≤ h183.size := Nat.le_trans Z180 (Nat.le_of_eq W183.size.symm)
  have M183 := Fr.snoc X183 M180 g1
  have KP183 : Keep h0 h183 [a1] := KP180.wr W183 (Or.inl (List.mem_of_getElem? (i := 0) rfl))
  have F183_F2 := f181_F2.same W183
  refine Go.by (g' := (mkF m 19 #[.val (.ref a1), .val (.ref a2), .val (.ref y)] [])) st183 ?_
  exact Go.outN X183 hx hret (Lv.narrow X183 hlk (by decide) (by decide)) (hb hby d26_19) (by rw [e183]; exact ⟨rfl, M183, KP183⟩)
theorem ef_18C (a1 : Addr) (a2 : Addr) (m : MethodId) : entryFrame m #[(.ref a1), (.ref a2)] 2 = mkF m 0 #[.val (.ref a1), .val (.ref a2)] [] := by first | (simp [entryFrame, mkF, argsToLocals, Value.category]; done) | rfl
set_option maxRecDepth 65536 in
set_option maxHeartbeats 40000000 in
theorem rm18C (l : Launch) (Z : State) (a0 : Array Value) (hw : ∀ d ∈ tables_1, d.before a0 Z = true) (a1 : Addr) (a2 : Addr) (h0 : Heap) (n0 : Nat) (Z0 : n0 ≤ h0.size) (aD : Addr) (kD : ClassId) (aM aL mr : Addr) (lab : Addr) (nb ni : Nat) (FBH : FB_ Z a0 h0 n0 aD a1 (.ref lab) nb ni) (hnb : nb ≤ 8) (hni : ni ≤ 2) (g1 : n0 ≤ a1) (E2 : Exa Z h0 a2 "com/example/sorrel/sorrel/middle/ir/Instruction$Call") (OL : Old Z n0 h0) (SD : Sta Z Z.heap "java/util/ArrayList" "DEFAULTCAPACITY_EMPTY_ELEMENTDATA" "[Ljava/lang/Object;" (.ref aD)) (AD : Arv Z Z.heap aD kD OA 0 [] .null) (SEM : Sta Z Z.heap "java/util/ImmutableCollections" "EMPTY" "Ljava/lang/Object;" (.ref aM)) (SEL : Sta Z Z.heap "java/util/ImmutableCollections" "EMPTY_LIST" "Ljava/util/ImmutableCollections$ListN;" (.ref aL)) (MM : MirM Z "[Ljava/lang/Object;" mr) :
    Ctr l Z (⟨"com/example/sorrel/sorrel/middle/ir/FunctionBuilder", "add", "(Lcom/example/sorrel/sorrel/middle/ir/Instruction;)V"⟩ : MethodName) prog_113_method_6_code 2 none ({ frames := 10, cells := 6, slots := 40, locals := 165 } : Room) #[(.ref a1), (.ref a2)] h0 (fun v h L => v = none ∧ Fr n0 L ∧ Kp n0 h0 h ∧ FB_ Z a0 h n0 aD a1 (.ref lab) nb (ni + 1)) := by
  refine Ctr.of pf_18 (ef_18C a1 a2) ?_
  intro p e s m below meth c T0 hx hby hml hret hlk hnm hZ hown e0 X0
  obtain ⟨lb, eb, li, ei, kb, ki, xb, xi, Ef, Fl, Fb, Fi, Lb, Li, ⟨glb, geb, gli, gei⟩, ⟨n1, n2, n3, n4, n5, n6, n7, n8⟩, hxb, hxi, hel⟩ := FBH
  refine Go.by (g' := (mkF m 1 #[.val (.ref a1), .val (.ref a2)] [(.ref a1)])) (fun _ k => XS.aloadN X0.here hx rfl (hb hby d18_0) rfl rfl k) ?_
  refine Go.callV X0 hx hZ (y := (⟨"com/example/sorrel/sorrel/middle/ir/FunctionBuilder", "isOpen", "()Z"⟩ : MethodName)) (z := (⟨"com/example/sorrel/sorrel/middle/ir/FunctionBuilder", "isOpen", "()Z"⟩ : MethodName)) hown (hw _ (List.mem_of_getElem? (i := 131) rfl)) (hw _ (List.mem_of_getElem? (i := 132) rfl)) (notFace_of_selects (args := #[]) (mvT hZ (hw _ (List.mem_of_getElem? (i := 134) rfl)))) (hw _ (List.mem_of_getElem? (i := 134) rfl)) (hw _ (List.mem_of_getElem? (i := 133) rfl)) (hw _ (List.mem_of_getElem? (i := 109) rfl)) (hw _ (List.mem_of_getElem? (i := 135) rfl)) (by decide) (W := 0) (a := a1) (argsL := []) (rest := []) Ef (rm16R l Z a0 hw a1 h0 n0 lab Fl) (by decide) (by decide) (by decide) (by decide) (g := (mkF m 1 #[.val (.ref a1), .val (.ref a2)] [(.ref a1)])) rfl (by rw [hml]; rfl) (lenOf pd_16 rfl) rfl (by show 2 * 0 + _ ≤ _; exact Nat.le_of_eq rfl) (hb hby d18_1) e0 ?_
  rintro T184 L184 _ X184 ⟨rfl, N184, q184⟩
  have M184 := Fr.app (Fr.nil n0) N184
  show Go p e below _ _ T184 (mkF m 4 #[.val (.ref a1), .val (.ref a2)] [(.int (1 : Int32))])
  refine Go.by (g' := (mkF m 24 #[.val (.ref a1), .val (.ref a2)] [])) (fun _ k => XS.ifYes X184.here hx rfl (pc0 := 4) (pc' := 24) rfl (hb hby d18_4) rfl ((if0 _ _).trans (feq (by decide)).2) (by decide) (by decide) k) ?_
  refine Go.by (g' := (mkF m 25 #[.val (.ref a1), .val (.ref a2)] [(.ref a1)])) (fun _ k => XS.aloadN X184.here hx rfl (hb hby d18_24) rfl rfl k) ?_
  obtain ⟨T185, X185, e185, st185⟩ := getF X184 hx hZ hown (host := "") (Or.inl (hw _ (List.mem_of_getElem? (i := 138) rfl))) Via.refl q184 Fi (g := (mkF m 25 #[.val (.ref a1), .val (.ref a2)] [(.ref a1)])) rfl rfl (hb hby d18_25)
  refine Go.by (g' := (mkF m 28 #[.val (.ref a1), .val (.ref a2)] [(.ref li)])) st185 ?_
  refine Go.by (g' := (mkF m 29 #[.val (.ref a1), .val (.ref a2)] [(.ref a2), (.ref li)])) (fun _ k => XS.aloadN X185.here hx rfl (hb hby d18_28) rfl rfl k) ?_
  refine Go.callF X185 hx hZ (y := (⟨"java/util/List", "add", "(Ljava/lang/Object;)Z"⟩ : MethodName)) (z := (⟨"java/util/ArrayList", "add", "(Ljava/lang/Object;)Z"⟩ : MethodName)) hown (hw _ (List.mem_of_getElem? (i := 149) rfl)) (hw _ (List.mem_of_getElem? (i := 150) rfl)) (mvT hZ (hw _ (List.mem_of_getElem? (i := 151) rfl))) (hw _ (List.mem_of_getElem? (i := 152) rfl)) (hw _ (List.mem_of_getElem? (i := 153) rfl)) (hw _ (List.mem_of_getElem? (i := 154) rfl)) (hw _ (List.mem_of_getElem? (i := 155) rfl)) (hw _ (List.mem_of_getElem? (i := 156) rfl)) (hw _ (List.mem_of_getElem? (i := 46) rfl)) (hw _ (List.mem_of_getElem? (i := 157) rfl)) (by decide) (W := 0) (a := li) (argsL := [(.ref a2)]) (rest := []) Li.exa (rmAdd l Z a0 hw li a2 h0 n0 Z0 aD kD ei ki xi "com/example/sorrel/sorrel/middle/ir/Instruction$Call" Li (by omega) gli gei OL SD AD E2 (hw _ (List.mem_of_getElem? (i := 181) rfl))) (by decide) (by decide) (by decide) (by decide) (g := (mkF m 29 #[.val (.ref a1), .val (.ref a2)] [(.ref a2), (.ref li)])) rfl (by rw [hml]; rfl) (lenOf pd_19 rfl) rfl (by show 2 * 0 + _ ≤ _; exact Nat.le_of_eq rfl) (hb hby d18_29) e185 ?_
  rintro T186 L186 _ X186 ⟨ei2, ki2, rfl, N186, K186, gei2, hor, Fu2⟩
  have M186 := Fr.app M184 N186
  have Z186 : n0 ≤ T186.heap.size := Nat.le_trans Z0 K186.1
  show Go p e below _ _ T186 (mkF m 34 #[.val (.ref a1), .val (.ref a2)] [(.int (1 : Int32))])
  have ne_lb_ei2 : lb ≠ ei2 := by
    rcases hor with q | q
    · rw [q]; exact n2
    · exact Nat.ne_of_lt (Nat.lt_of_lt_of_le Lb.lt q)
  have ne_eb_ei2 : eb ≠ ei2 := by
    rcases hor with q | q
    · rw [q]; exact n4
    · exact Nat.ne_of_lt (Nat.lt_of_lt_of_le Lb.lte q)
  have ne_a1_ei2 : a1 ≠ ei2 := by
    rcases hor with q | q
    · rw [q]; exact n8
    · exact Nat.ne_of_lt (Nat.lt_of_lt_of_le Ef.lt q)
  refine Go.by (g' := (mkF m 35 #[.val (.ref a1), .val (.ref a2)] [])) (fun _ k => XS.pop X186.here hx rfl (hb hby d18_34) rfl rfl k) ?_
  refine Go.by (g' := (mkF m 36 #[.val (.ref a1), .val (.ref a2)] [(.ref a2)])) (fun _ k => XS.aloadN X186.here hx rfl (hb hby d18_35) rfl rfl k) ?_
  have f187_E2 := (E2.keep K186)
  refine Go.callD0 X186 hx hZ (y := (⟨"com/example/sorrel/sorrel/middle/ir/Instruction", "endsBlock", "()Z"⟩ : MethodName)) (z := (⟨"com/example/sorrel/sorrel/middle/ir/Instruction", "endsBlock", "()Z"⟩ : MethodName)) hown (hw _ (List.mem_of_getElem? (i := 182) rfl)) (hw _ (List.mem_of_getElem? (i := 183) rfl)) (mvT hZ (hw _ (List.mem_of_getElem? (i := 184) rfl))) (hw _ (List.mem_of_getElem? (i := 185) rfl)) (hw _ (List.mem_of_getElem? (i := 186) rfl)) (hw _ (List.mem_of_getElem? (i := 187) rfl)) (hw _ (List.mem_of_getElem? (i := 188) rfl)) (hw _ (List.mem_of_getElem? (i := 189) rfl)) pf_24 d24_0 d24_1 (by decide) (W := 0) (a := a2) (rest := []) f187_E2 (by decide) (by decide) (g := (mkF m 36 #[.val (.ref a1), .val (.ref a2)] [(.ref a2)])) rfl (by rw [hml]; rfl) (lenOf pd_24 rfl) rfl (by show 2 * 0 + _ ≤ _; exact Nat.le_of_eq rfl) (hb hby d18_36) rfl ?_
  intro T188 X188 e188
  show Go p e below _ _ T188 (mkF m 41 #[.val (.ref a1), .val (.ref a2)] [(.int (0 : Int32))])
  refine Go.by (g' := (mkF m 74 #[.val (.ref a1), .val (.ref a2)] [])) (fun _ k => XS.ifYes X188.here hx rfl (pc0 := 41) (pc' := 74) rfl (hb hby d18_41) rfl ((if0 _ _).trans (teq rfl).1) (by decide) (by decide) k) ?_
  have f189_hel := (fun x hx => (hel x hx).keep K186)
  have hel2 := els_app f189_hel (⟨_, f187_E2, (hw _ (List.mem_of_getElem? (i := 181) rfl))⟩ : El Z a0 _ a2)
  have f190_Ef := (Ef.keep K186)
  have f191_Fl := (Fl.keep K186 (ninS n7 (ninS n8 nin0)))
  have f192_Fb := (Fb.keep K186 (ninS n7 (ninS n8 nin0)))
  have f193_Fi := (Fi.keep K186 (ninS n7 (ninS n8 nin0)))
  have f194_Lb := (Lb.keep K186 (ninS n1 (ninS n2 nin0)) (ninS n3 (ninS n4 nin0)))
  exact Go.outN X188 hx hret (Lv.narrow X188 hlk (by decide) (by decide)) (hb hby d18_74) (by rw [e188]; exact ⟨rfl, M186, (Kp.of_keep K186 (allS gli (allS gei all0))), lb, eb, li, ei2, kb, ki2, xb, xi ++ [a2], f190_Ef, f191_Fl, f192_Fb, f193_Fi, f194_Lb, Or.inr Fu2, ⟨glb, geb, gli, gei2⟩, ⟨n1, ne_lb_ei2, n3, ne_eb_ei2, n5, n6, n7, ne_a1_ei2⟩, hxb, by rw [List.length_append]; show xi.length + 1 ≤ _; omega, hel2⟩)
theorem ef_18J (a1 : Addr) (a2 : Addr) (m : MethodId) : entryFrame m #[(.ref a1), (.ref a2)] 2 = mkF m 0 #[.val (.ref a1), .val (.ref a2)] [] := by first | (simp [entryFrame, mkF, argsToLocals, Value.category]; done) | rfl
set_option maxRecDepth 65536 in
set_option maxHeartbeats 40000000 in
theorem rm18J (l : Launch) (Z : State) (a0 : Array Value) (hw : ∀ d ∈ tables_1, d.before a0 Z = true) (a1 : Addr) (a2 : Addr) (h0 : Heap) (n0 : Nat) (Z0 : n0 ≤ h0.size) (aD : Addr) (kD : ClassId) (aM aL mr : Addr) (lab : Addr) (nb ni : Nat) (FBH : FB_ Z a0 h0 n0 aD a1 (.ref lab) nb ni) (hnb : nb ≤ 8) (hni : ni ≤ 2) (g1 : n0 ≤ a1) (E2 : Exa Z h0 a2 "com/example/sorrel/sorrel/middle/ir/Instruction$Jump") (OL : Old Z n0 h0) (SD : Sta Z Z.heap "java/util/ArrayList" "DEFAULTCAPACITY_EMPTY_ELEMENTDATA" "[Ljava/lang/Object;" (.ref aD)) (AD : Arv Z Z.heap aD kD OA 0 [] .null) (SEM : Sta Z Z.heap "java/util/ImmutableCollections" "EMPTY" "Ljava/lang/Object;" (.ref aM)) (SEL : Sta Z Z.heap "java/util/ImmutableCollections" "EMPTY_LIST" "Ljava/util/ImmutableCollections$ListN;" (.ref aL)) (MM : MirM Z "[Ljava/lang/Object;" mr) :
    Ctr l Z (⟨"com/example/sorrel/sorrel/middle/ir/FunctionBuilder", "add", "(Lcom/example/sorrel/sorrel/middle/ir/Instruction;)V"⟩ : MethodName) prog_113_method_6_code 2 none ({ frames := 10, cells := 6, slots := 40, locals := 165 } : Room) #[(.ref a1), (.ref a2)] h0 (fun v h L => v = none ∧ Fr n0 L ∧ Kp n0 h0 h ∧ FB_ Z a0 h n0 aD a1 .null (nb + 1) (ni + 1)) := by
  refine Ctr.of pf_18 (ef_18J a1 a2) ?_
  intro p e s m below meth c T0 hx hby hml hret hlk hnm hZ hown e0 X0
  obtain ⟨lb, eb, li, ei, kb, ki, xb, xi, Ef, Fl, Fb, Fi, Lb, Li, ⟨glb, geb, gli, gei⟩, ⟨n1, n2, n3, n4, n5, n6, n7, n8⟩, hxb, hxi, hel⟩ := FBH
  refine Go.by (g' := (mkF m 1 #[.val (.ref a1), .val (.ref a2)] [(.ref a1)])) (fun _ k => XS.aloadN X0.here hx rfl (hb hby d18_0) rfl rfl k) ?_
  refine Go.callV X0 hx hZ (y := (⟨"com/example/sorrel/sorrel/middle/ir/FunctionBuilder", "isOpen", "()Z"⟩ : MethodName)) (z := (⟨"com/example/sorrel/sorrel/middle/ir/FunctionBuilder", "isOpen", "()Z"⟩ : MethodName)) hown (hw _ (List.mem_of_getElem? (i := 131) rfl)) (hw _ (List.mem_of_getElem? (i := 132) rfl)) (notFace_of_selects (args := #[]) (mvT hZ (hw _ (List.mem_of_getElem? (i := 134) rfl)))) (hw _ (List.mem_of_getElem? (i := 134) rfl)) (hw _ (List.mem_of_getElem? (i := 133) rfl)) (hw _ (List.mem_of_getElem? (i := 109) rfl)) (hw _ (List.mem_of_getElem? (i := 135) rfl)) (by decide) (W := 0) (a := a1) (argsL := []) (rest := []) Ef (rm16R l Z a0 hw a1 h0 n0 lab Fl) (by decide) (by decide) (by decide) (by decide) (g := (mkF m 1 #[.val (.ref a1), .val (.ref a2)] [(.ref a1)])) rfl (by rw [hml]; rfl) (lenOf pd_16 rfl) rfl (by show 2 * 0 + _ ≤ _; exact Nat.le_of_eq rfl) (hb hby d18_1) e0 ?_
  rintro T195 L195 _ X195 ⟨rfl, N195, q195⟩
  have M195 := Fr.app (Fr.nil n0) N195
  show Go p e below _ _ T195 (mkF m 4 #[.val (.ref a1), .val (.ref a2)] [(.int (1 : Int32))])
  refine Go.by (g' := (mkF m 24 #[.val (.ref a1), .val (.ref a2)] [])) (fun _ k => XS.ifYes X195.here hx rfl (pc0 := 4) (pc' := 24) rfl (hb hby d18_4) rfl ((if0 _ _).trans (feq (by decide)).2) (by decide) (by decide) k) ?_
  refine Go.by (g' := (mkF m 25 #[.val (.ref a1), .val (.ref a2)] [(.ref a1)])) (fun _ k => XS.aloadN X195.here hx rfl (hb hby d18_24) rfl rfl k) ?_
  obtain ⟨T196, X196, e196, st196⟩ := getF X195 hx hZ hown (host := "") (Or.inl (hw _ (List.mem_of_getElem? (i := 138) rfl))) Via.refl q195 Fi (g := (mkF m 25 #[.val (.ref a1), .val (.ref a2)] [(.ref a1)])) rfl rfl (hb hby d18_25)
  refine Go.by (g' := (mkF m 28 #[.val (.ref a1), .val (.ref a2)] [(.ref li)])) st196 ?_
  refine Go.by (g' := (mkF m 29 #[.val (.ref a1), .val (.ref a2)] [(.ref a2), (.ref li)])) (fun _ k => XS.aloadN X196.here hx rfl (hb hby d18_28) rfl rfl k) ?_
  refine Go.callF X196 hx hZ (y := (⟨"java/util/List", "add", "(Ljava/lang/Object;)Z"⟩ : MethodName)) (z := (⟨"java/util/ArrayList", "add", "(Ljava/lang/Object;)Z"⟩ : MethodName)) hown (hw _ (List.mem_of_getElem? (i := 149) rfl)) (hw _ (List.mem_of_getElem? (i := 150) rfl)) (mvT hZ (hw _ (List.mem_of_getElem? (i := 151) rfl))) (hw _ (List.mem_of_getElem? (i := 152) rfl)) (hw _ (List.mem_of_getElem? (i := 153) rfl)) (hw _ (List.mem_of_getElem? (i := 154) rfl)) (hw _ (List.mem_of_getElem? (i := 155) rfl)) (hw _ (List.mem_of_getElem? (i := 156) rfl)) (hw _ (List.mem_of_getElem? (i := 46) rfl)) (hw _ (List.mem_of_getElem? (i := 157) rfl)) (by decide) (W := 0) (a := li) (argsL := [(.ref a2)]) (rest := []) Li.exa (rmAdd l Z a0 hw li a2 h0 n0 Z0 aD kD ei ki xi "com/example/sorrel/sorrel/middle/ir/Instruction$Jump" Li (by omega) gli gei OL SD AD E2 (hw _ (List.mem_of_getElem? (i := 279) rfl))) (by decide) (by decide) (by decide) (by decide) (g := (mkF m 29 #[.val (.ref a1), .val (.ref a2)] [(.ref a2), (.ref li)])) rfl (by rw [hml]; rfl) (lenOf pd_19 rfl) rfl (by show 2 * 0 + _ ≤ _; exact Nat.le_of_eq rfl) (hb hby d18_29) e196 ?_
  rintro T197 L197 _ X197 ⟨ei2, ki2, rfl, N197, K197, gei2, hor, Fu2⟩
  have M197 := Fr.app M195 N197
  have Z197 : n0 ≤ T197.heap.size := Nat.le_trans Z0 K197.1
  show Go p e below _ _ T197 (mkF m 34 #[.val (.ref a1), .val (.ref a2)] [(.int (1 : Int32))])
  have ne_lb_ei2 : lb ≠ ei2 := by
    rcases hor with q | q
    · rw [q]; exact n2
    · exact Nat.ne_of_lt (Nat.lt_of_lt_of_le Lb.lt q)
  have ne_eb_ei2 : eb ≠ ei2 := by
    rcases hor with q | q
    · rw [q]; exact n4
    · exact Nat.ne_of_lt (Nat.lt_of_lt_of_le Lb.lte q)
  have ne_a1_ei2 : a1 ≠ ei2 := by
    rcases hor with q | q
    · rw [q]; exact n8
    · exact Nat.ne_of_lt (Nat.lt_of_lt_of_le Ef.lt q)
  refine Go.by (g' := (mkF m 35 #[.val (.ref a1), .val (.ref a2)] [])) (fun _ k => XS.pop X197.here hx rfl (hb hby d18_34) rfl rfl k) ?_
  refine Go.by (g' := (mkF m 36 #[.val (.ref a1), .val (.ref a2)] [(.ref a2)])) (fun _ k => XS.aloadN X197.here hx rfl (hb hby d18_35) rfl rfl k) ?_
  have f198_E2 := (E2.keep K197)
  refine Go.callF X197 hx hZ (y := (⟨"com/example/sorrel/sorrel/middle/ir/Instruction", "endsBlock", "()Z"⟩ : MethodName)) (z := (⟨"com/example/sorrel/sorrel/middle/ir/Instruction$Jump", "endsBlock", "()Z"⟩ : MethodName)) hown (hw _ (List.mem_of_getElem? (i := 182) rfl)) (hw _ (List.mem_of_getElem? (i := 183) rfl)) (mvT hZ (hw _ (List.mem_of_getElem? (i := 184) rfl))) (hw _ (List.mem_of_getElem? (i := 280) rfl)) (hw _ (List.mem_of_getElem? (i := 281) rfl)) (hw _ (List.mem_of_getElem? (i := 282) rfl)) (hw _ (List.mem_of_getElem? (i := 283) rfl)) (hw _ (List.mem_of_getElem? (i := 284) rfl)) (hw _ (List.mem_of_getElem? (i := 9) rfl)) (hw _ (List.mem_of_getElem? (i := 285) rfl)) (by decide) (W := 0) (a := a2) (argsL := []) (rest := []) f198_E2 (rm37 l Z a0 hw a2 T197.heap n0) (by decide) (by decide) (by decide) (by decide) (g := (mkF m 36 #[.val (.ref a1), .val (.ref a2)] [(.ref a2)])) rfl (by rw [hml]; rfl) (lenOf pd_37 rfl) rfl (by show 2 * 0 + _ ≤ _; exact Nat.le_of_eq rfl) (hb hby d18_36) rfl ?_
  rintro T199 L199 _ X199 ⟨rfl, N199, q199⟩
  have M199 := Fr.app M197 N199
  show Go p e below _ _ T199 (mkF m 41 #[.val (.ref a1), .val (.ref a2)] [(.int (1 : Int32))])
  refine Go.by (g' := (mkF m 44 #[.val (.ref a1), .val (.ref a2)] [])) (fun _ k => XS.ifNo X199.here hx rfl (hb hby d18_41) rfl ((if0 _ _).trans (feq (by decide)).1) k) ?_
  refine Go.by (g' := (mkF m 45 #[.val (.ref a1), .val (.ref a2)] [(.ref a1)])) (fun _ k => XS.aloadN X199.here hx rfl (hb hby d18_44) rfl rfl k) ?_
  have f200_Fb := (Fb.keep K197 (ninS n7 (ninS n8 nin0)))
  obtain ⟨T201, X201, e201, st201⟩ := getF X199 hx hZ hown (host := "") (Or.inl (hw _ (List.mem_of_getElem? (i := 119) rfl))) Via.refl q199 f200_Fb (g := (mkF m 45 #[.val (.ref a1), .val (.ref a2)] [(.ref a1)])) rfl rfl (hb hby d18_45)
  refine Go.by (g' := (mkF m 48 #[.val (.ref a1), .val (.ref a2)] [(.ref lb)])) st201 ?_
  obtain ⟨T202, h202, X202, e202, E202, A202, D202, -, st202⟩ := newO X201 hx hZ hown (hw _ (List.mem_of_getElem? (i := 197) rfl)) (hw _ (List.mem_of_getElem? (i := 198) rfl)) (hw _ (List.mem_of_getElem? (i := 199) rfl)) e201 (g := (mkF m 48 #[.val (.ref a1), .val (.ref a2)] [(.ref lb)])) rfl (hb hby d18_48) (by decide) (by decide)
  obtain ⟨bk, g202⟩ : ∃ z, z = T197.heap.size := ⟨_, rfl⟩
  rw [← g202] at A202 D202 st202
  have f203_Ef := (Ef.keep K197)
  have ne_a1_bk : a1 ≠ bk := Nat.ne_of_lt (by rw [g202]; exact f203_Ef.lt)
  have f204_Lb := (Lb.keep K197 (ninS n1 (ninS n2 nin0)) (ninS n3 (ninS n4 nin0)))
  have ne_lb_bk : lb ≠ bk := Nat.ne_of_lt (by rw [g202]; exact f204_Lb.lt)
  have ne_eb_bk : eb ≠ bk := Nat.ne_of_lt (by rw [g202]; exact f204_Lb.lte)
  have ne_li_bk : li ≠ bk := Nat.ne_of_lt (by rw [g202]; exact Fu2.lt)
  have ne_a2_bk : a2 ≠ bk := Nat.ne_of_lt (by rw [g202]; exact f198_E2.lt)
  have ne_ei2_bk : ei2 ≠ bk := Nat.ne_of_lt (by rw [g202]; exact Fu2.lte)
  have ge_bk : n0 ≤ bk := Nat.le_trans Z197 (Nat.le_of_eq g202.symm)
  have Z202 : n0 ≤ h202.size := Nat.le_trans Z197 E202.1
  refine Go.by (g' := (mkF m 51 #[.val (.ref a1), .val (.ref a2)] [(.ref bk), (.ref lb)])) st202 ?_
  have Klabel : Fld Z h202 bk "com/example/sorrel/sorrel/middle/ir/Block" "label" "Ljava/lang/String;" .null := (D202 (Or.inr (hw _ (List.mem_of_getElem? (i := 268) rfl))) (ty := (.object "java/lang/String")) (by decide))
  have Kinstructions : Fld Z h202 bk "com/example/sorrel/sorrel/middle/ir/Block" "instructions" "Ljava/util/List;" .null := (D202 (Or.inr (hw _ (List.mem_of_getElem? (i := 270) rfl))) (ty := (.object "java/util/List")) (by decide))
  refine Go.by (g' := (mkF m 52 #[.val (.ref a1), .val (.ref a2)] [(.ref bk), (.ref bk), (.ref lb)])) (fun _ k => XS.dup X202.here hx rfl (hb hby d18_51) rfl rfl k) ?_
  refine Go.by (g' := (mkF m 53 #[.val (.ref a1), .val (.ref a2)] [(.ref a1), (.ref bk), (.ref bk), (.ref lb)])) (fun _ k => XS.aloadN X202.here hx rfl (hb hby d18_52) rfl rfl k) ?_
  have f205_Fl := ((Fl.keep K197 (ninS n7 (ninS n8 nin0))).ext E202)
  obtain ⟨T206, X206, e206, st206⟩ := getF X202 hx hZ hown (host := "") (Or.inl (hw _ (List.mem_of_getElem? (i := 136) rfl))) Via.refl e202 f205_Fl (g := (mkF m 53 #[.val (.ref a1), .val (.ref a2)] [(.ref a1), (.ref bk), (.ref bk), (.ref lb)])) rfl rfl (hb hby d18_53)
  refine Go.by (g' := (mkF m 56 #[.val (.ref a1), .val (.ref a2)] [(.ref lab), (.ref bk), (.ref bk), (.ref lb)])) st206 ?_
  refine Go.by (g' := (mkF m 57 #[.val (.ref a1), .val (.ref a2)] [(.ref a1), (.ref lab), (.ref bk), (.ref bk), (.ref lb)])) (fun _ k => XS.aloadN X206.here hx rfl (hb hby d18_56) rfl rfl k) ?_
  have f207_Fi := ((Fi.keep K197 (ninS n7 (ninS n8 nin0))).ext E202)
  obtain ⟨T208, X208, e208, st208⟩ := getF X206 hx hZ hown (host := "") (Or.inl (hw _ (List.mem_of_getElem? (i := 138) rfl))) Via.refl e206 f207_Fi (g := (mkF m 57 #[.val (.ref a1), .val (.ref a2)] [(.ref a1), (.ref lab), (.ref bk), (.ref bk), (.ref lb)])) rfl rfl (hb hby d18_57)
  refine Go.by (g' := (mkF m 60 #[.val (.ref a1), .val (.ref a2)] [(.ref li), (.ref lab), (.ref bk), (.ref bk), (.ref lb)])) st208 ?_
  have f209_hel := (fun x hx => ((fun x hx => (hel x hx).keep K197) x hx).ext E202)
  have f210_E2 := (f198_E2.ext E202)
  have hel2 := els_app f209_hel (⟨_, f210_E2, (hw _ (List.mem_of_getElem? (i := 279) rfl))⟩ : El Z a0 _ a2)
  have f211_Fu2 := (Fu2.ext E202)
  have f212_OL := ((OL.keep K197 (allS gli (allS gei all0))).ext E202)
  refine Go.callI X208 hx hZ (y := (⟨"com/example/sorrel/sorrel/middle/ir/Block", "<init>", "(Ljava/lang/String;Ljava/util/List;)V"⟩ : MethodName)) rfl hown (hw _ (List.mem_of_getElem? (i := 200) rfl)) (hw _ (List.mem_of_getElem? (i := 201) rfl)) (hw _ (List.mem_of_getElem? (i := 199) rfl)) (hw _ (List.mem_of_getElem? (i := 202) rfl)) (by decide) (W := 2) (a := bk) (argsL := [(.ref lab), (.ref li)]) (rest := [(.ref bk), (.ref lb)]) (rm26 l Z a0 hw bk lab li h202 n0 Z202 .null .null ei2 ki2 (xi ++ [a2]) aM mr A202 Klabel Kinstructions ge_bk f211_Fu2 (by rw [List.length_append]; show 1 ≤ xi.length + 1; omega) (by rw [List.length_append]; show xi.length + 1 ≤ 3; omega) hel2 f212_OL SEM MM) (by decide) (by decide) (by decide) (by decide) (g := (mkF m 60 #[.val (.ref a1), .val (.ref a2)] [(.ref li), (.ref lab), (.ref bk), (.ref bk), (.ref lb)])) rfl (by rw [hml]; rfl) (lenOf pd_26 rfl) rfl (by show 2 * 0 + _ ≤ _; exact Nat.le_of_eq rfl) (hb hby d18_60) e208 ?_
  rintro T213 L213 _ X213 ⟨rfl, N213, K213⟩
  have M213 := Fr.app M199 N213
  have Z213 : n0 ≤ T213.heap.size := Nat.le_trans Z202 K213.1
  show Go p e below _ _ T213 (mkF m 63 #[.val (.ref a1), .val (.ref a2)] [(.ref bk), (.ref lb)])
  have f214_Ef := ((f203_Ef.ext E202).keep K213)
  have f215_Lb := ((f204_Lb.ext E202).keep K213 (ninS ne_lb_bk nin0) (ninS ne_eb_bk nin0))
  have f216_Fu2 := (f211_Fu2.keep K213 (ninS ne_li_bk nin0) (ninS ne_ei2_bk nin0))
  have f217_E2 := (f210_E2.keep K213)
  have f218_Ek := (A202.keep K213)
  have f219_OL := (f212_OL.keep K213 (allS ge_bk all0))
  refine Go.callF X213 hx hZ (y := (⟨"java/util/List", "add", "(Ljava/lang/Object;)Z"⟩ : MethodName)) (z := (⟨"java/util/ArrayList", "add", "(Ljava/lang/Object;)Z"⟩ : MethodName)) hown (hw _ (List.mem_of_getElem? (i := 149) rfl)) (hw _ (List.mem_of_getElem? (i := 150) rfl)) (mvT hZ (hw _ (List.mem_of_getElem? (i := 151) rfl))) (hw _ (List.mem_of_getElem? (i := 152) rfl)) (hw _ (List.mem_of_getElem? (i := 153) rfl)) (hw _ (List.mem_of_getElem? (i := 154) rfl)) (hw _ (List.mem_of_getElem? (i := 155) rfl)) (hw _ (List.mem_of_getElem? (i := 156) rfl)) (hw _ (List.mem_of_getElem? (i := 46) rfl)) (hw _ (List.mem_of_getElem? (i := 157) rfl)) (by decide) (W := 0) (a := lb) (argsL := [(.ref bk)]) (rest := []) f215_Lb.exa (rmAdd l Z a0 hw lb bk T213.heap n0 Z213 aD kD eb kb xb "com/example/sorrel/sorrel/middle/ir/Block" f215_Lb (by omega) glb geb f219_OL SD AD f218_Ek (hw _ (List.mem_of_getElem? (i := 271) rfl))) (by decide) (by decide) (by decide) (by decide) (g := (mkF m 63 #[.val (.ref a1), .val (.ref a2)] [(.ref bk), (.ref lb)])) rfl (by rw [hml]; rfl) (lenOf pd_19 rfl) rfl (by show 2 * 0 + _ ≤ _; exact Nat.le_of_eq rfl) (hb hby d18_63) rfl ?_
  rintro T220 L220 _ X220 ⟨eb2, kb2, rfl, N220, K220, geb2, hor2, Fu3⟩
  have M220 := Fr.app M213 N220
  have Z220 : n0 ≤ T220.heap.size := Nat.le_trans Z213 K220.1
  show Go p e below _ _ T220 (mkF m 68 #[.val (.ref a1), .val (.ref a2)] [(.int (1 : Int32))])
  have ne_li_eb2 : li ≠ eb2 := by
    rcases hor2 with q | q
    · rw [q]; exact (Ne.symm n3)
    · exact Nat.ne_of_lt (Nat.lt_of_lt_of_le f216_Fu2.lt q)
  have ne_ei2_eb2 : ei2 ≠ eb2 := by
    rcases hor2 with q | q
    · rw [q]; exact (Ne.symm ne_eb_ei2)
    · exact Nat.ne_of_lt (Nat.lt_of_lt_of_le f216_Fu2.lte q)
  have ne_a1_eb2 : a1 ≠ eb2 := by
    rcases hor2 with q | q
    · rw [q]; exact n6
    · exact Nat.ne_of_lt (Nat.lt_of_lt_of_le f214_Ef.lt q)
  refine Go.by (g' := (mkF m 69 #[.val (.ref a1), .val (.ref a2)] [])) (fun _ k => XS.pop X220.here hx rfl (hb hby d18_68) rfl rfl k) ?_
  refine Go.by (g' := (mkF m 70 #[.val (.ref a1), .val (.ref a2)] [(.ref a1)])) (fun _ k => XS.aloadN X220.here hx rfl (hb hby d18_69) rfl rfl k) ?_
  refine Go.by (g' := (mkF m 71 #[.val (.ref a1), .val (.ref a2)] [.null, (.ref a1)])) (fun _ k => XS.aconstNull X220.here hx rfl (hb hby d18_70) k) ?_
  have f221_Fl := ((f205_Fl.keep K213 (ninS ne_a1_bk nin0)).keep K220 (ninS n5 (ninS n6 nin0)))
  have f222_Ef := (f214_Ef.keep K220)
  obtain ⟨T223, h223, X223, e223, W223, st223⟩ := putF X220 hx hZ hown (host := "") (Or.inl (hw _ (List.mem_of_getElem? (i := 136) rfl))) Via.refl rfl f221_Fl f222_Ef (Or.inl (hw _ (List.mem_of_getElem? (i := 137) rfl))) (hw _ (List.mem_of_getElem? (i := 108) rfl)) (ty := (.object "java/lang/String")) (by decide) rfl rfl (g := (mkF m 71 #[.val (.ref a1), .val (.ref a2)] [.null, (.ref a1)])) rfl rfl (hb hby d18_71)
  have Z223 : n0 ≤ h223.size := Nat.le_trans Z220 (Nat.le_of_eq W223.size.symm)
  have M223 := Fr.snoc X223 M220 g1
  have F223_Fl := f221_Fl.same W223
  refine Go.by (g' := (mkF m 74 #[.val (.ref a1), .val (.ref a2)] [])) st223 ?_
  have f224_Ef := (f222_Ef.wr W223)
  have f225_Fb := ((((f200_Fb.ext E202).keep K213 (ninS ne_a1_bk nin0)).keep K220 (ninS n5 (ninS n6 nin0))).other W223 (Or.inr (slot_ne (Or.inr (hw _ (List.mem_of_getElem? (i := 120) rfl))) (Or.inl (hw _ (List.mem_of_getElem? (i := 137) rfl))) (by decide) (t := (.object "java/util/List")) (t' := (.object "java/lang/String")) (by decide) (by decide))))
  have f226_Fi := (((f207_Fi.keep K213 (ninS ne_a1_bk nin0)).keep K220 (ninS n5 (ninS n6 nin0))).other W223 (Or.inr (slot_ne (Or.inl (hw _ (List.mem_of_getElem? (i := 139) rfl))) (Or.inl (hw _ (List.mem_of_getElem? (i := 137) rfl))) (by decide) (t := (.object "java/util/List")) (t' := (.object "java/lang/String")) (by decide) (by decide))))
  have f227_Fu3 := (Fu3.keep (Keep.of_wr W223) (ninS (Ne.symm n5) nin0) (ninS (Ne.symm ne_a1_eb2) nin0))
  have f228_Fu2 := ((f216_Fu2.keep K220 (ninS (Ne.symm n1) (ninS (Ne.symm n3) nin0)) (ninS (Ne.symm ne_lb_ei2) (ninS (Ne.symm ne_eb_ei2) nin0))).keep (Keep.of_wr W223) (ninS (Ne.symm n7) nin0) (ninS (Ne.symm ne_a1_ei2) nin0))
  have f229_hel2 := (fun x hx => ((fun x hx => ((fun x hx => (hel2 x hx).keep K213) x hx).keep K220) x hx).keep (Keep.of_wr W223))
  exact Go.outN X223 hx hret (Lv.narrow X223 hlk (by decide) (by decide)) (hb hby d18_74) (by rw [e223]; exact ⟨rfl, M223, (((((Kp.of_keep K197 (allS gli (allS gei all0))).trans (Kp.of_ext E202)).trans (Kp.of_keep K213 (allS ge_bk all0))).trans (Kp.of_keep K220 (allS glb (allS geb all0)))).trans (Kp.of_wr W223 g1)), lb, eb2, li, ei2, kb2, ki2, xb ++ [bk], xi ++ [a2], f224_Ef, F223_Fl, f225_Fb, f226_Fi, Or.inr f227_Fu3, Or.inr f228_Fu2, ⟨glb, geb2, gli, gei2⟩, ⟨n1, ne_lb_ei2, Ne.symm ne_li_eb2, Ne.symm ne_ei2_eb2, n5, ne_a1_eb2, n7, ne_a1_ei2⟩, by rw [List.length_append]; show xb.length + 1 ≤ _; omega, by rw [List.length_append]; show xi.length + 1 ≤ _; omega, f229_hel2⟩)
theorem ef_18R (a1 : Addr) (a2 : Addr) (m : MethodId) : entryFrame m #[(.ref a1), (.ref a2)] 2 = mkF m 0 #[.val (.ref a1), .val (.ref a2)] [] := by first | (simp [entryFrame, mkF, argsToLocals, Value.category]; done) | rfl
set_option maxRecDepth 65536 in
set_option maxHeartbeats 40000000 in
theorem rm18R (l : Launch) (Z : State) (a0 : Array Value) (hw : ∀ d ∈ tables_1, d.before a0 Z = true) (a1 : Addr) (a2 : Addr) (h0 : Heap) (n0 : Nat) (Z0 : n0 ≤ h0.size) (aD : Addr) (kD : ClassId) (aM aL mr : Addr) (lab : Addr) (nb ni : Nat) (FBH : FB_ Z a0 h0 n0 aD a1 (.ref lab) nb ni) (hnb : nb ≤ 8) (hni : ni ≤ 2) (g1 : n0 ≤ a1) (E2 : Exa Z h0 a2 "com/example/sorrel/sorrel/middle/ir/Instruction$Return") (OL : Old Z n0 h0) (SD : Sta Z Z.heap "java/util/ArrayList" "DEFAULTCAPACITY_EMPTY_ELEMENTDATA" "[Ljava/lang/Object;" (.ref aD)) (AD : Arv Z Z.heap aD kD OA 0 [] .null) (SEM : Sta Z Z.heap "java/util/ImmutableCollections" "EMPTY" "Ljava/lang/Object;" (.ref aM)) (SEL : Sta Z Z.heap "java/util/ImmutableCollections" "EMPTY_LIST" "Ljava/util/ImmutableCollections$ListN;" (.ref aL)) (MM : MirM Z "[Ljava/lang/Object;" mr) :
    Ctr l Z (⟨"com/example/sorrel/sorrel/middle/ir/FunctionBuilder", "add", "(Lcom/example/sorrel/sorrel/middle/ir/Instruction;)V"⟩ : MethodName) prog_113_method_6_code 2 none ({ frames := 10, cells := 6, slots := 40, locals := 165 } : Room) #[(.ref a1), (.ref a2)] h0 (fun v h L => v = none ∧ Fr n0 L ∧ Kp n0 h0 h ∧ FB_ Z a0 h n0 aD a1 .null (nb + 1) (ni + 1)) := by
  refine Ctr.of pf_18 (ef_18R a1 a2) ?_
  intro p e s m below meth c T0 hx hby hml hret hlk hnm hZ hown e0 X0
  obtain ⟨lb, eb, li, ei, kb, ki, xb, xi, Ef, Fl, Fb, Fi, Lb, Li, ⟨glb, geb, gli, gei⟩, ⟨n1, n2, n3, n4, n5, n6, n7, n8⟩, hxb, hxi, hel⟩ := FBH
  refine Go.by (g' := (mkF m 1 #[.val (.ref a1), .val (.ref a2)] [(.ref a1)])) (fun _ k => XS.aloadN X0.here hx rfl (hb hby d18_0) rfl rfl k) ?_
  refine Go.callV X0 hx hZ (y := (⟨"com/example/sorrel/sorrel/middle/ir/FunctionBuilder", "isOpen", "()Z"⟩ : MethodName)) (z := (⟨"com/example/sorrel/sorrel/middle/ir/FunctionBuilder", "isOpen", "()Z"⟩ : MethodName)) hown (hw _ (List.mem_of_getElem? (i := 131) rfl)) (hw _ (List.mem_of_getElem? (i := 132) rfl)) (notFace_of_selects (args := #[]) (mvT hZ (hw _ (List.mem_of_getElem? (i := 134) rfl)))) (hw _ (List.mem_of_getElem? (i := 134) rfl)) (hw _ (List.mem_of_getElem? (i := 133) rfl)) (hw _ (List.mem_of_getElem? (i := 109) rfl)) (hw _ (List.mem_of_getElem? (i := 135) rfl)) (by decide) (W := 0) (a := a1) (argsL := []) (rest := []) Ef (rm16R l Z a0 hw a1 h0 n0 lab Fl) (by decide) (by decide) (by decide) (by decide) (g := (mkF m 1 #[.val (.ref a1), .val (.ref a2)] [(.ref a1)])) rfl (by rw [hml]; rfl) (lenOf pd_16 rfl) rfl (by show 2 * 0 + _ ≤ _; exact Nat.le_of_eq rfl) (hb hby d18_1) e0 ?_
  rintro T230 L230 _ X230 ⟨rfl, N230, q230⟩
  have M230 := Fr.app (Fr.nil n0) N230
  show Go p e below _ _ T230 (mkF m 4 #[.val (.ref a1), .val (.ref a2)] [(.int (1 : Int32))])
  refine Go.by (g' := (mkF m 24 #[.val (.ref a1), .val (.ref a2)] [])) (fun _ k => XS.ifYes X230.here hx rfl (pc0 := 4) (pc' := 24) rfl (hb hby d18_4) rfl ((if0 _ _).trans (feq (by decide)).2) (by decide) (by decide) k) ?_
  refine Go.by (g' := (mkF m 25 #[.val (.ref a1), .val (.ref a2)] [(.ref a1)])) (fun _ k => XS.aloadN X230.here hx rfl (hb hby d18_24) rfl rfl k) ?_
  obtain ⟨T231, X231, e231, st231⟩ := getF X230 hx hZ hown (host := "") (Or.inl (hw _ (List.mem_of_getElem? (i := 138) rfl))) Via.refl q230 Fi (g := (mkF m 25 #[.val (.ref a1), .val (.ref a2)] [(.ref a1)])) rfl rfl (hb hby d18_25)
  refine Go.by (g' := (mkF m 28 #[.val (.ref a1), .val (.ref a2)] [(.ref li)])) st231 ?_
  refine Go.by (g' := (mkF m 29 #[.val (.ref a1), .val (.ref a2)] [(.ref a2), (.ref li)])) (fun _ k => XS.aloadN X231.here hx rfl (hb hby d18_28) rfl rfl k) ?_
  refine Go.callF X231 hx hZ (y := (⟨"java/util/List", "add", "(Ljava/lang/Object;)Z"⟩ : MethodName)) (z := (⟨"java/util/ArrayList", "add", "(Ljava/lang/Object;)Z"⟩ : MethodName)) hown (hw _ (List.mem_of_getElem? (i := 149) rfl)) (hw _ (List.mem_of_getElem? (i := 150) rfl)) (mvT hZ (hw _ (List.mem_of_getElem? (i := 151) rfl))) (hw _ (List.mem_of_getElem? (i := 152) rfl)) (hw _ (List.mem_of_getElem? (i := 153) rfl)) (hw _ (List.mem_of_getElem? (i := 154) rfl)) (hw _ (List.mem_of_getElem? (i := 155) rfl)) (hw _ (List.mem_of_getElem? (i := 156) rfl)) (hw _ (List.mem_of_getElem? (i := 46) rfl)) (hw _ (List.mem_of_getElem? (i := 157) rfl)) (by decide) (W := 0) (a := li) (argsL := [(.ref a2)]) (rest := []) Li.exa (rmAdd l Z a0 hw li a2 h0 n0 Z0 aD kD ei ki xi "com/example/sorrel/sorrel/middle/ir/Instruction$Return" Li (by omega) gli gei OL SD AD E2 (hw _ (List.mem_of_getElem? (i := 190) rfl))) (by decide) (by decide) (by decide) (by decide) (g := (mkF m 29 #[.val (.ref a1), .val (.ref a2)] [(.ref a2), (.ref li)])) rfl (by rw [hml]; rfl) (lenOf pd_19 rfl) rfl (by show 2 * 0 + _ ≤ _; exact Nat.le_of_eq rfl) (hb hby d18_29) e231 ?_
  rintro T232 L232 _ X232 ⟨ei2, ki2, rfl, N232, K232, gei2, hor, Fu2⟩
  have M232 := Fr.app M230 N232
  have Z232 : n0 ≤ T232.heap.size := Nat.le_trans Z0 K232.1
  show Go p e below _ _ T232 (mkF m 34 #[.val (.ref a1), .val (.ref a2)] [(.int (1 : Int32))])
  have ne_lb_ei2 : lb ≠ ei2 := by
    rcases hor with q | q
    · rw [q]; exact n2
    · exact Nat.ne_of_lt (Nat.lt_of_lt_of_le Lb.lt q)
  have ne_eb_ei2 : eb ≠ ei2 := by
    rcases hor with q | q
    · rw [q]; exact n4
    · exact Nat.ne_of_lt (Nat.lt_of_lt_of_le Lb.lte q)
  have ne_a1_ei2 : a1 ≠ ei2 := by
    rcases hor with q | q
    · rw [q]; exact n8
    · exact Nat.ne_of_lt (Nat.lt_of_lt_of_le Ef.lt q)
  refine Go.by (g' := (mkF m 35 #[.val (.ref a1), .val (.ref a2)] [])) (fun _ k => XS.pop X232.here hx rfl (hb hby d18_34) rfl rfl k) ?_
  refine Go.by (g' := (mkF m 36 #[.val (.ref a1), .val (.ref a2)] [(.ref a2)])) (fun _ k => XS.aloadN X232.here hx rfl (hb hby d18_35) rfl rfl k) ?_
  have f233_E2 := (E2.keep K232)
  refine Go.callF X232 hx hZ (y := (⟨"com/example/sorrel/sorrel/middle/ir/Instruction", "endsBlock", "()Z"⟩ : MethodName)) (z := (⟨"com/example/sorrel/sorrel/middle/ir/Instruction$Return", "endsBlock", "()Z"⟩ : MethodName)) hown (hw _ (List.mem_of_getElem? (i := 182) rfl)) (hw _ (List.mem_of_getElem? (i := 183) rfl)) (mvT hZ (hw _ (List.mem_of_getElem? (i := 184) rfl))) (hw _ (List.mem_of_getElem? (i := 191) rfl)) (hw _ (List.mem_of_getElem? (i := 192) rfl)) (hw _ (List.mem_of_getElem? (i := 193) rfl)) (hw _ (List.mem_of_getElem? (i := 194) rfl)) (hw _ (List.mem_of_getElem? (i := 195) rfl)) (hw _ (List.mem_of_getElem? (i := 33) rfl)) (hw _ (List.mem_of_getElem? (i := 196) rfl)) (by decide) (W := 0) (a := a2) (argsL := []) (rest := []) f233_E2 (rm25 l Z a0 hw a2 T232.heap n0) (by decide) (by decide) (by decide) (by decide) (g := (mkF m 36 #[.val (.ref a1), .val (.ref a2)] [(.ref a2)])) rfl (by rw [hml]; rfl) (lenOf pd_25 rfl) rfl (by show 2 * 0 + _ ≤ _; exact Nat.le_of_eq rfl) (hb hby d18_36) rfl ?_
  rintro T234 L234 _ X234 ⟨rfl, N234, q234⟩
  have M234 := Fr.app M232 N234
  show Go p e below _ _ T234 (mkF m 41 #[.val (.ref a1), .val (.ref a2)] [(.int (1 : Int32))])
  refine Go.by (g' := (mkF m 44 #[.val (.ref a1), .val (.ref a2)] [])) (fun _ k => XS.ifNo X234.here hx rfl (hb hby d18_41) rfl ((if0 _ _).trans (feq (by decide)).1) k) ?_
  refine Go.by (g' := (mkF m 45 #[.val (.ref a1), .val (.ref a2)] [(.ref a1)])) (fun _ k => XS.aloadN X234.here hx rfl (hb hby d18_44) rfl rfl k) ?_
  have f235_Fb := (Fb.keep K232 (ninS n7 (ninS n8 nin0)))
  obtain ⟨T236, X236, e236, st236⟩ := getF X234 hx hZ hown (host := "") (Or.inl (hw _ (List.mem_of_getElem? (i := 119) rfl))) Via.refl q234 f235_Fb (g := (mkF m 45 #[.val (.ref a1), .val (.ref a2)] [(.ref a1)])) rfl rfl (hb hby d18_45)
  refine Go.by (g' := (mkF m 48 #[.val (.ref a1), .val (.ref a2)] [(.ref lb)])) st236 ?_
  obtain ⟨T237, h237, X237, e237, E237, A237, D237, -, st237⟩ := newO X236 hx hZ hown (hw _ (List.mem_of_getElem? (i := 197) rfl)) (hw _ (List.mem_of_getElem? (i := 198) rfl)) (hw _ (List.mem_of_getElem? (i := 199) rfl)) e236 (g := (mkF m 48 #[.val (.ref a1), .val (.ref a2)] [(.ref lb)])) rfl (hb hby d18_48) (by decide) (by decide)
  obtain ⟨bk, g237⟩ : ∃ z, z = T232.heap.size := ⟨_, rfl⟩
  rw [← g237] at A237 D237 st237
  have f238_Ef := (Ef.keep K232)
  have ne_a1_bk : a1 ≠ bk := Nat.ne_of_lt (by rw [g237]; exact f238_Ef.lt)
  have f239_Lb := (Lb.keep K232 (ninS n1 (ninS n2 nin0)) (ninS n3 (ninS n4 nin0)))
  have ne_lb_bk : lb ≠ bk := Nat.ne_of_lt (by rw [g237]; exact f239_Lb.lt)
  have ne_eb_bk : eb ≠ bk := Nat.ne_of_lt (by rw [g237]; exact f239_Lb.lte)
  have ne_li_bk : li ≠ bk := Nat.ne_of_lt (by rw [g237]; exact Fu2.lt)
  have ne_a2_bk : a2 ≠ bk := Nat.ne_of_lt (by rw [g237]; exact f233_E2.lt)
  have ne_ei2_bk : ei2 ≠ bk := Nat.ne_of_lt (by rw [g237]; exact Fu2.lte)
  have ge_bk : n0 ≤ bk := Nat.le_trans Z232 (Nat.le_of_eq g237.symm)
  have Z237 : n0 ≤ h237.size := Nat.le_trans Z232 E237.1
  refine Go.by (g' := (mkF m 51 #[.val (.ref a1), .val (.ref a2)] [(.ref bk), (.ref lb)])) st237 ?_
  have Klabel : Fld Z h237 bk "com/example/sorrel/sorrel/middle/ir/Block" "label" "Ljava/lang/String;" .null := (D237 (Or.inr (hw _ (List.mem_of_getElem? (i := 268) rfl))) (ty := (.object "java/lang/String")) (by decide))
  have Kinstructions : Fld Z h237 bk "com/example/sorrel/sorrel/middle/ir/Block" "instructions" "Ljava/util/List;" .null := (D237 (Or.inr (hw _ (List.mem_of_getElem? (i := 270) rfl))) (ty := (.object "java/util/List")) (by decide))
  refine Go.by (g' := (mkF m 52 #[.val (.ref a1), .val (.ref a2)] [(.ref bk), (.ref bk), (.ref lb)])) (fun _ k => XS.dup X237.here hx rfl (hb hby d18_51) rfl rfl k) ?_
  refine Go.by (g' := (mkF m 53 #[.val (.ref a1), .val (.ref a2)] [(.ref a1), (.ref bk), (.ref bk), (.ref lb)])) (fun _ k => XS.aloadN X237.here hx rfl (hb hby d18_52) rfl rfl k) ?_
  have f240_Fl := ((Fl.keep K232 (ninS n7 (ninS n8 nin0))).ext E237)
  obtain ⟨T241, X241, e241, st241⟩ := getF X237 hx hZ hown (host := "") (Or.inl (hw _ (List.mem_of_getElem? (i := 136) rfl))) Via.refl e237 f240_Fl (g := (mkF m 53 #[.val (.ref a1), .val (.ref a2)] [(.ref a1), (.ref bk), (.ref bk), (.ref lb)])) rfl rfl (hb hby d18_53)
  refine Go.by (g' := (mkF m 56 #[.val (.ref a1), .val (.ref a2)] [(.ref lab), (.ref bk), (.ref bk), (.ref lb)])) st241 ?_
  refine Go.by (g' := (mkF m 57 #[.val (.ref a1), .val (.ref a2)] [(.ref a1), (.ref lab), (.ref bk), (.ref bk), (.ref lb)])) (fun _ k => XS.aloadN X241.here hx rfl (hb hby d18_56) rfl rfl k) ?_
  have f242_Fi := ((Fi.keep K232 (ninS n7 (ninS n8 nin0))).ext E237)
  obtain ⟨T243, X243, e243, st243⟩ := getF X241 hx hZ hown (host := "") (Or.inl (hw _ (List.mem_of_getElem? (i := 138) rfl))) Via.refl e241 f242_Fi (g := (mkF m 57 #[.val (.ref a1), .val (.ref a2)] [(.ref a1), (.ref lab), (.ref bk), (.ref bk), (.ref lb)])) rfl rfl (hb hby d18_57)
  refine Go.by (g' := (mkF m 60 #[.val (.ref a1), .val (.ref a2)] [(.ref li), (.ref lab), (.ref bk), (.ref bk), (.ref lb)])) st243 ?_
  have f244_hel := (fun x hx => ((fun x hx => (hel x hx).keep K232) x hx).ext E237)
  have f245_E2 := (f233_E2.ext E237)
  have hel2 := els_app f244_hel (⟨_, f245_E2, (hw _ (List.mem_of_getElem? (i := 190) rfl))⟩ : El Z a0 _ a2)
  have f246_Fu2 := (Fu2.ext E237)
  have f247_OL := ((OL.keep K232 (allS gli (allS gei all0))).ext E237)
  refine Go.callI X243 hx hZ (y := (⟨"com/example/sorrel/sorrel/middle/ir/Block", "<init>", "(Ljava/lang/String;Ljava/util/List;)V"⟩ : MethodName)) rfl hown (hw _ (List.mem_of_getElem? (i := 200) rfl)) (hw _ (List.mem_of_getElem? (i := 201) rfl)) (hw _ (List.mem_of_getElem? (i := 199) rfl)) (hw _ (List.mem_of_getElem? (i := 202) rfl)) (by decide) (W := 2) (a := bk) (argsL := [(.ref lab), (.ref li)]) (rest := [(.ref bk), (.ref lb)]) (rm26 l Z a0 hw bk lab li h237 n0 Z237 .null .null ei2 ki2 (xi ++ [a2]) aM mr A237 Klabel Kinstructions ge_bk f246_Fu2 (by rw [List.length_append]; show 1 ≤ xi.length + 1; omega) (by rw [List.length_append]; show xi.length + 1 ≤ 3; omega) hel2 f247_OL SEM MM) (by decide) (by decide) (by decide) (by decide) (g := (mkF m 60 #[.val (.ref a1), .val (.ref a2)] [(.ref li), (.ref lab), (.ref bk), (.ref bk), (.ref lb)])) rfl (by rw [hml]; rfl) (lenOf pd_26 rfl) rfl (by show 2 * 0 + _ ≤ _; exact Nat.le_of_eq rfl) (hb hby d18_60) e243 ?_
  rintro T248 L248 _ X248 ⟨rfl, N248, K248⟩
  have M248 := Fr.app M234 N248
  have Z248 : n0 ≤ T248.heap.size := Nat.le_trans Z237 K248.1
  show Go p e below _ _ T248 (mkF m 63 #[.val (.ref a1), .val (.ref a2)] [(.ref bk), (.ref lb)])
  have f249_Ef := ((f238_Ef.ext E237).keep K248)
  have f250_Lb := ((f239_Lb.ext E237).keep K248 (ninS ne_lb_bk nin0) (ninS ne_eb_bk nin0))
  have f251_Fu2 := (f246_Fu2.keep K248 (ninS ne_li_bk nin0) (ninS ne_ei2_bk nin0))
  have f252_E2 := (f245_E2.keep K248)
  have f253_Ek := (A237.keep K248)
  have f254_OL := (f247_OL.keep K248 (allS ge_bk all0))
  refine Go.callF X248 hx hZ (y := (⟨"java/util/List", "add", "(Ljava/lang/Object;)Z"⟩ : MethodName)) (z := (⟨"java/util/ArrayList", "add", "(Ljava/lang/Object;)Z"⟩ : MethodName)) hown (hw _ (List.mem_of_getElem? (i := 149) rfl)) (hw _ (List.mem_of_getElem? (i := 150) rfl)) (mvT hZ (hw _ (List.mem_of_getElem? (i := 151) rfl))) (hw _ (List.mem_of_getElem? (i := 152) rfl)) (hw _ (List.mem_of_getElem? (i := 153) rfl)) (hw _ (List.mem_of_getElem? (i := 154) rfl)) (hw _ (List.mem_of_getElem? (i := 155) rfl)) (hw _ (List.mem_of_getElem? (i := 156) rfl)) (hw _ (List.mem_of_getElem? (i := 46) rfl)) (hw _ (List.mem_of_getElem? (i := 157) rfl)) (by decide) (W := 0) (a := lb) (argsL := [(.ref bk)]) (rest := []) f250_Lb.exa (rmAdd l Z a0 hw lb bk T248.heap n0 Z248 aD kD eb kb xb "com/example/sorrel/sorrel/middle/ir/Block" f250_Lb (by omega) glb geb f254_OL SD AD f253_Ek (hw _ (List.mem_of_getElem? (i := 271) rfl))) (by decide) (by decide) (by decide) (by decide) (g := (mkF m 63 #[.val (.ref a1), .val (.ref a2)] [(.ref bk), (.ref lb)])) rfl (by rw [hml]; rfl) (lenOf pd_19 rfl) rfl (by show 2 * 0 + _ ≤ _; exact Nat.le_of_eq rfl) (hb hby d18_63) rfl ?_
  rintro T255 L255 _ X255 ⟨eb2, kb2, rfl, N255, K255, geb2, hor2, Fu3⟩
  have M255 := Fr.app M248 N255
  have Z255 : n0 ≤ T255.heap.size := Nat.le_trans Z248 K255.1
  show Go p e below _ _ T255 (mkF m 68 #[.val (.ref a1), .val (.ref a2)] [(.int (1 : Int32))])
  have ne_li_eb2 : li ≠ eb2 := by
    rcases hor2 with q | q
    · rw [q]; exact (Ne.symm n3)
    · exact Nat.ne_of_lt (Nat.lt_of_lt_of_le f251_Fu2.lt q)
  have ne_ei2_eb2 : ei2 ≠ eb2 := by
    rcases hor2 with q | q
    · rw [q]; exact (Ne.symm ne_eb_ei2)
    · exact Nat.ne_of_lt (Nat.lt_of_lt_of_le f251_Fu2.lte q)
  have ne_a1_eb2 : a1 ≠ eb2 := by
    rcases hor2 with q | q
    · rw [q]; exact n6
    · exact Nat.ne_of_lt (Nat.lt_of_lt_of_le f249_Ef.lt q)
  refine Go.by (g' := (mkF m 69 #[.val (.ref a1), .val (.ref a2)] [])) (fun _ k => XS.pop X255.here hx rfl (hb hby d18_68) rfl rfl k) ?_
  refine Go.by (g' := (mkF m 70 #[.val (.ref a1), .val (.ref a2)] [(.ref a1)])) (fun _ k => XS.aloadN X255.here hx rfl (hb hby d18_69) rfl rfl k) ?_
  refine Go.by (g' := (mkF m 71 #[.val (.ref a1), .val (.ref a2)] [.null, (.ref a1)])) (fun _ k => XS.aconstNull X255.here hx rfl (hb hby d18_70) k) ?_
  have f256_Fl := ((f240_Fl.keep K248 (ninS ne_a1_bk nin0)).keep K255 (ninS n5 (ninS n6 nin0)))
  have f257_Ef := (f249_Ef.keep K255)
  obtain ⟨T258, h258, X258, e258, W258, st258⟩ := putF X255 hx hZ hown (host := "") (Or.inl (hw _ (List.mem_of_getElem? (i := 136) rfl))) Via.refl rfl f256_Fl f257_Ef (Or.inl (hw _ (List.mem_of_getElem? (i := 137) rfl))) (hw _ (List.mem_of_getElem? (i := 108) rfl)) (ty := (.object "java/lang/String")) (by decide) rfl rfl (g := (mkF m 71 #[.val (.ref a1), .val (.ref a2)] [.null, (.ref a1)])) rfl rfl (hb hby d18_71)
  have Z258 : n0 ≤ h258.size := Nat.le_trans Z255 (Nat.le_of_eq W258.size.symm)
  have M258 := Fr.snoc X258 M255 g1
  have F258_Fl := f256_Fl.same W258
  refine Go.by (g' := (mkF m 74 #[.val (.ref a1), .val (.ref a2)] [])) st258 ?_
  have f259_Ef := (f257_Ef.wr W258)
  have f260_Fb := ((((f235_Fb.ext E237).keep K248 (ninS ne_a1_bk nin0)).keep K255 (ninS n5 (ninS n6 nin0))).other W258 (Or.inr (slot_ne (Or.inr (hw _ (List.mem_of_getElem? (i := 120) rfl))) (Or.inl (hw _ (List.mem_of_getElem? (i := 137) rfl))) (by decide) (t := (.object "java/util/List")) (t' := (.object "java/lang/String")) (by decide) (by decide))))
  have f261_Fi := (((f242_Fi.keep K248 (ninS ne_a1_bk nin0)).keep K255 (ninS n5 (ninS n6 nin0))).other W258 (Or.inr (slot_ne (Or.inl (hw _ (List.mem_of_getElem? (i := 139) rfl))) (Or.inl (hw _ (List.mem_of_getElem? (i := 137) rfl))) (by decide) (t := (.object "java/util/List")) (t' := (.object "java/lang/String")) (by decide) (by decide))))
  have f262_Fu3 := (Fu3.keep (Keep.of_wr W258) (ninS (Ne.symm n5) nin0) (ninS (Ne.symm ne_a1_eb2) nin0))
  have f263_Fu2 := ((f251_Fu2.keep K255 (ninS (Ne.symm n1) (ninS (Ne.symm n3) nin0)) (ninS (Ne.symm ne_lb_ei2) (ninS (Ne.symm ne_eb_ei2) nin0))).keep (Keep.of_wr W258) (ninS (Ne.symm n7) nin0) (ninS (Ne.symm ne_a1_ei2) nin0))
  have f264_hel2 := (fun x hx => ((fun x hx => ((fun x hx => (hel2 x hx).keep K248) x hx).keep K255) x hx).keep (Keep.of_wr W258))
  exact Go.outN X258 hx hret (Lv.narrow X258 hlk (by decide) (by decide)) (hb hby d18_74) (by rw [e258]; exact ⟨rfl, M258, (((((Kp.of_keep K232 (allS gli (allS gei all0))).trans (Kp.of_ext E237)).trans (Kp.of_keep K248 (allS ge_bk all0))).trans (Kp.of_keep K255 (allS glb (allS geb all0)))).trans (Kp.of_wr W258 g1)), lb, eb2, li, ei2, kb2, ki2, xb ++ [bk], xi ++ [a2], f259_Ef, F258_Fl, f260_Fb, f261_Fi, Or.inr f262_Fu3, Or.inr f263_Fu2, ⟨glb, geb2, gli, gei2⟩, ⟨n1, ne_lb_ei2, Ne.symm ne_li_eb2, Ne.symm ne_ei2_eb2, n5, ne_a1_eb2, n7, ne_a1_ei2⟩, by rw [List.length_append]; show xb.length + 1 ≤ _; omega, by rw [List.length_append]; show xi.length + 1 ≤ _; omega, f264_hel2⟩)
theorem ef_14 (a1 : Addr) (a2 : Addr) (w3 : Value) (hw3 : w3.isRef = true) (m : MethodId) : entryFrame m #[(.ref a1), (.ref a2), w3] 3 = mkF m 0 #[.val (.ref a1), .val (.ref a2), .val w3] [] := by rcases ref_cases hw3 with rfl | ⟨_, rfl⟩ <;> first | rfl | (simp [entryFrame, mkF, argsToLocals, Value.category]; done)
set_option maxRecDepth 65536 in
set_option maxHeartbeats 40000000 in
theorem rm14 (l : Launch) (Z : State) (a0 : Array Value) (hw : ∀ d ∈ tables_1, d.before a0 Z = true) (a1 : Addr) (a2 : Addr) (w3 : Value) (hw3 : w3.isRef = true) (h0 : Heap) (n0 : Nat) (Z0 : n0 ≤ h0.size) (aD : Addr) (Ef : Exa Z h0 a1 "com/example/sorrel/sorrel/middle/ir/FunctionBuilder") (Dparameters : Fld Z h0 a1 "com/example/sorrel/sorrel/middle/ir/FunctionBuilder" "parameters" "Ljava/util/List;" .null) (Dblocks : Fld Z h0 a1 "com/example/sorrel/sorrel/middle/ir/FunctionBuilder" "blocks" "Ljava/util/List;" .null) (Dname : Fld Z h0 a1 "com/example/sorrel/sorrel/middle/ir/FunctionBuilder" "name" "Ljava/lang/String;" .null) (DreturnType : Fld Z h0 a1 "com/example/sorrel/sorrel/middle/ir/FunctionBuilder" "returnType" "Lcom/example/sorrel/sorrel/middle/ir/Value$Type;" .null) (Dlabel : Fld Z h0 a1 "com/example/sorrel/sorrel/middle/ir/FunctionBuilder" "label" "Ljava/lang/String;" .null) (Dinstructions : Fld Z h0 a1 "com/example/sorrel/sorrel/middle/ir/FunctionBuilder" "instructions" "Ljava/util/List;" .null) (g1 : n0 ≤ a1) (OL : Old Z n0 h0) (SD : Sta Z Z.heap "java/util/ArrayList" "DEFAULTCAPACITY_EMPTY_ELEMENTDATA" "[Ljava/lang/Object;" (.ref aD)) :
    CtrW l Z (⟨"com/example/sorrel/sorrel/middle/ir/FunctionBuilder", "<init>", "(Ljava/lang/String;Lcom/example/sorrel/sorrel/middle/ir/Value$Type;)V"⟩ : MethodName) prog_113_method_1_code 3 none ({ frames := 5, cells := 5, slots := 33, locals := 64 } : Room) #[(.ref a1), (.ref a2), w3] h0 (fun v h L => v = none ∧ Fr n0 L ∧ Kp n0 h0 h ∧ ∃ lab, FB_ Z a0 h n0 aD a1 (.ref lab) 0 0) := by
  refine CtrW.of pf_14 (ef_14 a1 a2 w3 hw3) ?_
  intro p e s vm0 m below meth c T0 hx hby hml hret hlk hnm hS hZ hown e0 X0
  refine Go.by (g' := (mkF m 1 #[.val (.ref a1), .val (.ref a2), .val w3] [(.ref a1)])) (fun _ k => XS.aloadN X0.here hx rfl (hb hby d14_0) rfl rfl k) ?_
  obtain ⟨T265, X265, e265, st265⟩ := initO X0 hx hZ hown (hw _ (List.mem_of_getElem? (i := 114) rfl)) (hw _ (List.mem_of_getElem? (i := 27) rfl)) (hw _ (List.mem_of_getElem? (i := 28) rfl)) e0 (g := (mkF m 1 #[.val (.ref a1), .val (.ref a2), .val w3] [(.ref a1)])) rfl (by rw [hml]; rfl) rfl (hb hby d14_1) (by decide) (W := 0) (by show 2 * 0 + _ ≤ _; exact Nat.le_of_eq rfl) (by decide)
  refine Go.by (g' := (mkF m 4 #[.val (.ref a1), .val (.ref a2), .val w3] [])) st265 ?_
  refine Go.by (g' := (mkF m 5 #[.val (.ref a1), .val (.ref a2), .val w3] [(.ref a1)])) (fun _ k => XS.aloadN X265.here hx rfl (hb hby d14_4) rfl rfl k) ?_
  obtain ⟨T266, h266, X266, e266, E266, A266, D266, -, st266⟩ := newO X265 hx hZ hown (hw _ (List.mem_of_getElem? (i := 115) rfl)) (hw _ (List.mem_of_getElem? (i := 45) rfl)) (hw _ (List.mem_of_getElem? (i := 46) rfl)) e265 (g := (mkF m 5 #[.val (.ref a1), .val (.ref a2), .val w3] [(.ref a1)])) rfl (hb hby d14_5) (by decide) (by decide)
  obtain ⟨l1, g266⟩ : ∃ z, z = h0.size := ⟨_, rfl⟩
  rw [← g266] at A266 D266 st266
  have ne_a1_l1 : a1 ≠ l1 := Nat.ne_of_lt (by rw [g266]; exact Ef.lt)
  have ge_l1 : n0 ≤ l1 := Nat.le_trans Z0 (Nat.le_of_eq g266.symm)
  have Z266 : n0 ≤ h266.size := Nat.le_trans Z0 E266.1
  have hk266 := Nat.le_trans (Nat.zero_le _) E266.1
  refine Go.by (g' := (mkF m 8 #[.val (.ref a1), .val (.ref a2), .val w3] [(.ref l1), (.ref a1)])) st266 ?_
  have Lm_l1 : Fld Z h266 l1 "java/util/AbstractList" "modCount" "I" (.int 0) := (D266 (Or.inl (hw _ (List.mem_of_getElem? (i := 64) rfl))) (ty := .int) (by decide))
  have Le_l1 : Fld Z h266 l1 "java/util/ArrayList" "elementData" "[Ljava/lang/Object;" .null := (D266 (Or.inl (hw _ (List.mem_of_getElem? (i := 67) rfl))) (ty := (.array (.object "java/lang/Object"))) (by decide))
  have Lz_l1 : Fld Z h266 l1 "java/util/ArrayList" "size" "I" (.int 0) := (D266 (Or.inl (hw _ (List.mem_of_getElem? (i := 96) rfl))) (ty := .int) (by decide))
  refine Go.by (g' := (mkF m 9 #[.val (.ref a1), .val (.ref a2), .val w3] [(.ref l1), (.ref l1), (.ref a1)])) (fun _ k => XS.dup X266.here hx rfl (hb hby d14_8) rfl rfl k) ?_
  have f267_OL := (OL.ext E266)
  refine Go.callI X266 hx hZ (y := (⟨"java/util/ArrayList", "<init>", "()V"⟩ : MethodName)) rfl hown (hw _ (List.mem_of_getElem? (i := 116) rfl)) (hw _ (List.mem_of_getElem? (i := 48) rfl)) (hw _ (List.mem_of_getElem? (i := 46) rfl)) (hw _ (List.mem_of_getElem? (i := 49) rfl)) (by decide) (W := 2) (a := l1) (argsL := []) (rest := [(.ref l1), (.ref a1)]) (rm6 l Z a0 hw l1 h266 n0 aD (.int 0) .null A266 Lm_l1 Le_l1 Lz_l1 ge_l1 f267_OL SD) (by decide) (by decide) (by decide) (by decide) (g := (mkF m 9 #[.val (.ref a1), .val (.ref a2), .val w3] [(.ref l1), (.ref l1), (.ref a1)])) rfl (by rw [hml]; rfl) (lenOf pd_6 rfl) rfl (by show 2 * 0 + _ ≤ _; exact Nat.le_of_eq rfl) (hb hby d14_9) e266 ?_
  rintro T268 L268 _ X268 ⟨rfl, N268, K268, Em_l1⟩
  have M268 := Fr.app (Fr.nil n0) N268
  have Z268 : n0 ≤ T268.heap.size := Nat.le_trans Z266 K268.1
  have hk268 := Nat.le_trans hk266 K268.1
  show Go p e below _ _ T268 (mkF m 12 #[.val (.ref a1), .val (.ref a2), .val w3] [(.ref l1), (.ref a1)])
  have f269_Dparameters := ((Dparameters.ext E266).keep K268 (ninS ne_a1_l1 nin0))
  have f270_Ef := ((Ef.ext E266).keep K268)
  obtain ⟨T271, h271, X271, e271, W271, st271⟩ := putF X268 hx hZ hown (host := "") (Or.inl (hw _ (List.mem_of_getElem? (i := 117) rfl))) Via.refl rfl f269_Dparameters f270_Ef (Or.inr ⟨(hw _ (List.mem_of_getElem? (i := 118) rfl)), rfl, hnm⟩) (hw _ (List.mem_of_getElem? (i := 108) rfl)) (ty := (.object "java/util/List")) (by decide) rfl rfl (g := (mkF m 12 #[.val (.ref a1), .val (.ref a2), .val w3] [(.ref l1), (.ref a1)])) rfl rfl (hb hby d14_12)
  have Z271 : n0 ≤ h271.size := Nat.le_trans Z268 (Nat.le_of_eq W271.size.symm)
  have hk271 := Nat.le_trans hk268 (Nat.le_of_eq W271.size.symm)
  have M271 := Fr.snoc X271 M268 g1
  have F271_Dparameters := f269_Dparameters.same W271
  refine Go.by (g' := (mkF m 15 #[.val (.ref a1), .val (.ref a2), .val w3] [])) st271 ?_
  refine Go.by (g' := (mkF m 16 #[.val (.ref a1), .val (.ref a2), .val w3] [(.ref a1)])) (fun _ k => XS.aloadN X271.here hx rfl (hb hby d14_15) rfl rfl k) ?_
  obtain ⟨T272, h272, X272, e272, E272, A272, D272, -, st272⟩ := newO X271 hx hZ hown (hw _ (List.mem_of_getElem? (i := 115) rfl)) (hw _ (List.mem_of_getElem? (i := 45) rfl)) (hw _ (List.mem_of_getElem? (i := 46) rfl)) e271 (g := (mkF m 16 #[.val (.ref a1), .val (.ref a2), .val w3] [(.ref a1)])) rfl (hb hby d14_16) (by decide) (by decide)
  obtain ⟨lb, g272⟩ : ∃ z, z = h271.size := ⟨_, rfl⟩
  rw [← g272] at A272 D272 st272
  have f273_Ef := (f270_Ef.wr W271)
  have ne_a1_lb : a1 ≠ lb := Nat.ne_of_lt (by rw [g272]; exact f273_Ef.lt)
  have f274_Em_l1 := (Em_l1.keep (Keep.of_wr W271) (ninS (Ne.symm ne_a1_l1) nin0))
  have ne_l1_lb : l1 ≠ lb := Nat.ne_of_lt (by rw [g272]; exact f274_Em_l1.lt)
  have ge_lb : n0 ≤ lb := Nat.le_trans Z271 (Nat.le_of_eq g272.symm)
  have Z272 : n0 ≤ h272.size := Nat.le_trans Z271 E272.1
  have hk272 := Nat.le_trans hk271 E272.1
  refine Go.by (g' := (mkF m 19 #[.val (.ref a1), .val (.ref a2), .val w3] [(.ref lb), (.ref a1)])) st272 ?_
  have Lm_lb : Fld Z h272 lb "java/util/AbstractList" "modCount" "I" (.int 0) := (D272 (Or.inl (hw _ (List.mem_of_getElem? (i := 64) rfl))) (ty := .int) (by decide))
  have Le_lb : Fld Z h272 lb "java/util/ArrayList" "elementData" "[Ljava/lang/Object;" .null := (D272 (Or.inl (hw _ (List.mem_of_getElem? (i := 67) rfl))) (ty := (.array (.object "java/lang/Object"))) (by decide))
  have Lz_lb : Fld Z h272 lb "java/util/ArrayList" "size" "I" (.int 0) := (D272 (Or.inl (hw _ (List.mem_of_getElem? (i := 96) rfl))) (ty := .int) (by decide))
  refine Go.by (g' := (mkF m 20 #[.val (.ref a1), .val (.ref a2), .val w3] [(.ref lb), (.ref lb), (.ref a1)])) (fun _ k => XS.dup X272.here hx rfl (hb hby d14_19) rfl rfl k) ?_
  have f275_OL := (((f267_OL.keep K268 (allS ge_l1 all0)).wr W271 g1).ext E272)
  refine Go.callI X272 hx hZ (y := (⟨"java/util/ArrayList", "<init>", "()V"⟩ : MethodName)) rfl hown (hw _ (List.mem_of_getElem? (i := 116) rfl)) (hw _ (List.mem_of_getElem? (i := 48) rfl)) (hw _ (List.mem_of_getElem? (i := 46) rfl)) (hw _ (List.mem_of_getElem? (i := 49) rfl)) (by decide) (W := 2) (a := lb) (argsL := []) (rest := [(.ref lb), (.ref a1)]) (rm6 l Z a0 hw lb h272 n0 aD (.int 0) .null A272 Lm_lb Le_lb Lz_lb ge_lb f275_OL SD) (by decide) (by decide) (by decide) (by decide) (g := (mkF m 20 #[.val (.ref a1), .val (.ref a2), .val w3] [(.ref lb), (.ref lb), (.ref a1)])) rfl (by rw [hml]; rfl) (lenOf pd_6 rfl) rfl (by show 2 * 0 + _ ≤ _; exact Nat.le_of_eq rfl) (hb hby d14_20) e272 ?_
  rintro T276 L276 _ X276 ⟨rfl, N276, K276, Em_lb⟩
  have M276 := Fr.app M271 N276
  have Z276 : n0 ≤ T276.heap.size := Nat.le_trans Z272 K276.1
  have hk276 := Nat.le_trans hk272 K276.1
  show Go p e below _ _ T276 (mkF m 23 #[.val (.ref a1), .val (.ref a2), .val w3] [(.ref lb), (.ref a1)])
  have f277_Dblocks := (((((Dblocks.ext E266).keep K268 (ninS ne_a1_l1 nin0)).other W271 (Or.inr (slot_ne (Or.inr (hw _ (List.mem_of_getElem? (i := 120) rfl))) (Or.inr (hw _ (List.mem_of_getElem? (i := 118) rfl))) (by decide) (t := (.object "java/util/List")) (t' := (.object "java/util/List")) (by decide) (by decide)))).ext E272).keep K276 (ninS ne_a1_lb nin0))
  have f278_Ef := ((f273_Ef.ext E272).keep K276)
  obtain ⟨T279, h279, X279, e279, W279, st279⟩ := putF X276 hx hZ hown (host := "") (Or.inl (hw _ (List.mem_of_getElem? (i := 119) rfl))) Via.refl rfl f277_Dblocks f278_Ef (Or.inr ⟨(hw _ (List.mem_of_getElem? (i := 120) rfl)), rfl, hnm⟩) (hw _ (List.mem_of_getElem? (i := 108) rfl)) (ty := (.object "java/util/List")) (by decide) rfl rfl (g := (mkF m 23 #[.val (.ref a1), .val (.ref a2), .val w3] [(.ref lb), (.ref a1)])) rfl rfl (hb hby d14_23)
  have Z279 : n0 ≤ h279.size := Nat.le_trans Z276 (Nat.le_of_eq W279.size.symm)
  have hk279 := Nat.le_trans hk276 (Nat.le_of_eq W279.size.symm)
  have M279 := Fr.snoc X279 M276 g1
  have F279_Dblocks := f277_Dblocks.same W279
  refine Go.by (g' := (mkF m 26 #[.val (.ref a1), .val (.ref a2), .val w3] [])) st279 ?_
  refine Go.by (g' := (mkF m 27 #[.val (.ref a1), .val (.ref a2), .val w3] [(.ref a1)])) (fun _ k => XS.aloadN X279.here hx rfl (hb hby d14_26) rfl rfl k) ?_
  refine Go.by (g' := (mkF m 28 #[.val (.ref a1), .val (.ref a2), .val w3] [(.ref a2), (.ref a1)])) (fun _ k => XS.aloadN X279.here hx rfl (hb hby d14_27) rfl rfl k) ?_
  have f280_Dname := ((((((Dname.ext E266).keep K268 (ninS ne_a1_l1 nin0)).other W271 (Or.inr (slot_ne (Or.inr (hw _ (List.mem_of_getElem? (i := 122) rfl))) (Or.inr (hw _ (List.mem_of_getElem? (i := 118) rfl))) (by decide) (t := (.object "java/lang/String")) (t' := (.object "java/util/List")) (by decide) (by decide)))).ext E272).keep K276 (ninS ne_a1_lb nin0)).other W279 (Or.inr (slot_ne (Or.inr (hw _ (List.mem_of_getElem? (i := 122) rfl))) (Or.inr (hw _ (List.mem_of_getElem? (i := 120) rfl))) (by decide) (t := (.object "java/lang/String")) (t' := (.object "java/util/List")) (by decide) (by decide))))
  have f281_Ef := (f278_Ef.wr W279)
  obtain ⟨T282, h282, X282, e282, W282, st282⟩ := putF X279 hx hZ hown (host := "") (Or.inl (hw _ (List.mem_of_getElem? (i := 121) rfl))) Via.refl e279 f280_Dname f281_Ef (Or.inr ⟨(hw _ (List.mem_of_getElem? (i := 122) rfl)), rfl, hnm⟩) (hw _ (List.mem_of_getElem? (i := 108) rfl)) (ty := (.object "java/lang/String")) (by decide) rfl rfl (g := (mkF m 28 #[.val (.ref a1), .val (.ref a2), .val w3] [(.ref a2), (.ref a1)])) rfl rfl (hb hby d14_28)
  have Z282 : n0 ≤ h282.size := Nat.le_trans Z279 (Nat.le_of_eq W282.size.symm)
  have hk282 := Nat.le_trans hk279 (Nat.le_of_eq W282.size.symm)
  have M282 := Fr.snoc X282 M279 g1
  have F282_Dname := f280_Dname.same W282
  refine Go.by (g' := (mkF m 31 #[.val (.ref a1), .val (.ref a2), .val w3] [])) st282 ?_
  refine Go.by (g' := (mkF m 32 #[.val (.ref a1), .val (.ref a2), .val w3] [(.ref a1)])) (fun _ k => XS.aloadN X282.here hx rfl (hb hby d14_31) rfl rfl k) ?_
  refine Go.by (g' := (mkF m 33 #[.val (.ref a1), .val (.ref a2), .val w3] [w3, (.ref a1)])) (fun _ k => XS.aloadN X282.here hx rfl (hb hby d14_32) rfl hw3 k) ?_
  have f283_DreturnType := (((((((DreturnType.ext E266).keep K268 (ninS ne_a1_l1 nin0)).other W271 (Or.inr (slot_ne (Or.inr (hw _ (List.mem_of_getElem? (i := 124) rfl))) (Or.inr (hw _ (List.mem_of_getElem? (i := 118) rfl))) (by decide) (t := (.object "com/example/sorrel/sorrel/middle/ir/Value$Type")) (t' := (.object "java/util/List")) (by decide) (by decide)))).ext E272).keep K276 (ninS ne_a1_lb nin0)).other W279 (Or.inr (slot_ne (Or.inr (hw _ (List.mem_of_getElem? (i := 124) rfl))) (Or.inr (hw _ (List.mem_of_getElem? (i := 120) rfl))) (by decide) (t := (.object "com/example/sorrel/sorrel/middle/ir/Value$Type")) (t' := (.object "java/util/List")) (by decide) (by decide)))).other W282 (Or.inr (slot_ne (Or.inr (hw _ (List.mem_of_getElem? (i := 124) rfl))) (Or.inr (hw _ (List.mem_of_getElem? (i := 122) rfl))) (by decide) (t := (.object "com/example/sorrel/sorrel/middle/ir/Value$Type")) (t' := (.object "java/lang/String")) (by decide) (by decide))))
  have f284_Ef := (f281_Ef.wr W282)
  obtain ⟨T285, h285, X285, e285, W285, st285⟩ := putF X282 hx hZ hown (host := "") (Or.inl (hw _ (List.mem_of_getElem? (i := 123) rfl))) Via.refl e282 f283_DreturnType f284_Ef (Or.inr ⟨(hw _ (List.mem_of_getElem? (i := 124) rfl)), rfl, hnm⟩) (hw _ (List.mem_of_getElem? (i := 108) rfl)) (ty := (.object "com/example/sorrel/sorrel/middle/ir/Value$Type")) (by decide) rfl (fit_of hw3) (g := (mkF m 33 #[.val (.ref a1), .val (.ref a2), .val w3] [w3, (.ref a1)])) rfl rfl (hb hby d14_33)
  have Z285 : n0 ≤ h285.size := Nat.le_trans Z282 (Nat.le_of_eq W285.size.symm)
  have hk285 := Nat.le_trans hk282 (Nat.le_of_eq W285.size.symm)
  have M285 := Fr.snoc X285 M282 g1
  have F285_DreturnType := f283_DreturnType.same W285
  refine Go.by (g' := (mkF m 36 #[.val (.ref a1), .val (.ref a2), .val w3] [])) st285 ?_
  refine Go.by (g' := (mkF m 37 #[.val (.ref a1), .val (.ref a2), .val w3] [(.ref a1)])) (fun _ k => XS.aloadN X285.here hx rfl (hb hby d14_36) rfl rfl k) ?_
  refine Go.ldc X285 hx hZ hown (hw _ (List.mem_of_getElem? (i := 125) rfl)) (own_wS hw) e285 hS hk285 (g := (mkF m 37 #[.val (.ref a1), .val (.ref a2), .val w3] [(.ref a1)])) rfl (hb hby d14_37) (n := 20) (by first | decide | decide +kernel) (by decide) (by decide) (by decide) ?_
  intro se T286 h286 k286 X286 e286 E286 hS hk286 hZ hown
  have Z286 : n0 ≤ h286.size := Nat.le_trans Z285 E286.1
  show Go p e below _ _ T286 (mkF m 39 #[.val (.ref a1), .val (.ref a2), .val w3] [(.ref se), (.ref a1)])
  have f287_Ef := ((f284_Ef.wr W285).ext E286)
  have f288_Em_l1 := ((((((f274_Em_l1.ext E272).keep K276 (ninS ne_l1_lb nin0)).keep (Keep.of_wr W279) (ninS (Ne.symm ne_a1_l1) nin0)).keep (Keep.of_wr W282) (ninS (Ne.symm ne_a1_l1) nin0)).keep (Keep.of_wr W285) (ninS (Ne.symm ne_a1_l1) nin0)).ext E286)
  have f289_Em_lb := ((((Em_lb.keep (Keep.of_wr W279) (ninS (Ne.symm ne_a1_lb) nin0)).keep (Keep.of_wr W282) (ninS (Ne.symm ne_a1_lb) nin0)).keep (Keep.of_wr W285) (ninS (Ne.symm ne_a1_lb) nin0)).ext E286)
  have f290_Dlabel := (((((((((Dlabel.ext E266).keep K268 (ninS ne_a1_l1 nin0)).other W271 (Or.inr (slot_ne (Or.inl (hw _ (List.mem_of_getElem? (i := 137) rfl))) (Or.inr (hw _ (List.mem_of_getElem? (i := 118) rfl))) (by decide) (t := (.object "java/lang/String")) (t' := (.object "java/util/List")) (by decide) (by decide)))).ext E272).keep K276 (ninS ne_a1_lb nin0)).other W279 (Or.inr (slot_ne (Or.inl (hw _ (List.mem_of_getElem? (i := 137) rfl))) (Or.inr (hw _ (List.mem_of_getElem? (i := 120) rfl))) (by decide) (t := (.object "java/lang/String")) (t' := (.object "java/util/List")) (by decide) (by decide)))).other W282 (Or.inr (slot_ne (Or.inl (hw _ (List.mem_of_getElem? (i := 137) rfl))) (Or.inr (hw _ (List.mem_of_getElem? (i := 122) rfl))) (by decide) (t := (.object "java/lang/String")) (t' := (.object "java/lang/String")) (by decide) (by decide)))).other W285 (Or.inr (slot_ne (Or.inl (hw _ (List.mem_of_getElem? (i := 137) rfl))) (Or.inr (hw _ (List.mem_of_getElem? (i := 124) rfl))) (by decide) (t := (.object "java/lang/String")) (t' := (.object "com/example/sorrel/sorrel/middle/ir/Value$Type")) (by decide) (by decide)))).ext E286)
  have f291_Dinstructions := (((((((((Dinstructions.ext E266).keep K268 (ninS ne_a1_l1 nin0)).other W271 (Or.inr (slot_ne (Or.inl (hw _ (List.mem_of_getElem? (i := 139) rfl))) (Or.inr (hw _ (List.mem_of_getElem? (i := 118) rfl))) (by decide) (t := (.object "java/util/List")) (t' := (.object "java/util/List")) (by decide) (by decide)))).ext E272).keep K276 (ninS ne_a1_lb nin0)).other W279 (Or.inr (slot_ne (Or.inl (hw _ (List.mem_of_getElem? (i := 139) rfl))) (Or.inr (hw _ (List.mem_of_getElem? (i := 120) rfl))) (by decide) (t := (.object "java/util/List")) (t' := (.object "java/util/List")) (by decide) (by decide)))).other W282 (Or.inr (slot_ne (Or.inl (hw _ (List.mem_of_getElem? (i := 139) rfl))) (Or.inr (hw _ (List.mem_of_getElem? (i := 122) rfl))) (by decide) (t := (.object "java/util/List")) (t' := (.object "java/lang/String")) (by decide) (by decide)))).other W285 (Or.inr (slot_ne (Or.inl (hw _ (List.mem_of_getElem? (i := 139) rfl))) (Or.inr (hw _ (List.mem_of_getElem? (i := 124) rfl))) (by decide) (t := (.object "java/util/List")) (t' := (.object "com/example/sorrel/sorrel/middle/ir/Value$Type")) (by decide) (by decide)))).ext E286)
  have f292_Dblocks := (((F279_Dblocks.other W282 (Or.inr (slot_ne (Or.inr (hw _ (List.mem_of_getElem? (i := 120) rfl))) (Or.inr (hw _ (List.mem_of_getElem? (i := 122) rfl))) (by decide) (t := (.object "java/util/List")) (t' := (.object "java/lang/String")) (by decide) (by decide)))).other W285 (Or.inr (slot_ne (Or.inr (hw _ (List.mem_of_getElem? (i := 120) rfl))) (Or.inr (hw _ (List.mem_of_getElem? (i := 124) rfl))) (by decide) (t := (.object "java/util/List")) (t' := (.object "com/example/sorrel/sorrel/middle/ir/Value$Type")) (by decide) (by decide)))).ext E286)
  have f293_OL := (((((f275_OL.keep K276 (allS ge_lb all0)).wr W279 g1).wr W282 g1).wr W285 g1).ext E286)
  refine Go.callV X286 hx hZ (y := (⟨"com/example/sorrel/sorrel/middle/ir/FunctionBuilder", "startBlock", "(Ljava/lang/String;)V"⟩ : MethodName)) (z := (⟨"com/example/sorrel/sorrel/middle/ir/FunctionBuilder", "startBlock", "(Ljava/lang/String;)V"⟩ : MethodName)) hown (hw _ (List.mem_of_getElem? (i := 126) rfl)) (hw _ (List.mem_of_getElem? (i := 127) rfl)) (notFace_of_selects (args := #[]) (mvT hZ (hw _ (List.mem_of_getElem? (i := 129) rfl)))) (hw _ (List.mem_of_getElem? (i := 129) rfl)) (hw _ (List.mem_of_getElem? (i := 128) rfl)) (hw _ (List.mem_of_getElem? (i := 109) rfl)) (hw _ (List.mem_of_getElem? (i := 130) rfl)) (by decide) (W := 0) (a := a1) (argsL := [(.ref se)]) (rest := []) f287_Ef (rm15 l Z a0 hw a1 se h286 n0 Z286 aD .null (.ref lb) f287_Ef f290_Dlabel f291_Dinstructions f292_Dblocks g1 f293_OL SD) (by decide) (by decide) (by decide) (by decide) (g := (mkF m 39 #[.val (.ref a1), .val (.ref a2), .val w3] [(.ref se), (.ref a1)])) rfl (by rw [hml]; rfl) (lenOf pd_15 rfl) rfl (by show 2 * 0 + _ ≤ _; exact Nat.le_of_eq rfl) (hb hby d14_39) e286 ?_
  rintro T294 L294 _ X294 ⟨li, rfl, N294, K294, szl, Fl, Fi, Fb, Em⟩
  have M294 := Fr.app M285 N294
  have Z294 : n0 ≤ T294.heap.size := Nat.le_trans Z286 K294.1
  have hk294 := Nat.le_trans hk286 K294.1
  show Go p e below _ _ T294 (mkF m 42 #[.val (.ref a1), .val (.ref a2), .val w3] [])
  have ne_a1_li : a1 ≠ li := Nat.ne_of_lt (Nat.lt_of_lt_of_le f287_Ef.lt szl)
  have ne_l1_li : l1 ≠ li := Nat.ne_of_lt (Nat.lt_of_lt_of_le f288_Em_l1.lt szl)
  have ne_lb_li : lb ≠ li := Nat.ne_of_lt (Nat.lt_of_lt_of_le f289_Em_lb.lt szl)
  have ge_li : n0 ≤ li := Nat.le_trans Z286 szl
  have f295_Ef := (f287_Ef.keep K294)
  have f296_Em_lb := (f289_Em_lb.keep K294 (ninS (Ne.symm ne_a1_lb) nin0))
  exact Go.outN X294 hx hret (Lv.wide X294 hlk hS hk294 (by decide) (by decide)) (hb hby d14_42) ⟨rfl, M294, ((((((((((Kp.of_ext E266).trans (Kp.of_keep K268 (allS ge_l1 all0))).trans (Kp.of_wr W271 g1)).trans (Kp.of_ext E272)).trans (Kp.of_keep K276 (allS ge_lb all0))).trans (Kp.of_wr W279 g1)).trans (Kp.of_wr W282 g1)).trans (Kp.of_wr W285 g1)).trans (Kp.of_ext E286)).trans (Kp.of_keep K294 (allS g1 all0))), se, lb, lb, li, li, 0, 0, [], [], f295_Ef, Fl, Fb, Fi, Or.inl ⟨rfl, rfl, f296_Em_lb⟩, Or.inl ⟨rfl, rfl, Em⟩, ⟨ge_lb, ge_lb, ge_li, ge_li⟩, ⟨ne_lb_li, ne_lb_li, ne_lb_li, ne_lb_li, ne_a1_lb, ne_a1_lb, ne_a1_li, ne_a1_li⟩, Nat.le_refl _, Nat.le_refl _, (fun _ q => nomatch q)⟩
theorem ef_17 (a1 : Addr) (p2 : Int32) (p3 : Int32) (a4 : Addr) (a5 : Addr) (a6 : Addr) (m : MethodId) : entryFrame m #[(.ref a1), (.int p2), (.int p3), (.ref a4), (.ref a5), (.ref a6)] 8 = mkF m 0 #[.val (.ref a1), .val (.int p2), .val (.int p3), .val (.ref a4), .val (.ref a5), .val (.ref a6), .unset, .unset] [] := by first | (simp [entryFrame, mkF, argsToLocals, Value.category]; done) | rfl
set_option maxRecDepth 65536 in
set_option maxHeartbeats 40000000 in
theorem rm17 (l : Launch) (Z : State) (a0 : Array Value) (hw : ∀ d ∈ tables_1, d.before a0 Z = true) (a1 : Addr) (p2 : Int32) (p3 : Int32) (a4 : Addr) (a5 : Addr) (a6 : Addr) (h0 : Heap) (n0 : Nat) (Z0 : n0 ≤ h0.size) (aD : Addr) (kD : ClassId) (aM aL mr : Addr) (nb ni : Nat) (FS : FBs Z a0 h0 n0 aD a1 p2 nb ni) (hnb : nb ≤ 8) (hni : ni ≤ 2) (g1 : n0 ≤ a1) (E4 : Exa Z h0 a4 "com/example/sorrel/sorrel/middle/ir/Instruction$Jump") (E5 : Exa Z h0 a5 "com/example/sorrel/sorrel/middle/ir/Instruction$Return") (E6 : Exa Z h0 a6 "com/example/sorrel/sorrel/middle/ir/Instruction$Call") (OL : Old Z n0 h0) (SD : Sta Z Z.heap "java/util/ArrayList" "DEFAULTCAPACITY_EMPTY_ELEMENTDATA" "[Ljava/lang/Object;" (.ref aD)) (AD : Arv Z Z.heap aD kD OA 0 [] .null) (SEM : Sta Z Z.heap "java/util/ImmutableCollections" "EMPTY" "Ljava/lang/Object;" (.ref aM)) (SEL : Sta Z Z.heap "java/util/ImmutableCollections" "EMPTY_LIST" "Ljava/util/ImmutableCollections$ListN;" (.ref aL)) (MM : MirM Z "[Ljava/lang/Object;" mr) :
    CtrW l Z (⟨"com/example/sorrel/sorrel/middle/ir/FunctionBuilderIsOpenPinLaw", "step", "(Lcom/example/sorrel/sorrel/middle/ir/FunctionBuilder;IILcom/example/sorrel/sorrel/middle/ir/Instruction;Lcom/example/sorrel/sorrel/middle/ir/Instruction;Lcom/example/sorrel/sorrel/middle/ir/Instruction;)I"⟩ : MethodName) method_4_code 8 (some .int) ({ frames := 11, cells := 6, slots := 40, locals := 178 } : Room) #[(.ref a1), (.int p2), (.int p3), (.ref a4), (.ref a5), (.ref a6)] h0 (fun v h L => ∃ r, v = some (.int r) ∧ Fr n0 L ∧ Kp n0 h0 h ∧ FBs Z a0 h n0 aD a1 r (nb + 1) (ni + 1)) := by
  refine CtrW.of pf_17 (ef_17 a1 p2 p3 a4 a5 a6) ?_
  intro p e s vm0 m below meth c T0 hx hby hml hret hlk hnm hS hZ hown e0 X0
  rcases FS with ⟨hp, lab, FBH⟩ | ⟨hp, FBH⟩
  · subst hp
    refine Go.by (g' := (mkF m 1 #[.val (.ref a1), .val (.int (1 : Int32)), .val (.int p3), .val (.ref a4), .val (.ref a5), .val (.ref a6), .unset, .unset] [(.int (1 : Int32))])) (fun _ k => XS.iloadN X0.here hx rfl (hb hby d17_0) rfl k) ?_
    refine Go.by (g' := (mkF m 6 #[.val (.ref a1), .val (.int (1 : Int32)), .val (.int p3), .val (.ref a4), .val (.ref a5), .val (.ref a6), .unset, .unset] [])) (fun _ k => XS.ifYes X0.here hx rfl (pc0 := 1) (pc' := 6) rfl (hb hby d17_1) rfl ((if0 _ _).trans (flt (by decide)).2.1) (by decide) (by decide) k) ?_
    refine Go.by (g' := (mkF m 7 #[.val (.ref a1), .val (.int (1 : Int32)), .val (.int p3), .val (.ref a4), .val (.ref a5), .val (.ref a6), .unset, .unset] [(.int (1 : Int32))])) (fun _ k => XS.iloadN X0.here hx rfl (hb hby d17_6) rfl k) ?_
    refine Go.by (g' := (mkF m 8 #[.val (.ref a1), .val (.int (1 : Int32)), .val (.int p3), .val (.ref a4), .val (.ref a5), .val (.ref a6), .unset, .unset] [(.int (1 : Int32)), (.int (1 : Int32))])) (fun _ k => XS.iconst X0.here hx rfl (hb hby d17_7) k) ?_
    refine Go.by (g' := (mkF m 11 #[.val (.ref a1), .val (.int (1 : Int32)), .val (.int p3), .val (.ref a4), .val (.ref a5), .val (.ref a6), .unset, .unset] [])) (fun _ k => XS.icmpNo X0.here hx rfl (hb hby d17_8) rfl (teq rfl).2 k) ?_
    refine Go.by (g' := (mkF m 12 #[.val (.ref a1), .val (.int (1 : Int32)), .val (.int p3), .val (.ref a4), .val (.ref a5), .val (.ref a6), .unset, .unset] [(.int p3)])) (fun _ k => XS.iloadN X0.here hx rfl (hb hby d17_11) rfl k) ?_
    refine Go.by (g' := (mkF m 13 #[.val (.ref a1), .val (.int (1 : Int32)), .val (.int p3), .val (.ref a4), .val (.ref a5), .val (.ref a6), .unset, .unset] [(.int (3 : Int32)), (.int p3)])) (fun _ k => XS.iconst X0.here hx rfl (hb hby d17_12) k) ?_
    refine Go.by (g' := (mkF m 14 #[.val (.ref a1), .val (.int (1 : Int32)), .val (.int p3), .val (.ref a4), .val (.ref a5), .val (.ref a6), .unset, .unset] [(.int (p3 &&& (3 : Int32)))])) (fun _ k => XS.iand X0.here hx rfl (hb hby d17_13) rfl k) ?_
    refine Go.by (g' := (mkF m 16 #[.val (.ref a1), .val (.int (1 : Int32)), .val (.int p3), .val (.ref a4), .val (.ref a5), .val (.ref a6), .unset, .val (.int (p3 &&& (3 : Int32)))] [])) (fun _ k => XS.istore X0.here hx rfl (hb hby d17_14) rfl (l' := #[.val (.ref a1), .val (.int (1 : Int32)), .val (.int p3), .val (.ref a4), .val (.ref a5), .val (.ref a6), .unset, .val (.int (p3 &&& (3 : Int32)))]) rfl k) ?_
    refine Go.by (g' := (mkF m 18 #[.val (.ref a1), .val (.int (1 : Int32)), .val (.int p3), .val (.ref a4), .val (.ref a5), .val (.ref a6), .unset, .val (.int (p3 &&& (3 : Int32)))] [(.int (p3 &&& (3 : Int32)))])) (fun _ k => XS.iload X0.here hx rfl (hb hby d17_16) rfl k) ?_
    refine Go.by (g' := (mkF m 19 #[.val (.ref a1), .val (.int (1 : Int32)), .val (.int p3), .val (.ref a4), .val (.ref a5), .val (.ref a6), .unset, .val (.int (p3 &&& (3 : Int32)))] [(.int (2 : Int32)), (.int (p3 &&& (3 : Int32)))])) (fun _ k => XS.iconst X0.here hx rfl (hb hby d17_18) k) ?_
    by_cases h19 : (p3 &&& (3 : Int32)) = (2 : Int32)
    · refine Go.by (g' := (mkF m 22 #[.val (.ref a1), .val (.int (1 : Int32)), .val (.int p3), .val (.ref a4), .val (.ref a5), .val (.ref a6), .unset, .val (.int (p3 &&& (3 : Int32)))] [])) (fun _ k => XS.icmpNo X0.here hx rfl (hb hby d17_19) rfl (teq h19).2 k) ?_
      refine Go.by (g' := (mkF m 23 #[.val (.ref a1), .val (.int (1 : Int32)), .val (.int p3), .val (.ref a4), .val (.ref a5), .val (.ref a6), .unset, .val (.int (p3 &&& (3 : Int32)))] [(.ref a1)])) (fun _ k => XS.aloadN X0.here hx rfl (hb hby d17_22) rfl rfl k) ?_
      refine Go.by (g' := (mkF m 24 #[.val (.ref a1), .val (.int (1 : Int32)), .val (.int p3), .val (.ref a4), .val (.ref a5), .val (.ref a6), .unset, .val (.int (p3 &&& (3 : Int32)))] [(.ref a4), (.ref a1)])) (fun _ k => XS.aloadN X0.here hx rfl (hb hby d17_23) rfl rfl k) ?_
      refine Go.callV X0 hx hZ (y := (⟨"com/example/sorrel/sorrel/middle/ir/FunctionBuilder", "add", "(Lcom/example/sorrel/sorrel/middle/ir/Instruction;)V"⟩ : MethodName)) (z := (⟨"com/example/sorrel/sorrel/middle/ir/FunctionBuilder", "add", "(Lcom/example/sorrel/sorrel/middle/ir/Instruction;)V"⟩ : MethodName)) hown (hw _ (List.mem_of_getElem? (i := 144) rfl)) (hw _ (List.mem_of_getElem? (i := 145) rfl)) (notFace_of_selects (args := #[]) (mvT hZ (hw _ (List.mem_of_getElem? (i := 147) rfl)))) (hw _ (List.mem_of_getElem? (i := 147) rfl)) (hw _ (List.mem_of_getElem? (i := 146) rfl)) (hw _ (List.mem_of_getElem? (i := 109) rfl)) (hw _ (List.mem_of_getElem? (i := 148) rfl)) (by decide) (W := 0) (a := a1) (argsL := [(.ref a4)]) (rest := []) FBH.exa (rm18J l Z a0 hw a1 a4 h0 n0 Z0 aD kD aM aL mr lab nb ni FBH hnb hni g1 E4 OL SD AD SEM SEL MM) (by decide) (by decide) (by decide) (by decide) (g := (mkF m 24 #[.val (.ref a1), .val (.int (1 : Int32)), .val (.int p3), .val (.ref a4), .val (.ref a5), .val (.ref a6), .unset, .val (.int (p3 &&& (3 : Int32)))] [(.ref a4), (.ref a1)])) rfl (by rw [hml]; rfl) (lenOf pd_18 rfl) rfl (by show 2 * 0 + _ ≤ _; exact Nat.le_of_eq rfl) (hb hby d17_24) e0 ?_
      rintro T297 L297 _ X297 ⟨rfl, N297, P297, FB2⟩
      have M297 := Fr.app (Fr.nil n0) N297
      have Z297 : n0 ≤ T297.heap.size := Nat.le_trans Z0 P297.size
      have hk297 := Nat.le_trans (Nat.zero_le _) P297.size
      show Go p e below _ _ T297 (mkF m 27 #[.val (.ref a1), .val (.int (1 : Int32)), .val (.int p3), .val (.ref a4), .val (.ref a5), .val (.ref a6), .unset, .val (.int (p3 &&& (3 : Int32)))] [])
      refine Go.by (g' := (mkF m 28 #[.val (.ref a1), .val (.int (1 : Int32)), .val (.int p3), .val (.ref a4), .val (.ref a5), .val (.ref a6), .unset, .val (.int (p3 &&& (3 : Int32)))] [(.int (0 : Int32))])) (fun _ k => XS.iconst X297.here hx rfl (hb hby d17_27) k) ?_
      refine Go.by (g' := (mkF m 30 #[.val (.ref a1), .val (.int (1 : Int32)), .val (.int p3), .val (.ref a4), .val (.ref a5), .val (.ref a6), .val (.int (0 : Int32)), .val (.int (p3 &&& (3 : Int32)))] [])) (fun _ k => XS.istore X297.here hx rfl (hb hby d17_28) rfl (l' := #[.val (.ref a1), .val (.int (1 : Int32)), .val (.int p3), .val (.ref a4), .val (.ref a5), .val (.ref a6), .val (.int (0 : Int32)), .val (.int (p3 &&& (3 : Int32)))]) rfl k) ?_
      refine Go.by (g' := (mkF m 60 #[.val (.ref a1), .val (.int (1 : Int32)), .val (.int p3), .val (.ref a4), .val (.ref a5), .val (.ref a6), .val (.int (0 : Int32)), .val (.int (p3 &&& (3 : Int32)))] [])) (fun _ k => XS.goto X297.here hx rfl (pc0 := 30) (pc' := 60) rfl (hb hby d17_30) (by decide) (by decide) k) ?_
      refine Go.by (g' := (mkF m 72 #[.val (.ref a1), .val (.int (1 : Int32)), .val (.int p3), .val (.ref a4), .val (.ref a5), .val (.ref a6), .val (.int (0 : Int32)), .val (.int (p3 &&& (3 : Int32)))] [])) (fun _ k => XS.goto X297.here hx rfl (pc0 := 60) (pc' := 72) rfl (hb hby d17_60) (by decide) (by decide) k) ?_
      refine Go.by (g' := (mkF m 73 #[.val (.ref a1), .val (.int (1 : Int32)), .val (.int p3), .val (.ref a4), .val (.ref a5), .val (.ref a6), .val (.int (0 : Int32)), .val (.int (p3 &&& (3 : Int32)))] [(.ref a1)])) (fun _ k => XS.aloadN X297.here hx rfl (hb hby d17_72) rfl rfl k) ?_
      refine Go.callV X297 hx hZ (y := (⟨"com/example/sorrel/sorrel/middle/ir/FunctionBuilder", "isOpen", "()Z"⟩ : MethodName)) (z := (⟨"com/example/sorrel/sorrel/middle/ir/FunctionBuilder", "isOpen", "()Z"⟩ : MethodName)) hown (hw _ (List.mem_of_getElem? (i := 140) rfl)) (hw _ (List.mem_of_getElem? (i := 132) rfl)) (notFace_of_selects (args := #[]) (mvT hZ (hw _ (List.mem_of_getElem? (i := 134) rfl)))) (hw _ (List.mem_of_getElem? (i := 134) rfl)) (hw _ (List.mem_of_getElem? (i := 133) rfl)) (hw _ (List.mem_of_getElem? (i := 109) rfl)) (hw _ (List.mem_of_getElem? (i := 135) rfl)) (by decide) (W := 0) (a := a1) (argsL := []) (rest := []) FB2.exa (rm16N l Z a0 hw a1 T297.heap n0 FB2.lab) (by decide) (by decide) (by decide) (by decide) (g := (mkF m 73 #[.val (.ref a1), .val (.int (1 : Int32)), .val (.int p3), .val (.ref a4), .val (.ref a5), .val (.ref a6), .val (.int (0 : Int32)), .val (.int (p3 &&& (3 : Int32)))] [(.ref a1)])) rfl (by rw [hml]; rfl) (lenOf pd_16 rfl) rfl (by show 2 * 0 + _ ≤ _; exact Nat.le_of_eq rfl) (hb hby d17_73) rfl ?_
      rintro T298 L298 _ X298 ⟨rfl, N298, q298⟩
      have M298 := Fr.app M297 N298
      show Go p e below _ _ T298 (mkF m 76 #[.val (.ref a1), .val (.int (1 : Int32)), .val (.int p3), .val (.ref a4), .val (.ref a5), .val (.ref a6), .val (.int (0 : Int32)), .val (.int (p3 &&& (3 : Int32)))] [(.int (0 : Int32))])
      refine Go.by (g' := (mkF m 78 #[.val (.ref a1), .val (.int (1 : Int32)), .val (.int p3), .val (.ref a4), .val (.ref a5), .val (.ref a6), .val (.int (0 : Int32)), .val (.int (p3 &&& (3 : Int32)))] [(.int (0 : Int32)), (.int (0 : Int32))])) (fun _ k => XS.iload X298.here hx rfl (hb hby d17_76) rfl k) ?_
      refine Go.by (g' := (mkF m 83 #[.val (.ref a1), .val (.int (1 : Int32)), .val (.int p3), .val (.ref a4), .val (.ref a5), .val (.ref a6), .val (.int (0 : Int32)), .val (.int (p3 &&& (3 : Int32)))] [])) (fun _ k => XS.icmpYes X298.here hx rfl (pc0 := 78) (pc' := 83) rfl (hb hby d17_78) rfl (teq rfl).1 (by decide) (by decide) k) ?_
      refine Go.by (g' := (mkF m 85 #[.val (.ref a1), .val (.int (1 : Int32)), .val (.int p3), .val (.ref a4), .val (.ref a5), .val (.ref a6), .val (.int (0 : Int32)), .val (.int (p3 &&& (3 : Int32)))] [(.int (0 : Int32))])) (fun _ k => XS.iload X298.here hx rfl (hb hby d17_83) rfl k) ?_
      refine Go.by (g' := (mkF m 92 #[.val (.ref a1), .val (.int (1 : Int32)), .val (.int p3), .val (.ref a4), .val (.ref a5), .val (.ref a6), .val (.int (0 : Int32)), .val (.int (p3 &&& (3 : Int32)))] [])) (fun _ k => XS.ifYes X298.here hx rfl (pc0 := 85) (pc' := 92) rfl (hb hby d17_85) rfl ((if0 _ _).trans (teq rfl).1) (by decide) (by decide) k) ?_
      refine Go.by (g' := (mkF m 93 #[.val (.ref a1), .val (.int (1 : Int32)), .val (.int p3), .val (.ref a4), .val (.ref a5), .val (.ref a6), .val (.int (0 : Int32)), .val (.int (p3 &&& (3 : Int32)))] [(.int (0 : Int32))])) (fun _ k => XS.iconst X298.here hx rfl (hb hby d17_92) k) ?_
      exact Go.outI X298 hx hret (Lv.wide X298 hlk hS (by rw [q298]; exact hk297) (by decide) (by decide)) (hb hby d17_93) (by rw [q298]; exact ⟨_, rfl, M298, P297, Or.inr ⟨rfl, FB2.mono (by omega) (by omega)⟩⟩)
    · refine Go.by (g' := (mkF m 33 #[.val (.ref a1), .val (.int (1 : Int32)), .val (.int p3), .val (.ref a4), .val (.ref a5), .val (.ref a6), .unset, .val (.int (p3 &&& (3 : Int32)))] [])) (fun _ k => XS.icmpYes X0.here hx rfl (pc0 := 19) (pc' := 33) rfl (hb hby d17_19) rfl (feq h19).2 (by decide) (by decide) k) ?_
      refine Go.by (g' := (mkF m 35 #[.val (.ref a1), .val (.int (1 : Int32)), .val (.int p3), .val (.ref a4), .val (.ref a5), .val (.ref a6), .unset, .val (.int (p3 &&& (3 : Int32)))] [(.int (p3 &&& (3 : Int32)))])) (fun _ k => XS.iload X0.here hx rfl (hb hby d17_33) rfl k) ?_
      refine Go.by (g' := (mkF m 36 #[.val (.ref a1), .val (.int (1 : Int32)), .val (.int p3), .val (.ref a4), .val (.ref a5), .val (.ref a6), .unset, .val (.int (p3 &&& (3 : Int32)))] [(.int (3 : Int32)), (.int (p3 &&& (3 : Int32)))])) (fun _ k => XS.iconst X0.here hx rfl (hb hby d17_35) k) ?_
      by_cases h36 : (p3 &&& (3 : Int32)) = (3 : Int32)
      · refine Go.by (g' := (mkF m 39 #[.val (.ref a1), .val (.int (1 : Int32)), .val (.int p3), .val (.ref a4), .val (.ref a5), .val (.ref a6), .unset, .val (.int (p3 &&& (3 : Int32)))] [])) (fun _ k => XS.icmpNo X0.here hx rfl (hb hby d17_36) rfl (teq h36).2 k) ?_
        refine Go.by (g' := (mkF m 40 #[.val (.ref a1), .val (.int (1 : Int32)), .val (.int p3), .val (.ref a4), .val (.ref a5), .val (.ref a6), .unset, .val (.int (p3 &&& (3 : Int32)))] [(.ref a1)])) (fun _ k => XS.aloadN X0.here hx rfl (hb hby d17_39) rfl rfl k) ?_
        refine Go.by (g' := (mkF m 42 #[.val (.ref a1), .val (.int (1 : Int32)), .val (.int p3), .val (.ref a4), .val (.ref a5), .val (.ref a6), .unset, .val (.int (p3 &&& (3 : Int32)))] [(.ref a5), (.ref a1)])) (fun _ k => XS.aload X0.here hx rfl (hb hby d17_40) rfl rfl k) ?_
        refine Go.callV X0 hx hZ (y := (⟨"com/example/sorrel/sorrel/middle/ir/FunctionBuilder", "add", "(Lcom/example/sorrel/sorrel/middle/ir/Instruction;)V"⟩ : MethodName)) (z := (⟨"com/example/sorrel/sorrel/middle/ir/FunctionBuilder", "add", "(Lcom/example/sorrel/sorrel/middle/ir/Instruction;)V"⟩ : MethodName)) hown (hw _ (List.mem_of_getElem? (i := 144) rfl)) (hw _ (List.mem_of_getElem? (i := 145) rfl)) (notFace_of_selects (args := #[]) (mvT hZ (hw _ (List.mem_of_getElem? (i := 147) rfl)))) (hw _ (List.mem_of_getElem? (i := 147) rfl)) (hw _ (List.mem_of_getElem? (i := 146) rfl)) (hw _ (List.mem_of_getElem? (i := 109) rfl)) (hw _ (List.mem_of_getElem? (i := 148) rfl)) (by decide) (W := 0) (a := a1) (argsL := [(.ref a5)]) (rest := []) FBH.exa (rm18R l Z a0 hw a1 a5 h0 n0 Z0 aD kD aM aL mr lab nb ni FBH hnb hni g1 E5 OL SD AD SEM SEL MM) (by decide) (by decide) (by decide) (by decide) (g := (mkF m 42 #[.val (.ref a1), .val (.int (1 : Int32)), .val (.int p3), .val (.ref a4), .val (.ref a5), .val (.ref a6), .unset, .val (.int (p3 &&& (3 : Int32)))] [(.ref a5), (.ref a1)])) rfl (by rw [hml]; rfl) (lenOf pd_18 rfl) rfl (by show 2 * 0 + _ ≤ _; exact Nat.le_of_eq rfl) (hb hby d17_42) e0 ?_
        rintro T299 L299 _ X299 ⟨rfl, N299, P299, FB2⟩
        have M299 := Fr.app (Fr.nil n0) N299
        have Z299 : n0 ≤ T299.heap.size := Nat.le_trans Z0 P299.size
        have hk299 := Nat.le_trans (Nat.zero_le _) P299.size
        show Go p e below _ _ T299 (mkF m 45 #[.val (.ref a1), .val (.int (1 : Int32)), .val (.int p3), .val (.ref a4), .val (.ref a5), .val (.ref a6), .unset, .val (.int (p3 &&& (3 : Int32)))] [])
        refine Go.by (g' := (mkF m 46 #[.val (.ref a1), .val (.int (1 : Int32)), .val (.int p3), .val (.ref a4), .val (.ref a5), .val (.ref a6), .unset, .val (.int (p3 &&& (3 : Int32)))] [(.int (0 : Int32))])) (fun _ k => XS.iconst X299.here hx rfl (hb hby d17_45) k) ?_
        refine Go.by (g' := (mkF m 48 #[.val (.ref a1), .val (.int (1 : Int32)), .val (.int p3), .val (.ref a4), .val (.ref a5), .val (.ref a6), .val (.int (0 : Int32)), .val (.int (p3 &&& (3 : Int32)))] [])) (fun _ k => XS.istore X299.here hx rfl (hb hby d17_46) rfl (l' := #[.val (.ref a1), .val (.int (1 : Int32)), .val (.int p3), .val (.ref a4), .val (.ref a5), .val (.ref a6), .val (.int (0 : Int32)), .val (.int (p3 &&& (3 : Int32)))]) rfl k) ?_
        refine Go.by (g' := (mkF m 60 #[.val (.ref a1), .val (.int (1 : Int32)), .val (.int p3), .val (.ref a4), .val (.ref a5), .val (.ref a6), .val (.int (0 : Int32)), .val (.int (p3 &&& (3 : Int32)))] [])) (fun _ k => XS.goto X299.here hx rfl (pc0 := 48) (pc' := 60) rfl (hb hby d17_48) (by decide) (by decide) k) ?_
        refine Go.by (g' := (mkF m 72 #[.val (.ref a1), .val (.int (1 : Int32)), .val (.int p3), .val (.ref a4), .val (.ref a5), .val (.ref a6), .val (.int (0 : Int32)), .val (.int (p3 &&& (3 : Int32)))] [])) (fun _ k => XS.goto X299.here hx rfl (pc0 := 60) (pc' := 72) rfl (hb hby d17_60) (by decide) (by decide) k) ?_
        refine Go.by (g' := (mkF m 73 #[.val (.ref a1), .val (.int (1 : Int32)), .val (.int p3), .val (.ref a4), .val (.ref a5), .val (.ref a6), .val (.int (0 : Int32)), .val (.int (p3 &&& (3 : Int32)))] [(.ref a1)])) (fun _ k => XS.aloadN X299.here hx rfl (hb hby d17_72) rfl rfl k) ?_
        refine Go.callV X299 hx hZ (y := (⟨"com/example/sorrel/sorrel/middle/ir/FunctionBuilder", "isOpen", "()Z"⟩ : MethodName)) (z := (⟨"com/example/sorrel/sorrel/middle/ir/FunctionBuilder", "isOpen", "()Z"⟩ : MethodName)) hown (hw _ (List.mem_of_getElem? (i := 140) rfl)) (hw _ (List.mem_of_getElem? (i := 132) rfl)) (notFace_of_selects (args := #[]) (mvT hZ (hw _ (List.mem_of_getElem? (i := 134) rfl)))) (hw _ (List.mem_of_getElem? (i := 134) rfl)) (hw _ (List.mem_of_getElem? (i := 133) rfl)) (hw _ (List.mem_of_getElem? (i := 109) rfl)) (hw _ (List.mem_of_getElem? (i := 135) rfl)) (by decide) (W := 0) (a := a1) (argsL := []) (rest := []) FB2.exa (rm16N l Z a0 hw a1 T299.heap n0 FB2.lab) (by decide) (by decide) (by decide) (by decide) (g := (mkF m 73 #[.val (.ref a1), .val (.int (1 : Int32)), .val (.int p3), .val (.ref a4), .val (.ref a5), .val (.ref a6), .val (.int (0 : Int32)), .val (.int (p3 &&& (3 : Int32)))] [(.ref a1)])) rfl (by rw [hml]; rfl) (lenOf pd_16 rfl) rfl (by show 2 * 0 + _ ≤ _; exact Nat.le_of_eq rfl) (hb hby d17_73) rfl ?_
        rintro T300 L300 _ X300 ⟨rfl, N300, q300⟩
        have M300 := Fr.app M299 N300
        show Go p e below _ _ T300 (mkF m 76 #[.val (.ref a1), .val (.int (1 : Int32)), .val (.int p3), .val (.ref a4), .val (.ref a5), .val (.ref a6), .val (.int (0 : Int32)), .val (.int (p3 &&& (3 : Int32)))] [(.int (0 : Int32))])
        refine Go.by (g' := (mkF m 78 #[.val (.ref a1), .val (.int (1 : Int32)), .val (.int p3), .val (.ref a4), .val (.ref a5), .val (.ref a6), .val (.int (0 : Int32)), .val (.int (p3 &&& (3 : Int32)))] [(.int (0 : Int32)), (.int (0 : Int32))])) (fun _ k => XS.iload X300.here hx rfl (hb hby d17_76) rfl k) ?_
        refine Go.by (g' := (mkF m 83 #[.val (.ref a1), .val (.int (1 : Int32)), .val (.int p3), .val (.ref a4), .val (.ref a5), .val (.ref a6), .val (.int (0 : Int32)), .val (.int (p3 &&& (3 : Int32)))] [])) (fun _ k => XS.icmpYes X300.here hx rfl (pc0 := 78) (pc' := 83) rfl (hb hby d17_78) rfl (teq rfl).1 (by decide) (by decide) k) ?_
        refine Go.by (g' := (mkF m 85 #[.val (.ref a1), .val (.int (1 : Int32)), .val (.int p3), .val (.ref a4), .val (.ref a5), .val (.ref a6), .val (.int (0 : Int32)), .val (.int (p3 &&& (3 : Int32)))] [(.int (0 : Int32))])) (fun _ k => XS.iload X300.here hx rfl (hb hby d17_83) rfl k) ?_
        refine Go.by (g' := (mkF m 92 #[.val (.ref a1), .val (.int (1 : Int32)), .val (.int p3), .val (.ref a4), .val (.ref a5), .val (.ref a6), .val (.int (0 : Int32)), .val (.int (p3 &&& (3 : Int32)))] [])) (fun _ k => XS.ifYes X300.here hx rfl (pc0 := 85) (pc' := 92) rfl (hb hby d17_85) rfl ((if0 _ _).trans (teq rfl).1) (by decide) (by decide) k) ?_
        refine Go.by (g' := (mkF m 93 #[.val (.ref a1), .val (.int (1 : Int32)), .val (.int p3), .val (.ref a4), .val (.ref a5), .val (.ref a6), .val (.int (0 : Int32)), .val (.int (p3 &&& (3 : Int32)))] [(.int (0 : Int32))])) (fun _ k => XS.iconst X300.here hx rfl (hb hby d17_92) k) ?_
        exact Go.outI X300 hx hret (Lv.wide X300 hlk hS (by rw [q300]; exact hk299) (by decide) (by decide)) (hb hby d17_93) (by rw [q300]; exact ⟨_, rfl, M300, P299, Or.inr ⟨rfl, FB2.mono (by omega) (by omega)⟩⟩)
      · refine Go.by (g' := (mkF m 51 #[.val (.ref a1), .val (.int (1 : Int32)), .val (.int p3), .val (.ref a4), .val (.ref a5), .val (.ref a6), .unset, .val (.int (p3 &&& (3 : Int32)))] [])) (fun _ k => XS.icmpYes X0.here hx rfl (pc0 := 36) (pc' := 51) rfl (hb hby d17_36) rfl (feq h36).2 (by decide) (by decide) k) ?_
        refine Go.by (g' := (mkF m 52 #[.val (.ref a1), .val (.int (1 : Int32)), .val (.int p3), .val (.ref a4), .val (.ref a5), .val (.ref a6), .unset, .val (.int (p3 &&& (3 : Int32)))] [(.ref a1)])) (fun _ k => XS.aloadN X0.here hx rfl (hb hby d17_51) rfl rfl k) ?_
        refine Go.by (g' := (mkF m 54 #[.val (.ref a1), .val (.int (1 : Int32)), .val (.int p3), .val (.ref a4), .val (.ref a5), .val (.ref a6), .unset, .val (.int (p3 &&& (3 : Int32)))] [(.ref a6), (.ref a1)])) (fun _ k => XS.aload X0.here hx rfl (hb hby d17_52) rfl rfl k) ?_
        refine Go.callV X0 hx hZ (y := (⟨"com/example/sorrel/sorrel/middle/ir/FunctionBuilder", "add", "(Lcom/example/sorrel/sorrel/middle/ir/Instruction;)V"⟩ : MethodName)) (z := (⟨"com/example/sorrel/sorrel/middle/ir/FunctionBuilder", "add", "(Lcom/example/sorrel/sorrel/middle/ir/Instruction;)V"⟩ : MethodName)) hown (hw _ (List.mem_of_getElem? (i := 144) rfl)) (hw _ (List.mem_of_getElem? (i := 145) rfl)) (notFace_of_selects (args := #[]) (mvT hZ (hw _ (List.mem_of_getElem? (i := 147) rfl)))) (hw _ (List.mem_of_getElem? (i := 147) rfl)) (hw _ (List.mem_of_getElem? (i := 146) rfl)) (hw _ (List.mem_of_getElem? (i := 109) rfl)) (hw _ (List.mem_of_getElem? (i := 148) rfl)) (by decide) (W := 0) (a := a1) (argsL := [(.ref a6)]) (rest := []) FBH.exa (rm18C l Z a0 hw a1 a6 h0 n0 Z0 aD kD aM aL mr lab nb ni FBH hnb hni g1 E6 OL SD AD SEM SEL MM) (by decide) (by decide) (by decide) (by decide) (g := (mkF m 54 #[.val (.ref a1), .val (.int (1 : Int32)), .val (.int p3), .val (.ref a4), .val (.ref a5), .val (.ref a6), .unset, .val (.int (p3 &&& (3 : Int32)))] [(.ref a6), (.ref a1)])) rfl (by rw [hml]; rfl) (lenOf pd_18 rfl) rfl (by show 2 * 0 + _ ≤ _; exact Nat.le_of_eq rfl) (hb hby d17_54) e0 ?_
        rintro T301 L301 _ X301 ⟨rfl, N301, P301, FB2⟩
        have M301 := Fr.app (Fr.nil n0) N301
        have Z301 : n0 ≤ T301.heap.size := Nat.le_trans Z0 P301.size
        have hk301 := Nat.le_trans (Nat.zero_le _) P301.size
        show Go p e below _ _ T301 (mkF m 57 #[.val (.ref a1), .val (.int (1 : Int32)), .val (.int p3), .val (.ref a4), .val (.ref a5), .val (.ref a6), .unset, .val (.int (p3 &&& (3 : Int32)))] [])
        refine Go.by (g' := (mkF m 58 #[.val (.ref a1), .val (.int (1 : Int32)), .val (.int p3), .val (.ref a4), .val (.ref a5), .val (.ref a6), .unset, .val (.int (p3 &&& (3 : Int32)))] [(.int (1 : Int32))])) (fun _ k => XS.iconst X301.here hx rfl (hb hby d17_57) k) ?_
        refine Go.by (g' := (mkF m 60 #[.val (.ref a1), .val (.int (1 : Int32)), .val (.int p3), .val (.ref a4), .val (.ref a5), .val (.ref a6), .val (.int (1 : Int32)), .val (.int (p3 &&& (3 : Int32)))] [])) (fun _ k => XS.istore X301.here hx rfl (hb hby d17_58) rfl (l' := #[.val (.ref a1), .val (.int (1 : Int32)), .val (.int p3), .val (.ref a4), .val (.ref a5), .val (.ref a6), .val (.int (1 : Int32)), .val (.int (p3 &&& (3 : Int32)))]) rfl k) ?_
        refine Go.by (g' := (mkF m 72 #[.val (.ref a1), .val (.int (1 : Int32)), .val (.int p3), .val (.ref a4), .val (.ref a5), .val (.ref a6), .val (.int (1 : Int32)), .val (.int (p3 &&& (3 : Int32)))] [])) (fun _ k => XS.goto X301.here hx rfl (pc0 := 60) (pc' := 72) rfl (hb hby d17_60) (by decide) (by decide) k) ?_
        refine Go.by (g' := (mkF m 73 #[.val (.ref a1), .val (.int (1 : Int32)), .val (.int p3), .val (.ref a4), .val (.ref a5), .val (.ref a6), .val (.int (1 : Int32)), .val (.int (p3 &&& (3 : Int32)))] [(.ref a1)])) (fun _ k => XS.aloadN X301.here hx rfl (hb hby d17_72) rfl rfl k) ?_
        refine Go.callV X301 hx hZ (y := (⟨"com/example/sorrel/sorrel/middle/ir/FunctionBuilder", "isOpen", "()Z"⟩ : MethodName)) (z := (⟨"com/example/sorrel/sorrel/middle/ir/FunctionBuilder", "isOpen", "()Z"⟩ : MethodName)) hown (hw _ (List.mem_of_getElem? (i := 140) rfl)) (hw _ (List.mem_of_getElem? (i := 132) rfl)) (notFace_of_selects (args := #[]) (mvT hZ (hw _ (List.mem_of_getElem? (i := 134) rfl)))) (hw _ (List.mem_of_getElem? (i := 134) rfl)) (hw _ (List.mem_of_getElem? (i := 133) rfl)) (hw _ (List.mem_of_getElem? (i := 109) rfl)) (hw _ (List.mem_of_getElem? (i := 135) rfl)) (by decide) (W := 0) (a := a1) (argsL := []) (rest := []) FB2.exa (rm16R l Z a0 hw a1 T301.heap n0 lab FB2.lab) (by decide) (by decide) (by decide) (by decide) (g := (mkF m 73 #[.val (.ref a1), .val (.int (1 : Int32)), .val (.int p3), .val (.ref a4), .val (.ref a5), .val (.ref a6), .val (.int (1 : Int32)), .val (.int (p3 &&& (3 : Int32)))] [(.ref a1)])) rfl (by rw [hml]; rfl) (lenOf pd_16 rfl) rfl (by show 2 * 0 + _ ≤ _; exact Nat.le_of_eq rfl) (hb hby d17_73) rfl ?_
        rintro T302 L302 _ X302 ⟨rfl, N302, q302⟩
        have M302 := Fr.app M301 N302
        show Go p e below _ _ T302 (mkF m 76 #[.val (.ref a1), .val (.int (1 : Int32)), .val (.int p3), .val (.ref a4), .val (.ref a5), .val (.ref a6), .val (.int (1 : Int32)), .val (.int (p3 &&& (3 : Int32)))] [(.int (1 : Int32))])
        refine Go.by (g' := (mkF m 78 #[.val (.ref a1), .val (.int (1 : Int32)), .val (.int p3), .val (.ref a4), .val (.ref a5), .val (.ref a6), .val (.int (1 : Int32)), .val (.int (p3 &&& (3 : Int32)))] [(.int (1 : Int32)), (.int (1 : Int32))])) (fun _ k => XS.iload X302.here hx rfl (hb hby d17_76) rfl k) ?_
        refine Go.by (g' := (mkF m 83 #[.val (.ref a1), .val (.int (1 : Int32)), .val (.int p3), .val (.ref a4), .val (.ref a5), .val (.ref a6), .val (.int (1 : Int32)), .val (.int (p3 &&& (3 : Int32)))] [])) (fun _ k => XS.icmpYes X302.here hx rfl (pc0 := 78) (pc' := 83) rfl (hb hby d17_78) rfl (teq rfl).1 (by decide) (by decide) k) ?_
        refine Go.by (g' := (mkF m 85 #[.val (.ref a1), .val (.int (1 : Int32)), .val (.int p3), .val (.ref a4), .val (.ref a5), .val (.ref a6), .val (.int (1 : Int32)), .val (.int (p3 &&& (3 : Int32)))] [(.int (1 : Int32))])) (fun _ k => XS.iload X302.here hx rfl (hb hby d17_83) rfl k) ?_
        refine Go.by (g' := (mkF m 88 #[.val (.ref a1), .val (.int (1 : Int32)), .val (.int p3), .val (.ref a4), .val (.ref a5), .val (.ref a6), .val (.int (1 : Int32)), .val (.int (p3 &&& (3 : Int32)))] [])) (fun _ k => XS.ifNo X302.here hx rfl (hb hby d17_85) rfl ((if0 _ _).trans (feq (by decide)).1) k) ?_
        refine Go.by (g' := (mkF m 89 #[.val (.ref a1), .val (.int (1 : Int32)), .val (.int p3), .val (.ref a4), .val (.ref a5), .val (.ref a6), .val (.int (1 : Int32)), .val (.int (p3 &&& (3 : Int32)))] [(.int (1 : Int32))])) (fun _ k => XS.iconst X302.here hx rfl (hb hby d17_88) k) ?_
        refine Go.by (g' := (mkF m 93 #[.val (.ref a1), .val (.int (1 : Int32)), .val (.int p3), .val (.ref a4), .val (.ref a5), .val (.ref a6), .val (.int (1 : Int32)), .val (.int (p3 &&& (3 : Int32)))] [(.int (1 : Int32))])) (fun _ k => XS.goto X302.here hx rfl (pc0 := 89) (pc' := 93) rfl (hb hby d17_89) (by decide) (by decide) k) ?_
        exact Go.outI X302 hx hret (Lv.wide X302 hlk hS (by rw [q302]; exact hk301) (by decide) (by decide)) (hb hby d17_93) (by rw [q302]; exact ⟨_, rfl, M302, P301, Or.inl ⟨rfl, lab, FB2.mono (by omega) (by omega)⟩⟩)
  · subst hp
    refine Go.by (g' := (mkF m 1 #[.val (.ref a1), .val (.int (0 : Int32)), .val (.int p3), .val (.ref a4), .val (.ref a5), .val (.ref a6), .unset, .unset] [(.int (0 : Int32))])) (fun _ k => XS.iloadN X0.here hx rfl (hb hby d17_0) rfl k) ?_
    refine Go.by (g' := (mkF m 6 #[.val (.ref a1), .val (.int (0 : Int32)), .val (.int p3), .val (.ref a4), .val (.ref a5), .val (.ref a6), .unset, .unset] [])) (fun _ k => XS.ifYes X0.here hx rfl (pc0 := 1) (pc' := 6) rfl (hb hby d17_1) rfl ((if0 _ _).trans (flt (by decide)).2.1) (by decide) (by decide) k) ?_
    refine Go.by (g' := (mkF m 7 #[.val (.ref a1), .val (.int (0 : Int32)), .val (.int p3), .val (.ref a4), .val (.ref a5), .val (.ref a6), .unset, .unset] [(.int (0 : Int32))])) (fun _ k => XS.iloadN X0.here hx rfl (hb hby d17_6) rfl k) ?_
    refine Go.by (g' := (mkF m 8 #[.val (.ref a1), .val (.int (0 : Int32)), .val (.int p3), .val (.ref a4), .val (.ref a5), .val (.ref a6), .unset, .unset] [(.int (1 : Int32)), (.int (0 : Int32))])) (fun _ k => XS.iconst X0.here hx rfl (hb hby d17_7) k) ?_
    refine Go.by (g' := (mkF m 63 #[.val (.ref a1), .val (.int (0 : Int32)), .val (.int p3), .val (.ref a4), .val (.ref a5), .val (.ref a6), .unset, .unset] [])) (fun _ k => XS.icmpYes X0.here hx rfl (pc0 := 8) (pc' := 63) rfl (hb hby d17_8) rfl (feq (by decide)).2 (by decide) (by decide) k) ?_
    refine Go.by (g' := (mkF m 64 #[.val (.ref a1), .val (.int (0 : Int32)), .val (.int p3), .val (.ref a4), .val (.ref a5), .val (.ref a6), .unset, .unset] [(.ref a1)])) (fun _ k => XS.aloadN X0.here hx rfl (hb hby d17_63) rfl rfl k) ?_
    refine Go.ldc X0 hx hZ hown (hw _ (List.mem_of_getElem? (i := 10) rfl)) (own_wS hw) e0 hS (Nat.zero_le _) (g := (mkF m 64 #[.val (.ref a1), .val (.int (0 : Int32)), .val (.int p3), .val (.ref a4), .val (.ref a5), .val (.ref a6), .unset, .unset] [(.ref a1)])) rfl (hb hby d17_64) (n := 4) (by first | decide | decide +kernel) (by decide) (by decide) (by decide) ?_
    intro sb T303 h303 k303 X303 e303 E303 hS hk303 hZ hown
    have Z303 : n0 ≤ h303.size := Nat.le_trans Z0 E303.1
    show Go p e below _ _ T303 (mkF m 66 #[.val (.ref a1), .val (.int (0 : Int32)), .val (.int p3), .val (.ref a4), .val (.ref a5), .val (.ref a6), .unset, .unset] [(.ref sb), (.ref a1)])
    have FBH2 := FBH.ext E303
    obtain ⟨lb, eb, li, ei, kb, ki, xb, xi, Ef, Fl, Fb, Fi, Lb, Li, ⟨glb, geb, gli, gei⟩, ⟨n1, n2, n3, n4, n5, n6, n7, n8⟩, hxb, hxi, hel⟩ := FBH2
    have f304_E4 := (E4.ext E303)
    have f305_E5 := (E5.ext E303)
    have f306_E6 := (E6.ext E303)
    have f307_OL := (OL.ext E303)
    refine Go.callV X303 hx hZ (y := (⟨"com/example/sorrel/sorrel/middle/ir/FunctionBuilder", "startBlock", "(Ljava/lang/String;)V"⟩ : MethodName)) (z := (⟨"com/example/sorrel/sorrel/middle/ir/FunctionBuilder", "startBlock", "(Ljava/lang/String;)V"⟩ : MethodName)) hown (hw _ (List.mem_of_getElem? (i := 272) rfl)) (hw _ (List.mem_of_getElem? (i := 127) rfl)) (notFace_of_selects (args := #[]) (mvT hZ (hw _ (List.mem_of_getElem? (i := 129) rfl)))) (hw _ (List.mem_of_getElem? (i := 129) rfl)) (hw _ (List.mem_of_getElem? (i := 128) rfl)) (hw _ (List.mem_of_getElem? (i := 109) rfl)) (hw _ (List.mem_of_getElem? (i := 130) rfl)) (by decide) (W := 0) (a := a1) (argsL := [(.ref sb)]) (rest := []) Ef (rm15 l Z a0 hw a1 sb h303 n0 Z303 aD (.ref li) (.ref lb) Ef Fl Fi Fb g1 f307_OL SD) (by decide) (by decide) (by decide) (by decide) (g := (mkF m 66 #[.val (.ref a1), .val (.int (0 : Int32)), .val (.int p3), .val (.ref a4), .val (.ref a5), .val (.ref a6), .unset, .unset] [(.ref sb), (.ref a1)])) rfl (by rw [hml]; rfl) (lenOf pd_15 rfl) rfl (by show 2 * 0 + _ ≤ _; exact Nat.le_of_eq rfl) (hb hby d17_66) e303 ?_
    rintro T308 L308 _ X308 ⟨li2, rfl, N308, K308, szl, Fl2, Fi2, Fb2, Em2⟩
    have M308 := Fr.app (Fr.nil n0) N308
    have Z308 : n0 ≤ T308.heap.size := Nat.le_trans Z303 K308.1
    have hk308 := Nat.le_trans hk303 K308.1
    show Go p e below _ _ T308 (mkF m 69 #[.val (.ref a1), .val (.int (0 : Int32)), .val (.int p3), .val (.ref a4), .val (.ref a5), .val (.ref a6), .unset, .unset] [])
    have ne_a4_li2 : a4 ≠ li2 := Nat.ne_of_lt (Nat.lt_of_lt_of_le f304_E4.lt szl)
    have ne_a5_li2 : a5 ≠ li2 := Nat.ne_of_lt (Nat.lt_of_lt_of_le f305_E5.lt szl)
    have ne_a6_li2 : a6 ≠ li2 := Nat.ne_of_lt (Nat.lt_of_lt_of_le f306_E6.lt szl)
    have ne_a1_li2 : a1 ≠ li2 := Nat.ne_of_lt (Nat.lt_of_lt_of_le Ef.lt szl)
    have ne_lb_li2 : lb ≠ li2 := Nat.ne_of_lt (Nat.lt_of_lt_of_le Lb.lt szl)
    have ne_eb_li2 : eb ≠ li2 := Nat.ne_of_lt (Nat.lt_of_lt_of_le Lb.lte szl)
    have ge_li2 : n0 ≤ li2 := Nat.le_trans Z303 szl
    have f309_Ef := (Ef.keep K308)
    have f310_Lb := (Lb.keep K308 (ninS (Ne.symm n5) nin0) (ninS (Ne.symm n6) nin0))
    have FB3 : FB_ Z a0 T308.heap n0 aD a1 (.ref sb) nb 0 := ⟨lb, eb, li2, li2, kb, 0, xb, [], f309_Ef, Fl2, Fb2, Fi2, f310_Lb, Or.inl ⟨rfl, rfl, Em2⟩, ⟨glb, geb, ge_li2, ge_li2⟩, ⟨ne_lb_li2, ne_lb_li2, ne_eb_li2, ne_eb_li2, n5, n6, ne_a1_li2, ne_a1_li2⟩, hxb, Nat.le_refl _, (fun _ q => nomatch q)⟩
    refine Go.by (g' := (mkF m 70 #[.val (.ref a1), .val (.int (0 : Int32)), .val (.int p3), .val (.ref a4), .val (.ref a5), .val (.ref a6), .unset, .unset] [(.int (1 : Int32))])) (fun _ k => XS.iconst X308.here hx rfl (hb hby d17_69) k) ?_
    refine Go.by (g' := (mkF m 72 #[.val (.ref a1), .val (.int (0 : Int32)), .val (.int p3), .val (.ref a4), .val (.ref a5), .val (.ref a6), .val (.int (1 : Int32)), .unset] [])) (fun _ k => XS.istore X308.here hx rfl (hb hby d17_70) rfl (l' := #[.val (.ref a1), .val (.int (0 : Int32)), .val (.int p3), .val (.ref a4), .val (.ref a5), .val (.ref a6), .val (.int (1 : Int32)), .unset]) rfl k) ?_
    refine Go.by (g' := (mkF m 73 #[.val (.ref a1), .val (.int (0 : Int32)), .val (.int p3), .val (.ref a4), .val (.ref a5), .val (.ref a6), .val (.int (1 : Int32)), .unset] [(.ref a1)])) (fun _ k => XS.aloadN X308.here hx rfl (hb hby d17_72) rfl rfl k) ?_
    refine Go.callV X308 hx hZ (y := (⟨"com/example/sorrel/sorrel/middle/ir/FunctionBuilder", "isOpen", "()Z"⟩ : MethodName)) (z := (⟨"com/example/sorrel/sorrel/middle/ir/FunctionBuilder", "isOpen", "()Z"⟩ : MethodName)) hown (hw _ (List.mem_of_getElem? (i := 140) rfl)) (hw _ (List.mem_of_getElem? (i := 132) rfl)) (notFace_of_selects (args := #[]) (mvT hZ (hw _ (List.mem_of_getElem? (i := 134) rfl)))) (hw _ (List.mem_of_getElem? (i := 134) rfl)) (hw _ (List.mem_of_getElem? (i := 133) rfl)) (hw _ (List.mem_of_getElem? (i := 109) rfl)) (hw _ (List.mem_of_getElem? (i := 135) rfl)) (by decide) (W := 0) (a := a1) (argsL := []) (rest := []) FB3.exa (rm16R l Z a0 hw a1 T308.heap n0 sb FB3.lab) (by decide) (by decide) (by decide) (by decide) (g := (mkF m 73 #[.val (.ref a1), .val (.int (0 : Int32)), .val (.int p3), .val (.ref a4), .val (.ref a5), .val (.ref a6), .val (.int (1 : Int32)), .unset] [(.ref a1)])) rfl (by rw [hml]; rfl) (lenOf pd_16 rfl) rfl (by show 2 * 0 + _ ≤ _; exact Nat.le_of_eq rfl) (hb hby d17_73) rfl ?_
    rintro T311 L311 _ X311 ⟨rfl, N311, q311⟩
    have M311 := Fr.app M308 N311
    show Go p e below _ _ T311 (mkF m 76 #[.val (.ref a1), .val (.int (0 : Int32)), .val (.int p3), .val (.ref a4), .val (.ref a5), .val (.ref a6), .val (.int (1 : Int32)), .unset] [(.int (1 : Int32))])
    refine Go.by (g' := (mkF m 78 #[.val (.ref a1), .val (.int (0 : Int32)), .val (.int p3), .val (.ref a4), .val (.ref a5), .val (.ref a6), .val (.int (1 : Int32)), .unset] [(.int (1 : Int32)), (.int (1 : Int32))])) (fun _ k => XS.iload X311.here hx rfl (hb hby d17_76) rfl k) ?_
    refine Go.by (g' := (mkF m 83 #[.val (.ref a1), .val (.int (0 : Int32)), .val (.int p3), .val (.ref a4), .val (.ref a5), .val (.ref a6), .val (.int (1 : Int32)), .unset] [])) (fun _ k => XS.icmpYes X311.here hx rfl (pc0 := 78) (pc' := 83) rfl (hb hby d17_78) rfl (teq rfl).1 (by decide) (by decide) k) ?_
    refine Go.by (g' := (mkF m 85 #[.val (.ref a1), .val (.int (0 : Int32)), .val (.int p3), .val (.ref a4), .val (.ref a5), .val (.ref a6), .val (.int (1 : Int32)), .unset] [(.int (1 : Int32))])) (fun _ k => XS.iload X311.here hx rfl (hb hby d17_83) rfl k) ?_
    refine Go.by (g' := (mkF m 88 #[.val (.ref a1), .val (.int (0 : Int32)), .val (.int p3), .val (.ref a4), .val (.ref a5), .val (.ref a6), .val (.int (1 : Int32)), .unset] [])) (fun _ k => XS.ifNo X311.here hx rfl (hb hby d17_85) rfl ((if0 _ _).trans (feq (by decide)).1) k) ?_
    refine Go.by (g' := (mkF m 89 #[.val (.ref a1), .val (.int (0 : Int32)), .val (.int p3), .val (.ref a4), .val (.ref a5), .val (.ref a6), .val (.int (1 : Int32)), .unset] [(.int (1 : Int32))])) (fun _ k => XS.iconst X311.here hx rfl (hb hby d17_88) k) ?_
    refine Go.by (g' := (mkF m 93 #[.val (.ref a1), .val (.int (0 : Int32)), .val (.int p3), .val (.ref a4), .val (.ref a5), .val (.ref a6), .val (.int (1 : Int32)), .unset] [(.int (1 : Int32))])) (fun _ k => XS.goto X311.here hx rfl (pc0 := 89) (pc' := 93) rfl (hb hby d17_89) (by decide) (by decide) k) ?_
    exact Go.outI X311 hx hret (Lv.wide X311 hlk hS (by rw [q311]; exact hk308) (by decide) (by decide)) (hb hby d17_93) (by rw [q311]; exact ⟨_, rfl, M311, ((Kp.of_ext E303).trans (Kp.of_keep K308 (allS g1 all0))), Or.inl ⟨rfl, sb, FB3.mono (by omega) (by omega)⟩⟩)
theorem ef_0 (p1 : Int32) (p2 : Int32) (p3 : Int32) (p4 : Int32) (m : MethodId) : entryFrame m #[(.int p1), (.int p2), (.int p3), (.int p4)] maxLocals = mkF m 0 #[.val (.int p1), .val (.int p2), .val (.int p3), .val (.int p4), .unset, .unset, .unset, .unset, .unset, .unset] [] := by first | (simp [entryFrame, mkF, argsToLocals, Value.category, maxLocals]; done) | rfl
set_option maxRecDepth 65536 in
set_option maxHeartbeats 40000000 in
theorem rm0 (l : Launch) (Z : State) (a0 : Array Value) (hw : ∀ d ∈ tables_1, d.before a0 Z = true) (p1 : Int32) (p2 : Int32) (p3 : Int32) (p4 : Int32) (h0 : Heap) (n0 : Nat) (Z0 : n0 ≤ h0.size) (aD : Addr) (kD : ClassId) (aM aL mr : Addr) (aI aB aR : Addr) (OL : Old Z n0 h0) (SD : Sta Z Z.heap "java/util/ArrayList" "DEFAULTCAPACITY_EMPTY_ELEMENTDATA" "[Ljava/lang/Object;" (.ref aD)) (AD : Arv Z Z.heap aD kD OA 0 [] .null) (SEM : Sta Z Z.heap "java/util/ImmutableCollections" "EMPTY" "Ljava/lang/Object;" (.ref aM)) (SEL : Sta Z Z.heap "java/util/ImmutableCollections" "EMPTY_LIST" "Ljava/util/ImmutableCollections$ListN;" (.ref aL)) (MM : MirM Z "[Ljava/lang/Object;" mr) (SI : Sta Z Z.heap "com/example/sorrel/sorrel/middle/ir/Value$Type" "INT" "Lcom/example/sorrel/sorrel/middle/ir/Value$Type;" (.ref aI)) (SB : Sta Z Z.heap "com/example/sorrel/sorrel/middle/ir/Value$Type" "BOOL" "Lcom/example/sorrel/sorrel/middle/ir/Value$Type;" (.ref aB)) (SR : Sta Z Z.heap "com/example/sorrel/sorrel/middle/ir/Value$Type" "REF" "Lcom/example/sorrel/sorrel/middle/ir/Value$Type;" (.ref aR)) :
    CtrW l Z x code maxLocals ret room_1 #[(.int p1), (.int p2), (.int p3), (.int p4)] h0 (fun v h L => v = some (.int 1) ∧ Fr n0 L) := by
  refine CtrW.of pf_0 (ef_0 p1 p2 p3 p4) ?_
  intro p e s vm0 m below meth c T0 hx hby hml hret hlk hnm hS hZ hown e0 X0
  refine Go.by (g' := (mkF m 1 #[.val (.int p1), .val (.int p2), .val (.int p3), .val (.int p4), .unset, .unset, .unset, .unset, .unset, .unset] [(.int p4)])) (fun _ k => XS.iloadN X0.here hx rfl (hb hby at_0) rfl k) ?_
  refine Go.callS X0 hx hZ (y := (⟨"com/example/sorrel/sorrel/middle/ir/FunctionBuilderIsOpenPinLaw", "pick", "(I)Lcom/example/sorrel/sorrel/middle/ir/Value$Type;"⟩ : MethodName)) hown (hw _ (List.mem_of_getElem? (i := 0) rfl)) (hw _ (List.mem_of_getElem? (i := 1) rfl)) (hw _ (List.mem_of_getElem? (i := 2) rfl)) (hw _ (List.mem_of_getElem? (i := 3) rfl)) (by decide) (W := 0) (argsL := [(.int p4)]) (rest := []) (rm1 l Z a0 hw p4 h0 n0 aI aB aR OL SI SB SR) (by decide) (by decide) (by decide) (by decide) (g := (mkF m 1 #[.val (.int p1), .val (.int p2), .val (.int p3), .val (.int p4), .unset, .unset, .unset, .unset, .unset, .unset] [(.int p4)])) rfl (by rw [hml]; rfl) (lenOf pd_1 rfl) rfl (by show 2 * 0 + _ ≤ _; exact Nat.le_of_eq rfl) (hb hby at_1) e0 ?_
  rintro T312 L312 _ X312 ⟨ty, rfl, hty, N312, q312⟩
  have M312 := Fr.app (Fr.nil n0) N312
  show Go p e below _ _ T312 (mkF m 4 #[.val (.int p1), .val (.int p2), .val (.int p3), .val (.int p4), .unset, .unset, .unset, .unset, .unset, .unset] [ty])
  refine Go.by (g' := (mkF m 6 #[.val (.int p1), .val (.int p2), .val (.int p3), .val (.int p4), .val ty, .unset, .unset, .unset, .unset, .unset] [])) (fun _ k => XS.astoreS X312.here hx rfl (hb hby at_4) rfl hty (cat_of hty) rfl (Or.inl rfl) k) ?_
  obtain ⟨T313, h313, X313, e313, E313, A313, D313, -, st313⟩ := newO X312 hx hZ hown (hw _ (List.mem_of_getElem? (i := 7) rfl)) (hw _ (List.mem_of_getElem? (i := 8) rfl)) (hw _ (List.mem_of_getElem? (i := 9) rfl)) q312 (g := (mkF m 6 #[.val (.int p1), .val (.int p2), .val (.int p3), .val (.int p4), .val ty, .unset, .unset, .unset, .unset, .unset] [])) rfl (hb hby at_6) (by decide) (by decide)
  obtain ⟨ju, g313⟩ : ∃ z, z = h0.size := ⟨_, rfl⟩
  rw [← g313] at A313 D313 st313
  have ge_ju : n0 ≤ ju := Nat.le_trans Z0 (Nat.le_of_eq g313.symm)
  have Z313 : n0 ≤ h313.size := Nat.le_trans Z0 E313.1
  have hk313 := Nat.le_trans (Nat.zero_le _) E313.1
  refine Go.by (g' := (mkF m 9 #[.val (.int p1), .val (.int p2), .val (.int p3), .val (.int p4), .val ty, .unset, .unset, .unset, .unset, .unset] [(.ref ju)])) st313 ?_
  have Itarget_ju : Fld Z h313 ju "com/example/sorrel/sorrel/middle/ir/Instruction$Jump" "target" "Ljava/lang/String;" .null := (D313 (Or.inr (hw _ (List.mem_of_getElem? (i := 30) rfl))) (ty := (.object "java/lang/String")) (by decide))
  refine Go.by (g' := (mkF m 10 #[.val (.int p1), .val (.int p2), .val (.int p3), .val (.int p4), .val ty, .unset, .unset, .unset, .unset, .unset] [(.ref ju), (.ref ju)])) (fun _ k => XS.dup X313.here hx rfl (hb hby at_9) rfl rfl k) ?_
  refine Go.ldc X313 hx hZ hown (hw _ (List.mem_of_getElem? (i := 10) rfl)) (own_wS hw) e313 hS hk313 (g := (mkF m 10 #[.val (.int p1), .val (.int p2), .val (.int p3), .val (.int p4), .val ty, .unset, .unset, .unset, .unset, .unset] [(.ref ju), (.ref ju)])) rfl (hb hby at_10) (n := 4) (by first | decide | decide +kernel) (by decide) (by decide) (by decide) ?_
  intro s1 T314 h314 k314 X314 e314 E314 hS hk314 hZ hown
  have Z314 : n0 ≤ h314.size := Nat.le_trans Z313 E314.1
  show Go p e below _ _ T314 (mkF m 12 #[.val (.int p1), .val (.int p2), .val (.int p3), .val (.int p4), .val ty, .unset, .unset, .unset, .unset, .unset] [(.ref s1), (.ref ju), (.ref ju)])
  have f315_E_ju := (A313.ext E314)
  have f316_Itarget_ju := (Itarget_ju.ext E314)
  refine Go.callI X314 hx hZ (y := (⟨"com/example/sorrel/sorrel/middle/ir/Instruction$Jump", "<init>", "(Ljava/lang/String;)V"⟩ : MethodName)) rfl hown (hw _ (List.mem_of_getElem? (i := 18) rfl)) (hw _ (List.mem_of_getElem? (i := 19) rfl)) (hw _ (List.mem_of_getElem? (i := 9) rfl)) (hw _ (List.mem_of_getElem? (i := 20) rfl)) (by decide) (W := 1) (a := ju) (argsL := [(.ref s1)]) (rest := [(.ref ju)]) (rm2 l Z a0 hw ju s1 h314 n0 .null f315_E_ju f316_Itarget_ju ge_ju) (by decide) (by decide) (by decide) (by decide) (g := (mkF m 12 #[.val (.int p1), .val (.int p2), .val (.int p3), .val (.int p4), .val ty, .unset, .unset, .unset, .unset, .unset] [(.ref s1), (.ref ju), (.ref ju)])) rfl (by rw [hml]; rfl) (lenOf pd_2 rfl) rfl (by show 2 * 0 + _ ≤ _; exact Nat.le_of_eq rfl) (hb hby at_12) e314 ?_
  rintro T317 L317 _ X317 ⟨rfl, N317, K317⟩
  have M317 := Fr.app M312 N317
  have Z317 : n0 ≤ T317.heap.size := Nat.le_trans Z314 K317.1
  have hk317 := Nat.le_trans hk314 K317.1
  show Go p e below _ _ T317 (mkF m 15 #[.val (.int p1), .val (.int p2), .val (.int p3), .val (.int p4), .val ty, .unset, .unset, .unset, .unset, .unset] [(.ref ju)])
  refine Go.by (g' := (mkF m 17 #[.val (.int p1), .val (.int p2), .val (.int p3), .val (.int p4), .val ty, .val (.ref ju), .unset, .unset, .unset, .unset] [])) (fun _ k => XS.astore X317.here hx rfl (hb hby at_15) rfl rfl (l' := #[.val (.int p1), .val (.int p2), .val (.int p3), .val (.int p4), .val ty, .val (.ref ju), .unset, .unset, .unset, .unset]) rfl k) ?_
  obtain ⟨T318, h318, X318, e318, E318, A318, D318, -, st318⟩ := newO X317 hx hZ hown (hw _ (List.mem_of_getElem? (i := 31) rfl)) (hw _ (List.mem_of_getElem? (i := 32) rfl)) (hw _ (List.mem_of_getElem? (i := 33) rfl)) rfl (g := (mkF m 17 #[.val (.int p1), .val (.int p2), .val (.int p3), .val (.int p4), .val ty, .val (.ref ju), .unset, .unset, .unset, .unset] [])) rfl (hb hby at_17) (by decide) (by decide)
  obtain ⟨re, g318⟩ : ∃ z, z = T317.heap.size := ⟨_, rfl⟩
  rw [← g318] at A318 D318 st318
  have f319_E_ju := (f315_E_ju.keep K317)
  have ne_ju_re : ju ≠ re := Nat.ne_of_lt (by rw [g318]; exact f319_E_ju.lt)
  have ge_re : n0 ≤ re := Nat.le_trans Z317 (Nat.le_of_eq g318.symm)
  have Z318 : n0 ≤ h318.size := Nat.le_trans Z317 E318.1
  have hk318 := Nat.le_trans hk317 E318.1
  refine Go.by (g' := (mkF m 20 #[.val (.int p1), .val (.int p2), .val (.int p3), .val (.int p4), .val ty, .val (.ref ju), .unset, .unset, .unset, .unset] [(.ref re)])) st318 ?_
  have Ivalue_re : Fld Z h318 re "com/example/sorrel/sorrel/middle/ir/Instruction$Return" "value" "Lcom/example/sorrel/sorrel/middle/ir/Value;" .null := (D318 (Or.inr (hw _ (List.mem_of_getElem? (i := 39) rfl))) (ty := (.object "com/example/sorrel/sorrel/middle/ir/Value")) (by decide))
  refine Go.by (g' := (mkF m 21 #[.val (.int p1), .val (.int p2), .val (.int p3), .val (.int p4), .val ty, .val (.ref ju), .unset, .unset, .unset, .unset] [(.ref re), (.ref re)])) (fun _ k => XS.dup X318.here hx rfl (hb hby at_20) rfl rfl k) ?_
  refine Go.by (g' := (mkF m 22 #[.val (.int p1), .val (.int p2), .val (.int p3), .val (.int p4), .val ty, .val (.ref ju), .unset, .unset, .unset, .unset] [.null, (.ref re), (.ref re)])) (fun _ k => XS.aconstNull X318.here hx rfl (hb hby at_21) k) ?_
  refine Go.callI X318 hx hZ (y := (⟨"com/example/sorrel/sorrel/middle/ir/Instruction$Return", "<init>", "(Lcom/example/sorrel/sorrel/middle/ir/Value;)V"⟩ : MethodName)) rfl hown (hw _ (List.mem_of_getElem? (i := 34) rfl)) (hw _ (List.mem_of_getElem? (i := 35) rfl)) (hw _ (List.mem_of_getElem? (i := 33) rfl)) (hw _ (List.mem_of_getElem? (i := 36) rfl)) (by decide) (W := 1) (a := re) (argsL := [.null]) (rest := [(.ref re)]) (rm5 l Z a0 hw re h318 n0 .null A318 Ivalue_re ge_re) (by decide) (by decide) (by decide) (by decide) (g := (mkF m 22 #[.val (.int p1), .val (.int p2), .val (.int p3), .val (.int p4), .val ty, .val (.ref ju), .unset, .unset, .unset, .unset] [.null, (.ref re), (.ref re)])) rfl (by rw [hml]; rfl) (lenOf pd_5 rfl) rfl (by show 2 * 0 + _ ≤ _; exact Nat.le_of_eq rfl) (hb hby at_22) e318 ?_
  rintro T320 L320 _ X320 ⟨rfl, N320, K320⟩
  have M320 := Fr.app M317 N320
  have Z320 : n0 ≤ T320.heap.size := Nat.le_trans Z318 K320.1
  have hk320 := Nat.le_trans hk318 K320.1
  show Go p e below _ _ T320 (mkF m 25 #[.val (.int p1), .val (.int p2), .val (.int p3), .val (.int p4), .val ty, .val (.ref ju), .unset, .unset, .unset, .unset] [(.ref re)])
  refine Go.by (g' := (mkF m 27 #[.val (.int p1), .val (.int p2), .val (.int p3), .val (.int p4), .val ty, .val (.ref ju), .val (.ref re), .unset, .unset, .unset] [])) (fun _ k => XS.astore X320.here hx rfl (hb hby at_25) rfl rfl (l' := #[.val (.int p1), .val (.int p2), .val (.int p3), .val (.int p4), .val ty, .val (.ref ju), .val (.ref re), .unset, .unset, .unset]) rfl k) ?_
  obtain ⟨T321, h321, X321, e321, E321, A321, D321, -, st321⟩ := newO X320 hx hZ hown (hw _ (List.mem_of_getElem? (i := 40) rfl)) (hw _ (List.mem_of_getElem? (i := 41) rfl)) (hw _ (List.mem_of_getElem? (i := 42) rfl)) rfl (g := (mkF m 27 #[.val (.int p1), .val (.int p2), .val (.int p3), .val (.int p4), .val ty, .val (.ref ju), .val (.ref re), .unset, .unset, .unset] [])) rfl (hb hby at_27) (by decide) (by decide)
  obtain ⟨ca, g321⟩ : ∃ z, z = T320.heap.size := ⟨_, rfl⟩
  rw [← g321] at A321 D321 st321
  have f322_E_ju := ((f319_E_ju.ext E318).keep K320)
  have ne_ju_ca : ju ≠ ca := Nat.ne_of_lt (by rw [g321]; exact f322_E_ju.lt)
  have f323_E_re := (A318.keep K320)
  have ne_re_ca : re ≠ ca := Nat.ne_of_lt (by rw [g321]; exact f323_E_re.lt)
  have ge_ca : n0 ≤ ca := Nat.le_trans Z320 (Nat.le_of_eq g321.symm)
  have Z321 : n0 ≤ h321.size := Nat.le_trans Z320 E321.1
  have hk321 := Nat.le_trans hk320 E321.1
  refine Go.by (g' := (mkF m 30 #[.val (.int p1), .val (.int p2), .val (.int p3), .val (.int p4), .val ty, .val (.ref ju), .val (.ref re), .unset, .unset, .unset] [(.ref ca)])) st321 ?_
  have Iresult_ca : Fld Z h321 ca "com/example/sorrel/sorrel/middle/ir/Instruction$Call" "result" "Lcom/example/sorrel/sorrel/middle/ir/Value;" .null := (D321 (Or.inr (hw _ (List.mem_of_getElem? (i := 102) rfl))) (ty := (.object "com/example/sorrel/sorrel/middle/ir/Value")) (by decide))
  have Ifunction_ca : Fld Z h321 ca "com/example/sorrel/sorrel/middle/ir/Instruction$Call" "function" "Ljava/lang/String;" .null := (D321 (Or.inr (hw _ (List.mem_of_getElem? (i := 104) rfl))) (ty := (.object "java/lang/String")) (by decide))
  have Iarguments_ca : Fld Z h321 ca "com/example/sorrel/sorrel/middle/ir/Instruction$Call" "arguments" "Ljava/util/List;" .null := (D321 (Or.inr (hw _ (List.mem_of_getElem? (i := 106) rfl))) (ty := (.object "java/util/List")) (by decide))
  refine Go.by (g' := (mkF m 31 #[.val (.int p1), .val (.int p2), .val (.int p3), .val (.int p4), .val ty, .val (.ref ju), .val (.ref re), .unset, .unset, .unset] [(.ref ca), (.ref ca)])) (fun _ k => XS.dup X321.here hx rfl (hb hby at_30) rfl rfl k) ?_
  refine Go.by (g' := (mkF m 32 #[.val (.int p1), .val (.int p2), .val (.int p3), .val (.int p4), .val ty, .val (.ref ju), .val (.ref re), .unset, .unset, .unset] [.null, (.ref ca), (.ref ca)])) (fun _ k => XS.aconstNull X321.here hx rfl (hb hby at_31) k) ?_
  refine Go.ldc X321 hx hZ hown (hw _ (List.mem_of_getElem? (i := 43) rfl)) (own_wS hw) e321 hS hk321 (g := (mkF m 32 #[.val (.int p1), .val (.int p2), .val (.int p3), .val (.int p4), .val ty, .val (.ref ju), .val (.ref re), .unset, .unset, .unset] [.null, (.ref ca), (.ref ca)])) rfl (hb hby at_32) (n := 4) (by first | decide | decide +kernel) (by decide) (by decide) (by decide) ?_
  intro s2 T324 h324 k324 X324 e324 E324 hS hk324 hZ hown
  have Z324 : n0 ≤ h324.size := Nat.le_trans Z321 E324.1
  show Go p e below _ _ T324 (mkF m 34 #[.val (.int p1), .val (.int p2), .val (.int p3), .val (.int p4), .val ty, .val (.ref ju), .val (.ref re), .unset, .unset, .unset] [(.ref s2), .null, (.ref ca), (.ref ca)])
  obtain ⟨T325, h325, X325, e325, E325, A325, D325, -, st325⟩ := newO X324 hx hZ hown (hw _ (List.mem_of_getElem? (i := 44) rfl)) (hw _ (List.mem_of_getElem? (i := 45) rfl)) (hw _ (List.mem_of_getElem? (i := 46) rfl)) e324 (g := (mkF m 34 #[.val (.int p1), .val (.int p2), .val (.int p3), .val (.int p4), .val ty, .val (.ref ju), .val (.ref re), .unset, .unset, .unset] [(.ref s2), .null, (.ref ca), (.ref ca)])) rfl (hb hby at_34) (by decide) (by decide)
  obtain ⟨la, g325⟩ : ∃ z, z = h324.size := ⟨_, rfl⟩
  rw [← g325] at A325 D325 st325
  have f326_E_ju := ((f322_E_ju.ext E321).ext E324)
  have ne_ju_la : ju ≠ la := Nat.ne_of_lt (by rw [g325]; exact f326_E_ju.lt)
  have f327_E_re := ((f323_E_re.ext E321).ext E324)
  have ne_re_la : re ≠ la := Nat.ne_of_lt (by rw [g325]; exact f327_E_re.lt)
  have f328_E_ca := (A321.ext E324)
  have ne_ca_la : ca ≠ la := Nat.ne_of_lt (by rw [g325]; exact f328_E_ca.lt)
  have ge_la : n0 ≤ la := Nat.le_trans Z324 (Nat.le_of_eq g325.symm)
  have Z325 : n0 ≤ h325.size := Nat.le_trans Z324 E325.1
  have hk325 := Nat.le_trans hk324 E325.1
  refine Go.by (g' := (mkF m 37 #[.val (.int p1), .val (.int p2), .val (.int p3), .val (.int p4), .val ty, .val (.ref ju), .val (.ref re), .unset, .unset, .unset] [(.ref la), (.ref s2), .null, (.ref ca), (.ref ca)])) st325 ?_
  have Lm_la : Fld Z h325 la "java/util/AbstractList" "modCount" "I" (.int 0) := (D325 (Or.inl (hw _ (List.mem_of_getElem? (i := 64) rfl))) (ty := .int) (by decide))
  have Le_la : Fld Z h325 la "java/util/ArrayList" "elementData" "[Ljava/lang/Object;" .null := (D325 (Or.inl (hw _ (List.mem_of_getElem? (i := 67) rfl))) (ty := (.array (.object "java/lang/Object"))) (by decide))
  have Lz_la : Fld Z h325 la "java/util/ArrayList" "size" "I" (.int 0) := (D325 (Or.inl (hw _ (List.mem_of_getElem? (i := 96) rfl))) (ty := .int) (by decide))
  refine Go.by (g' := (mkF m 38 #[.val (.int p1), .val (.int p2), .val (.int p3), .val (.int p4), .val ty, .val (.ref ju), .val (.ref re), .unset, .unset, .unset] [(.ref la), (.ref la), (.ref s2), .null, (.ref ca), (.ref ca)])) (fun _ k => XS.dup X325.here hx rfl (hb hby at_37) rfl rfl k) ?_
  have f329_OL := ((((((((OL.ext E313).ext E314).keep K317 (allS ge_ju all0)).ext E318).keep K320 (allS ge_re all0)).ext E321).ext E324).ext E325)
  refine Go.callI X325 hx hZ (y := (⟨"java/util/ArrayList", "<init>", "()V"⟩ : MethodName)) rfl hown (hw _ (List.mem_of_getElem? (i := 47) rfl)) (hw _ (List.mem_of_getElem? (i := 48) rfl)) (hw _ (List.mem_of_getElem? (i := 46) rfl)) (hw _ (List.mem_of_getElem? (i := 49) rfl)) (by decide) (W := 5) (a := la) (argsL := []) (rest := [(.ref la), (.ref s2), .null, (.ref ca), (.ref ca)]) (rm6 l Z a0 hw la h325 n0 aD (.int 0) .null A325 Lm_la Le_la Lz_la ge_la f329_OL SD) (by decide) (by decide) (by decide) (by decide) (g := (mkF m 38 #[.val (.int p1), .val (.int p2), .val (.int p3), .val (.int p4), .val ty, .val (.ref ju), .val (.ref re), .unset, .unset, .unset] [(.ref la), (.ref la), (.ref s2), .null, (.ref ca), (.ref ca)])) rfl (by rw [hml]; rfl) (lenOf pd_6 rfl) rfl (by show 2 * 0 + _ ≤ _; exact Nat.le_of_eq rfl) (hb hby at_38) e325 ?_
  rintro T330 L330 _ X330 ⟨rfl, N330, K330, Em_la⟩
  have M330 := Fr.app M320 N330
  have Z330 : n0 ≤ T330.heap.size := Nat.le_trans Z325 K330.1
  have hk330 := Nat.le_trans hk325 K330.1
  show Go p e below _ _ T330 (mkF m 41 #[.val (.int p1), .val (.int p2), .val (.int p3), .val (.int p4), .val ty, .val (.ref ju), .val (.ref re), .unset, .unset, .unset] [(.ref la), (.ref s2), .null, (.ref ca), (.ref ca)])
  have f331_E_ca := ((f328_E_ca.ext E325).keep K330)
  have f332_Iresult_ca := (((Iresult_ca.ext E324).ext E325).keep K330 (ninS ne_ca_la nin0))
  have f333_Ifunction_ca := (((Ifunction_ca.ext E324).ext E325).keep K330 (ninS ne_ca_la nin0))
  have f334_Iarguments_ca := (((Iarguments_ca.ext E324).ext E325).keep K330 (ninS ne_ca_la nin0))
  have f335_OL := (f329_OL.keep K330 (allS ge_la all0))
  refine Go.callI X330 hx hZ (y := (⟨"com/example/sorrel/sorrel/middle/ir/Instruction$Call", "<init>", "(Lcom/example/sorrel/sorrel/middle/ir/Value;Ljava/lang/String;Ljava/util/List;)V"⟩ : MethodName)) rfl hown (hw _ (List.mem_of_getElem? (i := 68) rfl)) (hw _ (List.mem_of_getElem? (i := 69) rfl)) (hw _ (List.mem_of_getElem? (i := 42) rfl)) (hw _ (List.mem_of_getElem? (i := 70) rfl)) (by decide) (W := 1) (a := ca) (argsL := [.null, (.ref s2), (.ref la)]) (rest := [(.ref ca)]) (rm9 l Z a0 hw ca s2 la T330.heap n0 .null .null .null aD aL f331_E_ca f332_Iresult_ca f333_Ifunction_ca f334_Iarguments_ca ge_ca Em_la f335_OL SEL) (by decide) (by decide) (by decide) (by decide) (g := (mkF m 41 #[.val (.int p1), .val (.int p2), .val (.int p3), .val (.int p4), .val ty, .val (.ref ju), .val (.ref re), .unset, .unset, .unset] [(.ref la), (.ref s2), .null, (.ref ca), (.ref ca)])) rfl (by rw [hml]; rfl) (lenOf pd_9 rfl) rfl (by show 2 * 0 + _ ≤ _; exact Nat.le_of_eq rfl) (hb hby at_41) rfl ?_
  rintro T336 L336 _ X336 ⟨rfl, N336, K336⟩
  have M336 := Fr.app M330 N336
  have Z336 : n0 ≤ T336.heap.size := Nat.le_trans Z330 K336.1
  have hk336 := Nat.le_trans hk330 K336.1
  show Go p e below _ _ T336 (mkF m 44 #[.val (.int p1), .val (.int p2), .val (.int p3), .val (.int p4), .val ty, .val (.ref ju), .val (.ref re), .unset, .unset, .unset] [(.ref ca)])
  refine Go.by (g' := (mkF m 46 #[.val (.int p1), .val (.int p2), .val (.int p3), .val (.int p4), .val ty, .val (.ref ju), .val (.ref re), .val (.ref ca), .unset, .unset] [])) (fun _ k => XS.astore X336.here hx rfl (hb hby at_44) rfl rfl (l' := #[.val (.int p1), .val (.int p2), .val (.int p3), .val (.int p4), .val ty, .val (.ref ju), .val (.ref re), .val (.ref ca), .unset, .unset]) rfl k) ?_
  obtain ⟨T337, h337, X337, e337, E337, A337, D337, -, st337⟩ := newO X336 hx hZ hown (hw _ (List.mem_of_getElem? (i := 107) rfl)) (hw _ (List.mem_of_getElem? (i := 108) rfl)) (hw _ (List.mem_of_getElem? (i := 109) rfl)) rfl (g := (mkF m 46 #[.val (.int p1), .val (.int p2), .val (.int p3), .val (.int p4), .val ty, .val (.ref ju), .val (.ref re), .val (.ref ca), .unset, .unset] [])) rfl (hb hby at_46) (by decide) (by decide)
  obtain ⟨fb, g337⟩ : ∃ z, z = T336.heap.size := ⟨_, rfl⟩
  rw [← g337] at A337 D337 st337
  have f338_E_ju := (((f326_E_ju.ext E325).keep K330).keep K336)
  have ne_ju_fb : ju ≠ fb := Nat.ne_of_lt (by rw [g337]; exact f338_E_ju.lt)
  have f339_E_re := (((f327_E_re.ext E325).keep K330).keep K336)
  have ne_re_fb : re ≠ fb := Nat.ne_of_lt (by rw [g337]; exact f339_E_re.lt)
  have f340_E_ca := (f331_E_ca.keep K336)
  have ne_ca_fb : ca ≠ fb := Nat.ne_of_lt (by rw [g337]; exact f340_E_ca.lt)
  have f341_Em_la := (Em_la.keep K336 (ninS (Ne.symm ne_ca_la) nin0))
  have ne_la_fb : la ≠ fb := Nat.ne_of_lt (by rw [g337]; exact f341_Em_la.lt)
  have ge_fb : n0 ≤ fb := Nat.le_trans Z336 (Nat.le_of_eq g337.symm)
  have Z337 : n0 ≤ h337.size := Nat.le_trans Z336 E337.1
  have hk337 := Nat.le_trans hk336 E337.1
  refine Go.by (g' := (mkF m 49 #[.val (.int p1), .val (.int p2), .val (.int p3), .val (.int p4), .val ty, .val (.ref ju), .val (.ref re), .val (.ref ca), .unset, .unset] [(.ref fb)])) st337 ?_
  have Dparameters : Fld Z h337 fb "com/example/sorrel/sorrel/middle/ir/FunctionBuilder" "parameters" "Ljava/util/List;" .null := (D337 (Or.inr (hw _ (List.mem_of_getElem? (i := 118) rfl))) (ty := (.object "java/util/List")) (by decide))
  have Dblocks : Fld Z h337 fb "com/example/sorrel/sorrel/middle/ir/FunctionBuilder" "blocks" "Ljava/util/List;" .null := (D337 (Or.inr (hw _ (List.mem_of_getElem? (i := 120) rfl))) (ty := (.object "java/util/List")) (by decide))
  have Dname : Fld Z h337 fb "com/example/sorrel/sorrel/middle/ir/FunctionBuilder" "name" "Ljava/lang/String;" .null := (D337 (Or.inr (hw _ (List.mem_of_getElem? (i := 122) rfl))) (ty := (.object "java/lang/String")) (by decide))
  have DreturnType : Fld Z h337 fb "com/example/sorrel/sorrel/middle/ir/FunctionBuilder" "returnType" "Lcom/example/sorrel/sorrel/middle/ir/Value$Type;" .null := (D337 (Or.inr (hw _ (List.mem_of_getElem? (i := 124) rfl))) (ty := (.object "com/example/sorrel/sorrel/middle/ir/Value$Type")) (by decide))
  have Dlabel : Fld Z h337 fb "com/example/sorrel/sorrel/middle/ir/FunctionBuilder" "label" "Ljava/lang/String;" .null := (D337 (Or.inl (hw _ (List.mem_of_getElem? (i := 137) rfl))) (ty := (.object "java/lang/String")) (by decide))
  have Dinstructions : Fld Z h337 fb "com/example/sorrel/sorrel/middle/ir/FunctionBuilder" "instructions" "Ljava/util/List;" .null := (D337 (Or.inl (hw _ (List.mem_of_getElem? (i := 139) rfl))) (ty := (.object "java/util/List")) (by decide))
  refine Go.by (g' := (mkF m 50 #[.val (.int p1), .val (.int p2), .val (.int p3), .val (.int p4), .val ty, .val (.ref ju), .val (.ref re), .val (.ref ca), .unset, .unset] [(.ref fb), (.ref fb)])) (fun _ k => XS.dup X337.here hx rfl (hb hby at_49) rfl rfl k) ?_
  refine Go.ldc X337 hx hZ hown (hw _ (List.mem_of_getElem? (i := 110) rfl)) (own_wS hw) e337 hS hk337 (g := (mkF m 50 #[.val (.int p1), .val (.int p2), .val (.int p3), .val (.int p4), .val ty, .val (.ref ju), .val (.ref re), .val (.ref ca), .unset, .unset] [(.ref fb), (.ref fb)])) rfl (hb hby at_50) (n := 4) (by first | decide | decide +kernel) (by decide) (by decide) (by decide) ?_
  intro s3 T342 h342 k342 X342 e342 E342 hS hk342 hZ hown
  have Z342 : n0 ≤ h342.size := Nat.le_trans Z337 E342.1
  show Go p e below _ _ T342 (mkF m 52 #[.val (.int p1), .val (.int p2), .val (.int p3), .val (.int p4), .val ty, .val (.ref ju), .val (.ref re), .val (.ref ca), .unset, .unset] [(.ref s3), (.ref fb), (.ref fb)])
  refine Go.by (g' := (mkF m 54 #[.val (.int p1), .val (.int p2), .val (.int p3), .val (.int p4), .val ty, .val (.ref ju), .val (.ref re), .val (.ref ca), .unset, .unset] [ty, (.ref s3), (.ref fb), (.ref fb)])) (fun _ k => XS.aload X342.here hx rfl (hb hby at_52) rfl hty k) ?_
  have f343_E_fb := (A337.ext E342)
  have f344_Dparameters := (Dparameters.ext E342)
  have f345_Dblocks := (Dblocks.ext E342)
  have f346_Dname := (Dname.ext E342)
  have f347_DreturnType := (DreturnType.ext E342)
  have f348_Dlabel := (Dlabel.ext E342)
  have f349_Dinstructions := (Dinstructions.ext E342)
  have f350_OL := (((f335_OL.keep K336 (allS ge_ca all0)).ext E337).ext E342)
  refine Go.callIW X342 hx hS hk342 hZ (y := (⟨"com/example/sorrel/sorrel/middle/ir/FunctionBuilder", "<init>", "(Ljava/lang/String;Lcom/example/sorrel/sorrel/middle/ir/Value$Type;)V"⟩ : MethodName)) rfl hown (hw _ (List.mem_of_getElem? (i := 111) rfl)) (hw _ (List.mem_of_getElem? (i := 112) rfl)) (hw _ (List.mem_of_getElem? (i := 109) rfl)) (hw _ (List.mem_of_getElem? (i := 113) rfl)) (by decide) (W := 1) (a := fb) (argsL := [(.ref s3), ty]) (rest := [(.ref fb)]) (rm14 l Z a0 hw fb s3 ty hty h342 n0 Z342 aD f343_E_fb f344_Dparameters f345_Dblocks f346_Dname f347_DreturnType f348_Dlabel f349_Dinstructions ge_fb f350_OL SD) (by decide) (by decide) (by decide) (by decide) (g := (mkF m 54 #[.val (.int p1), .val (.int p2), .val (.int p3), .val (.int p4), .val ty, .val (.ref ju), .val (.ref re), .val (.ref ca), .unset, .unset] [ty, (.ref s3), (.ref fb), (.ref fb)])) rfl (by rw [hml]; rfl) (lenOf pd_14 rfl) rfl (by show 2 * 0 + _ ≤ _; exact Nat.le_of_eq rfl) (hb hby at_54) e342 ?_
  rintro T351 L351 _ X351 hS hZ hown ⟨rfl, N351, P351, lab, FB1⟩
  have M351 := Fr.app M336 N351
  have Z351 : n0 ≤ T351.heap.size := Nat.le_trans Z342 P351.size
  have hk351 := Nat.le_trans hk342 P351.size
  show Go p e below _ _ T351 (mkF m 57 #[.val (.int p1), .val (.int p2), .val (.int p3), .val (.int p4), .val ty, .val (.ref ju), .val (.ref re), .val (.ref ca), .unset, .unset] [(.ref fb)])
  refine Go.by (g' := (mkF m 59 #[.val (.int p1), .val (.int p2), .val (.int p3), .val (.int p4), .val ty, .val (.ref ju), .val (.ref re), .val (.ref ca), .val (.ref fb), .unset] [])) (fun _ k => XS.astore X351.here hx rfl (hb hby at_57) rfl rfl (l' := #[.val (.int p1), .val (.int p2), .val (.int p3), .val (.int p4), .val ty, .val (.ref ju), .val (.ref re), .val (.ref ca), .val (.ref fb), .unset]) rfl k) ?_
  refine Go.by (g' := (mkF m 61 #[.val (.int p1), .val (.int p2), .val (.int p3), .val (.int p4), .val ty, .val (.ref ju), .val (.ref re), .val (.ref ca), .val (.ref fb), .unset] [(.ref fb)])) (fun _ k => XS.aload X351.here hx rfl (hb hby at_59) rfl rfl k) ?_
  refine Go.callV X351 hx hZ (y := (⟨"com/example/sorrel/sorrel/middle/ir/FunctionBuilder", "isOpen", "()Z"⟩ : MethodName)) (z := (⟨"com/example/sorrel/sorrel/middle/ir/FunctionBuilder", "isOpen", "()Z"⟩ : MethodName)) hown (hw _ (List.mem_of_getElem? (i := 140) rfl)) (hw _ (List.mem_of_getElem? (i := 132) rfl)) (notFace_of_selects (args := #[]) (mvT hZ (hw _ (List.mem_of_getElem? (i := 134) rfl)))) (hw _ (List.mem_of_getElem? (i := 134) rfl)) (hw _ (List.mem_of_getElem? (i := 133) rfl)) (hw _ (List.mem_of_getElem? (i := 109) rfl)) (hw _ (List.mem_of_getElem? (i := 135) rfl)) (by decide) (W := 0) (a := fb) (argsL := []) (rest := []) FB1.exa (rm16R l Z a0 hw fb T351.heap n0 lab FB1.lab) (by decide) (by decide) (by decide) (by decide) (g := (mkF m 61 #[.val (.int p1), .val (.int p2), .val (.int p3), .val (.int p4), .val ty, .val (.ref ju), .val (.ref re), .val (.ref ca), .val (.ref fb), .unset] [(.ref fb)])) rfl (by rw [hml]; rfl) (lenOf pd_16 rfl) rfl (by show 2 * 0 + _ ≤ _; exact Nat.le_of_eq rfl) (hb hby at_61) rfl ?_
  rintro T352 L352 _ X352 ⟨rfl, N352, q352⟩
  have M352 := Fr.app M351 N352
  show Go p e below _ _ T352 (mkF m 64 #[.val (.int p1), .val (.int p2), .val (.int p3), .val (.int p4), .val ty, .val (.ref ju), .val (.ref re), .val (.ref ca), .val (.ref fb), .unset] [(.int (1 : Int32))])
  refine Go.by (g' := (mkF m 69 #[.val (.int p1), .val (.int p2), .val (.int p3), .val (.int p4), .val ty, .val (.ref ju), .val (.ref re), .val (.ref ca), .val (.ref fb), .unset] [])) (fun _ k => XS.ifYes X352.here hx rfl (pc0 := 64) (pc' := 69) rfl (hb hby at_64) rfl ((if0 _ _).trans (feq (by decide)).2) (by decide) (by decide) k) ?_
  refine Go.by (g' := (mkF m 70 #[.val (.int p1), .val (.int p2), .val (.int p3), .val (.int p4), .val ty, .val (.ref ju), .val (.ref re), .val (.ref ca), .val (.ref fb), .unset] [(.int (1 : Int32))])) (fun _ k => XS.iconst X352.here hx rfl (hb hby at_69) k) ?_
  refine Go.by (g' := (mkF m 72 #[.val (.int p1), .val (.int p2), .val (.int p3), .val (.int p4), .val ty, .val (.ref ju), .val (.ref re), .val (.ref ca), .val (.ref fb), .val (.int (1 : Int32))] [])) (fun _ k => XS.istore X352.here hx rfl (hb hby at_70) rfl (l' := #[.val (.int p1), .val (.int p2), .val (.int p3), .val (.int p4), .val ty, .val (.ref ju), .val (.ref re), .val (.ref ca), .val (.ref fb), .val (.int (1 : Int32))]) rfl k) ?_
  have FS0 : FBs Z a0 T351.heap n0 aD fb 1 0 0 := Or.inl ⟨rfl, lab, FB1⟩
  refine Go.by (g' := (mkF m 74 #[.val (.int p1), .val (.int p2), .val (.int p3), .val (.int p4), .val ty, .val (.ref ju), .val (.ref re), .val (.ref ca), .val (.ref fb), .val (.int (1 : Int32))] [(.ref fb)])) (fun _ k => XS.aload X352.here hx rfl (hb hby at_72) rfl rfl k) ?_
  refine Go.by (g' := (mkF m 76 #[.val (.int p1), .val (.int p2), .val (.int p3), .val (.int p4), .val ty, .val (.ref ju), .val (.ref re), .val (.ref ca), .val (.ref fb), .val (.int (1 : Int32))] [(.int (1 : Int32)), (.ref fb)])) (fun _ k => XS.iload X352.here hx rfl (hb hby at_74) rfl k) ?_
  refine Go.by (g' := (mkF m 77 #[.val (.int p1), .val (.int p2), .val (.int p3), .val (.int p4), .val ty, .val (.ref ju), .val (.ref re), .val (.ref ca), .val (.ref fb), .val (.int (1 : Int32))] [(.int p1), (.int (1 : Int32)), (.ref fb)])) (fun _ k => XS.iloadN X352.here hx rfl (hb hby at_76) rfl k) ?_
  refine Go.by (g' := (mkF m 79 #[.val (.int p1), .val (.int p2), .val (.int p3), .val (.int p4), .val ty, .val (.ref ju), .val (.ref re), .val (.ref ca), .val (.ref fb), .val (.int (1 : Int32))] [(.ref ju), (.int p1), (.int (1 : Int32)), (.ref fb)])) (fun _ k => XS.aload X352.here hx rfl (hb hby at_77) rfl rfl k) ?_
  refine Go.by (g' := (mkF m 81 #[.val (.int p1), .val (.int p2), .val (.int p3), .val (.int p4), .val ty, .val (.ref ju), .val (.ref re), .val (.ref ca), .val (.ref fb), .val (.int (1 : Int32))] [(.ref re), (.ref ju), (.int p1), (.int (1 : Int32)), (.ref fb)])) (fun _ k => XS.aload X352.here hx rfl (hb hby at_79) rfl rfl k) ?_
  refine Go.by (g' := (mkF m 83 #[.val (.int p1), .val (.int p2), .val (.int p3), .val (.int p4), .val ty, .val (.ref ju), .val (.ref re), .val (.ref ca), .val (.ref fb), .val (.int (1 : Int32))] [(.ref ca), (.ref re), (.ref ju), (.int p1), (.int (1 : Int32)), (.ref fb)])) (fun _ k => XS.aload X352.here hx rfl (hb hby at_81) rfl rfl k) ?_
  have f353_E_ju := (exa_kpp ((f338_E_ju.ext E337).ext E342) P351)
  have f354_E_re := (exa_kpp ((f339_E_re.ext E337).ext E342) P351)
  have f355_E_ca := (exa_kpp ((f340_E_ca.ext E337).ext E342) P351)
  have f356_OL := (old_kpp f350_OL P351)
  refine Go.callSW X352 hx hS (Nat.le_refl _) hZ (y := (⟨"com/example/sorrel/sorrel/middle/ir/FunctionBuilderIsOpenPinLaw", "step", "(Lcom/example/sorrel/sorrel/middle/ir/FunctionBuilder;IILcom/example/sorrel/sorrel/middle/ir/Instruction;Lcom/example/sorrel/sorrel/middle/ir/Instruction;Lcom/example/sorrel/sorrel/middle/ir/Instruction;)I"⟩ : MethodName)) hown (hw _ (List.mem_of_getElem? (i := 141) rfl)) (hw _ (List.mem_of_getElem? (i := 142) rfl)) (hw _ (List.mem_of_getElem? (i := 2) rfl)) (hw _ (List.mem_of_getElem? (i := 143) rfl)) (by decide) (W := 0) (argsL := [(.ref fb), (.int (1 : Int32)), (.int p1), (.ref ju), (.ref re), (.ref ca)]) (rest := []) (rm17 l Z a0 hw fb (1 : Int32) p1 ju re ca T351.heap n0 Z351 aD kD aM aL mr 0 0 FS0 (by decide) (by decide) ge_fb f353_E_ju f354_E_re f355_E_ca f356_OL SD AD SEM SEL MM) (by decide) (by decide) (by decide) (by decide) (g := (mkF m 83 #[.val (.int p1), .val (.int p2), .val (.int p3), .val (.int p4), .val ty, .val (.ref ju), .val (.ref re), .val (.ref ca), .val (.ref fb), .val (.int (1 : Int32))] [(.ref ca), (.ref re), (.ref ju), (.int p1), (.int (1 : Int32)), (.ref fb)])) rfl (by rw [hml]; rfl) (lenOf pd_17 rfl) rfl (by show 2 * 0 + _ ≤ _; exact Nat.le_of_eq rfl) (hb hby at_83) q352 ?_
  rintro T357 L357 _ X357 hS hZ hown ⟨r1, rfl, N357, P357, FS1⟩
  have M357 := Fr.app M352 N357
  have Z357 : n0 ≤ T357.heap.size := Nat.le_trans Z351 P357.size
  have hk357 := Nat.le_trans (Nat.le_refl _) P357.size
  show Go p e below _ _ T357 (mkF m 86 #[.val (.int p1), .val (.int p2), .val (.int p3), .val (.int p4), .val ty, .val (.ref ju), .val (.ref re), .val (.ref ca), .val (.ref fb), .val (.int (1 : Int32))] [(.int r1)])
  refine Go.by (g' := (mkF m 88 #[.val (.int p1), .val (.int p2), .val (.int p3), .val (.int p4), .val ty, .val (.ref ju), .val (.ref re), .val (.ref ca), .val (.ref fb), .val (.int r1)] [])) (fun _ k => XS.istore X357.here hx rfl (hb hby at_86) rfl (l' := #[.val (.int p1), .val (.int p2), .val (.int p3), .val (.int p4), .val ty, .val (.ref ju), .val (.ref re), .val (.ref ca), .val (.ref fb), .val (.int r1)]) rfl k) ?_
  refine Go.by (g' := (mkF m 90 #[.val (.int p1), .val (.int p2), .val (.int p3), .val (.int p4), .val ty, .val (.ref ju), .val (.ref re), .val (.ref ca), .val (.ref fb), .val (.int r1)] [(.ref fb)])) (fun _ k => XS.aload X357.here hx rfl (hb hby at_88) rfl rfl k) ?_
  refine Go.by (g' := (mkF m 92 #[.val (.int p1), .val (.int p2), .val (.int p3), .val (.int p4), .val ty, .val (.ref ju), .val (.ref re), .val (.ref ca), .val (.ref fb), .val (.int r1)] [(.int r1), (.ref fb)])) (fun _ k => XS.iload X357.here hx rfl (hb hby at_90) rfl k) ?_
  refine Go.by (g' := (mkF m 93 #[.val (.int p1), .val (.int p2), .val (.int p3), .val (.int p4), .val ty, .val (.ref ju), .val (.ref re), .val (.ref ca), .val (.ref fb), .val (.int r1)] [(.int p2), (.int r1), (.ref fb)])) (fun _ k => XS.iloadN X357.here hx rfl (hb hby at_92) rfl k) ?_
  refine Go.by (g' := (mkF m 95 #[.val (.int p1), .val (.int p2), .val (.int p3), .val (.int p4), .val ty, .val (.ref ju), .val (.ref re), .val (.ref ca), .val (.ref fb), .val (.int r1)] [(.ref ju), (.int p2), (.int r1), (.ref fb)])) (fun _ k => XS.aload X357.here hx rfl (hb hby at_93) rfl rfl k) ?_
  refine Go.by (g' := (mkF m 97 #[.val (.int p1), .val (.int p2), .val (.int p3), .val (.int p4), .val ty, .val (.ref ju), .val (.ref re), .val (.ref ca), .val (.ref fb), .val (.int r1)] [(.ref re), (.ref ju), (.int p2), (.int r1), (.ref fb)])) (fun _ k => XS.aload X357.here hx rfl (hb hby at_95) rfl rfl k) ?_
  refine Go.by (g' := (mkF m 99 #[.val (.int p1), .val (.int p2), .val (.int p3), .val (.int p4), .val ty, .val (.ref ju), .val (.ref re), .val (.ref ca), .val (.ref fb), .val (.int r1)] [(.ref ca), (.ref re), (.ref ju), (.int p2), (.int r1), (.ref fb)])) (fun _ k => XS.aload X357.here hx rfl (hb hby at_97) rfl rfl k) ?_
  have f358_E_ju := (exa_kpp f353_E_ju P357)
  have f359_E_re := (exa_kpp f354_E_re P357)
  have f360_E_ca := (exa_kpp f355_E_ca P357)
  have f361_OL := (old_kpp f356_OL P357)
  refine Go.callSW X357 hx hS (Nat.le_refl _) hZ (y := (⟨"com/example/sorrel/sorrel/middle/ir/FunctionBuilderIsOpenPinLaw", "step", "(Lcom/example/sorrel/sorrel/middle/ir/FunctionBuilder;IILcom/example/sorrel/sorrel/middle/ir/Instruction;Lcom/example/sorrel/sorrel/middle/ir/Instruction;Lcom/example/sorrel/sorrel/middle/ir/Instruction;)I"⟩ : MethodName)) hown (hw _ (List.mem_of_getElem? (i := 141) rfl)) (hw _ (List.mem_of_getElem? (i := 142) rfl)) (hw _ (List.mem_of_getElem? (i := 2) rfl)) (hw _ (List.mem_of_getElem? (i := 143) rfl)) (by decide) (W := 0) (argsL := [(.ref fb), (.int r1), (.int p2), (.ref ju), (.ref re), (.ref ca)]) (rest := []) (rm17 l Z a0 hw fb r1 p2 ju re ca T357.heap n0 Z357 aD kD aM aL mr 1 1 FS1 (by decide) (by decide) ge_fb f358_E_ju f359_E_re f360_E_ca f361_OL SD AD SEM SEL MM) (by decide) (by decide) (by decide) (by decide) (g := (mkF m 99 #[.val (.int p1), .val (.int p2), .val (.int p3), .val (.int p4), .val ty, .val (.ref ju), .val (.ref re), .val (.ref ca), .val (.ref fb), .val (.int r1)] [(.ref ca), (.ref re), (.ref ju), (.int p2), (.int r1), (.ref fb)])) rfl (by rw [hml]; rfl) (lenOf pd_17 rfl) rfl (by show 2 * 0 + _ ≤ _; exact Nat.le_of_eq rfl) (hb hby at_99) rfl ?_
  rintro T362 L362 _ X362 hS hZ hown ⟨r2, rfl, N362, P362, FS2⟩
  have M362 := Fr.app M357 N362
  have Z362 : n0 ≤ T362.heap.size := Nat.le_trans Z357 P362.size
  have hk362 := Nat.le_trans (Nat.le_refl _) P362.size
  show Go p e below _ _ T362 (mkF m 102 #[.val (.int p1), .val (.int p2), .val (.int p3), .val (.int p4), .val ty, .val (.ref ju), .val (.ref re), .val (.ref ca), .val (.ref fb), .val (.int r1)] [(.int r2)])
  refine Go.by (g' := (mkF m 104 #[.val (.int p1), .val (.int p2), .val (.int p3), .val (.int p4), .val ty, .val (.ref ju), .val (.ref re), .val (.ref ca), .val (.ref fb), .val (.int r2)] [])) (fun _ k => XS.istore X362.here hx rfl (hb hby at_102) rfl (l' := #[.val (.int p1), .val (.int p2), .val (.int p3), .val (.int p4), .val ty, .val (.ref ju), .val (.ref re), .val (.ref ca), .val (.ref fb), .val (.int r2)]) rfl k) ?_
  refine Go.by (g' := (mkF m 106 #[.val (.int p1), .val (.int p2), .val (.int p3), .val (.int p4), .val ty, .val (.ref ju), .val (.ref re), .val (.ref ca), .val (.ref fb), .val (.int r2)] [(.ref fb)])) (fun _ k => XS.aload X362.here hx rfl (hb hby at_104) rfl rfl k) ?_
  refine Go.by (g' := (mkF m 108 #[.val (.int p1), .val (.int p2), .val (.int p3), .val (.int p4), .val ty, .val (.ref ju), .val (.ref re), .val (.ref ca), .val (.ref fb), .val (.int r2)] [(.int r2), (.ref fb)])) (fun _ k => XS.iload X362.here hx rfl (hb hby at_106) rfl k) ?_
  refine Go.by (g' := (mkF m 109 #[.val (.int p1), .val (.int p2), .val (.int p3), .val (.int p4), .val ty, .val (.ref ju), .val (.ref re), .val (.ref ca), .val (.ref fb), .val (.int r2)] [(.int p3), (.int r2), (.ref fb)])) (fun _ k => XS.iloadN X362.here hx rfl (hb hby at_108) rfl k) ?_
  refine Go.by (g' := (mkF m 111 #[.val (.int p1), .val (.int p2), .val (.int p3), .val (.int p4), .val ty, .val (.ref ju), .val (.ref re), .val (.ref ca), .val (.ref fb), .val (.int r2)] [(.ref ju), (.int p3), (.int r2), (.ref fb)])) (fun _ k => XS.aload X362.here hx rfl (hb hby at_109) rfl rfl k) ?_
  refine Go.by (g' := (mkF m 113 #[.val (.int p1), .val (.int p2), .val (.int p3), .val (.int p4), .val ty, .val (.ref ju), .val (.ref re), .val (.ref ca), .val (.ref fb), .val (.int r2)] [(.ref re), (.ref ju), (.int p3), (.int r2), (.ref fb)])) (fun _ k => XS.aload X362.here hx rfl (hb hby at_111) rfl rfl k) ?_
  refine Go.by (g' := (mkF m 115 #[.val (.int p1), .val (.int p2), .val (.int p3), .val (.int p4), .val ty, .val (.ref ju), .val (.ref re), .val (.ref ca), .val (.ref fb), .val (.int r2)] [(.ref ca), (.ref re), (.ref ju), (.int p3), (.int r2), (.ref fb)])) (fun _ k => XS.aload X362.here hx rfl (hb hby at_113) rfl rfl k) ?_
  have f363_E_ju := (exa_kpp f358_E_ju P362)
  have f364_E_re := (exa_kpp f359_E_re P362)
  have f365_E_ca := (exa_kpp f360_E_ca P362)
  have f366_OL := (old_kpp f361_OL P362)
  refine Go.callSW X362 hx hS (Nat.le_refl _) hZ (y := (⟨"com/example/sorrel/sorrel/middle/ir/FunctionBuilderIsOpenPinLaw", "step", "(Lcom/example/sorrel/sorrel/middle/ir/FunctionBuilder;IILcom/example/sorrel/sorrel/middle/ir/Instruction;Lcom/example/sorrel/sorrel/middle/ir/Instruction;Lcom/example/sorrel/sorrel/middle/ir/Instruction;)I"⟩ : MethodName)) hown (hw _ (List.mem_of_getElem? (i := 141) rfl)) (hw _ (List.mem_of_getElem? (i := 142) rfl)) (hw _ (List.mem_of_getElem? (i := 2) rfl)) (hw _ (List.mem_of_getElem? (i := 143) rfl)) (by decide) (W := 0) (argsL := [(.ref fb), (.int r2), (.int p3), (.ref ju), (.ref re), (.ref ca)]) (rest := []) (rm17 l Z a0 hw fb r2 p3 ju re ca T362.heap n0 Z362 aD kD aM aL mr 2 2 FS2 (by decide) (by decide) ge_fb f363_E_ju f364_E_re f365_E_ca f366_OL SD AD SEM SEL MM) (by decide) (by decide) (by decide) (by decide) (g := (mkF m 115 #[.val (.int p1), .val (.int p2), .val (.int p3), .val (.int p4), .val ty, .val (.ref ju), .val (.ref re), .val (.ref ca), .val (.ref fb), .val (.int r2)] [(.ref ca), (.ref re), (.ref ju), (.int p3), (.int r2), (.ref fb)])) rfl (by rw [hml]; rfl) (lenOf pd_17 rfl) rfl (by show 2 * 0 + _ ≤ _; exact Nat.le_of_eq rfl) (hb hby at_115) rfl ?_
  rintro T367 L367 _ X367 hS hZ hown ⟨r3, rfl, N367, P367, FS3⟩
  have M367 := Fr.app M362 N367
  have Z367 : n0 ≤ T367.heap.size := Nat.le_trans Z362 P367.size
  have hk367 := Nat.le_trans (Nat.le_refl _) P367.size
  show Go p e below _ _ T367 (mkF m 118 #[.val (.int p1), .val (.int p2), .val (.int p3), .val (.int p4), .val ty, .val (.ref ju), .val (.ref re), .val (.ref ca), .val (.ref fb), .val (.int r2)] [(.int r3)])
  refine Go.by (g' := (mkF m 120 #[.val (.int p1), .val (.int p2), .val (.int p3), .val (.int p4), .val ty, .val (.ref ju), .val (.ref re), .val (.ref ca), .val (.ref fb), .val (.int r3)] [])) (fun _ k => XS.istore X367.here hx rfl (hb hby at_118) rfl (l' := #[.val (.int p1), .val (.int p2), .val (.int p3), .val (.int p4), .val ty, .val (.ref ju), .val (.ref re), .val (.ref ca), .val (.ref fb), .val (.int r3)]) rfl k) ?_
  refine Go.by (g' := (mkF m 122 #[.val (.int p1), .val (.int p2), .val (.int p3), .val (.int p4), .val ty, .val (.ref ju), .val (.ref re), .val (.ref ca), .val (.ref fb), .val (.int r3)] [(.int r3)])) (fun _ k => XS.iload X367.here hx rfl (hb hby at_120) rfl k) ?_
  refine Go.by (g' := (mkF m 125 #[.val (.int p1), .val (.int p2), .val (.int p3), .val (.int p4), .val ty, .val (.ref ju), .val (.ref re), .val (.ref ca), .val (.ref fb), .val (.int r3)] [])) (fun _ k => XS.ifNo X367.here hx rfl (hb hby at_122) rfl ((if0 _ _).trans (flt FS3.nn).1) k) ?_
  refine Go.by (g' := (mkF m 126 #[.val (.int p1), .val (.int p2), .val (.int p3), .val (.int p4), .val ty, .val (.ref ju), .val (.ref re), .val (.ref ca), .val (.ref fb), .val (.int r3)] [(.int (1 : Int32))])) (fun _ k => XS.iconst X367.here hx rfl (hb hby at_125) k) ?_
  refine Go.by (g' := (mkF m 130 #[.val (.int p1), .val (.int p2), .val (.int p3), .val (.int p4), .val ty, .val (.ref ju), .val (.ref re), .val (.ref ca), .val (.ref fb), .val (.int r3)] [(.int (1 : Int32))])) (fun _ k => XS.goto X367.here hx rfl (pc0 := 126) (pc' := 130) rfl (hb hby at_126) (by decide) (by decide) k) ?_
  exact Go.outZ X367 hx hret (Lv.wide X367 hlk hS (Nat.le_refl _) (by decide) (by decide)) (hb hby at_130) (by decide) ⟨rfl, M367⟩
set_option maxRecDepth 65536 in
set_option maxHeartbeats 40000000 in
theorem comes_1 {Post : Tables → Env → Array Value → State → Outcome → State → Prop} (hpost : ∀ tb e args s v u, (limb_1_1.after args s (.returned v) u = true ∧ limb_1_2.after args s (.returned v) u = true ∧ True) → ReturnedEndW s (.returned v) u (Jvm.fieldLocs frame_1_writes args s ++ Jvm.arrayLocs frame_1_arrays args s ++ Jvm.staticLocs frame_1_statics s) 56 4352 → Post tb e args s (.returned v) u) :
    ArmFor flags0 classFile x code maxLocals ret World_1 tables_1 room_1 Calls_1 rest_1 Pre_1 Post := by
  intro l hfl _ _ p e ha hc hk s m args below hf hA hF happ hP
  obtain ⟨hcalls, hrest, hpre⟩ := hP
  obtain ⟨-, -, -, hnamed, -, -, -, hat⟩ := (Spec.applies_iff hf).mp happ
  obtain ⟨hg, hn⟩ := and_e (Cond.before_iff.mp (show (Jvm.Cond.and given_1 narrow_1).before args s = true from hpre))
  obtain ⟨h1, q0⟩ := and_e hg
  obtain ⟨p0, q1⟩ := and_e q0
  obtain ⟨p1, q2⟩ := and_e q1
  obtain ⟨p2, q3⟩ := and_e q2
  obtain ⟨w0, w1, w2, w3, rfl⟩ : ∃ w0 w1 w2 w3 : Value, args = #[w0, w1, w2, w3] := by
    have hs : args.size = 4 := by simpa [Cond.value, given_1] using h1
    obtain ⟨L⟩ := args
    match L, hs with
    | [w0, w1, w2, w3], _ => exact ⟨w0, w1, w2, w3, rfl⟩
  have hw := fun d (hd : d ∈ tables_1) => atoms_spec (ws := Jvm.Cond.code x code maxLocals ret :: tables_1) hat d (List.mem_cons_of_mem _ hd)
  have hfit : Fit s := fun {y c} hc i hi => by
    obtain ⟨ha, rfl⟩ := Array.getElem?_eq_some_iff.mp hc
    have q := List.all_eq_true.mp ((Array.all_eq_true_iff_forall_mem.mp hF) _ (Array.getElem_mem ha)) i (List.mem_range.mpr hi)
    simpa [Array.getElem?_eq_getElem hi] using q
  obtain ⟨hsets, hown0⟩ := atoms_of _ (rest_1_c_eq ▸ (show rest_1_c.before _ s = true from hrest))
  obtain ⟨i0, ee0⟩ := is_v p0
  obtain rfl : w0 = (.int i0) := Option.some.inj ee0
  obtain ⟨i1, ee1⟩ := is_v p1
  obtain rfl : w1 = (.int i1) := Option.some.inj ee1
  obtain ⟨i2, ee2⟩ := is_v p2
  obtain rfl : w2 = (.int i2) := Option.some.inj ee2
  obtain ⟨i3, ee3⟩ := is_v q3
  obtain rfl : w3 = (.int i3) := Option.some.inj ee3
  obtain ⟨m1, r1⟩ := and_e hn
  obtain ⟨m2, m3⟩ := and_e r1
  obtain ⟨aI, eaI⟩ := exa_v m1
  have SI : Sta s s.heap "com/example/sorrel/sorrel/middle/ir/Value$Type" "INT" "Lcom/example/sorrel/sorrel/middle/ir/Value$Type;" (.ref aI) := Sta.start eaI (Or.inr ⟨(hw _ (List.mem_of_getElem? (i := 5) rfl)), (hw _ (List.mem_of_getElem? (i := 6) rfl))⟩)
  obtain ⟨aB, eaB⟩ := exa_v m2
  have SB : Sta s s.heap "com/example/sorrel/sorrel/middle/ir/Value$Type" "BOOL" "Lcom/example/sorrel/sorrel/middle/ir/Value$Type;" (.ref aB) := Sta.start eaB (Or.inr ⟨(hw _ (List.mem_of_getElem? (i := 5) rfl)), (hw _ (List.mem_of_getElem? (i := 274) rfl))⟩)
  obtain ⟨aR, eaR⟩ := exa_v m3
  have SR : Sta s s.heap "com/example/sorrel/sorrel/middle/ir/Value$Type" "REF" "Lcom/example/sorrel/sorrel/middle/ir/Value$Type;" (.ref aR) := Sta.start eaR (Or.inr ⟨(hw _ (List.mem_of_getElem? (i := 5) rfl)), (hw _ (List.mem_of_getElem? (i := 306) rfl))⟩)
  have hAr := Cond.before_iff.mp (hsets _ (List.mem_of_getElem? (i := 6) rfl))
  obtain ⟨aD, eD⟩ := arr_v hAr
  have SD : Sta s s.heap "java/util/ArrayList" "DEFAULTCAPACITY_EMPTY_ELEMENTDATA" "[Ljava/lang/Object;" (.ref aD) := Sta.start eD (Or.inr ⟨(hw _ (List.mem_of_getElem? (i := 46) rfl)), (hsets _ (List.mem_of_getElem? (i := 2) rfl))⟩)
  obtain ⟨cD, ACD⟩ := Arr.start eD hAr
  obtain ⟨sz1, sz2⟩ := own_len eD ACD (eqv_i (Term.int_eval (0)) (Cond.before_iff.mp (hsets _ (List.mem_of_getElem? (i := 8) rfl))))
  have AD : Arv s s.heap aD cD.cls OA 0 [] .null := Arv.start hfit ACD sz1 sz2 (by decide) rfl trivial
  obtain ⟨aL, eL⟩ := exa_v (Cond.before_iff.mp (hsets _ (List.mem_of_getElem? (i := 11) rfl)))
  have SEL : Sta s s.heap "java/util/ImmutableCollections" "EMPTY_LIST" "Ljava/util/ImmutableCollections$ListN;" (.ref aL) := Sta.start eL (Or.inr ⟨(hw _ (List.mem_of_getElem? (i := 78) rfl)), (hsets _ (List.mem_of_getElem? (i := 9) rfl))⟩)
  obtain ⟨aM, eM⟩ := exa_v (Cond.before_iff.mp (hsets _ (List.mem_of_getElem? (i := 18) rfl)))
  have SEM : Sta s s.heap "java/util/ImmutableCollections" "EMPTY" "Ljava/lang/Object;" (.ref aM) := Sta.start eM (Or.inr ⟨(hw _ (List.mem_of_getElem? (i := 78) rfl)), (hsets _ (List.mem_of_getElem? (i := 16) rfl))⟩)
  obtain ⟨cM, kM, mr, MM1, MM2, MM3⟩ : MirrorMade s "[Ljava/lang/Object;" := hcalls.1
  have MM : MirM s "[Ljava/lang/Object;" mr := ⟨cM, kM, MM1, MM2, MM3.1⟩
  obtain ⟨n, o, h1, h2, h3, _, L, rfl, ⟨rfl, N⟩, hq⟩ := rm0 l s _ hw i0 i1 i2 i3 s.heap s.heap.size (Nat.le_refl _) aD cD.cls aM aL mr aI aB aR (Old.start s) SD AD SEM SEL MM SI SB SR tables_1 p e ha hc hk s m _ below hf ((Spec.applies_iff_loose hf).mp happ).1 ⟨rfl, State.Warmed39.refl s, rfl⟩ trivial
  refine ⟨n, _, h1, h2, h3, hpost _ _ _ _ _ _ ⟨Cond.after_iff.mpr rfl, Cond.after_iff.mpr (eq_i res_at (Term.int_eval (1)) rfl), trivial⟩ ⟨hq.1, hq.2.1, hq.2.2.1, (hq.2.2.2.sift fun y hy => Or.inr (N y hy)).mono (by decide) (by decide)⟩⟩
theorem main_1_1 : Claimed_1_1 := comes_1 fun _ _ _ _ _ _ h hF => ⟨h.1, hF⟩
theorem main_1_2 : Claimed_1_2 := comes_1 fun _ _ _ _ _ _ h hF => ⟨h.2.1, hF⟩
end Jvm.Pilot.@@N@@
namespace Jvm.Pilot.@@N@@
open Jvm Jvm.ClassFile Sem Op Lib Jvm.Free Jvm.Stand Jvm.Pilot.@@N@@.Jvm.D
/-! MADE BY PROGRAM (witnessworld.py) out of the Statement's table words and the real class files: 41 classes; the members and pool entries that the words name. The judged class is class 1, her method 1. -/
namespace start1
open Jvm.ClassFile
def u (s : String) : CpInfo := .utf8 (stringToUtf16 s)
/-- a pool by its gaps: so many unusable entries, then the entry; so many at the end -/
def gap : Nat → List CpInfo → List CpInfo
  | 0, r => r
  | n + 1, r => .unusable :: gap n r
def poolList (es : List (Nat × CpInfo)) (last : Nat) : List CpInfo := es.foldr (fun e r => gap e.1 (e.2 :: r)) (gap last [])
def pool (es : List (Nat × CpInfo)) (last : Nat) : Array CpInfo := ⟨poolList es last⟩
def fileOf (pool : Array CpInfo) (this : Nat) (attrs : Array Attribute := #[]) (ms : Array MethodInfo := #[]) (fl : Nat := 33) (sup : Nat := 0) (ifs : Array Nat := #[]) (fds : Array FieldInfo := #[]) : ClassFile where
  minorVersion := 0
  majorVersion := 65
  constantPool := pool
  accessFlags := fl
  thisClass := this
  superClass := sup
  interfaces := ifs
  fields := fds
  methods := ms
  attributes := attrs
def plain (name : String) (sup : Option ClassId) : Class where
  name := name
  kind := .ordinary
  loader := none
  accessFlags := 33
  super := sup
  interfaces := #[]
  cf := none
  fields := #[]
  methods := #[]
  instanceTypes := #[]
  staticTypes := #[]
  resolved := #[]
  callSites := []
  init := .initialized
  statics := none
  mirror := none

def pool0 : Array CpInfo := pool [(5, u "<init>"), (0, u "()V"), (1, .class_ 10), (1, u "java/lang/Object"), (0, u "getClass"), (0, u "()Ljava/lang/Class;")] 111

def k0c0 : Code := { maxStack := 0, maxLocals := 1, code := object_method_1_code, exceptionTable := #[], attributes := #[] }
def k0m0 : Method := { name := "<init>", desc := "()V", sig := { parameters := [], returnType := none }, accessFlags := 1, code := some k0c0 }
def k0m1 : Method := { name := "getClass", desc := "()Ljava/lang/Class;", sig := { parameters := [], returnType := some (.object "java/lang/Class") }, accessFlags := 273, code := none }
/-- java/lang/Object -/
def k0 : Class := { plain "java/lang/Object" none with
  accessFlags := 33
  interfaces := #[]
  cf := some (fileOf pool0 8 #[] #[{ accessFlags := 1, nameIndex := 5, descriptorIndex := 6, attributes := #[] }, { accessFlags := 273, nameIndex := 11, descriptorIndex := 12, attributes := #[] }] 33 0 #[] #[])
  fields := #[]
  methods := #[k0m0, k0m1]
  instanceTypes := #[]
  staticTypes := #[]
  resolved := Array.replicate 124 none
  statics := none }

def pool1 : Array CpInfo := pool [(2, .class_ 4), (0, .nameAndType 5 6), (0, u "java/lang/Object"), (0, u "<init>"), (0, u "()V"), (0, .methodref 8 9), (0, .class_ 10), (0, .nameAndType 11 12), (0, u "com/example/sorrel/sorrel/middle/ir/FunctionBuilderIsOpenPinLaw"), (0, u "pick"), (0, u "(I)Lcom/example/sorrel/sorrel/middle/ir/Value$Type;"), (0, .class_ 14), (0, u "com/example/sorrel/sorrel/middle/ir/Instruction$Jump"), (0, .string 16), (0, u "b"), (0, .methodref 13 18), (0, .nameAndType 5 19), (0, u "(Ljava/lang/String;)V"), (0, .class_ 21), (0, u "com/example/sorrel/sorrel/middle/ir/Instruction$Return"), (0, .methodref 20 23), (0, .nameAndType 5 24), (0, u "(Lcom/example/sorrel/sorrel/middle/ir/Value;)V"), (0, .class_ 26), (0, u "com/example/sorrel/sorrel/middle/ir/Instruction$Call"), (0, .string 28), (0, u "g"), (0, .class_ 30), (0, u "java/util/ArrayList"), (0, .methodref 29 3), (0, .methodref 25 33), (0, .nameAndType 5 34), (0, u "(Lcom/example/sorrel/sorrel/middle/ir/Value;Ljava/lang/String;Ljava/util/List;)V"), (0, .class_ 36), (0, u "com/example/sorrel/sorrel/middle/ir/FunctionBuilder"), (0, .string 38), (0, u "f"), (0, .methodref 35 40), (0, .nameAndType 5 41), (0, u "(Ljava/lang/String;Lcom/example/sorrel/sorrel/middle/ir/Value$Type;)V"), (0, .methodref 35 43), (0, .nameAndType 44 45), (0, u "isOpen"), (0, u "()Z"), (0, .methodref 8 47), (0, .nameAndType 48 49), (0, u "step"), (0, u "(Lcom/example/sorrel/sorrel/middle/ir/FunctionBuilder;IILcom/example/sorrel/sorrel/middle/ir/Instruction;Lcom/example/sorrel/sorrel/middle/ir/Instruction;Lcom/example/sorrel/sorrel/middle/ir/Instruction;)I"), (0, .fieldref 51 52), (0, .class_ 53), (0, .nameAndType 54 55), (0, u "com/example/sorrel/sorrel/middle/ir/Value$Type"), (0, u "INT"), (0, u "Lcom/example/sorrel/sorrel/middle/ir/Value$Type;"), (0, .fieldref 51 57), (0, .nameAndType 58 55), (0, u "BOOL"), (0, .fieldref 51 60), (0, .nameAndType 61 55), (0, u "REF"), (0, .methodref 35 63), (0, .nameAndType 64 65), (0, u "add"), (0, u "(Lcom/example/sorrel/sorrel/middle/ir/Instruction;)V"), (0, .methodref 35 67), (0, .nameAndType 68 19), (0, u "startBlock"), (2, u "law"), (0, u "(IIII)Z")] 12

def k1m0 : Method := { name := "<init>", desc := "()V", sig := { parameters := [], returnType := none }, accessFlags := 1, code := none }
def k1c1 : Code := { maxStack := 6, maxLocals := 10, code := code, exceptionTable := #[], attributes := #[] }
def k1m1 : Method := { name := "law", desc := "(IIII)Z", sig := { parameters := [.int, .int, .int, .int], returnType := some .boolean }, accessFlags := 9, code := some k1c1 }
def k1c2 : Code := { maxStack := 2, maxLocals := 2, code := method_3_code, exceptionTable := #[], attributes := #[] }
def k1m2 : Method := { name := "pick", desc := "(I)Lcom/example/sorrel/sorrel/middle/ir/Value$Type;", sig := { parameters := [.int], returnType := some (.object "com/example/sorrel/sorrel/middle/ir/Value$Type") }, accessFlags := 10, code := some k1c2 }
def k1c3 : Code := { maxStack := 2, maxLocals := 8, code := method_4_code, exceptionTable := #[], attributes := #[] }
def k1m3 : Method := { name := "step", desc := "(Lcom/example/sorrel/sorrel/middle/ir/FunctionBuilder;IILcom/example/sorrel/sorrel/middle/ir/Instruction;Lcom/example/sorrel/sorrel/middle/ir/Instruction;Lcom/example/sorrel/sorrel/middle/ir/Instruction;)I", sig := { parameters := [(.object "com/example/sorrel/sorrel/middle/ir/FunctionBuilder"), .int, .int, (.object "com/example/sorrel/sorrel/middle/ir/Instruction"), (.object "com/example/sorrel/sorrel/middle/ir/Instruction"), (.object "com/example/sorrel/sorrel/middle/ir/Instruction")], returnType := some .int }, accessFlags := 10, code := some k1c3 }
/-- com/example/sorrel/sorrel/middle/ir/FunctionBuilderIsOpenPinLaw -/
def k1 : Class := { plain "com/example/sorrel/sorrel/middle/ir/FunctionBuilderIsOpenPinLaw" (some 0) with
  accessFlags := 49
  interfaces := #[]
  cf := some (fileOf pool1 8 #[] #[{ accessFlags := 1, nameIndex := 5, descriptorIndex := 6, attributes := #[] }, { accessFlags := 9, nameIndex := 71, descriptorIndex := 72, attributes := #[] }, { accessFlags := 10, nameIndex := 11, descriptorIndex := 12, attributes := #[] }, { accessFlags := 10, nameIndex := 48, descriptorIndex := 49, attributes := #[] }] 49 2 #[] #[])
  fields := #[]
  methods := #[k1m0, k1m1, k1m2, k1m3]
  instanceTypes := #[]
  staticTypes := #[]
  resolved := Array.replicate 85 none
  statics := none }

def pool2 : Array CpInfo := pool [(1, .class_ 2), (0, u "java/lang/constant/Constable"), (0, .class_ 4), (0, u "java/lang/Object")] 6

/-- java/lang/constant/Constable -/
def k2 : Class := { plain "java/lang/constant/Constable" (some 0) with
  accessFlags := 1537
  interfaces := #[]
  cf := some (fileOf pool2 1 #[] #[] 1537 3 #[] #[])
  fields := #[]
  methods := #[]
  instanceTypes := #[]
  staticTypes := #[]
  resolved := Array.replicate 11 none
  statics := none }

def pool3 : Array CpInfo := pool [(1, .class_ 2), (0, u "java/lang/Comparable"), (0, .class_ 4), (0, u "java/lang/Object")] 7

/-- java/lang/Comparable -/
def k3 : Class := { plain "java/lang/Comparable" (some 0) with
  accessFlags := 1537
  interfaces := #[]
  cf := some (fileOf pool3 1 #[] #[] 1537 3 #[] #[])
  fields := #[]
  methods := #[]
  instanceTypes := #[]
  staticTypes := #[]
  resolved := Array.replicate 12 none
  statics := none }

def pool4 : Array CpInfo := pool [(1, .class_ 2), (0, u "java/io/Serializable"), (0, .class_ 4), (0, u "java/lang/Object")] 2

/-- java/io/Serializable -/
def k4 : Class := { plain "java/io/Serializable" (some 0) with
  accessFlags := 1537
  interfaces := #[]
  cf := some (fileOf pool4 1 #[] #[] 1537 3 #[] #[])
  fields := #[]
  methods := #[]
  instanceTypes := #[]
  staticTypes := #[]
  resolved := Array.replicate 7 none
  statics := none }

def pool5 : Array CpInfo := pool [(2, .class_ 4), (1, u "java/lang/Enum"), (0, u "name"), (0, u "Ljava/lang/String;"), (2, u "ordinal"), (0, u "I"), (1, .class_ 14), (1, u "java/lang/Object"), (4, u "hash"), (86, .class_ 108), (1, u "java/lang/Enum$EnumDesc"), (2, .class_ 112), (0, u "java/lang/constant/Constable"), (0, .class_ 114), (0, u "java/lang/Comparable"), (0, .class_ 116), (0, u "java/io/Serializable")] 87

/-- java/lang/Enum -/
def k5 : Class := { plain "java/lang/Enum" (some 0) with
  accessFlags := 1057
  interfaces := #[2, 3, 4]
  cf := some (fileOf pool5 2 #[.nestMembers #[106]] #[] 1057 12 #[111, 113, 115] #[{ accessFlags := 18, nameIndex := 5, descriptorIndex := 6, attributes := #[] }, { accessFlags := 18, nameIndex := 9, descriptorIndex := 10, attributes := #[] }, { accessFlags := 2, nameIndex := 19, descriptorIndex := 10, attributes := #[] }])
  fields := #[{ name := "name", type := (.object "java/lang/String"), accessFlags := 18, slot := 0, constantValue := 0 }, { name := "ordinal", type := .int, accessFlags := 18, slot := 1, constantValue := 0 }, { name := "hash", type := .int, accessFlags := 2, slot := 2, constantValue := 0 }]
  methods := #[]
  instanceTypes := #[(.object "java/lang/String"), .int, .int]
  staticTypes := #[]
  resolved := Array.replicate 204 none
  statics := none }

def pool6 : Array CpInfo := pool [(1, .class_ 2), (0, u "com/example/sorrel/sorrel/middle/ir/Value$Type"), (2, u "INT"), (0, u "Lcom/example/sorrel/sorrel/middle/ir/Value$Type;"), (2, u "BOOL"), (2, u "REF"), (2, u "$VALUES"), (0, u "[Lcom/example/sorrel/sorrel/middle/ir/Value$Type;"), (6, .class_ 25), (1, u "java/lang/Enum"), (26, .class_ 53), (0, u "com/example/sorrel/sorrel/middle/ir/Value")] 2

/-- com/example/sorrel/sorrel/middle/ir/Value$Type -/
def k6 : Class := { plain "com/example/sorrel/sorrel/middle/ir/Value$Type" (some 5) with
  accessFlags := 16433
  interfaces := #[]
  cf := some (fileOf pool6 1 #[.nestHost 52] #[] 16433 23 #[] #[{ accessFlags := 16409, nameIndex := 5, descriptorIndex := 6, attributes := #[] }, { accessFlags := 16409, nameIndex := 9, descriptorIndex := 6, attributes := #[] }, { accessFlags := 16409, nameIndex := 12, descriptorIndex := 6, attributes := #[] }, { accessFlags := 4122, nameIndex := 15, descriptorIndex := 16, attributes := #[] }])
  fields := #[{ name := "INT", type := (.object "com/example/sorrel/sorrel/middle/ir/Value$Type"), accessFlags := 16409, slot := 0, constantValue := 0 }, { name := "BOOL", type := (.object "com/example/sorrel/sorrel/middle/ir/Value$Type"), accessFlags := 16409, slot := 1, constantValue := 0 }, { name := "REF", type := (.object "com/example/sorrel/sorrel/middle/ir/Value$Type"), accessFlags := 16409, slot := 2, constantValue := 0 }, { name := "$VALUES", type := (.array (.object "com/example/sorrel/sorrel/middle/ir/Value$Type")), accessFlags := 4122, slot := 3, constantValue := 0 }]
  methods := #[]
  instanceTypes := #[(.object "java/lang/String"), .int, .int]
  staticTypes := #[(.object "com/example/sorrel/sorrel/middle/ir/Value$Type"), (.object "com/example/sorrel/sorrel/middle/ir/Value$Type"), (.object "com/example/sorrel/sorrel/middle/ir/Value$Type"), (.array (.object "com/example/sorrel/sorrel/middle/ir/Value$Type"))]
  resolved := Array.replicate 56 none
  statics := some 0 }

def pool7 : Array CpInfo := pool [(1, .methodref 2 3), (0, .class_ 4), (0, .nameAndType 5 6), (0, u "java/lang/Object"), (0, u "<init>"), (0, u "()V"), (0, .class_ 8), (0, u "java/lang/Record")] 13

def k7c0 : Code := { maxStack := 1, maxLocals := 1, code := jdk_30_method_1_code, exceptionTable := #[], attributes := #[] }
def k7m0 : Method := { name := "<init>", desc := "()V", sig := { parameters := [], returnType := none }, accessFlags := 4, code := some k7c0 }
/-- java/lang/Record -/
def k7 : Class := { plain "java/lang/Record" (some 0) with
  accessFlags := 1057
  interfaces := #[]
  cf := some (fileOf pool7 7 #[] #[{ accessFlags := 4, nameIndex := 5, descriptorIndex := 6, attributes := #[] }] 1057 2 #[] #[])
  fields := #[]
  methods := #[k7m0]
  instanceTypes := #[]
  staticTypes := #[]
  resolved := Array.replicate 22 none
  statics := none }

def pool8 : Array CpInfo := pool [(7, .class_ 8), (0, u "com/example/sorrel/sorrel/middle/ir/Instruction"), (0, .class_ 10), (0, u "java/lang/Object"), (7, u "endsBlock"), (0, u "()Z"), (9, .class_ 30), (0, u "com/example/sorrel/sorrel/middle/ir/Instruction$Phi"), (0, .class_ 32), (0, u "com/example/sorrel/sorrel/middle/ir/Instruction$Phi$Arm"), (0, .class_ 34), (0, u "com/example/sorrel/sorrel/middle/ir/Instruction$Return"), (0, .class_ 36), (0, u "com/example/sorrel/sorrel/middle/ir/Instruction$Branch"), (0, .class_ 38), (0, u "com/example/sorrel/sorrel/middle/ir/Instruction$Jump"), (0, .class_ 40), (0, u "com/example/sorrel/sorrel/middle/ir/Instruction$Readln"), (0, .class_ 42), (0, u "com/example/sorrel/sorrel/middle/ir/Instruction$Println"), (0, .class_ 44), (0, u "com/example/sorrel/sorrel/middle/ir/Instruction$Call"), (0, .class_ 46), (0, u "com/example/sorrel/sorrel/middle/ir/Instruction$StoreField"), (0, .class_ 48), (0, u "com/example/sorrel/sorrel/middle/ir/Instruction$LoadField"), (0, .class_ 50), (0, u "com/example/sorrel/sorrel/middle/ir/Instruction$New"), (0, .class_ 52), (0, u "com/example/sorrel/sorrel/middle/ir/Instruction$Concat"), (0, .class_ 54), (0, u "com/example/sorrel/sorrel/middle/ir/Instruction$Check"), (0, .class_ 56), (0, u "com/example/sorrel/sorrel/middle/ir/Instruction$Check$Failure"), (0, .class_ 58), (0, u "com/example/sorrel/sorrel/middle/ir/Instruction$Binary"), (0, .class_ 60), (0, u "com/example/sorrel/sorrel/middle/ir/Instruction$Binary$Operator"), (0, .class_ 62), (0, u "com/example/sorrel/sorrel/middle/ir/Instruction$Unary"), (0, .class_ 64), (0, u "com/example/sorrel/sorrel/middle/ir/Instruction$Unary$Operator"), (0, .class_ 66), (0, u "com/example/sorrel/sorrel/middle/ir/Instruction$Copy"), (0, .class_ 68), (0, u "com/example/sorrel/sorrel/middle/ir/Instruction$StringConstant"), (0, .class_ 70), (0, u "com/example/sorrel/sorrel/middle/ir/Instruction$Constant"), (0, .class_ 72), (0, u "com/example/sorrel/sorrel/middle/ir/Instruction$Visitor")] 23

def k8c0 : Code := { maxStack := 1, maxLocals := 1, code := prog_115_method_3_code, exceptionTable := #[], attributes := #[] }
def k8m0 : Method := { name := "endsBlock", desc := "()Z", sig := { parameters := [], returnType := some .boolean }, accessFlags := 1, code := some k8c0 }
/-- com/example/sorrel/sorrel/middle/ir/Instruction -/
def k8 : Class := { plain "com/example/sorrel/sorrel/middle/ir/Instruction" (some 0) with
  accessFlags := 1537
  interfaces := #[]
  cf := some (fileOf pool8 7 #[.nestMembers #[29, 31, 33, 35, 37, 39, 41, 43, 45, 47, 49, 51, 53, 55, 57, 59, 61, 63, 65, 67, 69, 71]] #[{ accessFlags := 1, nameIndex := 18, descriptorIndex := 19, attributes := #[] }] 1537 9 #[] #[])
  fields := #[]
  methods := #[k8m0]
  instanceTypes := #[]
  staticTypes := #[]
  resolved := Array.replicate 96 none
  statics := none }

def pool9 : Array CpInfo := pool [(1, .methodref 2 3), (0, .class_ 4), (0, .nameAndType 5 6), (0, u "java/lang/Record"), (0, u "<init>"), (0, u "()V"), (0, .fieldref 8 9), (0, .class_ 10), (0, .nameAndType 11 12), (0, u "com/example/sorrel/sorrel/middle/ir/Instruction$Jump"), (0, u "target"), (0, u "Ljava/lang/String;"), (24, .class_ 38), (0, u "com/example/sorrel/sorrel/middle/ir/Instruction"), (0, u "(Ljava/lang/String;)V"), (7, u "endsBlock"), (0, u "()Z")] 28

def k9c0 : Code := { maxStack := 2, maxLocals := 2, code := prog_125_method_1_code, exceptionTable := #[], attributes := #[] }
def k9m0 : Method := { name := "<init>", desc := "(Ljava/lang/String;)V", sig := { parameters := [(.object "java/lang/String")], returnType := none }, accessFlags := 1, code := some k9c0 }
def k9c1 : Code := { maxStack := 1, maxLocals := 1, code := prog_125_method_3_code, exceptionTable := #[], attributes := #[] }
def k9m1 : Method := { name := "endsBlock", desc := "()Z", sig := { parameters := [], returnType := some .boolean }, accessFlags := 1, code := some k9c1 }
/-- com/example/sorrel/sorrel/middle/ir/Instruction$Jump -/
def k9 : Class := { plain "com/example/sorrel/sorrel/middle/ir/Instruction$Jump" (some 7) with
  accessFlags := 49
  interfaces := #[8]
  cf := some (fileOf pool9 8 #[.nestHost 37] #[{ accessFlags := 1, nameIndex := 5, descriptorIndex := 39, attributes := #[] }, { accessFlags := 1, nameIndex := 47, descriptorIndex := 48, attributes := #[] }] 49 2 #[37] #[{ accessFlags := 18, nameIndex := 11, descriptorIndex := 12, attributes := #[] }])
  fields := #[{ name := "target", type := (.object "java/lang/String"), accessFlags := 18, slot := 0, constantValue := 0 }]
  methods := #[k9m0, k9m1]
  instanceTypes := #[(.object "java/lang/String")]
  staticTypes := #[]
  resolved := Array.replicate 77 none
  statics := none }

def pool10 : Array CpInfo := pool [(2, .class_ 4), (1, u "java/lang/CharSequence"), (42, .class_ 48), (0, u "java/lang/CharSequence$1CodePointIterator"), (10, .class_ 60), (0, u "java/lang/CharSequence$1CharIterator"), (5, .class_ 67), (0, u "java/lang/Object")] 63

/-- java/lang/CharSequence -/
def k10 : Class := { plain "java/lang/CharSequence" (some 0) with
  accessFlags := 1537
  interfaces := #[]
  cf := some (fileOf pool10 2 #[.nestMembers #[47, 59]] #[] 1537 66 #[] #[])
  fields := #[]
  methods := #[]
  instanceTypes := #[]
  staticTypes := #[]
  resolved := Array.replicate 131 none
  statics := none }

def pool11 : Array CpInfo := pool [(1, .class_ 2), (0, u "java/lang/constant/ConstantDesc"), (0, .class_ 4), (0, u "java/lang/Object")] 32

/-- java/lang/constant/ConstantDesc -/
def k11 : Class := { plain "java/lang/constant/ConstantDesc" (some 0) with
  accessFlags := 1537
  interfaces := #[]
  cf := some (fileOf pool11 1 #[] #[] 1537 3 #[] #[])
  fields := #[]
  methods := #[]
  instanceTypes := #[]
  staticTypes := #[]
  resolved := Array.replicate 37 none
  statics := none }

def pool12 : Array CpInfo := pool [(2, .class_ 4), (1, u "java/lang/Object"), (0, u "<init>"), (0, u "()V"), (3, .class_ 12), (1, u "java/lang/String"), (0, u "value"), (0, u "[B"), (2, u "coder"), (0, u "B"), (2, u "hash"), (0, u "I"), (2, u "hashIsZero"), (0, u "Z"), (13, u "COMPACT_STRINGS"), (534, .class_ 576), (0, u "java/lang/CharSequence"), (22, u "CASE_INSENSITIVE_ORDER"), (0, u "Ljava/util/Comparator;"), (500, u "serialPersistentFields"), (0, u "[Ljava/io/ObjectStreamField;"), (0, .class_ 1104), (0, u "java/lang/String$CaseInsensitiveComparator"), (1, .class_ 1107), (0, u "java/io/Serializable"), (0, .class_ 1109), (0, u "java/lang/Comparable"), (0, .class_ 1111), (0, u "java/lang/constant/Constable"), (0, .class_ 1113), (0, u "java/lang/constant/ConstantDesc"), (2, u "serialVersionUID"), (0, u "J"), (3, u "REPL"), (0, u "C"), (2, u "LATIN1"), (1, u "UTF16")] 323

def k12m0 : Method := { name := "<init>", desc := "()V", sig := { parameters := [], returnType := none }, accessFlags := 1, code := none }
/-- java/lang/String -/
def k12 : Class := { plain "java/lang/String" (some 0) with
  accessFlags := 49
  interfaces := #[4, 3, 10, 2, 11]
  cf := some (fileOf pool12 10 #[.nestMembers #[1103]] #[{ accessFlags := 1, nameIndex := 5, descriptorIndex := 6, attributes := #[] }] 49 2 #[1106, 1108, 575, 1110, 1112] #[{ accessFlags := 18, nameIndex := 13, descriptorIndex := 14, attributes := #[] }, { accessFlags := 18, nameIndex := 17, descriptorIndex := 18, attributes := #[] }, { accessFlags := 2, nameIndex := 21, descriptorIndex := 22, attributes := #[] }, { accessFlags := 2, nameIndex := 25, descriptorIndex := 26, attributes := #[] }, { accessFlags := 26, nameIndex := 1116, descriptorIndex := 1117, attributes := #[] }, { accessFlags := 24, nameIndex := 40, descriptorIndex := 26, attributes := #[] }, { accessFlags := 26, nameIndex := 1101, descriptorIndex := 1102, attributes := #[] }, { accessFlags := 26, nameIndex := 1121, descriptorIndex := 1122, attributes := #[] }, { accessFlags := 25, nameIndex := 599, descriptorIndex := 600, attributes := #[] }, { accessFlags := 24, nameIndex := 1125, descriptorIndex := 18, attributes := #[] }, { accessFlags := 24, nameIndex := 1127, descriptorIndex := 18, attributes := #[] }])
  fields := #[{ name := "value", type := (.array .byte), accessFlags := 18, slot := 0, constantValue := 0 }, { name := "coder", type := .byte, accessFlags := 18, slot := 1, constantValue := 0 }, { name := "hash", type := .int, accessFlags := 2, slot := 2, constantValue := 0 }, { name := "hashIsZero", type := .boolean, accessFlags := 2, slot := 3, constantValue := 0 }, { name := "serialVersionUID", type := .long, accessFlags := 26, slot := 0, constantValue := 0 }, { name := "COMPACT_STRINGS", type := .boolean, accessFlags := 24, slot := 1, constantValue := 0 }, { name := "serialPersistentFields", type := (.array (.object "java/io/ObjectStreamField")), accessFlags := 26, slot := 2, constantValue := 0 }, { name := "REPL", type := .char, accessFlags := 26, slot := 3, constantValue := 0 }, { name := "CASE_INSENSITIVE_ORDER", type := (.object "java/util/Comparator"), accessFlags := 25, slot := 4, constantValue := 0 }, { name := "LATIN1", type := .byte, accessFlags := 24, slot := 5, constantValue := 0 }, { name := "UTF16", type := .byte, accessFlags := 24, slot := 6, constantValue := 0 }]
  methods := #[k12m0]
  instanceTypes := #[(.array .byte), .byte, .int, .boolean]
  staticTypes := #[.long, .boolean, (.array (.object "java/io/ObjectStreamField")), .char, (.object "java/util/Comparator"), .byte, .byte]
  resolved := Array.replicate 1451 none
  statics := none }

def pool13 : Array CpInfo := pool [(1, .methodref 2 3), (0, .class_ 4), (0, .nameAndType 5 6), (0, u "java/lang/Record"), (0, u "<init>"), (0, u "()V"), (0, .fieldref 8 9), (0, .class_ 10), (0, .nameAndType 11 12), (0, u "com/example/sorrel/sorrel/middle/ir/Instruction$Return"), (0, u "value"), (0, u "Lcom/example/sorrel/sorrel/middle/ir/Value;"), (27, .class_ 41), (0, u "com/example/sorrel/sorrel/middle/ir/Instruction"), (0, u "(Lcom/example/sorrel/sorrel/middle/ir/Value;)V"), (10, u "endsBlock"), (0, u "()Z")] 26

def k13c0 : Code := { maxStack := 2, maxLocals := 2, code := prog_132_method_1_code, exceptionTable := #[], attributes := #[] }
def k13m0 : Method := { name := "<init>", desc := "(Lcom/example/sorrel/sorrel/middle/ir/Value;)V", sig := { parameters := [(.object "com/example/sorrel/sorrel/middle/ir/Value")], returnType := none }, accessFlags := 1, code := some k13c0 }
def k13c1 : Code := { maxStack := 1, maxLocals := 1, code := prog_132_method_4_code, exceptionTable := #[], attributes := #[] }
def k13m1 : Method := { name := "endsBlock", desc := "()Z", sig := { parameters := [], returnType := some .boolean }, accessFlags := 1, code := some k13c1 }
/-- com/example/sorrel/sorrel/middle/ir/Instruction$Return -/
def k13 : Class := { plain "com/example/sorrel/sorrel/middle/ir/Instruction$Return" (some 7) with
  accessFlags := 49
  interfaces := #[8]
  cf := some (fileOf pool13 8 #[.nestHost 40] #[{ accessFlags := 1, nameIndex := 5, descriptorIndex := 42, attributes := #[] }, { accessFlags := 1, nameIndex := 53, descriptorIndex := 54, attributes := #[] }] 49 2 #[40] #[{ accessFlags := 18, nameIndex := 11, descriptorIndex := 12, attributes := #[] }])
  fields := #[{ name := "value", type := (.object "com/example/sorrel/sorrel/middle/ir/Value"), accessFlags := 18, slot := 0, constantValue := 0 }]
  methods := #[k13m0, k13m1]
  instanceTypes := #[(.object "com/example/sorrel/sorrel/middle/ir/Value")]
  staticTypes := #[]
  resolved := Array.replicate 81 none
  statics := none }

def pool14 : Array CpInfo := pool [(7, .methodref 8 9), (0, .class_ 10), (0, .nameAndType 11 12), (0, u "java/lang/Record"), (0, u "<init>"), (0, u "()V"), (0, .interfaceMethodref 14 15), (0, .class_ 16), (0, .nameAndType 17 18), (0, u "java/util/List"), (0, u "copyOf"), (0, u "(Ljava/util/Collection;)Ljava/util/List;"), (0, .fieldref 20 21), (0, .class_ 22), (0, .nameAndType 23 24), (0, u "com/example/sorrel/sorrel/middle/ir/Instruction$Call"), (0, u "result"), (0, u "Lcom/example/sorrel/sorrel/middle/ir/Value;"), (0, .fieldref 20 26), (0, .nameAndType 27 28), (0, u "function"), (0, u "Ljava/lang/String;"), (0, .fieldref 20 30), (0, .nameAndType 31 32), (0, u "arguments"), (0, u "Ljava/util/List;"), (12, .class_ 46), (0, u "com/example/sorrel/sorrel/middle/ir/Instruction"), (2, u "(Lcom/example/sorrel/sorrel/middle/ir/Value;Ljava/lang/String;Ljava/util/List;)V")] 39

def k14c0 : Code := { maxStack := 2, maxLocals := 4, code := prog_119_method_1_code, exceptionTable := #[], attributes := #[] }
def k14m0 : Method := { name := "<init>", desc := "(Lcom/example/sorrel/sorrel/middle/ir/Value;Ljava/lang/String;Ljava/util/List;)V", sig := { parameters := [(.object "com/example/sorrel/sorrel/middle/ir/Value"), (.object "java/lang/String"), (.object "java/util/List")], returnType := none }, accessFlags := 1, code := some k14c0 }
/-- com/example/sorrel/sorrel/middle/ir/Instruction$Call -/
def k14 : Class := { plain "com/example/sorrel/sorrel/middle/ir/Instruction$Call" (some 7) with
  accessFlags := 49
  interfaces := #[8]
  cf := some (fileOf pool14 20 #[.nestHost 45] #[{ accessFlags := 1, nameIndex := 11, descriptorIndex := 49, attributes := #[] }] 49 8 #[45] #[{ accessFlags := 18, nameIndex := 23, descriptorIndex := 24, attributes := #[] }, { accessFlags := 18, nameIndex := 27, descriptorIndex := 28, attributes := #[] }, { accessFlags := 18, nameIndex := 31, descriptorIndex := 32, attributes := #[] }])
  fields := #[{ name := "result", type := (.object "com/example/sorrel/sorrel/middle/ir/Value"), accessFlags := 18, slot := 0, constantValue := 0 }, { name := "function", type := (.object "java/lang/String"), accessFlags := 18, slot := 1, constantValue := 0 }, { name := "arguments", type := (.object "java/util/List"), accessFlags := 18, slot := 2, constantValue := 0 }]
  methods := #[k14m0]
  instanceTypes := #[(.object "com/example/sorrel/sorrel/middle/ir/Value"), (.object "java/lang/String"), (.object "java/util/List")]
  staticTypes := #[]
  resolved := Array.replicate 89 none
  statics := none }

def pool15 : Array CpInfo := pool [(8, .class_ 10), (1, u "java/lang/Iterable"), (24, .class_ 36), (0, u "java/lang/Object")] 25

/-- java/lang/Iterable -/
def k15 : Class := { plain "java/lang/Iterable" (some 0) with
  accessFlags := 1537
  interfaces := #[]
  cf := some (fileOf pool15 8 #[] #[] 1537 35 #[] #[])
  fields := #[]
  methods := #[]
  instanceTypes := #[]
  staticTypes := #[]
  resolved := Array.replicate 62 none
  statics := none }

def pool16 : Array CpInfo := pool [(10, .class_ 12), (1, u "java/util/Collection"), (0, u "toArray"), (16, u "()Z"), (29, .class_ 61), (0, u "java/lang/Object"), (0, .class_ 63), (0, u "java/lang/Iterable"), (2, u "isEmpty"), (3, u "()[Ljava/lang/Object;")] 44

def k16m0 : Method := { name := "isEmpty", desc := "()Z", sig := { parameters := [], returnType := some .boolean }, accessFlags := 1025, code := none }
def k16m1 : Method := { name := "toArray", desc := "()[Ljava/lang/Object;", sig := { parameters := [], returnType := some (.array (.object "java/lang/Object")) }, accessFlags := 1025, code := none }
/-- java/util/Collection -/
def k16 : Class := { plain "java/util/Collection" (some 0) with
  accessFlags := 1537
  interfaces := #[15]
  cf := some (fileOf pool16 10 #[] #[{ accessFlags := 1025, nameIndex := 66, descriptorIndex := 30, attributes := #[] }, { accessFlags := 1025, nameIndex := 13, descriptorIndex := 70, attributes := #[] }] 1537 60 #[62] #[])
  fields := #[]
  methods := #[k16m0, k16m1]
  instanceTypes := #[]
  staticTypes := #[]
  resolved := Array.replicate 115 none
  statics := none }

def pool17 : Array CpInfo := pool [(1, .methodref 2 3), (0, .class_ 4), (0, .nameAndType 5 6), (0, u "java/lang/Object"), (0, u "<init>"), (0, u "()V"), (1, .class_ 10), (1, u "java/util/AbstractCollection"), (66, .class_ 78), (0, u "java/util/Collection")] 81

def k17c0 : Code := { maxStack := 1, maxLocals := 1, code := jdk_22_method_1_code, exceptionTable := #[], attributes := #[] }
def k17m0 : Method := { name := "<init>", desc := "()V", sig := { parameters := [], returnType := none }, accessFlags := 4, code := some k17c0 }
/-- java/util/AbstractCollection -/
def k17 : Class := { plain "java/util/AbstractCollection" (some 0) with
  accessFlags := 1057
  interfaces := #[16]
  cf := some (fileOf pool17 8 #[] #[{ accessFlags := 4, nameIndex := 5, descriptorIndex := 6, attributes := #[] }] 1057 2 #[77] #[])
  fields := #[]
  methods := #[k17m0]
  instanceTypes := #[]
  staticTypes := #[]
  resolved := Array.replicate 160 none
  statics := none }

def pool18 : Array CpInfo := pool [(8, .class_ 10), (1, u "java/util/SequencedCollection"), (15, .class_ 27), (0, u "java/lang/Object"), (0, .class_ 29), (0, u "java/util/Collection")] 27

/-- java/util/SequencedCollection -/
def k18 : Class := { plain "java/util/SequencedCollection" (some 0) with
  accessFlags := 1537
  interfaces := #[16]
  cf := some (fileOf pool18 8 #[] #[] 1537 26 #[28] #[])
  fields := #[]
  methods := #[]
  instanceTypes := #[]
  staticTypes := #[]
  resolved := Array.replicate 57 none
  statics := none }

def pool19 : Array CpInfo := pool [(8, .class_ 10), (1, u "java/util/List"), (20, u "(Ljava/lang/Object;)V"), (16, u "<init>"), (11, u "add"), (3, u "(Ljava/lang/Object;)Z"), (23, u "of"), (1, .fieldref 91 92), (0, .class_ 93), (0, .nameAndType 94 95), (0, u "java/util/ImmutableCollections"), (0, u "EMPTY_LIST"), (0, u "Ljava/util/ImmutableCollections$ListN;"), (0, .class_ 97), (0, u "java/util/ImmutableCollections$List12"), (0, .methodref 96 99), (0, .nameAndType 48 31), (0, .methodref 96 101), (0, .nameAndType 48 102), (0, u "(Ljava/lang/Object;Ljava/lang/Object;)V"), (0, .class_ 104), (0, u "java/lang/Object"), (3, u "([Ljava/lang/Object;)Ljava/util/List;"), (0, .methodref 91 110), (0, .nameAndType 111 108), (0, u "listFromArray"), (0, .methodref 91 113), (0, .nameAndType 114 115), (0, u "listCopy"), (0, u "(Ljava/util/Collection;)Ljava/util/List;"), (3, u "()Ljava/util/List;"), (0, .class_ 121), (0, u "java/util/SequencedCollection"), (112, u "copyOf")] 16

def k19m0 : Method := { name := "add", desc := "(Ljava/lang/Object;)Z", sig := { parameters := [(.object "java/lang/Object")], returnType := some .boolean }, accessFlags := 1025, code := none }
def k19c1 : Code := { maxStack := 1, maxLocals := 0, code := jdk_40_method_36_code, exceptionTable := #[], attributes := #[] }
def k19m1 : Method := { name := "of", desc := "()Ljava/util/List;", sig := { parameters := [], returnType := some (.object "java/util/List") }, accessFlags := 9, code := some k19c1 }
def k19c2 : Code := { maxStack := 5, maxLocals := 2, code := jdk_40_method_47_code, exceptionTable := #[], attributes := #[] }
def k19m2 : Method := { name := "of", desc := "([Ljava/lang/Object;)Ljava/util/List;", sig := { parameters := [(.array (.object "java/lang/Object"))], returnType := some (.object "java/util/List") }, accessFlags := 137, code := some k19c2 }
def k19c3 : Code := { maxStack := 1, maxLocals := 1, code := jdk_40_method_48_code, exceptionTable := #[], attributes := #[] }
def k19m3 : Method := { name := "copyOf", desc := "(Ljava/util/Collection;)Ljava/util/List;", sig := { parameters := [(.object "java/util/Collection")], returnType := some (.object "java/util/List") }, accessFlags := 9, code := some k19c3 }
/-- java/util/List -/
def k19 : Class := { plain "java/util/List" (some 0) with
  accessFlags := 1537
  interfaces := #[18]
  cf := some (fileOf pool19 8 #[] #[{ accessFlags := 1025, nameIndex := 60, descriptorIndex := 64, attributes := #[] }, { accessFlags := 9, nameIndex := 88, descriptorIndex := 119, attributes := #[] }, { accessFlags := 137, nameIndex := 88, descriptorIndex := 108, attributes := #[] }, { accessFlags := 9, nameIndex := 234, descriptorIndex := 115, attributes := #[] }] 1537 103 #[120] #[])
  fields := #[]
  methods := #[k19m0, k19m1, k19m2, k19m3]
  instanceTypes := #[]
  staticTypes := #[]
  resolved := Array.replicate 251 none
  statics := none }

def pool20 : Array CpInfo := pool [(1, .methodref 2 3), (0, .class_ 4), (0, .nameAndType 5 6), (0, u "java/util/AbstractCollection"), (0, u "<init>"), (0, u "()V"), (0, .fieldref 8 9), (0, .class_ 10), (0, .nameAndType 11 12), (0, u "java/util/AbstractList"), (0, u "modCount"), (0, u "I"), (64, .class_ 78), (0, u "java/util/AbstractList$Itr"), (3, .class_ 83), (0, u "java/util/AbstractList$ListItr"), (9, .class_ 94), (0, u "java/util/AbstractList$RandomAccessSubList"), (3, .class_ 99), (0, u "java/util/AbstractList$SubList"), (33, .class_ 134), (0, u "java/util/List"), (73, .class_ 209), (0, u "java/util/AbstractList$SubList$1"), (0, .class_ 211), (0, u "java/util/AbstractList$RandomAccessSpliterator")] 6

def k20c0 : Code := { maxStack := 2, maxLocals := 1, code := jdk_39_method_1_code, exceptionTable := #[], attributes := #[] }
def k20m0 : Method := { name := "<init>", desc := "()V", sig := { parameters := [], returnType := none }, accessFlags := 4, code := some k20c0 }
/-- java/util/AbstractList -/
def k20 : Class := { plain "java/util/AbstractList" (some 17) with
  accessFlags := 1057
  interfaces := #[19]
  cf := some (fileOf pool20 8 #[.nestMembers #[93, 98, 208, 210, 82, 77]] #[{ accessFlags := 4, nameIndex := 5, descriptorIndex := 6, attributes := #[] }] 1057 2 #[133] #[{ accessFlags := 132, nameIndex := 11, descriptorIndex := 12, attributes := #[] }])
  fields := #[{ name := "modCount", type := .int, accessFlags := 132, slot := 0, constantValue := 0 }]
  methods := #[k20m0]
  instanceTypes := #[.int]
  staticTypes := #[]
  resolved := Array.replicate 218 none
  statics := none }

def pool21 : Array CpInfo := pool [(1, .class_ 2), (0, u "java/util/RandomAccess"), (0, .class_ 4), (0, u "java/lang/Object")] 2

/-- java/util/RandomAccess -/
def k21 : Class := { plain "java/util/RandomAccess" (some 0) with
  accessFlags := 1537
  interfaces := #[]
  cf := some (fileOf pool21 1 #[] #[] 1537 3 #[] #[])
  fields := #[]
  methods := #[]
  instanceTypes := #[]
  staticTypes := #[]
  resolved := Array.replicate 7 none
  statics := none }

def pool22 : Array CpInfo := pool [(1, .class_ 2), (0, u "java/lang/Cloneable"), (0, .class_ 4), (0, u "java/lang/Object")] 2

/-- java/lang/Cloneable -/
def k22 : Class := { plain "java/lang/Cloneable" (some 0) with
  accessFlags := 1537
  interfaces := #[]
  cf := some (fileOf pool22 1 #[] #[] 1537 3 #[] #[])
  fields := #[]
  methods := #[]
  instanceTypes := #[]
  staticTypes := #[]
  resolved := Array.replicate 7 none
  statics := none }

def pool23 : Array CpInfo := pool [(1, .methodref 2 3), (0, .class_ 4), (0, .nameAndType 5 6), (0, u "java/util/AbstractList"), (0, u "<init>"), (0, u "()V"), (0, .class_ 8), (0, u "java/lang/Object"), (0, .fieldref 10 11), (0, .class_ 12), (0, .nameAndType 13 14), (0, u "java/util/ArrayList"), (0, u "elementData"), (0, u "[Ljava/lang/Object;"), (2, u "EMPTY_ELEMENTDATA"), (21, .fieldref 10 40), (0, .nameAndType 41 14), (0, u "DEFAULTCAPACITY_EMPTY_ELEMENTDATA"), (4, u "toArray"), (0, u "()[Ljava/lang/Object;"), (0, .fieldref 10 49), (0, .nameAndType 50 51), (0, u "size"), (0, u "I"), (6, .class_ 60), (1, u "java/util/Arrays"), (0, u "copyOf"), (1, .fieldref 10 64), (0, .nameAndType 65 51), (0, u "modCount"), (0, .methodref 58 67), (0, .nameAndType 61 68), (0, u "([Ljava/lang/Object;I)[Ljava/lang/Object;"), (0, .methodref 10 70), (0, .nameAndType 71 72), (0, u "grow"), (0, u "(I)[Ljava/lang/Object;"), (6, .methodref 80 81), (0, .class_ 82), (0, .nameAndType 83 84), (0, u "java/lang/Math"), (0, u "max"), (0, u "(II)I"), (11, u "(Ljava/lang/Object;)Z"), (32, .methodref 10 130), (0, .nameAndType 71 47), (0, .methodref 10 132), (0, .nameAndType 133 134), (0, u "add"), (0, u "(Ljava/lang/Object;[Ljava/lang/Object;I)V"), (13, .class_ 149), (0, u "java/util/List"), (23, u "()Z"), (88, .class_ 263), (0, u "java/util/ArrayList$ListItr"), (3, .class_ 268), (0, u "java/util/ArrayList$Itr"), (7, .class_ 277), (0, u "java/util/ArrayList$SubList"), (12, .class_ 291), (0, u "java/util/ArrayList$ArrayListSpliterator"), (37, .class_ 330), (0, u "java/util/RandomAccess"), (0, .class_ 332), (0, u "java/lang/Cloneable"), (0, .class_ 334), (0, u "java/io/Serializable"), (0, u "serialVersionUID"), (0, u "J"), (3, u "DEFAULT_CAPACITY"), (22, u "isEmpty"), (136, .class_ 501), (0, u "java/util/ArrayList$SubList$2"), (0, .class_ 503), (0, u "java/util/ArrayList$SubList$1")] 5

def k23c0 : Code := { maxStack := 2, maxLocals := 1, code := jdk_38_method_2_code, exceptionTable := #[], attributes := #[] }
def k23m0 : Method := { name := "<init>", desc := "()V", sig := { parameters := [], returnType := none }, accessFlags := 1, code := some k23c0 }
def k23c1 : Code := { maxStack := 4, maxLocals := 4, code := jdk_38_method_6_code, exceptionTable := #[], attributes := #[] }
def k23m1 : Method := { name := "grow", desc := "(I)[Ljava/lang/Object;", sig := { parameters := [.int], returnType := some (.array (.object "java/lang/Object")) }, accessFlags := 2, code := some k23c1 }
def k23c2 : Code := { maxStack := 3, maxLocals := 1, code := jdk_38_method_7_code, exceptionTable := #[], attributes := #[] }
def k23m2 : Method := { name := "grow", desc := "()[Ljava/lang/Object;", sig := { parameters := [], returnType := some (.array (.object "java/lang/Object")) }, accessFlags := 2, code := some k23c2 }
def k23c3 : Code := { maxStack := 1, maxLocals := 1, code := jdk_38_method_9_code, exceptionTable := #[], attributes := #[] }
def k23m3 : Method := { name := "isEmpty", desc := "()Z", sig := { parameters := [], returnType := some .boolean }, accessFlags := 1, code := some k23c3 }
def k23c4 : Code := { maxStack := 2, maxLocals := 1, code := jdk_38_method_16_code, exceptionTable := #[], attributes := #[] }
def k23m4 : Method := { name := "toArray", desc := "()[Ljava/lang/Object;", sig := { parameters := [], returnType := some (.array (.object "java/lang/Object")) }, accessFlags := 1, code := some k23c4 }
def k23c5 : Code := { maxStack := 3, maxLocals := 4, code := jdk_38_method_24_code, exceptionTable := #[], attributes := #[] }
def k23m5 : Method := { name := "add", desc := "(Ljava/lang/Object;[Ljava/lang/Object;I)V", sig := { parameters := [(.object "java/lang/Object"), (.array (.object "java/lang/Object")), .int], returnType := none }, accessFlags := 2, code := some k23c5 }
def k23c6 : Code := { maxStack := 4, maxLocals := 2, code := jdk_38_method_25_code, exceptionTable := #[], attributes := #[] }
def k23m6 : Method := { name := "add", desc := "(Ljava/lang/Object;)Z", sig := { parameters := [(.object "java/lang/Object")], returnType := some .boolean }, accessFlags := 1, code := some k23c6 }
/-- java/util/ArrayList -/
def k23 : Class := { plain "java/util/ArrayList" (some 20) with
  accessFlags := 33
  interfaces := #[19, 21, 22, 4]
  cf := some (fileOf pool23 10 #[.nestMembers #[290, 276, 500, 502, 262, 267]] #[{ accessFlags := 1, nameIndex := 5, descriptorIndex := 6, attributes := #[] }, { accessFlags := 2, nameIndex := 71, descriptorIndex := 72, attributes := #[] }, { accessFlags := 2, nameIndex := 71, descriptorIndex := 47, attributes := #[] }, { accessFlags := 1, nameIndex := 363, descriptorIndex := 173, attributes := #[] }, { accessFlags := 1, nameIndex := 46, descriptorIndex := 47, attributes := #[] }, { accessFlags := 2, nameIndex := 133, descriptorIndex := 134, attributes := #[] }, { accessFlags := 1, nameIndex := 133, descriptorIndex := 96, attributes := #[] }] 33 2 #[148, 329, 331, 333] #[{ accessFlags := 26, nameIndex := 335, descriptorIndex := 336, attributes := #[] }, { accessFlags := 26, nameIndex := 340, descriptorIndex := 51, attributes := #[] }, { accessFlags := 26, nameIndex := 17, descriptorIndex := 14, attributes := #[] }, { accessFlags := 26, nameIndex := 41, descriptorIndex := 14, attributes := #[] }, { accessFlags := 128, nameIndex := 13, descriptorIndex := 14, attributes := #[] }, { accessFlags := 2, nameIndex := 50, descriptorIndex := 51, attributes := #[] }])
  fields := #[{ name := "serialVersionUID", type := .long, accessFlags := 26, slot := 0, constantValue := 0 }, { name := "DEFAULT_CAPACITY", type := .int, accessFlags := 26, slot := 1, constantValue := 0 }, { name := "EMPTY_ELEMENTDATA", type := (.array (.object "java/lang/Object")), accessFlags := 26, slot := 2, constantValue := 0 }, { name := "DEFAULTCAPACITY_EMPTY_ELEMENTDATA", type := (.array (.object "java/lang/Object")), accessFlags := 26, slot := 3, constantValue := 0 }, { name := "elementData", type := (.array (.object "java/lang/Object")), accessFlags := 128, slot := 1, constantValue := 0 }, { name := "size", type := .int, accessFlags := 2, slot := 2, constantValue := 0 }]
  methods := #[k23m0, k23m1, k23m2, k23m3, k23m4, k23m5, k23m6]
  instanceTypes := #[.int, (.array (.object "java/lang/Object")), .int]
  staticTypes := #[.long, .int, (.array (.object "java/lang/Object")), (.array (.object "java/lang/Object"))]
  resolved := Array.replicate 509 none
  statics := some 1 }

def pool24 : Array CpInfo := pool [(2, .class_ 4), (1, u "java/lang/Object"), (0, u "<init>"), (0, u "()V"), (3, .class_ 11), (0, u "java/util/ImmutableCollections$List12"), (0, .class_ 13), (0, u "java/util/ImmutableCollections$ListN"), (3, u "Z"), (0, .class_ 19), (0, u "java/util/List"), (0, .interfaceMethodref 21 22), (0, .class_ 23), (0, .nameAndType 24 25), (0, u "java/util/Collection"), (0, u "isEmpty"), (0, u "()Z"), (0, .interfaceMethodref 18 27), (0, .nameAndType 28 29), (0, u "of"), (0, u "()Ljava/util/List;"), (0, .interfaceMethodref 21 31), (0, .nameAndType 32 33), (0, u "toArray"), (0, u "()[Ljava/lang/Object;"), (0, .interfaceMethodref 18 35), (0, .nameAndType 28 36), (0, u "([Ljava/lang/Object;)Ljava/util/List;"), (0, .methodref 38 39), (0, .class_ 40), (0, .nameAndType 41 42), (0, u "java/util/Objects"), (0, u "requireNonNull"), (0, u "(Ljava/lang/Object;)Ljava/lang/Object;"), (0, .methodref 12 44), (0, .nameAndType 5 45), (0, u "([Ljava/lang/Object;Z)V"), (1, .class_ 49), (1, u "java/util/ImmutableCollections"), (0, u "$assertionsDisabled"), (5, u "[Ljava/lang/Object;"), (5, u "EMPTY_LIST"), (0, u "Ljava/util/ImmutableCollections$ListN;"), (8, u "EMPTY_LIST_NULLS"), (22, u "SALT32L"), (0, u "J"), (2, u "REVERSE"), (6, u "archivedObjects"), (2, u "EMPTY"), (0, u "Ljava/lang/Object;"), (0, .class_ 112), (0, u "java/util/ImmutableCollections$SetN"), (5, u "EMPTY_SET"), (0, u "Ljava/util/ImmutableCollections$SetN;"), (0, .class_ 121), (0, u "java/util/ImmutableCollections$MapN"), (3, u "EMPTY_MAP"), (0, u "Ljava/util/ImmutableCollections$MapN;"), (4, u "EXPAND_FACTOR"), (0, u "I"), (9, u "listCopy"), (0, u "(Ljava/util/Collection;)Ljava/util/List;"), (7, u "listFromArray"), (17, .class_ 170), (0, u "java/util/ImmutableCollections$MapN$MapNIterator"), (0, .class_ 172), (0, u "java/util/ImmutableCollections$MapN$1"), (0, .class_ 174), (0, u "java/util/ImmutableCollections$Map1"), (0, .class_ 176), (0, u "java/util/ImmutableCollections$AbstractImmutableMap"), (0, .class_ 178), (0, u "java/util/ImmutableCollections$SetN$SetNIterator"), (0, .class_ 180), (0, u "java/util/ImmutableCollections$Set12"), (0, .class_ 182), (0, u "java/util/ImmutableCollections$Set12$1"), (0, .class_ 184), (0, u "java/util/ImmutableCollections$AbstractImmutableSet"), (0, .class_ 186), (0, u "java/util/ImmutableCollections$SubList"), (0, .class_ 188), (0, u "java/util/ImmutableCollections$ListItr"), (0, .class_ 190), (0, u "java/util/ImmutableCollections$AbstractImmutableList"), (0, .class_ 192), (0, u "java/util/ImmutableCollections$AbstractImmutableCollection"), (0, .class_ 194), (0, u "java/util/ImmutableCollections$Access"), (0, .class_ 196), (0, u "java/util/ImmutableCollections$Access$1")] 16

def k24m0 : Method := { name := "<init>", desc := "()V", sig := { parameters := [], returnType := none }, accessFlags := 2, code := none }
def k24c1 : Code := { maxStack := 1, maxLocals := 2, code := jdk_56_method_3_code, exceptionTable := #[], attributes := #[] }
def k24m1 : Method := { name := "listCopy", desc := "(Ljava/util/Collection;)Ljava/util/List;", sig := { parameters := [(.object "java/util/Collection")], returnType := some (.object "java/util/List") }, accessFlags := 8, code := some k24c1 }
def k24c2 : Code := { maxStack := 4, maxLocals := 3, code := jdk_56_method_4_code, exceptionTable := #[], attributes := #[] }
def k24m2 : Method := { name := "listFromArray", desc := "([Ljava/lang/Object;)Ljava/util/List;", sig := { parameters := [(.array (.object "java/lang/Object"))], returnType := some (.object "java/util/List") }, accessFlags := 136, code := some k24c2 }
/-- java/util/ImmutableCollections -/
def k24 : Class := { plain "java/util/ImmutableCollections" (some 0) with
  accessFlags := 32
  interfaces := #[]
  cf := some (fileOf pool24 47 #[.nestMembers #[120, 169, 171, 173, 175, 111, 177, 179, 181, 183, 12, 10, 185, 187, 189, 191, 193, 195]] #[{ accessFlags := 2, nameIndex := 5, descriptorIndex := 6, attributes := #[] }, { accessFlags := 8, nameIndex := 142, descriptorIndex := 143, attributes := #[] }, { accessFlags := 136, nameIndex := 151, descriptorIndex := 36, attributes := #[] }] 32 2 #[] #[{ accessFlags := 26, nameIndex := 95, descriptorIndex := 96, attributes := #[] }, { accessFlags := 26, nameIndex := 99, descriptorIndex := 17, attributes := #[] }, { accessFlags := 10, nameIndex := 106, descriptorIndex := 56, attributes := #[] }, { accessFlags := 26, nameIndex := 109, descriptorIndex := 110, attributes := #[] }, { accessFlags := 24, nameIndex := 62, descriptorIndex := 63, attributes := #[] }, { accessFlags := 24, nameIndex := 72, descriptorIndex := 63, attributes := #[] }, { accessFlags := 24, nameIndex := 118, descriptorIndex := 119, attributes := #[] }, { accessFlags := 24, nameIndex := 125, descriptorIndex := 126, attributes := #[] }, { accessFlags := 24, nameIndex := 131, descriptorIndex := 132, attributes := #[] }, { accessFlags := 4120, nameIndex := 50, descriptorIndex := 17, attributes := #[] }])
  fields := #[{ name := "SALT32L", type := .long, accessFlags := 26, slot := 0, constantValue := 0 }, { name := "REVERSE", type := .boolean, accessFlags := 26, slot := 1, constantValue := 0 }, { name := "archivedObjects", type := (.array (.object "java/lang/Object")), accessFlags := 10, slot := 2, constantValue := 0 }, { name := "EMPTY", type := (.object "java/lang/Object"), accessFlags := 26, slot := 3, constantValue := 0 }, { name := "EMPTY_LIST", type := (.object "java/util/ImmutableCollections$ListN"), accessFlags := 24, slot := 4, constantValue := 0 }, { name := "EMPTY_LIST_NULLS", type := (.object "java/util/ImmutableCollections$ListN"), accessFlags := 24, slot := 5, constantValue := 0 }, { name := "EMPTY_SET", type := (.object "java/util/ImmutableCollections$SetN"), accessFlags := 24, slot := 6, constantValue := 0 }, { name := "EMPTY_MAP", type := (.object "java/util/ImmutableCollections$MapN"), accessFlags := 24, slot := 7, constantValue := 0 }, { name := "EXPAND_FACTOR", type := .int, accessFlags := 24, slot := 8, constantValue := 0 }, { name := "$assertionsDisabled", type := .boolean, accessFlags := 4120, slot := 9, constantValue := 0 }]
  methods := #[k24m0, k24m1, k24m2]
  instanceTypes := #[]
  staticTypes := #[.long, .boolean, (.array (.object "java/lang/Object")), (.object "java/lang/Object"), (.object "java/util/ImmutableCollections$ListN"), (.object "java/util/ImmutableCollections$ListN"), (.object "java/util/ImmutableCollections$SetN"), (.object "java/util/ImmutableCollections$MapN"), .int, .boolean]
  resolved := Array.replicate 213 none
  statics := some 2 }

def pool25 : Array CpInfo := pool [(1, .methodref 2 3), (0, .class_ 4), (0, .nameAndType 5 6), (0, u "java/util/AbstractCollection"), (0, u "<init>"), (0, u "()V"), (1, .class_ 10), (1, u "java/util/ImmutableCollections"), (2, .class_ 14), (0, u "java/util/ImmutableCollections$AbstractImmutableCollection")] 41

def k25c0 : Code := { maxStack := 1, maxLocals := 1, code := jdk_47_method_1_code, exceptionTable := #[], attributes := #[] }
def k25m0 : Method := { name := "<init>", desc := "()V", sig := { parameters := [], returnType := none }, accessFlags := 0, code := some k25c0 }
/-- java/util/ImmutableCollections$AbstractImmutableCollection -/
def k25 : Class := { plain "java/util/ImmutableCollections$AbstractImmutableCollection" (some 17) with
  accessFlags := 1056
  interfaces := #[]
  cf := some (fileOf pool25 13 #[.nestHost 8] #[{ accessFlags := 0, nameIndex := 5, descriptorIndex := 6, attributes := #[] }] 1056 2 #[] #[])
  fields := #[]
  methods := #[k25m0]
  instanceTypes := #[]
  staticTypes := #[]
  resolved := Array.replicate 56 none
  statics := none }

def pool26 : Array CpInfo := pool [(1, .methodref 2 3), (0, .class_ 4), (0, .nameAndType 5 6), (0, u "java/util/ImmutableCollections$AbstractImmutableCollection"), (0, u "<init>"), (0, u "()V"), (1, .class_ 10), (1, u "java/util/ImmutableCollections"), (3, .class_ 16), (1, u "java/util/ImmutableCollections$AbstractImmutableList"), (60, .class_ 78), (0, u "java/util/List"), (45, .class_ 125), (0, u "java/util/RandomAccess")] 70

def k26c0 : Code := { maxStack := 1, maxLocals := 1, code := jdk_46_method_1_code, exceptionTable := #[], attributes := #[] }
def k26m0 : Method := { name := "<init>", desc := "()V", sig := { parameters := [], returnType := none }, accessFlags := 0, code := some k26c0 }
/-- java/util/ImmutableCollections$AbstractImmutableList -/
def k26 : Class := { plain "java/util/ImmutableCollections$AbstractImmutableList" (some 25) with
  accessFlags := 1056
  interfaces := #[19, 21]
  cf := some (fileOf pool26 14 #[.nestHost 8] #[{ accessFlags := 0, nameIndex := 5, descriptorIndex := 6, attributes := #[] }] 1056 2 #[77, 124] #[])
  fields := #[]
  methods := #[k26m0]
  instanceTypes := #[]
  staticTypes := #[]
  resolved := Array.replicate 196 none
  statics := none }

def pool27 : Array CpInfo := pool [(1, .methodref 2 3), (0, .class_ 4), (0, .nameAndType 5 6), (0, u "java/util/ImmutableCollections$AbstractImmutableList"), (0, u "<init>"), (0, u "()V"), (0, .methodref 8 9), (0, .class_ 10), (0, .nameAndType 11 12), (0, u "java/util/Objects"), (0, u "requireNonNull"), (0, u "(Ljava/lang/Object;)Ljava/lang/Object;"), (0, .fieldref 14 15), (0, .class_ 16), (0, .nameAndType 17 18), (0, u "java/util/ImmutableCollections$List12"), (0, u "e0"), (0, u "Ljava/lang/Object;"), (0, .fieldref 20 21), (0, .class_ 22), (0, .nameAndType 23 18), (0, u "java/util/ImmutableCollections"), (0, u "EMPTY"), (0, .fieldref 14 25), (0, .nameAndType 26 18), (0, u "e1"), (43, .class_ 71), (0, u "java/io/Serializable"), (4, u "(Ljava/lang/Object;)V"), (8, u "(Ljava/lang/Object;Ljava/lang/Object;)V")] 39

def k27c0 : Code := { maxStack := 2, maxLocals := 2, code := jdk_44_method_1_code, exceptionTable := #[], attributes := #[] }
def k27m0 : Method := { name := "<init>", desc := "(Ljava/lang/Object;)V", sig := { parameters := [(.object "java/lang/Object")], returnType := none }, accessFlags := 0, code := some k27c0 }
def k27c1 : Code := { maxStack := 2, maxLocals := 3, code := jdk_44_method_2_code, exceptionTable := #[], attributes := #[] }
def k27m1 : Method := { name := "<init>", desc := "(Ljava/lang/Object;Ljava/lang/Object;)V", sig := { parameters := [(.object "java/lang/Object"), (.object "java/lang/Object")], returnType := none }, accessFlags := 0, code := some k27c1 }
/-- java/util/ImmutableCollections$List12 -/
def k27 : Class := { plain "java/util/ImmutableCollections$List12" (some 26) with
  accessFlags := 48
  interfaces := #[4]
  cf := some (fileOf pool27 14 #[.nestHost 20] #[{ accessFlags := 0, nameIndex := 5, descriptorIndex := 76, attributes := #[] }, { accessFlags := 0, nameIndex := 5, descriptorIndex := 85, attributes := #[] }] 48 2 #[70] #[{ accessFlags := 18, nameIndex := 17, descriptorIndex := 18, attributes := #[] }, { accessFlags := 18, nameIndex := 26, descriptorIndex := 18, attributes := #[] }])
  fields := #[{ name := "e0", type := (.object "java/lang/Object"), accessFlags := 18, slot := 0, constantValue := 0 }, { name := "e1", type := (.object "java/lang/Object"), accessFlags := 18, slot := 1, constantValue := 0 }]
  methods := #[k27m0, k27m1]
  instanceTypes := #[(.object "java/lang/Object"), (.object "java/lang/Object")]
  staticTypes := #[]
  resolved := Array.replicate 125 none
  statics := none }

def pool28 : Array CpInfo := pool [(1, .methodref 2 3), (0, .class_ 4), (0, .nameAndType 5 6), (0, u "java/util/ImmutableCollections$AbstractImmutableList"), (0, u "<init>"), (0, u "()V"), (0, .fieldref 8 9), (0, .class_ 10), (0, .nameAndType 11 12), (0, u "java/util/ImmutableCollections$ListN"), (0, u "elements"), (0, u "[Ljava/lang/Object;"), (0, .fieldref 8 14), (0, .nameAndType 15 16), (0, u "allowNulls"), (0, u "Z"), (42, .class_ 60), (0, u "java/io/Serializable"), (4, u "([Ljava/lang/Object;Z)V"), (48, .class_ 115), (0, u "java/util/ImmutableCollections")] 3

def k28c0 : Code := { maxStack := 2, maxLocals := 3, code := jdk_45_method_1_code, exceptionTable := #[], attributes := #[] }
def k28m0 : Method := { name := "<init>", desc := "([Ljava/lang/Object;Z)V", sig := { parameters := [(.array (.object "java/lang/Object")), .boolean], returnType := none }, accessFlags := 2, code := some k28c0 }
/-- java/util/ImmutableCollections$ListN -/
def k28 : Class := { plain "java/util/ImmutableCollections$ListN" (some 26) with
  accessFlags := 48
  interfaces := #[4]
  cf := some (fileOf pool28 8 #[.nestHost 114] #[{ accessFlags := 2, nameIndex := 5, descriptorIndex := 65, attributes := #[] }] 48 2 #[59] #[{ accessFlags := 18, nameIndex := 11, descriptorIndex := 12, attributes := #[] }, { accessFlags := 18, nameIndex := 15, descriptorIndex := 16, attributes := #[] }])
  fields := #[{ name := "elements", type := (.array (.object "java/lang/Object")), accessFlags := 18, slot := 0, constantValue := 0 }, { name := "allowNulls", type := .boolean, accessFlags := 18, slot := 1, constantValue := 0 }]
  methods := #[k28m0]
  instanceTypes := #[(.array (.object "java/lang/Object")), .boolean]
  staticTypes := #[]
  resolved := Array.replicate 119 none
  statics := none }

def pool29 : Array CpInfo := pool [(1, .methodref 2 3), (0, .class_ 4), (0, .nameAndType 5 6), (0, u "java/lang/Object"), (0, u "<init>"), (0, u "()V"), (0, .class_ 8), (0, u "java/util/ArrayList"), (0, .methodref 7 3), (0, .fieldref 11 12), (0, .class_ 13), (0, .nameAndType 14 15), (0, u "com/example/sorrel/sorrel/middle/ir/FunctionBuilder"), (0, u "parameters"), (0, u "Ljava/util/List;"), (0, .fieldref 11 17), (0, .nameAndType 18 15), (0, u "blocks"), (0, .fieldref 11 20), (0, .nameAndType 21 22), (0, u "name"), (0, u "Ljava/lang/String;"), (0, .fieldref 11 24), (0, .nameAndType 25 26), (0, u "returnType"), (0, u "Lcom/example/sorrel/sorrel/middle/ir/Value$Type;"), (0, .string 28), (0, u "entry"), (0, .methodref 11 30), (0, .nameAndType 31 32), (0, u "startBlock"), (0, u "(Ljava/lang/String;)V"), (4, .interfaceMethodref 38 39), (0, .class_ 40), (0, .nameAndType 41 42), (0, u "java/util/List"), (0, u "add"), (0, u "(Ljava/lang/Object;)Z"), (4, u "values"), (0, u "I"), (5, u "labels"), (4, .fieldref 11 60), (0, .nameAndType 61 22), (0, u "label"), (0, .methodref 11 63), (0, .nameAndType 64 65), (0, u "isOpen"), (0, u "()Z"), (13, .fieldref 11 80), (0, .nameAndType 81 15), (0, u "instructions"), (0, .interfaceMethodref 83 84), (0, .class_ 85), (0, .nameAndType 86 65), (0, u "com/example/sorrel/sorrel/middle/ir/Instruction"), (0, u "endsBlock"), (0, .class_ 88), (0, u "com/example/sorrel/sorrel/middle/ir/Block"), (0, .methodref 87 90), (0, .nameAndType 5 91), (0, u "(Ljava/lang/String;Ljava/util/List;)V"), (13, u "(Ljava/lang/String;Lcom/example/sorrel/sorrel/middle/ir/Value$Type;)V"), (6, u "(Lcom/example/sorrel/sorrel/middle/ir/Instruction;)V")] 28

def k29c0 : Code := { maxStack := 3, maxLocals := 3, code := prog_113_method_1_code, exceptionTable := #[], attributes := #[] }
def k29m0 : Method := { name := "<init>", desc := "(Ljava/lang/String;Lcom/example/sorrel/sorrel/middle/ir/Value$Type;)V", sig := { parameters := [(.object "java/lang/String"), (.object "com/example/sorrel/sorrel/middle/ir/Value$Type")], returnType := none }, accessFlags := 1, code := some k29c0 }
def k29c1 : Code := { maxStack := 1, maxLocals := 1, code := prog_113_method_5_code, exceptionTable := #[], attributes := #[] }
def k29m1 : Method := { name := "isOpen", desc := "()Z", sig := { parameters := [], returnType := some .boolean }, accessFlags := 1, code := some k29c1 }
def k29c2 : Code := { maxStack := 5, maxLocals := 2, code := prog_113_method_6_code, exceptionTable := #[], attributes := #[] }
def k29m2 : Method := { name := "add", desc := "(Lcom/example/sorrel/sorrel/middle/ir/Instruction;)V", sig := { parameters := [(.object "com/example/sorrel/sorrel/middle/ir/Instruction")], returnType := none }, accessFlags := 1, code := some k29c2 }
def k29c3 : Code := { maxStack := 4, maxLocals := 2, code := prog_113_method_7_code, exceptionTable := #[], attributes := #[] }
def k29m3 : Method := { name := "startBlock", desc := "(Ljava/lang/String;)V", sig := { parameters := [(.object "java/lang/String")], returnType := none }, accessFlags := 1, code := some k29c3 }
/-- com/example/sorrel/sorrel/middle/ir/FunctionBuilder -/
def k29 : Class := { plain "com/example/sorrel/sorrel/middle/ir/FunctionBuilder" (some 0) with
  accessFlags := 49
  interfaces := #[]
  cf := some (fileOf pool29 11 #[] #[{ accessFlags := 1, nameIndex := 5, descriptorIndex := 105, attributes := #[] }, { accessFlags := 1, nameIndex := 64, descriptorIndex := 65, attributes := #[] }, { accessFlags := 1, nameIndex := 41, descriptorIndex := 112, attributes := #[] }, { accessFlags := 1, nameIndex := 31, descriptorIndex := 32, attributes := #[] }] 49 2 #[] #[{ accessFlags := 18, nameIndex := 21, descriptorIndex := 22, attributes := #[] }, { accessFlags := 18, nameIndex := 25, descriptorIndex := 26, attributes := #[] }, { accessFlags := 18, nameIndex := 14, descriptorIndex := 15, attributes := #[] }, { accessFlags := 18, nameIndex := 18, descriptorIndex := 15, attributes := #[] }, { accessFlags := 2, nameIndex := 47, descriptorIndex := 48, attributes := #[] }, { accessFlags := 2, nameIndex := 54, descriptorIndex := 48, attributes := #[] }, { accessFlags := 2, nameIndex := 61, descriptorIndex := 22, attributes := #[] }, { accessFlags := 2, nameIndex := 81, descriptorIndex := 15, attributes := #[] }])
  fields := #[{ name := "name", type := (.object "java/lang/String"), accessFlags := 18, slot := 0, constantValue := 0 }, { name := "returnType", type := (.object "com/example/sorrel/sorrel/middle/ir/Value$Type"), accessFlags := 18, slot := 1, constantValue := 0 }, { name := "parameters", type := (.object "java/util/List"), accessFlags := 18, slot := 2, constantValue := 0 }, { name := "blocks", type := (.object "java/util/List"), accessFlags := 18, slot := 3, constantValue := 0 }, { name := "values", type := .int, accessFlags := 2, slot := 4, constantValue := 0 }, { name := "labels", type := .int, accessFlags := 2, slot := 5, constantValue := 0 }, { name := "label", type := (.object "java/lang/String"), accessFlags := 2, slot := 6, constantValue := 0 }, { name := "instructions", type := (.object "java/util/List"), accessFlags := 2, slot := 7, constantValue := 0 }]
  methods := #[k29m0, k29m1, k29m2, k29m3]
  instanceTypes := #[(.object "java/lang/String"), (.object "com/example/sorrel/sorrel/middle/ir/Value$Type"), (.object "java/util/List"), (.object "java/util/List"), .int, .int, (.object "java/lang/String"), (.object "java/util/List")]
  staticTypes := #[]
  resolved := Array.replicate 141 none
  statics := none }

def pool30 : Array CpInfo := pool [(1, .class_ 2), (0, u "java/lang/Math"), (1, .class_ 6), (1, u "java/lang/Object"), (0, u "<init>"), (0, u "()V"), (89, .class_ 100), (1, u "java/lang/Math$RandomNumberGeneratorHolder"), (71, u "negativeZeroFloatBits"), (0, u "J"), (2, u "negativeZeroDoubleBits"), (21, u "max"), (2, u "min"), (43, u "$assertionsDisabled"), (0, u "Z"), (88, u "(II)I"), (2, u "twoToTheDoubleScaleDown"), (0, u "D"), (4, u "twoToTheDoubleScaleUp"), (9, u "E"), (3, u "PI"), (2, u "TAU"), (2, u "DEGREES_TO_RADIANS"), (0, u "RADIANS_TO_DEGREES")] 94

def k30m0 : Method := { name := "<init>", desc := "()V", sig := { parameters := [], returnType := none }, accessFlags := 2, code := none }
def k30c1 : Code := { maxStack := 2, maxLocals := 2, code := jdk_29_method_65_code, exceptionTable := #[], attributes := #[] }
def k30m1 : Method := { name := "max", desc := "(II)I", sig := { parameters := [.int, .int], returnType := some .int }, accessFlags := 9, code := some k30c1 }
def k30c2 : Code := { maxStack := 2, maxLocals := 2, code := jdk_29_method_69_code, exceptionTable := #[], attributes := #[] }
def k30m2 : Method := { name := "min", desc := "(II)I", sig := { parameters := [.int, .int], returnType := some .int }, accessFlags := 9, code := some k30c2 }
/-- java/lang/Math -/
def k30 : Class := { plain "java/lang/Math" (some 0) with
  accessFlags := 49
  interfaces := #[]
  cf := some (fileOf pool30 1 #[.nestMembers #[98]] #[{ accessFlags := 2, nameIndex := 7, descriptorIndex := 8, attributes := #[] }, { accessFlags := 9, nameIndex := 198, descriptorIndex := 335, attributes := #[] }, { accessFlags := 9, nameIndex := 201, descriptorIndex := 335, attributes := #[] }] 49 4 #[] #[{ accessFlags := 25, nameIndex := 354, descriptorIndex := 339, attributes := #[] }, { accessFlags := 25, nameIndex := 358, descriptorIndex := 339, attributes := #[] }, { accessFlags := 25, nameIndex := 361, descriptorIndex := 339, attributes := #[] }, { accessFlags := 26, nameIndex := 364, descriptorIndex := 339, attributes := #[] }, { accessFlags := 26, nameIndex := 365, descriptorIndex := 339, attributes := #[] }, { accessFlags := 26, nameIndex := 172, descriptorIndex := 173, attributes := #[] }, { accessFlags := 26, nameIndex := 176, descriptorIndex := 173, attributes := #[] }, { accessFlags := 8, nameIndex := 344, descriptorIndex := 339, attributes := #[] }, { accessFlags := 8, nameIndex := 338, descriptorIndex := 339, attributes := #[] }, { accessFlags := 4120, nameIndex := 245, descriptorIndex := 246, attributes := #[] }])
  fields := #[{ name := "E", type := .double, accessFlags := 25, slot := 0, constantValue := 0 }, { name := "PI", type := .double, accessFlags := 25, slot := 1, constantValue := 0 }, { name := "TAU", type := .double, accessFlags := 25, slot := 2, constantValue := 0 }, { name := "DEGREES_TO_RADIANS", type := .double, accessFlags := 26, slot := 3, constantValue := 0 }, { name := "RADIANS_TO_DEGREES", type := .double, accessFlags := 26, slot := 4, constantValue := 0 }, { name := "negativeZeroFloatBits", type := .long, accessFlags := 26, slot := 5, constantValue := 0 }, { name := "negativeZeroDoubleBits", type := .long, accessFlags := 26, slot := 6, constantValue := 0 }, { name := "twoToTheDoubleScaleUp", type := .double, accessFlags := 8, slot := 7, constantValue := 0 }, { name := "twoToTheDoubleScaleDown", type := .double, accessFlags := 8, slot := 8, constantValue := 0 }, { name := "$assertionsDisabled", type := .boolean, accessFlags := 4120, slot := 9, constantValue := 0 }]
  methods := #[k30m0, k30m1, k30m2]
  instanceTypes := #[]
  staticTypes := #[.double, .double, .double, .double, .double, .long, .long, .double, .double, .boolean]
  resolved := Array.replicate 460 none
  statics := none }

def pool31 : Array CpInfo := pool [(1, .methodref 2 3), (0, .class_ 4), (0, .nameAndType 5 6), (0, u "java/lang/Record"), (0, u "<init>"), (0, u "()V"), (0, .interfaceMethodref 8 9), (0, .class_ 10), (0, .nameAndType 11 12), (0, u "java/util/List"), (0, u "copyOf"), (0, u "(Ljava/util/Collection;)Ljava/util/List;"), (0, .fieldref 14 15), (0, .class_ 16), (0, .nameAndType 17 18), (0, u "com/example/sorrel/sorrel/middle/ir/Block"), (0, u "label"), (0, u "Ljava/lang/String;"), (0, .fieldref 14 20), (0, .nameAndType 21 22), (0, u "instructions"), (0, u "Ljava/util/List;"), (14, u "(Ljava/lang/String;Ljava/util/List;)V")] 30

def k31c0 : Code := { maxStack := 2, maxLocals := 3, code := prog_108_method_1_code, exceptionTable := #[], attributes := #[] }
def k31m0 : Method := { name := "<init>", desc := "(Ljava/lang/String;Ljava/util/List;)V", sig := { parameters := [(.object "java/lang/String"), (.object "java/util/List")], returnType := none }, accessFlags := 1, code := some k31c0 }
/-- com/example/sorrel/sorrel/middle/ir/Block -/
def k31 : Class := { plain "com/example/sorrel/sorrel/middle/ir/Block" (some 7) with
  accessFlags := 49
  interfaces := #[]
  cf := some (fileOf pool31 14 #[] #[{ accessFlags := 1, nameIndex := 5, descriptorIndex := 37, attributes := #[] }] 49 2 #[] #[{ accessFlags := 18, nameIndex := 17, descriptorIndex := 18, attributes := #[] }, { accessFlags := 18, nameIndex := 21, descriptorIndex := 22, attributes := #[] }])
  fields := #[{ name := "label", type := (.object "java/lang/String"), accessFlags := 18, slot := 0, constantValue := 0 }, { name := "instructions", type := (.object "java/util/List"), accessFlags := 18, slot := 1, constantValue := 0 }]
  methods := #[k31m0]
  instanceTypes := #[(.object "java/lang/String"), (.object "java/util/List")]
  staticTypes := #[]
  resolved := Array.replicate 68 none
  statics := none }

def pool32 : Array CpInfo := pool [(2, .class_ 4), (1, u "java/lang/Object"), (0, u "<init>"), (0, u "()V"), (7, .class_ 16), (1, u "java/util/Arrays"), (57, .class_ 76), (1, u "java/util/Arrays$NaturalOrder"), (9, .methodref 2 87), (0, .nameAndType 88 89), (0, u "getClass"), (0, u "()Ljava/lang/Class;"), (20, .class_ 111), (0, u "[Ljava/lang/Object;"), (1, .class_ 115), (1, u "java/util/Arrays$LegacyMergeSort"), (1, u "Z"), (32, .methodref 151 152), (0, .class_ 153), (0, .nameAndType 154 155), (0, u "java/lang/System"), (0, u "arraycopy"), (0, u "(Ljava/lang/Object;ILjava/lang/Object;II)V"), (144, .methodref 14 301), (0, .nameAndType 302 303), (0, u "copyOf"), (0, u "([Ljava/lang/Object;ILjava/lang/Class;)[Ljava/lang/Object;"), (0, .methodref 305 306), (0, .class_ 307), (0, .nameAndType 308 309), (0, u "java/lang/Math"), (0, u "min"), (0, u "(II)I"), (65, .class_ 376), (0, u "java/util/Arrays$ArrayList"), (68, u "$assertionsDisabled"), (269, u "MIN_ARRAY_SORT_GRAN"), (0, u "I"), (2, u "INSERTIONSORT_THRESHOLD"), (140, u "([Ljava/lang/Object;I)[Ljava/lang/Object;"), (114, .class_ 976), (0, u "java/util/Arrays$ArrayItr")] 52

def k32m0 : Method := { name := "<init>", desc := "()V", sig := { parameters := [], returnType := none }, accessFlags := 2, code := none }
def k32c1 : Code := { maxStack := 3, maxLocals := 2, code := jdk_65_method_119_code, exceptionTable := #[], attributes := #[] }
def k32m1 : Method := { name := "copyOf", desc := "([Ljava/lang/Object;I)[Ljava/lang/Object;", sig := { parameters := [(.array (.object "java/lang/Object")), .int], returnType := some (.array (.object "java/lang/Object")) }, accessFlags := 9, code := some k32c1 }
def k32c2 : Code := { maxStack := 6, maxLocals := 4, code := jdk_65_method_120_code, exceptionTable := #[], attributes := #[] }
def k32m2 : Method := { name := "copyOf", desc := "([Ljava/lang/Object;ILjava/lang/Class;)[Ljava/lang/Object;", sig := { parameters := [(.array (.object "java/lang/Object")), .int, (.object "java/lang/Class")], returnType := some (.array (.object "java/lang/Object")) }, accessFlags := 9, code := some k32c2 }
/-- java/util/Arrays -/
def k32 : Class := { plain "java/util/Arrays" (some 0) with
  accessFlags := 49
  interfaces := #[]
  cf := some (fileOf pool32 14 #[.nestMembers #[975, 375, 113, 74]] #[{ accessFlags := 2, nameIndex := 5, descriptorIndex := 6, attributes := #[] }, { accessFlags := 9, nameIndex := 302, descriptorIndex := 860, attributes := #[] }, { accessFlags := 9, nameIndex := 302, descriptorIndex := 303, attributes := #[] }] 49 2 #[] #[{ accessFlags := 26, nameIndex := 715, descriptorIndex := 716, attributes := #[] }, { accessFlags := 26, nameIndex := 719, descriptorIndex := 716, attributes := #[] }, { accessFlags := 4120, nameIndex := 445, descriptorIndex := 117, attributes := #[] }])
  fields := #[{ name := "MIN_ARRAY_SORT_GRAN", type := .int, accessFlags := 26, slot := 0, constantValue := 0 }, { name := "INSERTIONSORT_THRESHOLD", type := .int, accessFlags := 26, slot := 1, constantValue := 0 }, { name := "$assertionsDisabled", type := .boolean, accessFlags := 4120, slot := 2, constantValue := 0 }]
  methods := #[k32m0, k32m1, k32m2]
  instanceTypes := #[]
  staticTypes := #[.int, .int, .boolean]
  resolved := Array.replicate 1029 none
  statics := none }

def pool33 : Array CpInfo := pool [(2, .class_ 4), (1, u "java/lang/Object"), (0, u "<init>"), (0, u "()V"), (1, .class_ 10), (1, u "java/lang/System"), (0, u "allowSecurityManager"), (0, u "I"), (16, u "cons"), (0, u "Ljava/io/Console;"), (77, .class_ 110), (1, u "java/lang/System$CallersHolder"), (43, u "initialErrStream"), (0, u "Ljava/io/PrintStream;"), (19, u "security"), (0, u "Ljava/lang/SecurityManager;"), (31, .class_ 209), (0, u "java/lang/System$1"), (7, u "props"), (0, u "Ljava/util/Properties;"), (2, u "lineSeparator"), (0, u "Ljava/lang/String;"), (96, .class_ 321), (1, u "java/lang/System$LoggerFinder"), (5, .class_ 328), (0, u "java/lang/System$Logger"), (67, u "err"), (2, u "out"), (91, u "notSupportedJnuEncoding"), (15, u "in"), (17, u "initialIn"), (0, u "Ljava/io/InputStream;"), (35, u "bootLayer"), (0, u "Ljava/lang/ModuleLayer;"), (99, .class_ 664), (0, u "java/lang/System$2"), (9, u "NEVER"), (2, u "MAYBE"), (49, u "arraycopy"), (0, u "(Ljava/lang/Object;ILjava/lang/Object;II)V"), (72, .class_ 802), (0, u "java/lang/System$Logger$Level")] 31

def k33m0 : Method := { name := "<init>", desc := "()V", sig := { parameters := [], returnType := none }, accessFlags := 2, code := none }
def k33m1 : Method := { name := "arraycopy", desc := "(Ljava/lang/Object;ILjava/lang/Object;II)V", sig := { parameters := [(.object "java/lang/Object"), .int, (.object "java/lang/Object"), .int, .int], returnType := none }, accessFlags := 265, code := none }
/-- java/lang/System -/
def k33 : Class := { plain "java/lang/System" (some 0) with
  accessFlags := 49
  interfaces := #[]
  cf := some (fileOf pool33 8 #[.nestMembers #[319, 327, 801, 108, 663, 208]] #[{ accessFlags := 2, nameIndex := 5, descriptorIndex := 6, attributes := #[] }, { accessFlags := 265, nameIndex := 727, descriptorIndex := 728, attributes := #[] }] 49 2 #[] #[{ accessFlags := 25, nameIndex := 507, descriptorIndex := 526, attributes := #[] }, { accessFlags := 25, nameIndex := 399, descriptorIndex := 155, attributes := #[] }, { accessFlags := 25, nameIndex := 396, descriptorIndex := 155, attributes := #[] }, { accessFlags := 10, nameIndex := 525, descriptorIndex := 526, attributes := #[] }, { accessFlags := 26, nameIndex := 674, descriptorIndex := 12, attributes := #[] }, { accessFlags := 26, nameIndex := 677, descriptorIndex := 12, attributes := #[] }, { accessFlags := 10, nameIndex := 11, descriptorIndex := 12, attributes := #[] }, { accessFlags := 74, nameIndex := 175, descriptorIndex := 176, attributes := #[] }, { accessFlags := 10, nameIndex := 491, descriptorIndex := 222, attributes := #[] }, { accessFlags := 74, nameIndex := 29, descriptorIndex := 30, attributes := #[] }, { accessFlags := 74, nameIndex := 154, descriptorIndex := 155, attributes := #[] }, { accessFlags := 10, nameIndex := 217, descriptorIndex := 218, attributes := #[] }, { accessFlags := 10, nameIndex := 221, descriptorIndex := 222, attributes := #[] }, { accessFlags := 8, nameIndex := 562, descriptorIndex := 563, attributes := #[] }])
  fields := #[{ name := "in", type := (.object "java/io/InputStream"), accessFlags := 25, slot := 0, constantValue := 0 }, { name := "out", type := (.object "java/io/PrintStream"), accessFlags := 25, slot := 1, constantValue := 0 }, { name := "err", type := (.object "java/io/PrintStream"), accessFlags := 25, slot := 2, constantValue := 0 }, { name := "initialIn", type := (.object "java/io/InputStream"), accessFlags := 10, slot := 3, constantValue := 0 }, { name := "NEVER", type := .int, accessFlags := 26, slot := 4, constantValue := 0 }, { name := "MAYBE", type := .int, accessFlags := 26, slot := 5, constantValue := 0 }, { name := "allowSecurityManager", type := .int, accessFlags := 10, slot := 6, constantValue := 0 }, { name := "security", type := (.object "java/lang/SecurityManager"), accessFlags := 74, slot := 7, constantValue := 0 }, { name := "notSupportedJnuEncoding", type := (.object "java/lang/String"), accessFlags := 10, slot := 8, constantValue := 0 }, { name := "cons", type := (.object "java/io/Console"), accessFlags := 74, slot := 9, constantValue := 0 }, { name := "initialErrStream", type := (.object "java/io/PrintStream"), accessFlags := 74, slot := 10, constantValue := 0 }, { name := "props", type := (.object "java/util/Properties"), accessFlags := 10, slot := 11, constantValue := 0 }, { name := "lineSeparator", type := (.object "java/lang/String"), accessFlags := 10, slot := 12, constantValue := 0 }, { name := "bootLayer", type := (.object "java/lang/ModuleLayer"), accessFlags := 8, slot := 13, constantValue := 0 }]
  methods := #[k33m0, k33m1]
  instanceTypes := #[]
  staticTypes := #[(.object "java/io/InputStream"), (.object "java/io/PrintStream"), (.object "java/io/PrintStream"), (.object "java/io/InputStream"), .int, .int, .int, (.object "java/lang/SecurityManager"), (.object "java/lang/String"), (.object "java/io/Console"), (.object "java/io/PrintStream"), (.object "java/util/Properties"), (.object "java/lang/String"), (.object "java/lang/ModuleLayer")]
  resolved := Array.replicate 834 none
  statics := none }

def pool34 : Array CpInfo := pool [(2, .class_ 4), (1, u "java/lang/Object"), (0, u "<init>"), (0, u "()V"), (35, .class_ 44), (1, u "java/util/Objects"), (0, u "requireNonNull"), (0, u "(Ljava/lang/Object;)Ljava/lang/Object;")] 137

def k34m0 : Method := { name := "<init>", desc := "()V", sig := { parameters := [], returnType := none }, accessFlags := 2, code := none }
def k34c1 : Code := { maxStack := 2, maxLocals := 1, code := jdk_31_method_10_code, exceptionTable := #[], attributes := #[] }
def k34m1 : Method := { name := "requireNonNull", desc := "(Ljava/lang/Object;)Ljava/lang/Object;", sig := { parameters := [(.object "java/lang/Object")], returnType := some (.object "java/lang/Object") }, accessFlags := 9, code := some k34c1 }
/-- java/util/Objects -/
def k34 : Class := { plain "java/util/Objects" (some 0) with
  accessFlags := 49
  interfaces := #[]
  cf := some (fileOf pool34 42 #[] #[{ accessFlags := 2, nameIndex := 5, descriptorIndex := 6, attributes := #[] }, { accessFlags := 9, nameIndex := 45, descriptorIndex := 46, attributes := #[] }] 49 2 #[] #[])
  fields := #[]
  methods := #[k34m0, k34m1]
  instanceTypes := #[]
  staticTypes := #[]
  resolved := Array.replicate 184 none
  statics := none }

def pool35 : Array CpInfo := pool [(1, u "java/lang/Class"), (0, .class_ 1), (0, u "java/lang/Object"), (0, .class_ 3)] 3

/-- java/lang/Class -/
def k35 : Class := { plain "java/lang/Class" (some 0) with
  accessFlags := 49
  interfaces := #[]
  cf := some (fileOf pool35 2 #[] #[] 49 4 #[] #[])
  fields := #[]
  methods := #[]
  instanceTypes := #[]
  staticTypes := #[]
  resolved := Array.replicate 8 none
  statics := none }

/-- the primitive byte -/
def k36 : Class := { plain "byte" none with kind := .primitive 'B', accessFlags := 0x411 }
/-- [B -/
def k37 : Class := { plain "[B" (some 0) with kind := .array 36 .byte, interfaces := #[22, 4], accessFlags := 1041 }

/-- the primitive int -/
def k38 : Class := { plain "int" none with kind := .primitive 'I', accessFlags := 0x411 }
/-- [I -/
def k39 : Class := { plain "[I" (some 0) with kind := .array 38 .int, interfaces := #[22, 4], accessFlags := 1041 }

/-- [Ljava/lang/Object; -/
def k40 : Class := { plain "[Ljava/lang/Object;" (some 0) with kind := .array 0 (.object "java/lang/Object"), interfaces := #[22, 4], accessFlags := 1041, mirror := some 3 }

def heap : Heap := #[{ cls := 6, slots := #[.ref 4, .ref 5, .ref 6, .null], vm := .statics 6 },
  { cls := 23, slots := #[.long 0, .int 0, .ref 7, .ref 8], vm := .statics 23 },
  { cls := 24, slots := #[.long 0, .int 0, .null, .ref 10, .ref 9, .null, .null, .null, .int 0, .int 1], vm := .statics 24 },
  { cls := 35, slots := #[], vm := .mirror 40 },
  { cls := 6, slots := #[.null, .int 0, .int 0], vm := .none },
  { cls := 6, slots := #[.null, .int 1, .int 0], vm := .none },
  { cls := 6, slots := #[.null, .int 2, .int 0], vm := .none },
  { cls := 40, slots := #[], vm := .none },
  { cls := 40, slots := #[], vm := .none },
  { cls := 28, slots := #[.ref 11, .int 0], vm := .none },
  { cls := 0, slots := #[], vm := .none },
  { cls := 40, slots := #[], vm := .none }]
def classes : Array Class := #[k0, k1, k2, k3, k4, k5, k6, k7, k8, k9, k10, k11, k12, k13, k14, k15, k16, k17, k18, k19, k20, k21, k22, k23, k24, k25, k26, k27, k28, k29, k30, k31, k32, k33, k34, k35, k36, k37, k38, k39, k40]
def interned : List (Array UInt16 × Addr) := []
def slotsUsed : Nat := 29
def theMethod : MethodId := ⟨1, 1⟩
def args0 : Array Value := #[.int 5, .int 6, .int 7, .int 8]
def aboutOver (below : List Frame) : State where
  vm := { classes := classes, interned := interned.toArray }
  heap := heap
  slotsUsed := slotsUsed
  threads := #[{ frames := .invoking theMethod args0 :: below }]
def below0 : List Frame := [.native { method := ⟨0, 0⟩, args := #[] }]
def about1 : State := aboutOver below0
def p0 : Program := .bare "" "" ""
def e0 : Env := launch0.env 0 0 0
theorem w_frames : about1.frames = Frame.invoking theMethod args0 :: below0 := rfl
set_option maxRecDepth 65536 in
theorem w_args : argsFit about1.vm theMethod args0 = true := by decide +kernel
set_option maxRecDepth 65536 in
theorem w_heap : heapFits about1 = true := by decide +kernel
set_option maxRecDepth 65536 in
theorem w_runnable : about1.curStatus? = some .runnable := by decide +kernel
set_option maxRecDepth 65536 in
theorem w_alone : about1.alone = true := by decide +kernel
set_option maxRecDepth 65536 in
theorem w_named : about1.methodNamed? x = some theMethod := by decide +kernel
set_option maxRecDepth 65536 in
theorem w_hears : about1.hears theMethod below0 = true := by decide +kernel
set_option maxRecDepth 65536 in
theorem w_ripe : about1.ripe theMethod args0 below0 = true := by decide +kernel
theorem w_running : about1.status = .running := rfl
set_option maxRecDepth 65536 in
theorem w_room : about1.hasRoom e0.platform room_1 = true :=
  launch0.hasRoom_least _ room_1 (by decide +kernel) (by decide +kernel) (by decide +kernel) (by decide +kernel) (by decide +kernel) (by decide +kernel)
theorem allAtoms_all (ts : List Jvm.Cond) (a : Array Jvm.Value) (st : Jvm.State) : (allAtoms ts).before a st = ts.all (fun c => c.before a st) := by
  induction ts with
  | nil => rfl
  | cons c t ih =>
    show (Jvm.Cond.and c (allAtoms t)).before a st = _
    rw [Jvm.Cond.before_and, ih, List.all_cons]
def words1 : List Jvm.Cond := Jvm.Cond.code x code maxLocals ret :: tables_1
/-- a 'code' word, met by the world's own term for the bytes: nothing is compared byte by byte -/
theorem code_word {y : MethodName} {bytes : ByteArray} {mx : Nat} {rt : Option FieldType} {a : Array Value} {s : State} {m : MethodId} {meth : Method} {c : Code} (h1 : s.methodNamed? y = some m) (h2 : s.vm.method? m = some meth) (h3 : meth.code = some c) (h4 : c.code = bytes)
    (h5 : (c.maxLocals == mx && c.exceptionTable.isEmpty && decide (c.maxStack ≤ mostOperands) && decide (meth.sig.returnType = rt) && !meth.locks && decide (parseMethodDescriptor y.desc = some meth.sig)) = true) : (Jvm.Cond.code y bytes mx rt).before a s = true := by
  simp only [Bool.and_eq_true, beq_iff_eq, Bool.not_eq_true', decide_eq_true_eq] at h5
  obtain ⟨⟨⟨⟨⟨g1, g2⟩, g3⟩, g4⟩, g5⟩, g6⟩ := h5
  simp [Cond.before, Cond.holds, Cond.value, h1, h2, h3, h4, g1, g2, g3, g4, g5, g6]
def isCode : Jvm.Cond → Bool
  | .code _ _ _ _ => true
  | _ => false
theorem all_split {L : List Jvm.Cond} {P : Jvm.Cond → Bool} (h1 : L.all (fun c => isCode c || P c) = true) (h2 : ∀ c ∈ L.filter isCode, P c = true) : L.all P = true := by
  refine List.all_eq_true.mpr fun c hc => ?_
  have h := List.all_eq_true.mp h1 c hc
  rcases Bool.eq_false_or_eq_true (isCode c) with hi | hi
  · exact h2 c (List.mem_filter.mpr ⟨hc, hi⟩)
  · simpa [hi] using h
set_option maxRecDepth 65536 in
theorem w_c0 : (Jvm.Cond.code x code maxLocals ret).before args0 about1 = true := code_word (m := ⟨1, 1⟩) (meth := k1m1) (c := k1c1) (by decide +kernel) rfl rfl rfl (by decide +kernel)
set_option maxRecDepth 65536 in
theorem w_c1 : (Jvm.Cond.code ({ cls := "com/example/sorrel/sorrel/middle/ir/FunctionBuilderIsOpenPinLaw", name := "pick", desc := "(I)Lcom/example/sorrel/sorrel/middle/ir/Value$Type;" } : Jvm.MethodName) method_3_code (2 : Nat) (Option.some (Jvm.ClassFile.FieldType.object "com/example/sorrel/sorrel/middle/ir/Value$Type"))).before args0 about1 = true := code_word (m := ⟨1, 2⟩) (meth := k1m2) (c := k1c2) (by decide +kernel) rfl rfl rfl (by decide +kernel)
set_option maxRecDepth 65536 in
theorem w_c2 : (Jvm.Cond.code ({ cls := "com/example/sorrel/sorrel/middle/ir/Instruction$Jump", name := "<init>", desc := "(Ljava/lang/String;)V" } : Jvm.MethodName) prog_125_method_1_code (2 : Nat) (Option.none : Option Jvm.ClassFile.FieldType)).before args0 about1 = true := code_word (m := ⟨9, 0⟩) (meth := k9m0) (c := k9c0) (by decide +kernel) rfl rfl rfl (by decide +kernel)
set_option maxRecDepth 65536 in
theorem w_c3 : (Jvm.Cond.code ({ cls := "java/lang/Record", name := "<init>", desc := "()V" } : Jvm.MethodName) jdk_30_method_1_code (1 : Nat) (Option.none : Option Jvm.ClassFile.FieldType)).before args0 about1 = true := code_word (m := ⟨7, 0⟩) (meth := k7m0) (c := k7c0) (by decide +kernel) rfl rfl rfl (by decide +kernel)
set_option maxRecDepth 65536 in
theorem w_c4 : (Jvm.Cond.code ({ cls := "java/lang/Object", name := "<init>", desc := "()V" } : Jvm.MethodName) object_method_1_code (1 : Nat) (Option.none : Option Jvm.ClassFile.FieldType)).before args0 about1 = true := code_word (m := ⟨0, 0⟩) (meth := k0m0) (c := k0c0) (by decide +kernel) rfl rfl rfl (by decide +kernel)
set_option maxRecDepth 65536 in
theorem w_c5 : (Jvm.Cond.code ({ cls := "com/example/sorrel/sorrel/middle/ir/Instruction$Return", name := "<init>", desc := "(Lcom/example/sorrel/sorrel/middle/ir/Value;)V" } : Jvm.MethodName) prog_132_method_1_code (2 : Nat) (Option.none : Option Jvm.ClassFile.FieldType)).before args0 about1 = true := code_word (m := ⟨13, 0⟩) (meth := k13m0) (c := k13c0) (by decide +kernel) rfl rfl rfl (by decide +kernel)
set_option maxRecDepth 65536 in
theorem w_c6 : (Jvm.Cond.code ({ cls := "java/util/ArrayList", name := "<init>", desc := "()V" } : Jvm.MethodName) jdk_38_method_2_code (1 : Nat) (Option.none : Option Jvm.ClassFile.FieldType)).before args0 about1 = true := code_word (m := ⟨23, 0⟩) (meth := k23m0) (c := k23c0) (by decide +kernel) rfl rfl rfl (by decide +kernel)
set_option maxRecDepth 65536 in
theorem w_c7 : (Jvm.Cond.code ({ cls := "java/util/AbstractList", name := "<init>", desc := "()V" } : Jvm.MethodName) jdk_39_method_1_code (1 : Nat) (Option.none : Option Jvm.ClassFile.FieldType)).before args0 about1 = true := code_word (m := ⟨20, 0⟩) (meth := k20m0) (c := k20c0) (by decide +kernel) rfl rfl rfl (by decide +kernel)
set_option maxRecDepth 65536 in
theorem w_c8 : (Jvm.Cond.code ({ cls := "java/util/AbstractCollection", name := "<init>", desc := "()V" } : Jvm.MethodName) jdk_22_method_1_code (1 : Nat) (Option.none : Option Jvm.ClassFile.FieldType)).before args0 about1 = true := code_word (m := ⟨17, 0⟩) (meth := k17m0) (c := k17c0) (by decide +kernel) rfl rfl rfl (by decide +kernel)
set_option maxRecDepth 65536 in
theorem w_c9 : (Jvm.Cond.code ({ cls := "com/example/sorrel/sorrel/middle/ir/Instruction$Call", name := "<init>", desc := "(Lcom/example/sorrel/sorrel/middle/ir/Value;Ljava/lang/String;Ljava/util/List;)V" } : Jvm.MethodName) prog_119_method_1_code (4 : Nat) (Option.none : Option Jvm.ClassFile.FieldType)).before args0 about1 = true := code_word (m := ⟨14, 0⟩) (meth := k14m0) (c := k14c0) (by decide +kernel) rfl rfl rfl (by decide +kernel)
set_option maxRecDepth 65536 in
theorem w_c10 : (Jvm.Cond.code ({ cls := "java/util/List", name := "copyOf", desc := "(Ljava/util/Collection;)Ljava/util/List;" } : Jvm.MethodName) jdk_40_method_48_code (1 : Nat) (Option.some (Jvm.ClassFile.FieldType.object "java/util/List"))).before args0 about1 = true := code_word (m := ⟨19, 3⟩) (meth := k19m3) (c := k19c3) (by decide +kernel) rfl rfl rfl (by decide +kernel)
set_option maxRecDepth 65536 in
theorem w_c11 : (Jvm.Cond.code ({ cls := "java/util/ImmutableCollections", name := "listCopy", desc := "(Ljava/util/Collection;)Ljava/util/List;" } : Jvm.MethodName) jdk_56_method_3_code (2 : Nat) (Option.some (Jvm.ClassFile.FieldType.object "java/util/List"))).before args0 about1 = true := code_word (m := ⟨24, 1⟩) (meth := k24m1) (c := k24c1) (by decide +kernel) rfl rfl rfl (by decide +kernel)
set_option maxRecDepth 65536 in
theorem w_c12 : (Jvm.Cond.code ({ cls := "java/util/ArrayList", name := "isEmpty", desc := "()Z" } : Jvm.MethodName) jdk_38_method_9_code (1 : Nat) (Option.some Jvm.ClassFile.FieldType.boolean)).before args0 about1 = true := code_word (m := ⟨23, 3⟩) (meth := k23m3) (c := k23c3) (by decide +kernel) rfl rfl rfl (by decide +kernel)
set_option maxRecDepth 65536 in
theorem w_c13 : (Jvm.Cond.code ({ cls := "java/util/List", name := "of", desc := "()Ljava/util/List;" } : Jvm.MethodName) jdk_40_method_36_code (0 : Nat) (Option.some (Jvm.ClassFile.FieldType.object "java/util/List"))).before args0 about1 = true := code_word (m := ⟨19, 1⟩) (meth := k19m1) (c := k19c1) (by decide +kernel) rfl rfl rfl (by decide +kernel)
set_option maxRecDepth 65536 in
theorem w_c14 : (Jvm.Cond.code ({ cls := "com/example/sorrel/sorrel/middle/ir/FunctionBuilder", name := "<init>", desc := "(Ljava/lang/String;Lcom/example/sorrel/sorrel/middle/ir/Value$Type;)V" } : Jvm.MethodName) prog_113_method_1_code (3 : Nat) (Option.none : Option Jvm.ClassFile.FieldType)).before args0 about1 = true := code_word (m := ⟨29, 0⟩) (meth := k29m0) (c := k29c0) (by decide +kernel) rfl rfl rfl (by decide +kernel)
set_option maxRecDepth 65536 in
theorem w_c15 : (Jvm.Cond.code ({ cls := "com/example/sorrel/sorrel/middle/ir/FunctionBuilder", name := "startBlock", desc := "(Ljava/lang/String;)V" } : Jvm.MethodName) prog_113_method_7_code (2 : Nat) (Option.none : Option Jvm.ClassFile.FieldType)).before args0 about1 = true := code_word (m := ⟨29, 3⟩) (meth := k29m3) (c := k29c3) (by decide +kernel) rfl rfl rfl (by decide +kernel)
set_option maxRecDepth 65536 in
theorem w_c16 : (Jvm.Cond.code ({ cls := "com/example/sorrel/sorrel/middle/ir/FunctionBuilder", name := "isOpen", desc := "()Z" } : Jvm.MethodName) prog_113_method_5_code (1 : Nat) (Option.some Jvm.ClassFile.FieldType.boolean)).before args0 about1 = true := code_word (m := ⟨29, 1⟩) (meth := k29m1) (c := k29c1) (by decide +kernel) rfl rfl rfl (by decide +kernel)
set_option maxRecDepth 65536 in
theorem w_c17 : (Jvm.Cond.code ({ cls := "com/example/sorrel/sorrel/middle/ir/FunctionBuilderIsOpenPinLaw", name := "step", desc := "(Lcom/example/sorrel/sorrel/middle/ir/FunctionBuilder;IILcom/example/sorrel/sorrel/middle/ir/Instruction;Lcom/example/sorrel/sorrel/middle/ir/Instruction;Lcom/example/sorrel/sorrel/middle/ir/Instruction;)I" } : Jvm.MethodName) method_4_code (8 : Nat) (Option.some Jvm.ClassFile.FieldType.int)).before args0 about1 = true := code_word (m := ⟨1, 3⟩) (meth := k1m3) (c := k1c3) (by decide +kernel) rfl rfl rfl (by decide +kernel)
set_option maxRecDepth 65536 in
theorem w_c18 : (Jvm.Cond.code ({ cls := "com/example/sorrel/sorrel/middle/ir/FunctionBuilder", name := "add", desc := "(Lcom/example/sorrel/sorrel/middle/ir/Instruction;)V" } : Jvm.MethodName) prog_113_method_6_code (2 : Nat) (Option.none : Option Jvm.ClassFile.FieldType)).before args0 about1 = true := code_word (m := ⟨29, 2⟩) (meth := k29m2) (c := k29c2) (by decide +kernel) rfl rfl rfl (by decide +kernel)
set_option maxRecDepth 65536 in
theorem w_c19 : (Jvm.Cond.code ({ cls := "java/util/ArrayList", name := "add", desc := "(Ljava/lang/Object;)Z" } : Jvm.MethodName) jdk_38_method_25_code (2 : Nat) (Option.some Jvm.ClassFile.FieldType.boolean)).before args0 about1 = true := code_word (m := ⟨23, 6⟩) (meth := k23m6) (c := k23c6) (by decide +kernel) rfl rfl rfl (by decide +kernel)
set_option maxRecDepth 65536 in
theorem w_c20 : (Jvm.Cond.code ({ cls := "java/util/ArrayList", name := "add", desc := "(Ljava/lang/Object;[Ljava/lang/Object;I)V" } : Jvm.MethodName) jdk_38_method_24_code (4 : Nat) (Option.none : Option Jvm.ClassFile.FieldType)).before args0 about1 = true := code_word (m := ⟨23, 5⟩) (meth := k23m5) (c := k23c5) (by decide +kernel) rfl rfl rfl (by decide +kernel)
set_option maxRecDepth 65536 in
theorem w_c21 : (Jvm.Cond.code ({ cls := "java/util/ArrayList", name := "grow", desc := "()[Ljava/lang/Object;" } : Jvm.MethodName) jdk_38_method_7_code (1 : Nat) (Option.some (Jvm.ClassFile.FieldType.array (Jvm.ClassFile.FieldType.object "java/lang/Object")))).before args0 about1 = true := code_word (m := ⟨23, 2⟩) (meth := k23m2) (c := k23c2) (by decide +kernel) rfl rfl rfl (by decide +kernel)
set_option maxRecDepth 65536 in
theorem w_c22 : (Jvm.Cond.code ({ cls := "java/util/ArrayList", name := "grow", desc := "(I)[Ljava/lang/Object;" } : Jvm.MethodName) jdk_38_method_6_code (4 : Nat) (Option.some (Jvm.ClassFile.FieldType.array (Jvm.ClassFile.FieldType.object "java/lang/Object")))).before args0 about1 = true := code_word (m := ⟨23, 1⟩) (meth := k23m1) (c := k23c1) (by decide +kernel) rfl rfl rfl (by decide +kernel)
set_option maxRecDepth 65536 in
theorem w_c23 : (Jvm.Cond.code ({ cls := "java/lang/Math", name := "max", desc := "(II)I" } : Jvm.MethodName) jdk_29_method_65_code (2 : Nat) (Option.some Jvm.ClassFile.FieldType.int)).before args0 about1 = true := code_word (m := ⟨30, 1⟩) (meth := k30m1) (c := k30c1) (by decide +kernel) rfl rfl rfl (by decide +kernel)
set_option maxRecDepth 65536 in
theorem w_c24 : (Jvm.Cond.code ({ cls := "com/example/sorrel/sorrel/middle/ir/Instruction", name := "endsBlock", desc := "()Z" } : Jvm.MethodName) prog_115_method_3_code (1 : Nat) (Option.some Jvm.ClassFile.FieldType.boolean)).before args0 about1 = true := code_word (m := ⟨8, 0⟩) (meth := k8m0) (c := k8c0) (by decide +kernel) rfl rfl rfl (by decide +kernel)
set_option maxRecDepth 65536 in
theorem w_c25 : (Jvm.Cond.code ({ cls := "com/example/sorrel/sorrel/middle/ir/Instruction$Return", name := "endsBlock", desc := "()Z" } : Jvm.MethodName) prog_132_method_4_code (1 : Nat) (Option.some Jvm.ClassFile.FieldType.boolean)).before args0 about1 = true := code_word (m := ⟨13, 1⟩) (meth := k13m1) (c := k13c1) (by decide +kernel) rfl rfl rfl (by decide +kernel)
set_option maxRecDepth 65536 in
theorem w_c26 : (Jvm.Cond.code ({ cls := "com/example/sorrel/sorrel/middle/ir/Block", name := "<init>", desc := "(Ljava/lang/String;Ljava/util/List;)V" } : Jvm.MethodName) prog_108_method_1_code (3 : Nat) (Option.none : Option Jvm.ClassFile.FieldType)).before args0 about1 = true := code_word (m := ⟨31, 0⟩) (meth := k31m0) (c := k31c0) (by decide +kernel) rfl rfl rfl (by decide +kernel)
set_option maxRecDepth 65536 in
theorem w_c27 : (Jvm.Cond.code ({ cls := "java/util/ArrayList", name := "toArray", desc := "()[Ljava/lang/Object;" } : Jvm.MethodName) jdk_38_method_16_code (1 : Nat) (Option.some (Jvm.ClassFile.FieldType.array (Jvm.ClassFile.FieldType.object "java/lang/Object")))).before args0 about1 = true := code_word (m := ⟨23, 4⟩) (meth := k23m4) (c := k23c4) (by decide +kernel) rfl rfl rfl (by decide +kernel)
set_option maxRecDepth 65536 in
theorem w_c28 : (Jvm.Cond.code ({ cls := "java/util/Arrays", name := "copyOf", desc := "([Ljava/lang/Object;I)[Ljava/lang/Object;" } : Jvm.MethodName) jdk_65_method_119_code (2 : Nat) (Option.some (Jvm.ClassFile.FieldType.array (Jvm.ClassFile.FieldType.object "java/lang/Object")))).before args0 about1 = true := code_word (m := ⟨32, 1⟩) (meth := k32m1) (c := k32c1) (by decide +kernel) rfl rfl rfl (by decide +kernel)
set_option maxRecDepth 65536 in
theorem w_c29 : (Jvm.Cond.code ({ cls := "java/util/Arrays", name := "copyOf", desc := "([Ljava/lang/Object;ILjava/lang/Class;)[Ljava/lang/Object;" } : Jvm.MethodName) jdk_65_method_120_code (4 : Nat) (Option.some (Jvm.ClassFile.FieldType.array (Jvm.ClassFile.FieldType.object "java/lang/Object")))).before args0 about1 = true := code_word (m := ⟨32, 2⟩) (meth := k32m2) (c := k32c2) (by decide +kernel) rfl rfl rfl (by decide +kernel)
set_option maxRecDepth 65536 in
theorem w_c30 : (Jvm.Cond.code ({ cls := "java/lang/Math", name := "min", desc := "(II)I" } : Jvm.MethodName) jdk_29_method_69_code (2 : Nat) (Option.some Jvm.ClassFile.FieldType.int)).before args0 about1 = true := code_word (m := ⟨30, 2⟩) (meth := k30m2) (c := k30c2) (by decide +kernel) rfl rfl rfl (by decide +kernel)
set_option maxRecDepth 65536 in
theorem w_c31 : (Jvm.Cond.code ({ cls := "java/util/List", name := "of", desc := "([Ljava/lang/Object;)Ljava/util/List;" } : Jvm.MethodName) jdk_40_method_47_code (2 : Nat) (Option.some (Jvm.ClassFile.FieldType.object "java/util/List"))).before args0 about1 = true := code_word (m := ⟨19, 2⟩) (meth := k19m2) (c := k19c2) (by decide +kernel) rfl rfl rfl (by decide +kernel)
set_option maxRecDepth 65536 in
theorem w_c32 : (Jvm.Cond.code ({ cls := "java/util/ImmutableCollections$List12", name := "<init>", desc := "(Ljava/lang/Object;Ljava/lang/Object;)V" } : Jvm.MethodName) jdk_44_method_2_code (3 : Nat) (Option.none : Option Jvm.ClassFile.FieldType)).before args0 about1 = true := code_word (m := ⟨27, 1⟩) (meth := k27m1) (c := k27c1) (by decide +kernel) rfl rfl rfl (by decide +kernel)
set_option maxRecDepth 65536 in
theorem w_c33 : (Jvm.Cond.code ({ cls := "java/util/ImmutableCollections$AbstractImmutableList", name := "<init>", desc := "()V" } : Jvm.MethodName) jdk_46_method_1_code (1 : Nat) (Option.none : Option Jvm.ClassFile.FieldType)).before args0 about1 = true := code_word (m := ⟨26, 0⟩) (meth := k26m0) (c := k26c0) (by decide +kernel) rfl rfl rfl (by decide +kernel)
set_option maxRecDepth 65536 in
theorem w_c34 : (Jvm.Cond.code ({ cls := "java/util/ImmutableCollections$AbstractImmutableCollection", name := "<init>", desc := "()V" } : Jvm.MethodName) jdk_47_method_1_code (1 : Nat) (Option.none : Option Jvm.ClassFile.FieldType)).before args0 about1 = true := code_word (m := ⟨25, 0⟩) (meth := k25m0) (c := k25c0) (by decide +kernel) rfl rfl rfl (by decide +kernel)
set_option maxRecDepth 65536 in
theorem w_c35 : (Jvm.Cond.code ({ cls := "java/util/Objects", name := "requireNonNull", desc := "(Ljava/lang/Object;)Ljava/lang/Object;" } : Jvm.MethodName) jdk_31_method_10_code (1 : Nat) (Option.some (Jvm.ClassFile.FieldType.object "java/lang/Object"))).before args0 about1 = true := code_word (m := ⟨34, 1⟩) (meth := k34m1) (c := k34c1) (by decide +kernel) rfl rfl rfl (by decide +kernel)
set_option maxRecDepth 65536 in
theorem w_c36 : (Jvm.Cond.code ({ cls := "java/util/ImmutableCollections$List12", name := "<init>", desc := "(Ljava/lang/Object;)V" } : Jvm.MethodName) jdk_44_method_1_code (2 : Nat) (Option.none : Option Jvm.ClassFile.FieldType)).before args0 about1 = true := code_word (m := ⟨27, 0⟩) (meth := k27m0) (c := k27c0) (by decide +kernel) rfl rfl rfl (by decide +kernel)
set_option maxRecDepth 65536 in
theorem w_c37 : (Jvm.Cond.code ({ cls := "com/example/sorrel/sorrel/middle/ir/Instruction$Jump", name := "endsBlock", desc := "()Z" } : Jvm.MethodName) prog_125_method_3_code (1 : Nat) (Option.some Jvm.ClassFile.FieldType.boolean)).before args0 about1 = true := code_word (m := ⟨9, 1⟩) (meth := k9m1) (c := k9c1) (by decide +kernel) rfl rfl rfl (by decide +kernel)
set_option maxRecDepth 65536 in
theorem w_c38 : (Jvm.Cond.code ({ cls := "java/util/ImmutableCollections", name := "listFromArray", desc := "([Ljava/lang/Object;)Ljava/util/List;" } : Jvm.MethodName) jdk_56_method_4_code (3 : Nat) (Option.some (Jvm.ClassFile.FieldType.object "java/util/List"))).before args0 about1 = true := code_word (m := ⟨24, 2⟩) (meth := k24m2) (c := k24c2) (by decide +kernel) rfl rfl rfl (by decide +kernel)
set_option maxRecDepth 65536 in
theorem w_c39 : (Jvm.Cond.code ({ cls := "java/util/ImmutableCollections$ListN", name := "<init>", desc := "([Ljava/lang/Object;Z)V" } : Jvm.MethodName) jdk_45_method_1_code (3 : Nat) (Option.none : Option Jvm.ClassFile.FieldType)).before args0 about1 = true := code_word (m := ⟨28, 0⟩) (meth := k28m0) (c := k28c0) (by decide +kernel) rfl rfl rfl (by decide +kernel)
def codes1 : List Jvm.Cond := [Jvm.Cond.code x code maxLocals ret, Jvm.Cond.code ({ cls := "com/example/sorrel/sorrel/middle/ir/FunctionBuilderIsOpenPinLaw", name := "pick", desc := "(I)Lcom/example/sorrel/sorrel/middle/ir/Value$Type;" } : Jvm.MethodName) method_3_code (2 : Nat) (Option.some (Jvm.ClassFile.FieldType.object "com/example/sorrel/sorrel/middle/ir/Value$Type")), Jvm.Cond.code ({ cls := "com/example/sorrel/sorrel/middle/ir/Instruction$Jump", name := "<init>", desc := "(Ljava/lang/String;)V" } : Jvm.MethodName) prog_125_method_1_code (2 : Nat) (Option.none : Option Jvm.ClassFile.FieldType), Jvm.Cond.code ({ cls := "java/lang/Record", name := "<init>", desc := "()V" } : Jvm.MethodName) jdk_30_method_1_code (1 : Nat) (Option.none : Option Jvm.ClassFile.FieldType), Jvm.Cond.code ({ cls := "java/lang/Object", name := "<init>", desc := "()V" } : Jvm.MethodName) object_method_1_code (1 : Nat) (Option.none : Option Jvm.ClassFile.FieldType), Jvm.Cond.code ({ cls := "com/example/sorrel/sorrel/middle/ir/Instruction$Return", name := "<init>", desc := "(Lcom/example/sorrel/sorrel/middle/ir/Value;)V" } : Jvm.MethodName) prog_132_method_1_code (2 : Nat) (Option.none : Option Jvm.ClassFile.FieldType), Jvm.Cond.code ({ cls := "java/util/ArrayList", name := "<init>", desc := "()V" } : Jvm.MethodName) jdk_38_method_2_code (1 : Nat) (Option.none : Option Jvm.ClassFile.FieldType), Jvm.Cond.code ({ cls := "java/util/AbstractList", name := "<init>", desc := "()V" } : Jvm.MethodName) jdk_39_method_1_code (1 : Nat) (Option.none : Option Jvm.ClassFile.FieldType), Jvm.Cond.code ({ cls := "java/util/AbstractCollection", name := "<init>", desc := "()V" } : Jvm.MethodName) jdk_22_method_1_code (1 : Nat) (Option.none : Option Jvm.ClassFile.FieldType), Jvm.Cond.code ({ cls := "com/example/sorrel/sorrel/middle/ir/Instruction$Call", name := "<init>", desc := "(Lcom/example/sorrel/sorrel/middle/ir/Value;Ljava/lang/String;Ljava/util/List;)V" } : Jvm.MethodName) prog_119_method_1_code (4 : Nat) (Option.none : Option Jvm.ClassFile.FieldType), Jvm.Cond.code ({ cls := "java/util/List", name := "copyOf", desc := "(Ljava/util/Collection;)Ljava/util/List;" } : Jvm.MethodName) jdk_40_method_48_code (1 : Nat) (Option.some (Jvm.ClassFile.FieldType.object "java/util/List")), Jvm.Cond.code ({ cls := "java/util/ImmutableCollections", name := "listCopy", desc := "(Ljava/util/Collection;)Ljava/util/List;" } : Jvm.MethodName) jdk_56_method_3_code (2 : Nat) (Option.some (Jvm.ClassFile.FieldType.object "java/util/List")), Jvm.Cond.code ({ cls := "java/util/ArrayList", name := "isEmpty", desc := "()Z" } : Jvm.MethodName) jdk_38_method_9_code (1 : Nat) (Option.some Jvm.ClassFile.FieldType.boolean), Jvm.Cond.code ({ cls := "java/util/List", name := "of", desc := "()Ljava/util/List;" } : Jvm.MethodName) jdk_40_method_36_code (0 : Nat) (Option.some (Jvm.ClassFile.FieldType.object "java/util/List")), Jvm.Cond.code ({ cls := "com/example/sorrel/sorrel/middle/ir/FunctionBuilder", name := "<init>", desc := "(Ljava/lang/String;Lcom/example/sorrel/sorrel/middle/ir/Value$Type;)V" } : Jvm.MethodName) prog_113_method_1_code (3 : Nat) (Option.none : Option Jvm.ClassFile.FieldType), Jvm.Cond.code ({ cls := "com/example/sorrel/sorrel/middle/ir/FunctionBuilder", name := "startBlock", desc := "(Ljava/lang/String;)V" } : Jvm.MethodName) prog_113_method_7_code (2 : Nat) (Option.none : Option Jvm.ClassFile.FieldType), Jvm.Cond.code ({ cls := "com/example/sorrel/sorrel/middle/ir/FunctionBuilder", name := "isOpen", desc := "()Z" } : Jvm.MethodName) prog_113_method_5_code (1 : Nat) (Option.some Jvm.ClassFile.FieldType.boolean), Jvm.Cond.code ({ cls := "com/example/sorrel/sorrel/middle/ir/FunctionBuilderIsOpenPinLaw", name := "step", desc := "(Lcom/example/sorrel/sorrel/middle/ir/FunctionBuilder;IILcom/example/sorrel/sorrel/middle/ir/Instruction;Lcom/example/sorrel/sorrel/middle/ir/Instruction;Lcom/example/sorrel/sorrel/middle/ir/Instruction;)I" } : Jvm.MethodName) method_4_code (8 : Nat) (Option.some Jvm.ClassFile.FieldType.int), Jvm.Cond.code ({ cls := "com/example/sorrel/sorrel/middle/ir/FunctionBuilder", name := "add", desc := "(Lcom/example/sorrel/sorrel/middle/ir/Instruction;)V" } : Jvm.MethodName) prog_113_method_6_code (2 : Nat) (Option.none : Option Jvm.ClassFile.FieldType), Jvm.Cond.code ({ cls := "java/util/ArrayList", name := "add", desc := "(Ljava/lang/Object;)Z" } : Jvm.MethodName) jdk_38_method_25_code (2 : Nat) (Option.some Jvm.ClassFile.FieldType.boolean), Jvm.Cond.code ({ cls := "java/util/ArrayList", name := "add", desc := "(Ljava/lang/Object;[Ljava/lang/Object;I)V" } : Jvm.MethodName) jdk_38_method_24_code (4 : Nat) (Option.none : Option Jvm.ClassFile.FieldType), Jvm.Cond.code ({ cls := "java/util/ArrayList", name := "grow", desc := "()[Ljava/lang/Object;" } : Jvm.MethodName) jdk_38_method_7_code (1 : Nat) (Option.some (Jvm.ClassFile.FieldType.array (Jvm.ClassFile.FieldType.object "java/lang/Object"))), Jvm.Cond.code ({ cls := "java/util/ArrayList", name := "grow", desc := "(I)[Ljava/lang/Object;" } : Jvm.MethodName) jdk_38_method_6_code (4 : Nat) (Option.some (Jvm.ClassFile.FieldType.array (Jvm.ClassFile.FieldType.object "java/lang/Object"))), Jvm.Cond.code ({ cls := "java/lang/Math", name := "max", desc := "(II)I" } : Jvm.MethodName) jdk_29_method_65_code (2 : Nat) (Option.some Jvm.ClassFile.FieldType.int), Jvm.Cond.code ({ cls := "com/example/sorrel/sorrel/middle/ir/Instruction", name := "endsBlock", desc := "()Z" } : Jvm.MethodName) prog_115_method_3_code (1 : Nat) (Option.some Jvm.ClassFile.FieldType.boolean), Jvm.Cond.code ({ cls := "com/example/sorrel/sorrel/middle/ir/Instruction$Return", name := "endsBlock", desc := "()Z" } : Jvm.MethodName) prog_132_method_4_code (1 : Nat) (Option.some Jvm.ClassFile.FieldType.boolean), Jvm.Cond.code ({ cls := "com/example/sorrel/sorrel/middle/ir/Block", name := "<init>", desc := "(Ljava/lang/String;Ljava/util/List;)V" } : Jvm.MethodName) prog_108_method_1_code (3 : Nat) (Option.none : Option Jvm.ClassFile.FieldType), Jvm.Cond.code ({ cls := "java/util/ArrayList", name := "toArray", desc := "()[Ljava/lang/Object;" } : Jvm.MethodName) jdk_38_method_16_code (1 : Nat) (Option.some (Jvm.ClassFile.FieldType.array (Jvm.ClassFile.FieldType.object "java/lang/Object"))), Jvm.Cond.code ({ cls := "java/util/Arrays", name := "copyOf", desc := "([Ljava/lang/Object;I)[Ljava/lang/Object;" } : Jvm.MethodName) jdk_65_method_119_code (2 : Nat) (Option.some (Jvm.ClassFile.FieldType.array (Jvm.ClassFile.FieldType.object "java/lang/Object"))), Jvm.Cond.code ({ cls := "java/util/Arrays", name := "copyOf", desc := "([Ljava/lang/Object;ILjava/lang/Class;)[Ljava/lang/Object;" } : Jvm.MethodName) jdk_65_method_120_code (4 : Nat) (Option.some (Jvm.ClassFile.FieldType.array (Jvm.ClassFile.FieldType.object "java/lang/Object"))), Jvm.Cond.code ({ cls := "java/lang/Math", name := "min", desc := "(II)I" } : Jvm.MethodName) jdk_29_method_69_code (2 : Nat) (Option.some Jvm.ClassFile.FieldType.int), Jvm.Cond.code ({ cls := "java/util/List", name := "of", desc := "([Ljava/lang/Object;)Ljava/util/List;" } : Jvm.MethodName) jdk_40_method_47_code (2 : Nat) (Option.some (Jvm.ClassFile.FieldType.object "java/util/List")), Jvm.Cond.code ({ cls := "java/util/ImmutableCollections$List12", name := "<init>", desc := "(Ljava/lang/Object;Ljava/lang/Object;)V" } : Jvm.MethodName) jdk_44_method_2_code (3 : Nat) (Option.none : Option Jvm.ClassFile.FieldType), Jvm.Cond.code ({ cls := "java/util/ImmutableCollections$AbstractImmutableList", name := "<init>", desc := "()V" } : Jvm.MethodName) jdk_46_method_1_code (1 : Nat) (Option.none : Option Jvm.ClassFile.FieldType), Jvm.Cond.code ({ cls := "java/util/ImmutableCollections$AbstractImmutableCollection", name := "<init>", desc := "()V" } : Jvm.MethodName) jdk_47_method_1_code (1 : Nat) (Option.none : Option Jvm.ClassFile.FieldType), Jvm.Cond.code ({ cls := "java/util/Objects", name := "requireNonNull", desc := "(Ljava/lang/Object;)Ljava/lang/Object;" } : Jvm.MethodName) jdk_31_method_10_code (1 : Nat) (Option.some (Jvm.ClassFile.FieldType.object "java/lang/Object")), Jvm.Cond.code ({ cls := "java/util/ImmutableCollections$List12", name := "<init>", desc := "(Ljava/lang/Object;)V" } : Jvm.MethodName) jdk_44_method_1_code (2 : Nat) (Option.none : Option Jvm.ClassFile.FieldType), Jvm.Cond.code ({ cls := "com/example/sorrel/sorrel/middle/ir/Instruction$Jump", name := "endsBlock", desc := "()Z" } : Jvm.MethodName) prog_125_method_3_code (1 : Nat) (Option.some Jvm.ClassFile.FieldType.boolean), Jvm.Cond.code ({ cls := "java/util/ImmutableCollections", name := "listFromArray", desc := "([Ljava/lang/Object;)Ljava/util/List;" } : Jvm.MethodName) jdk_56_method_4_code (3 : Nat) (Option.some (Jvm.ClassFile.FieldType.object "java/util/List")), Jvm.Cond.code ({ cls := "java/util/ImmutableCollections$ListN", name := "<init>", desc := "([Ljava/lang/Object;Z)V" } : Jvm.MethodName) jdk_45_method_1_code (3 : Nat) (Option.none : Option Jvm.ClassFile.FieldType)]
set_option maxRecDepth 65536 in
theorem codes_eq : words1.filter isCode = codes1 := rfl
theorem w_codes : ∀ c ∈ words1.filter isCode, c.before args0 about1 = true := by
  rw [codes_eq]
  intro c hc
  simp only [codes1, List.mem_cons, List.not_mem_nil, or_false] at hc
  rcases hc with rfl | rfl | rfl | rfl | rfl | rfl | rfl | rfl | rfl | rfl | rfl | rfl | rfl | rfl | rfl | rfl | rfl | rfl | rfl | rfl | rfl | rfl | rfl | rfl | rfl | rfl | rfl | rfl | rfl | rfl | rfl | rfl | rfl | rfl | rfl | rfl | rfl | rfl | rfl | rfl
  · exact w_c0
  · exact w_c1
  · exact w_c2
  · exact w_c3
  · exact w_c4
  · exact w_c5
  · exact w_c6
  · exact w_c7
  · exact w_c8
  · exact w_c9
  · exact w_c10
  · exact w_c11
  · exact w_c12
  · exact w_c13
  · exact w_c14
  · exact w_c15
  · exact w_c16
  · exact w_c17
  · exact w_c18
  · exact w_c19
  · exact w_c20
  · exact w_c21
  · exact w_c22
  · exact w_c23
  · exact w_c24
  · exact w_c25
  · exact w_c26
  · exact w_c27
  · exact w_c28
  · exact w_c29
  · exact w_c30
  · exact w_c31
  · exact w_c32
  · exact w_c33
  · exact w_c34
  · exact w_c35
  · exact w_c36
  · exact w_c37
  · exact w_c38
  · exact w_c39
set_option maxRecDepth 65536 in
theorem w_t1 : (words1.take 24).all (fun c => isCode c || c.before args0 about1) = true := by decide +kernel
set_option maxRecDepth 65536 in
theorem w_t2 : ((words1.drop 24).take 24).all (fun c => isCode c || c.before args0 about1) = true := by decide +kernel
set_option maxRecDepth 65536 in
theorem w_t3 : (((words1.drop 24).drop 24).take 24).all (fun c => isCode c || c.before args0 about1) = true := by decide +kernel
set_option maxRecDepth 65536 in
theorem w_t4 : ((((words1.drop 24).drop 24).drop 24).take 24).all (fun c => isCode c || c.before args0 about1) = true := by decide +kernel
set_option maxRecDepth 65536 in
theorem w_t5 : (((((words1.drop 24).drop 24).drop 24).drop 24).take 24).all (fun c => isCode c || c.before args0 about1) = true := by decide +kernel
set_option maxRecDepth 65536 in
theorem w_t6 : ((((((words1.drop 24).drop 24).drop 24).drop 24).drop 24).take 24).all (fun c => isCode c || c.before args0 about1) = true := by decide +kernel
set_option maxRecDepth 65536 in
theorem w_t7 : (((((((words1.drop 24).drop 24).drop 24).drop 24).drop 24).drop 24).take 24).all (fun c => isCode c || c.before args0 about1) = true := by decide +kernel
set_option maxRecDepth 65536 in
theorem w_t8 : ((((((((words1.drop 24).drop 24).drop 24).drop 24).drop 24).drop 24).drop 24).take 24).all (fun c => isCode c || c.before args0 about1) = true := by decide +kernel
set_option maxRecDepth 65536 in
theorem w_t9 : (((((((((words1.drop 24).drop 24).drop 24).drop 24).drop 24).drop 24).drop 24).drop 24).take 24).all (fun c => isCode c || c.before args0 about1) = true := by decide +kernel
set_option maxRecDepth 65536 in
theorem w_t10 : ((((((((((words1.drop 24).drop 24).drop 24).drop 24).drop 24).drop 24).drop 24).drop 24).drop 24).take 24).all (fun c => isCode c || c.before args0 about1) = true := by decide +kernel
set_option maxRecDepth 65536 in
theorem w_t11 : (((((((((((words1.drop 24).drop 24).drop 24).drop 24).drop 24).drop 24).drop 24).drop 24).drop 24).drop 24).take 24).all (fun c => isCode c || c.before args0 about1) = true := by decide +kernel
set_option maxRecDepth 65536 in
theorem w_t12 : ((((((((((((words1.drop 24).drop 24).drop 24).drop 24).drop 24).drop 24).drop 24).drop 24).drop 24).drop 24).drop 24).take 24).all (fun c => isCode c || c.before args0 about1) = true := by decide +kernel
set_option maxRecDepth 65536 in
theorem w_t13 : ((((((((((((words1.drop 24).drop 24).drop 24).drop 24).drop 24).drop 24).drop 24).drop 24).drop 24).drop 24).drop 24).drop 24).all (fun c => isCode c || c.before args0 about1) = true := by decide +kernel
theorem w_tables : (allAtoms (Jvm.Cond.code x code maxLocals ret :: tables_1)).before args0 about1 = true := by
  rw [allAtoms_all]
  show words1.all (fun c => c.before args0 about1) = true
  refine all_split ?_ w_codes
  rw [← List.take_append_drop 24 words1, List.all_append, w_t1, ← List.take_append_drop 24 (words1.drop 24), List.all_append, w_t2, ← List.take_append_drop 24 ((words1.drop 24).drop 24), List.all_append, w_t3, ← List.take_append_drop 24 (((words1.drop 24).drop 24).drop 24), List.all_append, w_t4, ← List.take_append_drop 24 ((((words1.drop 24).drop 24).drop 24).drop 24), List.all_append, w_t5, ← List.take_append_drop 24 (((((words1.drop 24).drop 24).drop 24).drop 24).drop 24), List.all_append, w_t6, ← List.take_append_drop 24 ((((((words1.drop 24).drop 24).drop 24).drop 24).drop 24).drop 24), List.all_append, w_t7, ← List.take_append_drop 24 (((((((words1.drop 24).drop 24).drop 24).drop 24).drop 24).drop 24).drop 24), List.all_append, w_t8, ← List.take_append_drop 24 ((((((((words1.drop 24).drop 24).drop 24).drop 24).drop 24).drop 24).drop 24).drop 24), List.all_append, w_t9, ← List.take_append_drop 24 (((((((((words1.drop 24).drop 24).drop 24).drop 24).drop 24).drop 24).drop 24).drop 24).drop 24), List.all_append, w_t10, ← List.take_append_drop 24 ((((((((((words1.drop 24).drop 24).drop 24).drop 24).drop 24).drop 24).drop 24).drop 24).drop 24).drop 24), List.all_append, w_t11, ← List.take_append_drop 24 (((((((((((words1.drop 24).drop 24).drop 24).drop 24).drop 24).drop 24).drop 24).drop 24).drop 24).drop 24).drop 24), List.all_append, w_t12, w_t13]
  rfl
set_option maxRecDepth 65536 in
theorem w_rest : rest_1_c.before args0 about1 = true := by decide +kernel
set_option maxRecDepth 65536 in
theorem w_case : (Jvm.Cond.and given_1 narrow_1).before args0 about1 = true := by decide +kernel
theorem w_applies : (headSpec (Jvm.Cond.code x code maxLocals ret :: tables_1) room_1).applies x e0.platform about1 = true :=
  (Spec.applies_iff w_frames).mpr ⟨w_running, w_runnable, w_alone, w_named, w_hears, w_ripe, w_room, w_tables⟩
theorem atStart : AtStart classFile x code maxLocals ret World_1 tables_1 room_1 Calls_1 rest_1 Pre_1 launch0 p0 e0 about1 theMethod args0 below0 :=
  ⟨lists_1, trivial, launch0.admits_env _ _ _, launch0.least_env, fairChoices_fair.cas, fairChoices_fair.clock, w_frames, w_args, w_heap, w_applies, ⟨⟨40, k40, 3, by decide +kernel, rfl, rfl, _, rfl, rfl⟩, trivial⟩, w_rest, w_case⟩
end start1
theorem witness_1 : WitnessClaimed_1 := ⟨start1.p0, start1.e0, start1.about1, start1.theMethod, start1.args0, start1.below0, start1.atStart⟩
end Jvm.Pilot.@@N@@
