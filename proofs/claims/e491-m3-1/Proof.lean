import JvmDerived
import JvmDerived.Pilot.@@N@@Statement
import JvmDerived.Pilot.@@N@@Code
set_option linter.unusedVariables false
set_option linter.unusedSimpArgs false
namespace Jvm.OwnGo
open Sem ClassFile Op Lib Jvm.Stand Jvm.Free Jvm.LawKit Jvm.RoadKit
/-- from the state T with the frame g on top the run comes to the body's end, what is left there meets Q, and the end is framed as E says -/
def Go (p : Program) (e : Env) (below : List Frame) (E : Outcome → State → List Loc → Prop) (Q : Option Value → Heap → List Loc → Prop) (T : State) (g : JFrame) : Prop :=
  ∃ s₂ o, Steps p.tables e below (T.setTop g) s₂ ∧ s₂.status = .running ∧ Ended s₂ below o ∧ ∃ v L, o = .returned v ∧ Q v s₂.heap L ∧ E o s₂ L
abbrev En (s : State) (kc ks : Nat) : Outcome → State → List Loc → Prop := fun o t L => FrameEnd s o t L kc ks
/-- the wide end: the run may have interned its literals -/
abbrev EnW (s : State) (kc ks : Nat) : Outcome → State → List Loc → Prop := fun o t L => ReturnedEndW s o t L kc ks
/-- what a body promises, at one heap and one row of arguments -/
def Ctr (l : Launch) (Z : State) (y : MethodName) (bytes : ByteArray) (maxL : Nat) (ret : Option FieldType) (rm : Room) (as : Array Value) (h : Heap) (Q : Option Value → Heap → List Loc → Prop) : Prop :=
  ∀ ws : List Jvm.Cond, MetFree l y (head1 (Jvm.Cond.code y bytes maxL ret :: ws) rm) (fun a U => a = as ∧ Z.Warmed39 U.vm ∧ U.heap = h) (fun _ _ _ _ _ => True) (fun _ U o U' => ∃ v L, o = .returned v ∧ Q v U'.heap L ∧ FrameEnd U o U' L rm.cells rm.slots)
/-- the same of a body that may intern its literals -/
def CtrW (l : Launch) (Z : State) (y : MethodName) (bytes : ByteArray) (maxL : Nat) (ret : Option FieldType) (rm : Room) (as : Array Value) (h : Heap) (Q : Option Value → Heap → List Loc → Prop) : Prop :=
  ∀ ws : List Jvm.Cond, MetFree l y (head1 (Jvm.Cond.code y bytes maxL ret :: ws) rm) (fun a U => a = as ∧ Z.Warmed39 U.vm ∧ U.heap = h) (fun _ _ _ _ _ => True) (fun _ U o U' => ∃ v L, o = .returned v ∧ Q v U'.heap L ∧ ReturnedEndW U o U' L rm.cells rm.slots)
/-- how a walk that stands here may leave -/
def Lv (e : Env) (m : MethodId) (meth : Method) (below : List Frame) (E : Outcome → State → List Loc → Prop) (T : State) (locs : List Loc) : Prop :=
  ∀ v : Option Value, (meth.sig.returnType = none → v = none) → ∃ fs, (∀ (f : JFrame) (acts : List Action), f.method = m → f.locked = none → f.entered = [] → (doReturn e (T.setTop f) acts v).1 = T.setFrames fs) ∧ (T.setFrames fs).status = .running ∧ Ended (T.setFrames fs) below (.returned v) ∧ E (.returned v) (T.setFrames fs) locs
abbrev us (x y : Int32) : Int32 := (x.toUInt32 >>> (y &&& 31).toUInt32).toInt32
abbrev usL (x : Int64) (y : Int32) : Int64 := (x.toUInt64 >>> (y &&& 0x3f).toInt64.toUInt64).toInt64
section G
variable {p : Program} {l : Launch} {e : Env} {R : Room} {s : State} {m : MethodId} {args : Array Value} {below : List Frame} {meth : Method} {c : Code} {T T' : State} {locs : List Loc} {cells slots : Nat} {E : Outcome → State → List Loc → Prop} {Q : Option Value → Heap → List Loc → Prop} {kc ks : Nat} {g g' : JFrame} {Z : State} {a0 : Array Value} {h : Heap}
/-- another state that stands as this one does -/
abbrev Same (X : Stand p l e R s m args below meth c T locs cells slots) (T' : State) : Prop := Stand p l e R s m args below meth c T' locs cells slots
theorem Go.by (st : ∀ t, Steps p.tables e below (T'.setTop g') t → Steps p.tables e below (T.setTop g) t) (k : Go p e below E Q T' g') : Go p e below E Q T g := by
  obtain ⟨s₂, o, h1, h2⟩ := k
  exact ⟨s₂, o, st _ h1, h2⟩
theorem Lv.narrow (X : Stand p l e R s m args below meth c T locs cells slots) (hlk : meth.locks = false) (hc : cells ≤ kc) (hs : slots ≤ ks) : Lv e m meth below (En s kc ks) T locs := by
  intro v hv
  obtain ⟨fs, hr, hrun, hended, hW, hsame⟩ := X.leave (v := v) hv hlk
  exact ⟨fs, hr, hrun, hended, ⟨_, rfl⟩, hW, hsame.mono hc hs⟩
theorem Lv.wide {vm0 : Vm} {k0 : Nat} (X : Stand p l e R (s.setVm vm0) m args below meth c T locs cells slots) (hlk : meth.locks = false) (hS : s.Since vm0 k0) (hk : k0 ≤ T.heap.size) (hc : cells ≤ kc) (hs : slots ≤ ks) : Lv e m meth below (EnW s kc ks) T locs := by
  intro v hv
  obtain ⟨fs, hr, hrun, hended, h1, h2, h3, hsame⟩ := X.leaveW hS hk (v := v) hv hlk
  exact ⟨fs, hr, hrun, hended, h1, h2, h3, hsame.mono hc hs⟩
theorem Go.out (lv : Lv e m meth below E T locs) {v : Option Value} (hv : meth.sig.returnType = none → v = none) (hQ : Q v T.heap locs)
    (st : ∀ fs, (∀ (f : JFrame) (acts : List Action), f.method = m → f.locked = none → f.entered = [] → (doReturn e (T.setTop f) acts v).1 = T.setFrames fs) → Steps p.tables e below (T.setTop g) (T.setFrames fs)) : Go p e below E Q T g := by
  obtain ⟨fs, hr, hrun, hended, hE⟩ := lv v hv
  exact ⟨_, _, st fs hr, hrun, hended, v, locs, rfl, hQ, hE⟩
theorem Go.outV (X : Stand p l e R s m args below meth c T locs cells slots) (hx : p.tables.exec = Jvm.exec) {t : FieldType} {w : Value} {i : Instr} {pc : Nat} {Ls : Array Slot} {rest : List Value} (hret : meth.sig.returnType = some t) (lv : Lv e m meth below E T locs)
    (hn : narrow t w = w)
    (hi : (i = .ireturn ∧ (t = .int ∨ t = .boolean ∨ t = .byte ∨ t = .char ∨ t = .short) ∧ ∃ z, w = .int z) ∨ (i = .lreturn ∧ t = .long ∧ ∃ z, w = .long z) ∨ (i = .dreturn ∧ t = .double ∧ ∃ z, w = .double z) ∨ (i = .freturn ∧ t = .float ∧ ∃ z, w = .float z) ∨ (i = .areturn ∧ t.isReference = true ∧ w.isRef = true))
    (hd : decode c.code pc = .ok (i, 1)) (hQ : Q (some w) T.heap locs) : Go p e below E Q T (mkF m pc Ls (w :: rest)) :=
  Go.out lv (fun h => by rw [hret] at h; cases h) hQ (fun fs hr => retOut X hx hret hn hi hd hr)
theorem Go.outI (X : Stand p l e R s m args below meth c T locs cells slots) (hx : p.tables.exec = Jvm.exec) {z : Int32} {pc : Nat} {Ls : Array Slot} {rest : List Value} (hret : meth.sig.returnType = some .int) (lv : Lv e m meth below E T locs)
    (hd : decode c.code pc = .ok (.ireturn, 1)) (hQ : Q (some (.int z)) T.heap locs) : Go p e below E Q T (mkF m pc Ls (.int z :: rest)) :=
  Go.outV X hx hret lv rfl (Or.inl ⟨rfl, Or.inl rfl, z, rfl⟩) hd hQ
theorem Go.outZ (X : Stand p l e R s m args below meth c T locs cells slots) (hx : p.tables.exec = Jvm.exec) {z : Int32} {pc : Nat} {Ls : Array Slot} {rest : List Value} (hret : meth.sig.returnType = some .boolean) (lv : Lv e m meth below E T locs)
    (hd : decode c.code pc = .ok (.ireturn, 1)) (hz : z = 0 ∨ z = 1) (hQ : Q (some (.int z)) T.heap locs) : Go p e below E Q T (mkF m pc Ls (.int z :: rest)) :=
  Go.outV X hx hret lv (by rcases hz with rfl | rfl <;> rfl) (Or.inl ⟨rfl, Or.inr (Or.inl rfl), z, rfl⟩) hd hQ
theorem Go.outJ (X : Stand p l e R s m args below meth c T locs cells slots) (hx : p.tables.exec = Jvm.exec) {z : Int64} {pc : Nat} {Ls : Array Slot} {rest : List Value} (hret : meth.sig.returnType = some .long) (lv : Lv e m meth below E T locs)
    (hd : decode c.code pc = .ok (.lreturn, 1)) (hQ : Q (some (.long z)) T.heap locs) : Go p e below E Q T (mkF m pc Ls (.long z :: rest)) :=
  Go.outV X hx hret lv rfl (Or.inr (Or.inl ⟨rfl, rfl, z, rfl⟩)) hd hQ
theorem nar_ref {t : FieldType} {w : Value} (ht : t.isReference = true) : narrow t w = w := by cases t <;> first | rfl | (simp [FieldType.isReference] at ht)
theorem Go.outA (X : Stand p l e R s m args below meth c T locs cells slots) (hx : p.tables.exec = Jvm.exec) {w : Value} {t : FieldType} {pc : Nat} {Ls : Array Slot} {rest : List Value} (hret : meth.sig.returnType = some t) (lv : Lv e m meth below E T locs) (ht : t.isReference = true) (hw : w.isRef = true)
    (hd : decode c.code pc = .ok (.areturn, 1)) (hQ : Q (some w) T.heap locs) : Go p e below E Q T (mkF m pc Ls (w :: rest)) :=
  Go.outV X hx hret lv (nar_ref ht) (Or.inr (Or.inr (Or.inr (Or.inr ⟨rfl, ht, hw⟩)))) hd hQ
theorem Go.outN (X : Stand p l e R s m args below meth c T locs cells slots) (hx : p.tables.exec = Jvm.exec) {pc : Nat} {Ls : Array Slot} (hret : meth.sig.returnType = none) (lv : Lv e m meth below E T locs)
    (hd : decode c.code pc = .ok (.return_, 1)) (hQ : Q none T.heap locs) : Go p e below E Q T (mkF m pc Ls []) :=
  Go.out lv (fun _ => rfl) hQ (fun fs hr => X.returnOut hx hret hd hr)
theorem Ctr.of {y : MethodName} {bytes : ByteArray} {maxL : Nat} {ret : Option FieldType} {rm : Room} {as : Array Value} {Ls : Array Slot} (hpn : plainFor y = true) (hef : ∀ m, entryFrame m as maxL = mkF m 0 Ls [])
    (body : ∀ (p : Program) (e : Env) (s : State) (m : MethodId) (below : List Frame) (meth : Method) (c : Code) (T0 : State), p.tables.exec = Jvm.exec → c.code = bytes → c.maxLocals = maxL → meth.sig.returnType = ret → meth.locks = false → meth.name = y.name → Z.Warmed39 s.vm → s.vm.findClass y.cls = some m.cls → T0.heap = h → Stand p l e rm s m as below meth c T0 [] 0 0 → Go p e below (En s rm.cells rm.slots) Q T0 (mkF m 0 Ls [])) :
    Ctr l Z y bytes maxL ret rm as h Q := by
  intro ws
  refine MetFree.of_bodySF hpn hisR ?_
  intro p e s m args below meth c s₁ Bd hml0 hP hK
  obtain ⟨ha, hZ, hh⟩ := hP
  subst ha
  have X0 : Stand p l e rm s m args below meth c s₁ [] 0 0 := Stand.of_body Bd
  obtain ⟨s₂, o, h1, h2⟩ := body p e s m below meth c s₁ Bd.exec Bd.bytes hml0 Bd.returns (BodyLoose.notSynchronized Bd) (name_of_methodNamed Bd.named Bd.method).1 hZ (findClass_of_methodNamed Bd.named) (by rw [← hh, Bd.state]; rfl) X0
  exact ⟨s₂, o, castTop (hef m) h1, h2⟩
theorem CtrW.of {y : MethodName} {bytes : ByteArray} {maxL : Nat} {ret : Option FieldType} {rm : Room} {as : Array Value} {Ls : Array Slot} (hpn : plainFor y = true) (hef : ∀ m, entryFrame m as maxL = mkF m 0 Ls [])
    (body : ∀ (p : Program) (e : Env) (s : State) (vm0 : Vm) (m : MethodId) (below : List Frame) (meth : Method) (c : Code) (T0 : State), p.tables.exec = Jvm.exec → c.code = bytes → c.maxLocals = maxL → meth.sig.returnType = ret → meth.locks = false → meth.name = y.name → s.Since vm0 0 → Z.Warmed39 (s.setVm vm0).vm → (s.setVm vm0).vm.findClass y.cls = some m.cls → T0.heap = h → Stand p l e rm (s.setVm vm0) m as below meth c T0 [] 0 0 → Go p e below (EnW s rm.cells rm.slots) Q T0 (mkF m 0 Ls [])) :
    CtrW l Z y bytes maxL ret rm as h Q := by
  intro ws
  refine MetFree.of_bodySF hpn hisR ?_
  intro p e s m args below meth c s₁ Bd hml0 hP hK
  obtain ⟨ha, hZ, hh⟩ := hP
  subst ha
  have X0 : Stand p l e rm s m args below meth c s₁ [] 0 0 := Stand.of_body Bd
  obtain ⟨s₂, o, h1, h2⟩ := body p e s s.vm m below meth c s₁ Bd.exec Bd.bytes hml0 Bd.returns (BodyLoose.notSynchronized Bd) (name_of_methodNamed Bd.named Bd.method).1 (State.WarmedH.since (State.WarmedH.refl s) 0) hZ (findClass_of_methodNamed Bd.named) (by rw [← hh, Bd.state]; rfl) X0
  exact ⟨s₂, o, castTop (hef m) h1, h2⟩
/-- a contract may promise less -/
theorem Ctr.weaken {y : MethodName} {bytes : ByteArray} {maxL : Nat} {ret : Option FieldType} {rm : Room} {as : Array Value} {Q' : Option Value → Heap → List Loc → Prop} (K : Ctr l Z y bytes maxL ret rm as h Q) (q : ∀ v h' L, Q v h' L → Q' v h' L) : Ctr l Z y bytes maxL ret rm as h Q' := by
  intro ws p e ha hc hk s m args below hf happ hP hK
  obtain ⟨n, o, h1, h2, h3, v, L, h4, h5, h6⟩ := K ws p e ha hc hk s m args below hf happ hP hK
  exact ⟨n, o, h1, h2, h3, v, L, h4, q _ _ _ h5, h6⟩
theorem Go.ldc {vm0 : Vm} {k0 : Nat} (X : Stand p l e R (s.setVm vm0) m args below meth c T locs cells slots) (hx : p.tables.exec = Jvm.exec) (hZ : Z.Warmed39 (s.setVm vm0).vm) {own text : String} {index : Nat} (hown : (s.setVm vm0).vm.findClass own = some m.cls) (w : (Cond.stringLink own index text).before a0 Z = true) (wS : ∀ a ∈ Bundle.stringAtoms, a.before a0 Z = true)
    (eT : T.heap = h) (hS : s.Since vm0 k0) (hk : k0 ≤ h.size) {g : JFrame} (hg : g.method = m) (hd : decode c.code g.pc = .ok (.ldc index, 2)) {n : Nat} (hn : 4 * text.toList.length ≤ n) (hbig : n ≤ 536870912) (hc : cells + 2 ≤ R.cells) (hl : slots + (n + 4) ≤ R.slots)
    (k : ∀ (a : Addr) (T' : State) (h' : Heap) (k1 : Nat), Stand p l e R (s.setVm T'.vm) m args below meth c T' locs (cells + 2) (slots + (n + 4)) → T'.heap = h' → Ext h h' → s.Since T'.vm k1 → k1 ≤ h'.size → Z.Warmed39 (s.setVm T'.vm).vm → (s.setVm T'.vm).vm.findClass own = some m.cls → Go p e below E Q T' { g with pc := g.pc + 2, stack := .ref a :: g.stack }) : Go p e below E Q T g := by
  obtain ⟨a, T', h', k1, X', e', E', hS', hk', hZ', hown', st⟩ := ldcS X hx hZ hown w wS eT hS hk hg hd hn hbig hc hl
  exact Go.by st (k a T' h' k1 X' e' E' hS' hk' hZ' hown')
theorem Go.callS (X : Stand p l e R s m args below meth c T locs cells slots) (hx : p.tables.exec = Jvm.exec) (hZ : Z.Warmed39 s.vm) {own : String} {index : Nat} {y : MethodName} {bytes : ByteArray} {maxL : Nat} {ret : Option FieldType}
    (hown : s.vm.findClass own = some m.cls) (w1 : (Cond.methodLink own index y).before a0 Z = true) (w2 : (Cond.static y).before a0 Z = true) (w3 : (Cond.initialized y.cls).before a0 Z = true)
    (w4 : (Cond.code y bytes maxL ret).before a0 Z = true) (hy : y.cls ≠ "java/lang/invoke/MethodHandle" ∧ y.cls ≠ "java/lang/invoke/VarHandle")
    {W : Nat} {rm : Room} {argsL rest : List Value} {Qc : Option Value → Heap → List Loc → Prop} (hM : Ctr l Z y bytes maxL ret rm argsL.toArray h Qc) (hf : rm.frames + 1 ≤ R.frames) (hl : W + (maxL + 11) + rm.locals ≤ R.locals) (hc : cells + rm.cells ≤ R.cells) (hs : slots + rm.slots ≤ R.slots)
    {g : JFrame} (hg : g.method = m) (hsize : g.locals.size = c.maxLocals) (hlen : ∀ sig, parseMethodDescriptor y.desc = some sig → argsL.length = sig.parameters.length)
    (hstack : g.stack = argsL.reverse ++ rest) (hW : 2 * g.monitorRoom + (rest.map fun v => v.category).sum ≤ W) (hdg : decode c.code g.pc = .ok (.invokestatic index, 3)) (eT : T.heap = h)
    (k : ∀ T' L v, Stand p l e R s m args below meth c T' (locs ++ L) (cells + rm.cells) (slots + rm.slots) → Qc v T'.heap L → Go p e below E Q T' { g with pc := g.pc + 3, stack := v.toList ++ rest }) : Go p e below E Q T g := by
  obtain ⟨v, _, ⟨T3, L3, k3, n3⟩, -, X3, ⟨Lc3, hQ3, l3, y3, z3⟩, st3⟩ := Jvm.LawKit.callS X hx (y := y) hown (mvT hZ w1) (mvT hZ w2) (mvT hZ w3) (mvT hZ w4) hy (backOf (W := W) (hM []) hZ w4 w3 hf hl) (g := g) hg hsize (argsL := argsL) (rest := rest) hlen hstack hW hdg (fun _ _ => ⟨rfl, eT, hc, hs⟩)
  dsimp only [Pt.U, Pt.locs, Pt.cells, Pt.slots] at X3 l3 y3 z3 st3 hQ3
  subst l3 y3 z3
  exact Go.by st3 (k _ _ _ X3 hQ3)
theorem Go.callI (X : Stand p l e R s m args below meth c T locs cells slots) (hx : p.tables.exec = Jvm.exec) (hZ : Z.Warmed39 s.vm) {own : String} {index : Nat} {y : MethodName} {bytes : ByteArray} {maxL : Nat} (hy1 : y.name = "<init>")
    (hown : s.vm.findClass own = some m.cls) (w1 : (Cond.methodLink own index y).before a0 Z = true) (w2 : (Cond.instanceMethod y).before a0 Z = true) (w3 : (Cond.initialized y.cls).before a0 Z = true)
    (w4 : (Cond.code y bytes maxL none).before a0 Z = true) (hy : y.cls ≠ "java/lang/invoke/MethodHandle" ∧ y.cls ≠ "java/lang/invoke/VarHandle")
    {W : Nat} {rm : Room} {a : Addr} {argsL rest : List Value} {Qc : Option Value → Heap → List Loc → Prop} (hM : Ctr l Z y bytes maxL none rm (.ref a :: argsL).toArray h Qc) (hf : rm.frames + 1 ≤ R.frames) (hl : W + (maxL + 11) + rm.locals ≤ R.locals) (hc : cells + rm.cells ≤ R.cells) (hs : slots + rm.slots ≤ R.slots)
    {g : JFrame} (hg : g.method = m) (hsize : g.locals.size = c.maxLocals) (hlen : ∀ sig, parseMethodDescriptor y.desc = some sig → argsL.length = sig.parameters.length)
    (hstack : g.stack = argsL.reverse ++ .ref a :: rest) (hW : 2 * g.monitorRoom + (rest.map fun v => v.category).sum ≤ W) (hdg : decode c.code g.pc = .ok (.invokespecial index, 3)) (eT : T.heap = h)
    (k : ∀ T' L v, Stand p l e R s m args below meth c T' (locs ++ L) (cells + rm.cells) (slots + rm.slots) → Qc v T'.heap L → Go p e below E Q T' { g with pc := g.pc + 3, stack := v.toList ++ rest }) : Go p e below E Q T g := by
  obtain ⟨v, _, ⟨T3, L3, k3, n3⟩, -, X3, ⟨Lc3, hQ3, l3, y3, z3⟩, st3⟩ := X.specialBack hx (y := y) hy1 hown (mvT hZ w1) (mvT hZ w2) (mvT hZ w4) hy (backOf (W := W) (hM []) hZ w4 w3 hf hl) (g := g) hg hsize (Steps.refl _) (a := a) (argsL := argsL) (rest := rest) hlen hstack hW hdg (fun _ _ => ⟨rfl, eT, hc, hs⟩)
  dsimp only [Pt.U, Pt.locs, Pt.cells, Pt.slots] at X3 l3 y3 z3 st3 hQ3
  subst l3 y3 z3
  exact Go.by (fun _ q => st3.trans q) (k _ _ _ X3 hQ3)
/-- invokevirtual, the class that declares the method is a class (hnf) -/
theorem Go.callV (X : Stand p l e R s m args below meth c T locs cells slots) (hx : p.tables.exec = Jvm.exec) (hZ : Z.Warmed39 s.vm) {own C : String} {index : Nat} {y z : MethodName} {bytes : ByteArray} {maxL : Nat} {ret : Option FieldType}
    (hown : s.vm.findClass own = some m.cls) (w1 : (Cond.methodLink own index y).before a0 Z = true) (w2 : (Cond.declares y).before a0 Z = true) (hnf : NotFace s y) (w5 : (Cond.selects C y z).before a0 Z = true) (w6 : (Cond.instanceMethod z).before a0 Z = true) (w3 : (Cond.initialized z.cls).before a0 Z = true)
    (w4 : (Cond.code z bytes maxL ret).before a0 Z = true) (hy : y.cls ≠ "java/lang/invoke/MethodHandle" ∧ y.cls ≠ "java/lang/invoke/VarHandle")
    {W : Nat} {rm : Room} {a : Addr} {argsL rest : List Value} {Qc : Option Value → Heap → List Loc → Prop} (Ex : Exa Z h a C) (hM : Ctr l Z z bytes maxL ret rm (.ref a :: argsL).toArray h Qc) (hf : rm.frames + 1 ≤ R.frames) (hl : W + (maxL + 11) + rm.locals ≤ R.locals) (hc : cells + rm.cells ≤ R.cells) (hs : slots + rm.slots ≤ R.slots)
    {g : JFrame} (hg : g.method = m) (hsize : g.locals.size = c.maxLocals) (hlen : ∀ sig, parseMethodDescriptor y.desc = some sig → argsL.length = sig.parameters.length)
    (hstack : g.stack = argsL.reverse ++ .ref a :: rest) (hW : 2 * g.monitorRoom + (rest.map fun v => v.category).sum ≤ W) (hdg : decode c.code g.pc = .ok (.invokevirtual index, 3)) (eT : T.heap = h)
    (k : ∀ T' L v, Stand p l e R s m args below meth c T' (locs ++ L) (cells + rm.cells) (slots + rm.slots) → Qc v T'.heap L → Go p e below E Q T' { g with pc := g.pc + 3, stack := v.toList ++ rest }) : Go p e below E Q T g := by
  obtain ⟨cq, kq, qa, qb, qc⟩ := isOf hZ eT Ex
  obtain ⟨v, _, ⟨T3, L3, k3, n3⟩, -, X3, ⟨Lc3, hQ3, l3, y3, z3⟩, st3⟩ := X.virtualBack hx (y := y) (z := z) hown (mvT hZ w1) (mvT hZ w2) hnf (mvT hZ w5) (mvT hZ w6) hy (backOf (W := W) (hM []) hZ w4 w3 hf hl) qa qc (g := g) hg hsize (Steps.refl _) (argsL := argsL) (rest := rest) hlen hstack hW hdg (fun _ _ => ⟨rfl, eT, hc, hs⟩)
  dsimp only [Pt.U, Pt.locs, Pt.cells, Pt.slots] at X3 l3 y3 z3 st3 hQ3
  subst l3 y3 z3
  exact Go.by (fun _ q => st3.trans q) (k _ _ _ X3 hQ3)
/-- a private method, by invokevirtual -/
theorem Go.callP (X : Stand p l e R s m args below meth c T locs cells slots) (hx : p.tables.exec = Jvm.exec) (hZ : Z.Warmed39 s.vm) {own C : String} {index : Nat} {y : MethodName} {bytes : ByteArray} {maxL : Nat} {ret : Option FieldType}
    (hown : s.vm.findClass own = some m.cls) (w1 : (Cond.methodLink own index y).before a0 Z = true) (w2 : (Cond.instanceMethod y).before a0 Z = true) (w5 : (Cond.selects y.cls y y).before a0 Z = true) (w6 : (Cond.privateMethod y).before a0 Z = true) (w3 : (Cond.initialized y.cls).before a0 Z = true)
    (w4 : (Cond.code y bytes maxL ret).before a0 Z = true) (hy : y.cls ≠ "java/lang/invoke/MethodHandle" ∧ y.cls ≠ "java/lang/invoke/VarHandle")
    {W : Nat} {rm : Room} {a : Addr} {argsL rest : List Value} {Qc : Option Value → Heap → List Loc → Prop} (Ex : Exa Z h a C) (hM : Ctr l Z y bytes maxL ret rm (.ref a :: argsL).toArray h Qc) (hf : rm.frames + 1 ≤ R.frames) (hl : W + (maxL + 11) + rm.locals ≤ R.locals) (hc : cells + rm.cells ≤ R.cells) (hs : slots + rm.slots ≤ R.slots)
    {g : JFrame} (hg : g.method = m) (hsize : g.locals.size = c.maxLocals) (hlen : ∀ sig, parseMethodDescriptor y.desc = some sig → argsL.length = sig.parameters.length)
    (hstack : g.stack = argsL.reverse ++ .ref a :: rest) (hW : 2 * g.monitorRoom + (rest.map fun v => v.category).sum ≤ W) (hdg : decode c.code g.pc = .ok (.invokevirtual index, 3)) (eT : T.heap = h)
    (k : ∀ T' L v, Stand p l e R s m args below meth c T' (locs ++ L) (cells + rm.cells) (slots + rm.slots) → Qc v T'.heap L → Go p e below E Q T' { g with pc := g.pc + 3, stack := v.toList ++ rest }) : Go p e below E Q T g := by
  obtain ⟨cq, q1, q2⟩ := Ex.cell
  obtain ⟨v, _, ⟨T3, L3, k3, n3⟩, -, X3, ⟨Lc3, hQ3, l3, y3, z3⟩, st3⟩ := X.privateBack hx (y := y) hown (mvT hZ w1) (mvT hZ w2) (mvT hZ w5) (Cond.privateMethod_at (mvP hZ w6 (args := #[]))) (mvT hZ w4) hy (backOf (W := W) (hM []) hZ w4 w3 hf hl) (g := g) hg hsize (Steps.refl _) (a := a) (by rw [eT]; exact q1) q2 (argsL := argsL) (rest := rest) hlen hstack hW hdg (fun _ _ => ⟨rfl, eT, hc, hs⟩)
  dsimp only [Pt.U, Pt.locs, Pt.cells, Pt.slots] at X3 l3 y3 z3 st3 hQ3
  subst l3 y3 z3
  exact Go.by (fun _ q => st3.trans q) (k _ _ _ X3 hQ3)
/-- invokeinterface -/
theorem Go.callF (X : Stand p l e R s m args below meth c T locs cells slots) (hx : p.tables.exec = Jvm.exec) (hZ : Z.Warmed39 s.vm) {own C : String} {index count : Nat} {y z : MethodName} {bytes : ByteArray} {maxL : Nat} {ret : Option FieldType}
    (hown : s.vm.findClass own = some m.cls) (w1 : (Cond.methodLink own index y).before a0 Z = true) (w2 : (Cond.declares y).before a0 Z = true) (w7 : (Cond.interfaceMethod y.cls y.cls y.name y.desc).before args s = true) (w5 : (Cond.selects C y z).before a0 Z = true) (w6 : (Cond.instanceMethod z).before a0 Z = true) (w8 : (Cond.publicMethod z).before a0 Z = true) (w9 : (Cond.unhidden C y.name y.desc).before a0 Z = true) (w10 : (Cond.castable C y.cls).before a0 Z = true) (w3 : (Cond.initialized z.cls).before a0 Z = true)
    (w4 : (Cond.code z bytes maxL ret).before a0 Z = true) (hy : y.cls ≠ "java/lang/invoke/MethodHandle" ∧ y.cls ≠ "java/lang/invoke/VarHandle")
    {W : Nat} {rm : Room} {a : Addr} {argsL rest : List Value} {Qc : Option Value → Heap → List Loc → Prop} (Ex : Exa Z h a C) (hM : Ctr l Z z bytes maxL ret rm (.ref a :: argsL).toArray h Qc) (hf : rm.frames + 1 ≤ R.frames) (hl : W + (maxL + 11) + rm.locals ≤ R.locals) (hc : cells + rm.cells ≤ R.cells) (hs : slots + rm.slots ≤ R.slots)
    {g : JFrame} (hg : g.method = m) (hsize : g.locals.size = c.maxLocals) (hlen : ∀ sig, parseMethodDescriptor y.desc = some sig → argsL.length = sig.parameters.length)
    (hstack : g.stack = argsL.reverse ++ .ref a :: rest) (hW : 2 * g.monitorRoom + (rest.map fun v => v.category).sum ≤ W) (hdg : decode c.code g.pc = .ok (.invokeinterface index count, 5)) (eT : T.heap = h)
    (k : ∀ T' L v, Stand p l e R s m args below meth c T' (locs ++ L) (cells + rm.cells) (slots + rm.slots) → Qc v T'.heap L → Go p e below E Q T' { g with pc := g.pc + 5, stack := v.toList ++ rest }) : Go p e below E Q T g := by
  obtain ⟨cq, kq, qa, qb, qc⟩ := isOf hZ eT Ex
  obtain ⟨v, _, ⟨T3, L3, k3, n3⟩, -, X3, ⟨Lc3, hQ3, l3, y3, z3⟩, st3⟩ := X.interfaceBack hx (xi := y) (y := z) hown (mvT hZ w1) (mvT hZ w2) w7 (mvT hZ w5) (mvT hZ w6) (mvT hZ w8) (mvT hZ w9) (mvT hZ w10) hy (backOf (W := W) (hM []) hZ w4 w3 hf hl) qa qb qc (g := g) hg hsize (Steps.refl _) (argsL := argsL) (rest := rest) hlen hstack hW hdg (fun _ _ => ⟨rfl, eT, hc, hs⟩)
  dsimp only [Pt.U, Pt.locs, Pt.cells, Pt.slots] at X3 l3 y3 z3 st3 hQ3
  subst l3 y3 z3
  exact Go.by (fun _ q => st3.trans q) (k _ _ _ X3 hQ3)
/-- a callee that may intern: invokevirtual -/
theorem Go.callVW {vm0 : Vm} {k0 : Nat} (X : Stand p l e R (s.setVm vm0) m args below meth c T locs cells slots) (hx : p.tables.exec = Jvm.exec) (hS : s.Since vm0 k0) (hk : k0 ≤ h.size) (hZ : Z.Warmed39 (s.setVm vm0).vm) {own C : String} {index : Nat} {y z : MethodName} {bytes : ByteArray} {maxL : Nat} {ret : Option FieldType}
    (hown : (s.setVm vm0).vm.findClass own = some m.cls) (w1 : (Cond.methodLink own index y).before a0 Z = true) (w2 : (Cond.declares y).before a0 Z = true) (hnf : NotFace (s.setVm vm0) y) (w5 : (Cond.selects C y z).before a0 Z = true) (w6 : (Cond.instanceMethod z).before a0 Z = true) (w3 : (Cond.initialized z.cls).before a0 Z = true)
    (w4 : (Cond.code z bytes maxL ret).before a0 Z = true) (hy : y.cls ≠ "java/lang/invoke/MethodHandle" ∧ y.cls ≠ "java/lang/invoke/VarHandle")
    {W : Nat} {rm : Room} {a : Addr} {argsL rest : List Value} {Qc : Option Value → Heap → List Loc → Prop} (Ex : Exa Z h a C) (hM : CtrW l Z z bytes maxL ret rm (.ref a :: argsL).toArray h Qc) (hf : rm.frames + 1 ≤ R.frames) (hl : W + (maxL + 11) + rm.locals ≤ R.locals) (hc : cells + rm.cells ≤ R.cells) (hs : slots + rm.slots ≤ R.slots)
    {g : JFrame} (hg : g.method = m) (hsize : g.locals.size = c.maxLocals) (hlen : ∀ sig, parseMethodDescriptor y.desc = some sig → argsL.length = sig.parameters.length)
    (hstack : g.stack = argsL.reverse ++ .ref a :: rest) (hW : 2 * g.monitorRoom + (rest.map fun v => v.category).sum ≤ W) (hdg : decode c.code g.pc = .ok (.invokevirtual index, 3)) (eT : T.heap = h)
    (k : ∀ T' L v, Stand p l e R (s.setVm T'.vm) m args below meth c T' (locs ++ L) (cells + rm.cells) (slots + rm.slots) → s.Since T'.vm T'.heap.size → Z.Warmed39 (s.setVm T'.vm).vm → (s.setVm T'.vm).vm.findClass own = some m.cls → Qc v T'.heap L → Go p e below E Q T' { g with pc := g.pc + 3, stack := v.toList ++ rest }) : Go p e below E Q T g := by
  obtain ⟨cq, kq, qa, qb, qc⟩ := isOf hZ eT Ex
  obtain ⟨v, _, ⟨T3, L3, k3, n3⟩, -, X3, hS3, hgr, ⟨Lc3, hQ3, l3, y3, z3⟩, st3⟩ := X.virtualBackS hx (y := y) (z := z) hown (mvT hZ w1) (mvT hZ w2) hnf (mvT hZ w5) (mvT hZ w6) hy (backOfS (W := W) (hM []) hZ w4 w3 hf hl) qa qc (g := g) hg hsize (Steps.refl _) (argsL := argsL) (rest := rest) hlen hstack hW hdg (fun _ _ => ⟨rfl, eT, hc, hs⟩)
  dsimp only [Pt.U, Pt.locs, Pt.cells, Pt.slots] at X3 l3 y3 z3 st3 hQ3 hS3 hgr
  subst l3 y3 z3
  obtain ⟨X4, hS4, hZ4, hown4⟩ := rebS hS (by rw [eT]; exact hk) X3 hS3 hgr hZ hown
  exact Go.by (fun _ q => st3.trans q) (k _ _ _ X4 hS4 hZ4 hown4 hQ3)
/-- a callee that may intern: a constructor -/
theorem Go.callIW {vm0 : Vm} {k0 : Nat} (X : Stand p l e R (s.setVm vm0) m args below meth c T locs cells slots) (hx : p.tables.exec = Jvm.exec) (hS : s.Since vm0 k0) (hk : k0 ≤ h.size) (hZ : Z.Warmed39 (s.setVm vm0).vm) {own : String} {index : Nat} {y : MethodName} {bytes : ByteArray} {maxL : Nat} (hy1 : y.name = "<init>")
    (hown : (s.setVm vm0).vm.findClass own = some m.cls) (w1 : (Cond.methodLink own index y).before a0 Z = true) (w2 : (Cond.instanceMethod y).before a0 Z = true) (w3 : (Cond.initialized y.cls).before a0 Z = true)
    (w4 : (Cond.code y bytes maxL none).before a0 Z = true) (hy : y.cls ≠ "java/lang/invoke/MethodHandle" ∧ y.cls ≠ "java/lang/invoke/VarHandle")
    {W : Nat} {rm : Room} {a : Addr} {argsL rest : List Value} {Qc : Option Value → Heap → List Loc → Prop} (hM : CtrW l Z y bytes maxL none rm (.ref a :: argsL).toArray h Qc) (hf : rm.frames + 1 ≤ R.frames) (hl : W + (maxL + 11) + rm.locals ≤ R.locals) (hc : cells + rm.cells ≤ R.cells) (hs : slots + rm.slots ≤ R.slots)
    {g : JFrame} (hg : g.method = m) (hsize : g.locals.size = c.maxLocals) (hlen : ∀ sig, parseMethodDescriptor y.desc = some sig → argsL.length = sig.parameters.length)
    (hstack : g.stack = argsL.reverse ++ .ref a :: rest) (hW : 2 * g.monitorRoom + (rest.map fun v => v.category).sum ≤ W) (hdg : decode c.code g.pc = .ok (.invokespecial index, 3)) (eT : T.heap = h)
    (k : ∀ T' L v, Stand p l e R (s.setVm T'.vm) m args below meth c T' (locs ++ L) (cells + rm.cells) (slots + rm.slots) → s.Since T'.vm T'.heap.size → Z.Warmed39 (s.setVm T'.vm).vm → (s.setVm T'.vm).vm.findClass own = some m.cls → Qc v T'.heap L → Go p e below E Q T' { g with pc := g.pc + 3, stack := v.toList ++ rest }) : Go p e below E Q T g := by
  obtain ⟨v, _, ⟨T3, L3, k3, n3⟩, -, X3, hS3, hgr, ⟨Lc3, hQ3, l3, y3, z3⟩, st3⟩ := X.specialBackS hx (y := y) hy1 hown (mvT hZ w1) (mvT hZ w2) (mvT hZ w4) hy (backOfS (W := W) (hM []) hZ w4 w3 hf hl) (g := g) hg hsize (Steps.refl _) (a := a) (argsL := argsL) (rest := rest) hlen hstack hW hdg (fun _ _ => ⟨rfl, eT, hc, hs⟩)
  dsimp only [Pt.U, Pt.locs, Pt.cells, Pt.slots] at X3 l3 y3 z3 st3 hQ3 hS3 hgr
  subst l3 y3 z3
  obtain ⟨X4, hS4, hZ4, hown4⟩ := rebS hS (by rw [eT]; exact hk) X3 hS3 hgr hZ hown
  exact Go.by (fun _ q => st3.trans q) (k _ _ _ X4 hS4 hZ4 hown4 hQ3)
/-- a callee that may intern: a static method -/
theorem Go.callSW {vm0 : Vm} {k0 : Nat} (X : Stand p l e R (s.setVm vm0) m args below meth c T locs cells slots) (hx : p.tables.exec = Jvm.exec) (hS : s.Since vm0 k0) (hk : k0 ≤ h.size) (hZ : Z.Warmed39 (s.setVm vm0).vm) {own : String} {index : Nat} {y : MethodName} {bytes : ByteArray} {maxL : Nat} {ret : Option FieldType}
    (hown : (s.setVm vm0).vm.findClass own = some m.cls) (w1 : (Cond.methodLink own index y).before a0 Z = true) (w2 : (Cond.static y).before a0 Z = true) (w3 : (Cond.initialized y.cls).before a0 Z = true)
    (w4 : (Cond.code y bytes maxL ret).before a0 Z = true) (hy : y.cls ≠ "java/lang/invoke/MethodHandle" ∧ y.cls ≠ "java/lang/invoke/VarHandle")
    {W : Nat} {rm : Room} {argsL rest : List Value} {Qc : Option Value → Heap → List Loc → Prop} (hM : CtrW l Z y bytes maxL ret rm argsL.toArray h Qc) (hf : rm.frames + 1 ≤ R.frames) (hl : W + (maxL + 11) + rm.locals ≤ R.locals) (hc : cells + rm.cells ≤ R.cells) (hs : slots + rm.slots ≤ R.slots)
    {g : JFrame} (hg : g.method = m) (hsize : g.locals.size = c.maxLocals) (hlen : ∀ sig, parseMethodDescriptor y.desc = some sig → argsL.length = sig.parameters.length)
    (hstack : g.stack = argsL.reverse ++ rest) (hW : 2 * g.monitorRoom + (rest.map fun v => v.category).sum ≤ W) (hdg : decode c.code g.pc = .ok (.invokestatic index, 3)) (eT : T.heap = h)
    (k : ∀ T' L v, Stand p l e R (s.setVm T'.vm) m args below meth c T' (locs ++ L) (cells + rm.cells) (slots + rm.slots) → s.Since T'.vm T'.heap.size → Z.Warmed39 (s.setVm T'.vm).vm → (s.setVm T'.vm).vm.findClass own = some m.cls → Qc v T'.heap L → Go p e below E Q T' { g with pc := g.pc + 3, stack := v.toList ++ rest }) : Go p e below E Q T g := by
  obtain ⟨v, _, ⟨T3, L3, k3, n3⟩, -, X3, hS3, hgr, ⟨Lc3, hQ3, l3, y3, z3⟩, st3⟩ := Jvm.RoadKit.callSS X hx (y := y) hown (mvT hZ w1) (mvT hZ w2) (mvT hZ w3) (mvT hZ w4) hy (backOfS (W := W) (hM []) hZ w4 w3 hf hl) (g := g) hg hsize (argsL := argsL) (rest := rest) hlen hstack hW hdg (fun _ _ => ⟨rfl, eT, hc, hs⟩)
  dsimp only [Pt.U, Pt.locs, Pt.cells, Pt.slots] at X3 l3 y3 z3 st3 hQ3 hS3 hgr
  subst l3 y3 z3
  obtain ⟨X4, hS4, hZ4, hown4⟩ := rebS hS (by rw [eT]; exact hk) X3 hS3 hgr hZ hown
  exact Go.by (fun _ q => st3.trans q) (k _ _ _ X4 hS4 hZ4 hown4 hQ3)
end G
section A
variable {p : Program} {l : Launch} {e : Env} {R : Room} {s : State} {m : MethodId} {args : Array Value} {below : List Frame} {meth : Method} {c : Code} {T : State} {locs : List Loc} {cells slots : Nat} {Z : State} {h : Heap} {a : Addr} {k : ClassId} {n : Int32} {vs : List Value} {d : Value}
theorem stIA (X : Stand p l e R s m args below meth c T locs cells slots) (hx : p.tables.exec = Jvm.exec) (hZ : Z.Warmed39 s.vm) (eT : T.heap = h) (V : Arv Z h a k .int n vs d) {j x : Int32} (i : Nat) (hj : j.toNatClampNeg = i) (hj0 : ¬ j < 0) (hjn : j < n) (hi : i < vs.length) {g : JFrame} (hg : g.method = m) {rest : List Value} (hs : g.stack = .int x :: .int j :: .ref a :: rest) (hd : decode c.code g.pc = .ok (.iastore, 1)) :
    ∃ T' h', Stand p l e R s m args below meth c T' (locs ++ [⟨a, j.toNatClampNeg⟩]) cells slots ∧ T'.heap = h' ∧ Wr h h' a j.toNatClampNeg (.int x) ∧ Arv Z h' a k .int n (vs.set i (.int x)) d ∧ ∀ target, Steps p.tables e below (T'.setTop { g with pc := g.pc + 1, stack := rest }) target → Steps p.tables e below (T.setTop g) target := by
  obtain ⟨cl, Ar, q, S, M, H, U⟩ := V
  obtain ⟨T', h', X', e', W', st'⟩ := stI X hx hZ eT Ar (j := j) (inb_of S ⟨hj0, hjn⟩) hg hs hd
  exact ⟨T', h', X', e', W', Arv.set Ar q S M H U rfl W' i hj hi, st'⟩
theorem stBA (X : Stand p l e R s m args below meth c T locs cells slots) (hx : p.tables.exec = Jvm.exec) (hZ : Z.Warmed39 s.vm) (eT : T.heap = h) (V : Arv Z h a k .byte n vs d) {j x : Int32} (i : Nat) (hj : j.toNatClampNeg = i) (hj0 : ¬ j < 0) (hjn : j < n) (hi : i < vs.length) {g : JFrame} (hg : g.method = m) {rest : List Value} (hs : g.stack = .int x :: .int j :: .ref a :: rest) (hd : decode c.code g.pc = .ok (.bastore, 1)) :
    ∃ T' h', Stand p l e R s m args below meth c T' (locs ++ [⟨a, j.toNatClampNeg⟩]) cells slots ∧ T'.heap = h' ∧ Wr h h' a j.toNatClampNeg (.int x.toInt8.toInt32) ∧ Arv Z h' a k .byte n (vs.set i (.int x.toInt8.toInt32)) d ∧ ∀ target, Steps p.tables e below (T'.setTop { g with pc := g.pc + 1, stack := rest }) target → Steps p.tables e below (T.setTop g) target := by
  obtain ⟨cl, Ar, q, S, M, H, U⟩ := V
  obtain ⟨T', h', X', e', W', st'⟩ := stB X hx hZ eT Ar (j := j) (inb_of S ⟨hj0, hjn⟩) hg hs hd
  exact ⟨T', h', X', e', W', Arv.set Ar q S M H U (fits_nar_byte x) W' i hj hi, st'⟩
theorem ldIA (X : Stand p l e R s m args below meth c T locs cells slots) (hx : p.tables.exec = Jvm.exec) (hZ : Z.Warmed39 s.vm) (eT : T.heap = h) (V : Arv Z h a k .int n vs d) {j : Int32} {v : Value} (hj0 : ¬ j < 0) (hjn : j < n) (hv : vs.getD j.toNatClampNeg d = v) {g : JFrame} (hg : g.method = m) {rest : List Value} (hs : g.stack = .int j :: .ref a :: rest) (hd : decode c.code g.pc = .ok (.iaload, 1)) :
    ∀ target, Steps p.tables e below (T.setTop { g with pc := g.pc + 1, stack := v :: rest }) target → Steps p.tables e below (T.setTop g) target := by
  obtain ⟨cl, Ar, q, S, M, H, U⟩ := V
  have hin := inb_of S ⟨hj0, hjn⟩
  intro target kt
  exact X.iaload hx (j := j) (v := v) (by rw [eT]; exact Ar.1) (State.isArrayOf_alike hZ.alike Ar.2.1) Ar.2.2 hin (H.at hin hv) hg hs hd _ kt
theorem ldBA (X : Stand p l e R s m args below meth c T locs cells slots) (hx : p.tables.exec = Jvm.exec) (hZ : Z.Warmed39 s.vm) (eT : T.heap = h) (V : Arv Z h a k .byte n vs d) {j : Int32} {v : Value} (hj0 : ¬ j < 0) (hjn : j < n) (hv : vs.getD j.toNatClampNeg d = v) {g : JFrame} (hg : g.method = m) {rest : List Value} (hs : g.stack = .int j :: .ref a :: rest) (hd : decode c.code g.pc = .ok (.baload, 1)) :
    ∀ target, Steps p.tables e below (T.setTop { g with pc := g.pc + 1, stack := v :: rest }) target → Steps p.tables e below (T.setTop g) target := by
  obtain ⟨cl, Ar, q, S, M, H, U⟩ := V
  have hin := inb_of S ⟨hj0, hjn⟩
  intro target kt
  exact X.baloadBytes hx (j := j) (v := v) (by rw [eT]; exact Ar.1) (State.isArrayOf_alike hZ.alike Ar.2.1) Ar.2.2 hin (H.at hin hv) hg hs hd _ kt
theorem lnA {ty : FieldType} (X : Stand p l e R s m args below meth c T locs cells slots) (hx : p.tables.exec = Jvm.exec) (hZ : Z.Warmed39 s.vm) (eT : T.heap = h) (V : Arv Z h a k ty n vs d) {g : JFrame} (hg : g.method = m) {rest : List Value} (hs : g.stack = .ref a :: rest) (hd : decode c.code g.pc = .ok (.arraylength, 1)) :
    ∀ target, Steps p.tables e below (T.setTop { g with pc := g.pc + 1, stack := .int n :: rest }) target → Steps p.tables e below (T.setTop g) target := by
  obtain ⟨cl, Ar, q, S, M, H, U⟩ := V
  intro target kt
  refine X.arraylength hx (by rw [eT]; exact Ar.1) (State.isArrayOf_alike hZ.alike Ar.2.1) hg hs hd _ ?_
  rw [len_of S M]
  exact kt
theorem fitsR {ty : FieldType} {y : Addr} (hty : ty.isReference = true) : fits ty (.ref y) = true := by cases ty <;> first | rfl | (simp [FieldType.isReference] at hty)
theorem stRA {ty : FieldType} {C : String} (X : Stand p l e R s m args below meth c T locs cells slots) (hx : p.tables.exec = Jvm.exec) (hZ : Z.Warmed39 s.vm) (eT : T.heap = h) (V : Arv Z h a k ty n vs d) (O : Ovr Z k C) {y : Addr} (I : Ins Z h y C true) (hty : ty.isReference = true) {j : Int32} (i : Nat) (hj : j.toNatClampNeg = i) (hj0 : ¬ j < 0) (hjn : j < n) (hi : i < vs.length) {g : JFrame} (hg : g.method = m) {rest : List Value} (hs : g.stack = .ref y :: .int j :: .ref a :: rest) (hd : decode c.code g.pc = .ok (.aastore, 1)) :
    ∃ T' h', Stand p l e R s m args below meth c T' (locs ++ [⟨a, j.toNatClampNeg⟩]) cells slots ∧ T'.heap = h' ∧ Wr h h' a j.toNatClampNeg (.ref y) ∧ Arv Z h' a k ty n (vs.set i (.ref y)) d ∧ ∀ target, Steps p.tables e below (T'.setTop { g with pc := g.pc + 1, stack := rest }) target → Steps p.tables e below (T.setTop g) target := by
  obtain ⟨cl, Ar, q, S, M, H, U⟩ := V
  obtain ⟨T', h', X', e', W', st'⟩ := stR X hx hZ eT Ar (j := j) (inb_of S ⟨hj0, hjn⟩) hty (Sto.ofV Ar q O I) hg hs hd
  exact ⟨T', h', X', e', W', Arv.set Ar q S M H U (fitsR hty) W' i hj hi, st'⟩
theorem ldRA {ty : FieldType} (X : Stand p l e R s m args below meth c T locs cells slots) (hx : p.tables.exec = Jvm.exec) (hZ : Z.Warmed39 s.vm) (eT : T.heap = h) (V : Arv Z h a k ty n vs d) (hty : ty.isReference = true) {j : Int32} {v : Value} (hj0 : ¬ j < 0) (hjn : j < n) (hv : vs.getD j.toNatClampNeg d = v) {g : JFrame} (hg : g.method = m) {rest : List Value} (hs : g.stack = .int j :: .ref a :: rest) (hd : decode c.code g.pc = .ok (.aaload, 1)) :
    ∀ target, Steps p.tables e below (T.setTop { g with pc := g.pc + 1, stack := v :: rest }) target → Steps p.tables e below (T.setTop g) target := by
  obtain ⟨cl, Ar, q, S, M, H, U⟩ := V
  have hin := inb_of S ⟨hj0, hjn⟩
  intro target kt
  exact X.aaload hx (j := j) (v := v) (by rw [eT]; exact Ar.1) (State.isArrayOf_alike hZ.alike Ar.2.1) hty Ar.2.2 hin (H.at hin hv) hg hs hd _ kt
end A
end Jvm.OwnGo
namespace Jvm.Pilot.@@N@@
open Jvm Jvm.ClassFile Sem Op Lib Jvm.Free Jvm.Stand Jvm.LawKit Jvm.RoadKit Jvm.OwnGo Bundle Jvm.Pilot.@@N@@.Jvm.D

theorem pn_0 : plainName "com/example/sorrel/sorrel/middle/alloc/PlacementHasPinLaw" = true := by first | (simp [plainName, overriddenIn]; done) | decide +kernel
theorem pf_0 : plainFor x = true := plainFor_of_name pn_0
theorem pd_0 : parseMethodDescriptor "(IIIII)Z" = some ⟨[.int, .int, .int, .int, .int], (some .boolean)⟩ := by decide +kernel
theorem d1_0 : decode method_2_code 0 = .ok (.iload_n 0, 1) := by decide +kernel
theorem d1_1 : decode method_2_code 1 = .ok (.ifCond .ne 7, 3) := by decide +kernel
theorem d1_4 : decode method_2_code 4 = .ok (.iconst 0, 1) := by decide +kernel
theorem d1_5 : decode method_2_code 5 = .ok (.newarray .int, 2) := by decide +kernel
theorem d1_7 : decode method_2_code 7 = .ok (.areturn, 1) := by decide +kernel
theorem d1_8 : decode method_2_code 8 = .ok (.iload_n 0, 1) := by decide +kernel
theorem d1_9 : decode method_2_code 9 = .ok (.iconst 1, 1) := by decide +kernel
theorem d1_10 : decode method_2_code 10 = .ok (.if_icmp .ne 11, 3) := by decide +kernel
theorem d1_13 : decode method_2_code 13 = .ok (.iconst 1, 1) := by decide +kernel
theorem d1_14 : decode method_2_code 14 = .ok (.newarray .int, 2) := by decide +kernel
theorem d1_16 : decode method_2_code 16 = .ok (.dup, 1) := by decide +kernel
theorem d1_17 : decode method_2_code 17 = .ok (.iconst 0, 1) := by decide +kernel
theorem d1_18 : decode method_2_code 18 = .ok (.iload_n 1, 1) := by decide +kernel
theorem d1_19 : decode method_2_code 19 = .ok (.iastore, 1) := by decide +kernel
theorem d1_20 : decode method_2_code 20 = .ok (.areturn, 1) := by decide +kernel
theorem d1_21 : decode method_2_code 21 = .ok (.iload_n 0, 1) := by decide +kernel
theorem d1_22 : decode method_2_code 22 = .ok (.iconst 2, 1) := by decide +kernel
theorem d1_23 : decode method_2_code 23 = .ok (.if_icmp .ne 15, 3) := by decide +kernel
theorem d1_26 : decode method_2_code 26 = .ok (.iconst 2, 1) := by decide +kernel
theorem d1_27 : decode method_2_code 27 = .ok (.newarray .int, 2) := by decide +kernel
theorem d1_29 : decode method_2_code 29 = .ok (.dup, 1) := by decide +kernel
theorem d1_30 : decode method_2_code 30 = .ok (.iconst 0, 1) := by decide +kernel
theorem d1_31 : decode method_2_code 31 = .ok (.iload_n 1, 1) := by decide +kernel
theorem d1_32 : decode method_2_code 32 = .ok (.iastore, 1) := by decide +kernel
theorem d1_33 : decode method_2_code 33 = .ok (.dup, 1) := by decide +kernel
theorem d1_34 : decode method_2_code 34 = .ok (.iconst 1, 1) := by decide +kernel
theorem d1_35 : decode method_2_code 35 = .ok (.iload_n 2, 1) := by decide +kernel
theorem d1_36 : decode method_2_code 36 = .ok (.iastore, 1) := by decide +kernel
theorem d1_37 : decode method_2_code 37 = .ok (.areturn, 1) := by decide +kernel
theorem d1_38 : decode method_2_code 38 = .ok (.iconst 3, 1) := by decide +kernel
theorem d1_39 : decode method_2_code 39 = .ok (.newarray .int, 2) := by decide +kernel
theorem d1_41 : decode method_2_code 41 = .ok (.dup, 1) := by decide +kernel
theorem d1_42 : decode method_2_code 42 = .ok (.iconst 0, 1) := by decide +kernel
theorem d1_43 : decode method_2_code 43 = .ok (.iload_n 1, 1) := by decide +kernel
theorem d1_44 : decode method_2_code 44 = .ok (.iastore, 1) := by decide +kernel
theorem d1_45 : decode method_2_code 45 = .ok (.dup, 1) := by decide +kernel
theorem d1_46 : decode method_2_code 46 = .ok (.iconst 1, 1) := by decide +kernel
theorem d1_47 : decode method_2_code 47 = .ok (.iload_n 2, 1) := by decide +kernel
theorem d1_48 : decode method_2_code 48 = .ok (.iastore, 1) := by decide +kernel
theorem d1_49 : decode method_2_code 49 = .ok (.dup, 1) := by decide +kernel
theorem d1_50 : decode method_2_code 50 = .ok (.iconst 2, 1) := by decide +kernel
theorem d1_51 : decode method_2_code 51 = .ok (.iload_n 3, 1) := by decide +kernel
theorem d1_52 : decode method_2_code 52 = .ok (.iastore, 1) := by decide +kernel
theorem d1_53 : decode method_2_code 53 = .ok (.areturn, 1) := by decide +kernel
theorem pn_1 : plainName "com/example/sorrel/sorrel/middle/alloc/PlacementHasPinLaw" = true := by first | (simp [plainName, overriddenIn]; done) | decide +kernel
theorem pf_1 : plainFor (⟨"com/example/sorrel/sorrel/middle/alloc/PlacementHasPinLaw", "places", "(IIII)[I"⟩ : MethodName) = true := plainFor_of_name pn_1
theorem pd_1 : parseMethodDescriptor "(IIII)[I" = some ⟨[.int, .int, .int, .int], (some (.array .int))⟩ := by decide +kernel
theorem d2_0 : decode prog_97_method_1_code 0 = .ok (.aload_n 0, 1) := by decide +kernel
theorem d2_1 : decode prog_97_method_1_code 1 = .ok (.invokespecial 3, 3) := by decide +kernel
theorem d2_4 : decode prog_97_method_1_code 4 = .ok (.aload_n 0, 1) := by decide +kernel
theorem d2_5 : decode prog_97_method_1_code 5 = .ok (.aload_n 1, 1) := by decide +kernel
theorem d2_6 : decode prog_97_method_1_code 6 = .ok (.putfield 9, 3) := by decide +kernel
theorem d2_9 : decode prog_97_method_1_code 9 = .ok (.aload_n 0, 1) := by decide +kernel
theorem d2_10 : decode prog_97_method_1_code 10 = .ok (.iload_n 2, 1) := by decide +kernel
theorem d2_11 : decode prog_97_method_1_code 11 = .ok (.putfield 15, 3) := by decide +kernel
theorem d2_14 : decode prog_97_method_1_code 14 = .ok (.return_, 1) := by decide +kernel
theorem pn_2 : plainName "com/example/sorrel/sorrel/middle/alloc/Placement" = true := by first | (simp [plainName, overriddenIn]; done) | decide +kernel
theorem pf_2 : plainFor (⟨"com/example/sorrel/sorrel/middle/alloc/Placement", "<init>", "([II)V"⟩ : MethodName) = true := plainFor_of_name pn_2
theorem pd_2 : parseMethodDescriptor "([II)V" = some ⟨[(.array .int), .int], none⟩ := by decide +kernel
theorem d4_0 : decode prog_169_method_1_code 0 = .ok (.aload_n 0, 1) := by decide +kernel
theorem d4_1 : decode prog_169_method_1_code 1 = .ok (.invokespecial 1, 3) := by decide +kernel
theorem d4_4 : decode prog_169_method_1_code 4 = .ok (.aload_n 0, 1) := by decide +kernel
theorem d4_5 : decode prog_169_method_1_code 5 = .ok (.iload_n 1, 1) := by decide +kernel
theorem d4_6 : decode prog_169_method_1_code 6 = .ok (.putfield 7, 3) := by decide +kernel
theorem d4_9 : decode prog_169_method_1_code 9 = .ok (.aload_n 0, 1) := by decide +kernel
theorem d4_10 : decode prog_169_method_1_code 10 = .ok (.aload_n 2, 1) := by decide +kernel
theorem d4_11 : decode prog_169_method_1_code 11 = .ok (.putfield 13, 3) := by decide +kernel
theorem d4_14 : decode prog_169_method_1_code 14 = .ok (.return_, 1) := by decide +kernel
theorem pn_4 : plainName "com/example/sorrel/sorrel/middle/ir/Value" = true := by first | (simp [plainName, overriddenIn]; done) | decide +kernel
theorem pf_4 : plainFor (⟨"com/example/sorrel/sorrel/middle/ir/Value", "<init>", "(ILcom/example/sorrel/sorrel/middle/ir/Value$Type;)V"⟩ : MethodName) = true := plainFor_of_name pn_4
theorem pd_4 : parseMethodDescriptor "(ILcom/example/sorrel/sorrel/middle/ir/Value$Type;)V" = some ⟨[.int, (.object "com/example/sorrel/sorrel/middle/ir/Value$Type")], none⟩ := by decide +kernel
theorem d5_0 : decode jdk_30_method_1_code 0 = .ok (.aload_n 0, 1) := by decide +kernel
theorem d5_1 : decode jdk_30_method_1_code 1 = .ok (.invokespecial 1, 3) := by decide +kernel
theorem d5_4 : decode jdk_30_method_1_code 4 = .ok (.return_, 1) := by decide +kernel
theorem pn_5 : plainName "java/lang/Record" = true := by first | (simp [plainName, overriddenIn]; done) | decide +kernel
theorem pf_5 : plainFor (⟨"java/lang/Record", "<init>", "()V"⟩ : MethodName) = true := plainFor_of_name pn_5
theorem pd_5 : parseMethodDescriptor "()V" = some ⟨[], none⟩ := by decide +kernel
theorem d6_0 : decode prog_97_method_4_code 0 = .ok (.aload_n 1, 1) := by decide +kernel
theorem d6_1 : decode prog_97_method_4_code 1 = .ok (.invokevirtual 36, 3) := by decide +kernel
theorem d6_4 : decode prog_97_method_4_code 4 = .ok (.aload_n 0, 1) := by decide +kernel
theorem d6_5 : decode prog_97_method_4_code 5 = .ok (.getfield 9, 3) := by decide +kernel
theorem d6_8 : decode prog_97_method_4_code 8 = .ok (.arraylength, 1) := by decide +kernel
theorem d6_9 : decode prog_97_method_4_code 9 = .ok (.if_icmp .ge 21, 3) := by decide +kernel
theorem d6_12 : decode prog_97_method_4_code 12 = .ok (.aload_n 0, 1) := by decide +kernel
theorem d6_13 : decode prog_97_method_4_code 13 = .ok (.getfield 9, 3) := by decide +kernel
theorem d6_16 : decode prog_97_method_4_code 16 = .ok (.aload_n 1, 1) := by decide +kernel
theorem d6_17 : decode prog_97_method_4_code 17 = .ok (.invokevirtual 36, 3) := by decide +kernel
theorem d6_20 : decode prog_97_method_4_code 20 = .ok (.iaload, 1) := by decide +kernel
theorem d6_21 : decode prog_97_method_4_code 21 = .ok (.ldc 39, 2) := by decide +kernel
theorem d6_23 : decode prog_97_method_4_code 23 = .ok (.if_icmp .eq 7, 3) := by decide +kernel
theorem d6_26 : decode prog_97_method_4_code 26 = .ok (.iconst 1, 1) := by decide +kernel
theorem d6_27 : decode prog_97_method_4_code 27 = .ok (.goto 4, 3) := by decide +kernel
theorem d6_30 : decode prog_97_method_4_code 30 = .ok (.iconst 0, 1) := by decide +kernel
theorem d6_31 : decode prog_97_method_4_code 31 = .ok (.ireturn, 1) := by decide +kernel
theorem pn_6 : plainName "com/example/sorrel/sorrel/middle/alloc/Placement" = true := by first | (simp [plainName, overriddenIn]; done) | decide +kernel
theorem pf_6 : plainFor (⟨"com/example/sorrel/sorrel/middle/alloc/Placement", "has", "(Lcom/example/sorrel/sorrel/middle/ir/Value;)Z"⟩ : MethodName) = true := plainFor_of_name pn_6
theorem pd_6 : parseMethodDescriptor "(Lcom/example/sorrel/sorrel/middle/ir/Value;)Z" = some ⟨[(.object "com/example/sorrel/sorrel/middle/ir/Value")], (some .boolean)⟩ := by decide +kernel
theorem d7_0 : decode prog_169_method_5_code 0 = .ok (.aload_n 0, 1) := by decide +kernel
theorem d7_1 : decode prog_169_method_5_code 1 = .ok (.getfield 7, 3) := by decide +kernel
theorem d7_4 : decode prog_169_method_5_code 4 = .ok (.ireturn, 1) := by decide +kernel
theorem pn_7 : plainName "com/example/sorrel/sorrel/middle/ir/Value" = true := by first | (simp [plainName, overriddenIn]; done) | decide +kernel
theorem pf_7 : plainFor (⟨"com/example/sorrel/sorrel/middle/ir/Value", "number", "()I"⟩ : MethodName) = true := plainFor_of_name pn_7
theorem pd_7 : parseMethodDescriptor "()I" = some ⟨[], (some .int)⟩ := by decide +kernel
def vsOf (len x y z : Int32) : List Value := if len = 0 then [] else if len = 1 then [.int x] else if len = 2 then [.int x, .int y] else [.int x, .int y, .int z]
def atV (num x y z : Int32) : Int32 := if num = 0 then x else if num = 1 then y else z
def hasV (num len w : Int32) : Int32 := if num < len then (if w = -2147483648 then 0 else 1) else 0
theorem has01 (num len w : Int32) : hasV num len w = 0 ∨ hasV num len w = 1 := by
  unfold hasV; split
  · split
    · exact Or.inl rfl
    · exact Or.inr rfl
  · exact Or.inl rfl
theorem len_cases (k : Int32) : (k &&& 3) = 0 ∨ (k &&& 3) = 1 ∨ (k &&& 3) = 2 ∨ (k &&& 3) = 3 := by
  have h := c_and k 3 (by decide)
  have e0 : (0 : Int32).toInt = 0 := by decide
  have e1 : (1 : Int32).toInt = 1 := by decide
  have e2 : (2 : Int32).toInt = 2 := by decide
  have e3 : (3 : Int32).toInt = 3 := by decide
  rw [← Int32.toInt_inj, ← Int32.toInt_inj, ← Int32.toInt_inj, ← Int32.toInt_inj]
  omega
theorem num_cases {num len : Int32} (hl : len = 0 ∨ len = 1 ∨ len = 2 ∨ len = 3) (hn : ¬ num < 0) (h : num < len) : num = 0 ∨ num = 1 ∨ num = 2 := by
  have e0 : (0 : Int32).toInt = 0 := by decide
  have e1 : (1 : Int32).toInt = 1 := by decide
  have e2 : (2 : Int32).toInt = 2 := by decide
  have e3 : (3 : Int32).toInt = 3 := by decide
  rw [Int32.lt_iff_toInt_lt] at hn h
  rw [← Int32.toInt_inj, ← Int32.toInt_inj, ← Int32.toInt_inj]
  rcases hl with rfl | rfl | rfl | rfl <;> omega
theorem hat_of {num len : Int32} (x y z : Int32) (hl : len = 0 ∨ len = 1 ∨ len = 2 ∨ len = 3) (hn : ¬ num < 0) (h : num < len) : (vsOf len x y z).getD num.toNatClampNeg (.int 0) = .int (atV num x y z) := by
  have hc := num_cases hl hn h
  rcases hl with rfl | rfl | rfl | rfl <;> rcases hc with rfl | rfl | rfl <;> first | exact absurd h (by decide) | rfl
theorem and_nn (x m : Int32) (h : 0 ≤ m.toInt) : ¬ (x &&& m) < 0 := by
  have h1 := c_and x m h
  have e0 : (0 : Int32).toInt = 0 := by decide
  rw [Int32.lt_iff_toInt_lt, e0]
  omega
theorem ef_1 (p1 : Int32) (p2 : Int32) (p3 : Int32) (p4 : Int32) (m : MethodId) : entryFrame m #[(.int p1), (.int p2), (.int p3), (.int p4)] 4 = mkF m 0 #[.val (.int p1), .val (.int p2), .val (.int p3), .val (.int p4)] [] := by first | (simp [entryFrame, mkF, argsToLocals, Value.category]; done) | rfl
set_option maxRecDepth 65536 in
set_option maxHeartbeats 40000000 in
theorem rm1 (l : Launch) (Z : State) (a0 : Array Value) (hw : ∀ d ∈ tables_1, d.before a0 Z = true) (p1 : Int32) (p2 : Int32) (p3 : Int32) (p4 : Int32) (h0 : Heap) (n0 : Nat) (Z0 : n0 ≤ h0.size)  (hl : p1 = 0 ∨ p1 = 1 ∨ p1 = 2 ∨ p1 = 3) :
    Ctr l Z (⟨"com/example/sorrel/sorrel/middle/alloc/PlacementHasPinLaw", "places", "(IIII)[I"⟩ : MethodName) method_2_code 4 (some (.array .int)) ({ frames := 0, cells := 1, slots := 3, locals := 0 } : Room) #[(.int p1), (.int p2), (.int p3), (.int p4)] h0 (fun v h L => ∃ b k, v = some (.ref b) ∧ Fr n0 L ∧ Keep h0 h [] ∧ Arv Z h b k .int p1 (vsOf p1 p2 p3 p4) (.int 0) ∧ h0.size ≤ b) := by
  refine Ctr.of pf_1 (ef_1 p1 p2 p3 p4) ?_
  intro p e s m below meth c T0 hx hby hml hret hlk hnm hZ hown e0 X0
  refine Go.by (g' := (mkF m 1 #[.val (.int p1), .val (.int p2), .val (.int p3), .val (.int p4)] [(.int p1)])) (fun _ k => XS.iloadN X0.here hx rfl (hb hby d1_0) rfl k) ?_
  by_cases h1 : p1 = (0 : Int32)
  · refine Go.by (g' := (mkF m 4 #[.val (.int p1), .val (.int p2), .val (.int p3), .val (.int p4)] [])) (fun _ k => XS.ifNo X0.here hx rfl (hb hby d1_1) rfl ((if0 _ _).trans (teq h1).2) k) ?_
    subst h1
    refine Go.by (g' := (mkF m 5 #[.val (.int (0 : Int32)), .val (.int p2), .val (.int p3), .val (.int p4)] [(.int (0 : Int32))])) (fun _ k => XS.iconst X0.here hx rfl (hb hby d1_4) k) ?_
    obtain ⟨T1, h1, k1, X1, e1, E1, A1, st1⟩ := newP X0 hx hZ (hw _ (List.mem_of_getElem? (i := 4) rfl)) e0 (g := (mkF m 5 #[.val (.int (0 : Int32)), .val (.int p2), .val (.int p3), .val (.int p4)] [(.int (0 : Int32))])) rfl (hb hby d1_5) rfl (by decide) (cap := 0) (by decide) (by decide) (by decide) (by decide)
    obtain ⟨b, g1⟩ : ∃ z, z = h0.size := ⟨_, rfl⟩
    rw [← g1] at A1 st1
    have ge_b : n0 ≤ b := Nat.le_trans Z0 (Nat.le_of_eq g1.symm)
    have sz_b : h0.size ≤ b := Nat.le_trans (Keep.refl h0 []).1 (Nat.le_of_eq g1.symm)
    have Z1 : n0 ≤ h1.size := Nat.le_trans Z0 E1.1
    have KP1 : Keep h0 h1 [] := (Keep.refl h0 []).ext E1
    refine Go.by (g' := (mkF m 7 #[.val (.int (0 : Int32)), .val (.int p2), .val (.int p3), .val (.int p4)] [(.ref b)])) st1 ?_
    have V0 : Arv Z h1 b k1 .int 0 [] (.int 0) := (Arv.new A1 (by decide)).pad (pad_rep [] _ 0)
    exact Go.outA X1 hx hret (Lv.narrow X1 hlk (by decide) (by decide)) rfl rfl (hb hby d1_7) (by rw [e1]; exact ⟨b, k1, rfl, (Fr.nil n0), KP1, V0, sz_b⟩)
  · refine Go.by (g' := (mkF m 8 #[.val (.int p1), .val (.int p2), .val (.int p3), .val (.int p4)] [])) (fun _ k => XS.ifYes X0.here hx rfl (pc0 := 1) (pc' := 8) rfl (hb hby d1_1) rfl ((if0 _ _).trans (feq h1).2) (by decide) (by decide) k) ?_
    refine Go.by (g' := (mkF m 9 #[.val (.int p1), .val (.int p2), .val (.int p3), .val (.int p4)] [(.int p1)])) (fun _ k => XS.iloadN X0.here hx rfl (hb hby d1_8) rfl k) ?_
    refine Go.by (g' := (mkF m 10 #[.val (.int p1), .val (.int p2), .val (.int p3), .val (.int p4)] [(.int (1 : Int32)), (.int p1)])) (fun _ k => XS.iconst X0.here hx rfl (hb hby d1_9) k) ?_
    by_cases h10 : p1 = (1 : Int32)
    · refine Go.by (g' := (mkF m 13 #[.val (.int p1), .val (.int p2), .val (.int p3), .val (.int p4)] [])) (fun _ k => XS.icmpNo X0.here hx rfl (hb hby d1_10) rfl (teq h10).2 k) ?_
      subst h10
      refine Go.by (g' := (mkF m 14 #[.val (.int (1 : Int32)), .val (.int p2), .val (.int p3), .val (.int p4)] [(.int (1 : Int32))])) (fun _ k => XS.iconst X0.here hx rfl (hb hby d1_13) k) ?_
      obtain ⟨T2, h2, k2, X2, e2, E2, A2, st2⟩ := newP X0 hx hZ (hw _ (List.mem_of_getElem? (i := 4) rfl)) e0 (g := (mkF m 14 #[.val (.int (1 : Int32)), .val (.int p2), .val (.int p3), .val (.int p4)] [(.int (1 : Int32))])) rfl (hb hby d1_14) rfl (by decide) (cap := 1) (by decide) (by decide) (by decide) (by decide)
      obtain ⟨b, g2⟩ : ∃ z, z = h0.size := ⟨_, rfl⟩
      rw [← g2] at A2 st2
      have ge_b : n0 ≤ b := Nat.le_trans Z0 (Nat.le_of_eq g2.symm)
      have sz_b : h0.size ≤ b := Nat.le_trans (Keep.refl h0 []).1 (Nat.le_of_eq g2.symm)
      have Z2 : n0 ≤ h2.size := Nat.le_trans Z0 E2.1
      have KP2 : Keep h0 h2 [] := (Keep.refl h0 []).ext E2
      refine Go.by (g' := (mkF m 16 #[.val (.int (1 : Int32)), .val (.int p2), .val (.int p3), .val (.int p4)] [(.ref b)])) st2 ?_
      have V0 : Arv Z h2 b k2 .int 1 [.int 0] (.int 0) := (Arv.new A2 (by decide)).pad (pad_rep [] _ 1)
      refine Go.by (g' := (mkF m 17 #[.val (.int (1 : Int32)), .val (.int p2), .val (.int p3), .val (.int p4)] [(.ref b), (.ref b)])) (fun _ k => XS.dup X2.here hx rfl (hb hby d1_16) rfl rfl k) ?_
      refine Go.by (g' := (mkF m 18 #[.val (.int (1 : Int32)), .val (.int p2), .val (.int p3), .val (.int p4)] [(.int (0 : Int32)), (.ref b), (.ref b)])) (fun _ k => XS.iconst X2.here hx rfl (hb hby d1_17) k) ?_
      refine Go.by (g' := (mkF m 19 #[.val (.int (1 : Int32)), .val (.int p2), .val (.int p3), .val (.int p4)] [(.int p2), (.int (0 : Int32)), (.ref b), (.ref b)])) (fun _ k => XS.iloadN X2.here hx rfl (hb hby d1_18) rfl k) ?_
      obtain ⟨T3, h3, X3, e3, W3, V3, st3⟩ := stIA X2 hx hZ e2 V0 0 rfl (by decide) (by decide) (by simp) (g := (mkF m 19 #[.val (.int (1 : Int32)), .val (.int p2), .val (.int p3), .val (.int p4)] [(.int p2), (.int (0 : Int32)), (.ref b), (.ref b)])) rfl rfl (hb hby d1_19)
      have Z3 : n0 ≤ h3.size := Nat.le_trans Z2 (Nat.le_of_eq W3.size.symm)
      have M3 := Fr.snoc X3 (Fr.nil n0) ge_b
      have KP3 : Keep h0 h3 [] := KP2.wr W3 (Or.inr sz_b)
      refine Go.by (g' := (mkF m 20 #[.val (.int (1 : Int32)), .val (.int p2), .val (.int p3), .val (.int p4)] [(.ref b)])) st3 ?_
      have U3 : Arv Z h3 b k2 .int 1 [.int p2] (.int 0) := V3
      exact Go.outA X3 hx hret (Lv.narrow X3 hlk (by decide) (by decide)) rfl rfl (hb hby d1_20) (by rw [e3]; exact ⟨b, k2, rfl, M3, KP3, U3, sz_b⟩)
    · refine Go.by (g' := (mkF m 21 #[.val (.int p1), .val (.int p2), .val (.int p3), .val (.int p4)] [])) (fun _ k => XS.icmpYes X0.here hx rfl (pc0 := 10) (pc' := 21) rfl (hb hby d1_10) rfl (feq h10).2 (by decide) (by decide) k) ?_
      refine Go.by (g' := (mkF m 22 #[.val (.int p1), .val (.int p2), .val (.int p3), .val (.int p4)] [(.int p1)])) (fun _ k => XS.iloadN X0.here hx rfl (hb hby d1_21) rfl k) ?_
      refine Go.by (g' := (mkF m 23 #[.val (.int p1), .val (.int p2), .val (.int p3), .val (.int p4)] [(.int (2 : Int32)), (.int p1)])) (fun _ k => XS.iconst X0.here hx rfl (hb hby d1_22) k) ?_
      by_cases h23 : p1 = (2 : Int32)
      · refine Go.by (g' := (mkF m 26 #[.val (.int p1), .val (.int p2), .val (.int p3), .val (.int p4)] [])) (fun _ k => XS.icmpNo X0.here hx rfl (hb hby d1_23) rfl (teq h23).2 k) ?_
        subst h23
        refine Go.by (g' := (mkF m 27 #[.val (.int (2 : Int32)), .val (.int p2), .val (.int p3), .val (.int p4)] [(.int (2 : Int32))])) (fun _ k => XS.iconst X0.here hx rfl (hb hby d1_26) k) ?_
        obtain ⟨T4, h4, k4, X4, e4, E4, A4, st4⟩ := newP X0 hx hZ (hw _ (List.mem_of_getElem? (i := 4) rfl)) e0 (g := (mkF m 27 #[.val (.int (2 : Int32)), .val (.int p2), .val (.int p3), .val (.int p4)] [(.int (2 : Int32))])) rfl (hb hby d1_27) rfl (by decide) (cap := 2) (by decide) (by decide) (by decide) (by decide)
        obtain ⟨b, g4⟩ : ∃ z, z = h0.size := ⟨_, rfl⟩
        rw [← g4] at A4 st4
        have ge_b : n0 ≤ b := Nat.le_trans Z0 (Nat.le_of_eq g4.symm)
        have sz_b : h0.size ≤ b := Nat.le_trans (Keep.refl h0 []).1 (Nat.le_of_eq g4.symm)
        have Z4 : n0 ≤ h4.size := Nat.le_trans Z0 E4.1
        have KP4 : Keep h0 h4 [] := (Keep.refl h0 []).ext E4
        refine Go.by (g' := (mkF m 29 #[.val (.int (2 : Int32)), .val (.int p2), .val (.int p3), .val (.int p4)] [(.ref b)])) st4 ?_
        have V0 : Arv Z h4 b k4 .int 2 [.int 0, .int 0] (.int 0) := (Arv.new A4 (by decide)).pad (pad_rep [] _ 2)
        refine Go.by (g' := (mkF m 30 #[.val (.int (2 : Int32)), .val (.int p2), .val (.int p3), .val (.int p4)] [(.ref b), (.ref b)])) (fun _ k => XS.dup X4.here hx rfl (hb hby d1_29) rfl rfl k) ?_
        refine Go.by (g' := (mkF m 31 #[.val (.int (2 : Int32)), .val (.int p2), .val (.int p3), .val (.int p4)] [(.int (0 : Int32)), (.ref b), (.ref b)])) (fun _ k => XS.iconst X4.here hx rfl (hb hby d1_30) k) ?_
        refine Go.by (g' := (mkF m 32 #[.val (.int (2 : Int32)), .val (.int p2), .val (.int p3), .val (.int p4)] [(.int p2), (.int (0 : Int32)), (.ref b), (.ref b)])) (fun _ k => XS.iloadN X4.here hx rfl (hb hby d1_31) rfl k) ?_
        obtain ⟨T5, h5, X5, e5, W5, V5, st5⟩ := stIA X4 hx hZ e4 V0 0 rfl (by decide) (by decide) (by simp) (g := (mkF m 32 #[.val (.int (2 : Int32)), .val (.int p2), .val (.int p3), .val (.int p4)] [(.int p2), (.int (0 : Int32)), (.ref b), (.ref b)])) rfl rfl (hb hby d1_32)
        have Z5 : n0 ≤ h5.size := Nat.le_trans Z4 (Nat.le_of_eq W5.size.symm)
        have M5 := Fr.snoc X5 (Fr.nil n0) ge_b
        have KP5 : Keep h0 h5 [] := KP4.wr W5 (Or.inr sz_b)
        refine Go.by (g' := (mkF m 33 #[.val (.int (2 : Int32)), .val (.int p2), .val (.int p3), .val (.int p4)] [(.ref b)])) st5 ?_
        have U5 : Arv Z h5 b k4 .int 2 [.int p2, .int 0] (.int 0) := V5
        refine Go.by (g' := (mkF m 34 #[.val (.int (2 : Int32)), .val (.int p2), .val (.int p3), .val (.int p4)] [(.ref b), (.ref b)])) (fun _ k => XS.dup X5.here hx rfl (hb hby d1_33) rfl rfl k) ?_
        refine Go.by (g' := (mkF m 35 #[.val (.int (2 : Int32)), .val (.int p2), .val (.int p3), .val (.int p4)] [(.int (1 : Int32)), (.ref b), (.ref b)])) (fun _ k => XS.iconst X5.here hx rfl (hb hby d1_34) k) ?_
        refine Go.by (g' := (mkF m 36 #[.val (.int (2 : Int32)), .val (.int p2), .val (.int p3), .val (.int p4)] [(.int p3), (.int (1 : Int32)), (.ref b), (.ref b)])) (fun _ k => XS.iloadN X5.here hx rfl (hb hby d1_35) rfl k) ?_
        obtain ⟨T6, h6, X6, e6, W6, V6, st6⟩ := stIA X5 hx hZ e5 U5 1 rfl (by decide) (by decide) (by simp) (g := (mkF m 36 #[.val (.int (2 : Int32)), .val (.int p2), .val (.int p3), .val (.int p4)] [(.int p3), (.int (1 : Int32)), (.ref b), (.ref b)])) rfl rfl (hb hby d1_36)
        have Z6 : n0 ≤ h6.size := Nat.le_trans Z5 (Nat.le_of_eq W6.size.symm)
        have M6 := Fr.snoc X6 M5 ge_b
        have KP6 : Keep h0 h6 [] := KP5.wr W6 (Or.inr sz_b)
        refine Go.by (g' := (mkF m 37 #[.val (.int (2 : Int32)), .val (.int p2), .val (.int p3), .val (.int p4)] [(.ref b)])) st6 ?_
        have U6 : Arv Z h6 b k4 .int 2 [.int p2, .int p3] (.int 0) := V6
        exact Go.outA X6 hx hret (Lv.narrow X6 hlk (by decide) (by decide)) rfl rfl (hb hby d1_37) (by rw [e6]; exact ⟨b, k4, rfl, M6, KP6, U6, sz_b⟩)
      · refine Go.by (g' := (mkF m 38 #[.val (.int p1), .val (.int p2), .val (.int p3), .val (.int p4)] [])) (fun _ k => XS.icmpYes X0.here hx rfl (pc0 := 23) (pc' := 38) rfl (hb hby d1_23) rfl (feq h23).2 (by decide) (by decide) k) ?_
        obtain rfl : p1 = 3 := by rcases hl with h | h | h | h <;> first | exact h | exact absurd h h1 | exact absurd h h10 | exact absurd h h23
        refine Go.by (g' := (mkF m 39 #[.val (.int (3 : Int32)), .val (.int p2), .val (.int p3), .val (.int p4)] [(.int (3 : Int32))])) (fun _ k => XS.iconst X0.here hx rfl (hb hby d1_38) k) ?_
        obtain ⟨T7, h7, k7, X7, e7, E7, A7, st7⟩ := newP X0 hx hZ (hw _ (List.mem_of_getElem? (i := 4) rfl)) e0 (g := (mkF m 39 #[.val (.int (3 : Int32)), .val (.int p2), .val (.int p3), .val (.int p4)] [(.int (3 : Int32))])) rfl (hb hby d1_39) rfl (by decide) (cap := 3) (by decide) (by decide) (by decide) (by decide)
        obtain ⟨b, g7⟩ : ∃ z, z = h0.size := ⟨_, rfl⟩
        rw [← g7] at A7 st7
        have ge_b : n0 ≤ b := Nat.le_trans Z0 (Nat.le_of_eq g7.symm)
        have sz_b : h0.size ≤ b := Nat.le_trans (Keep.refl h0 []).1 (Nat.le_of_eq g7.symm)
        have Z7 : n0 ≤ h7.size := Nat.le_trans Z0 E7.1
        have KP7 : Keep h0 h7 [] := (Keep.refl h0 []).ext E7
        refine Go.by (g' := (mkF m 41 #[.val (.int (3 : Int32)), .val (.int p2), .val (.int p3), .val (.int p4)] [(.ref b)])) st7 ?_
        have V0 : Arv Z h7 b k7 .int 3 [.int 0, .int 0, .int 0] (.int 0) := (Arv.new A7 (by decide)).pad (pad_rep [] _ 3)
        refine Go.by (g' := (mkF m 42 #[.val (.int (3 : Int32)), .val (.int p2), .val (.int p3), .val (.int p4)] [(.ref b), (.ref b)])) (fun _ k => XS.dup X7.here hx rfl (hb hby d1_41) rfl rfl k) ?_
        refine Go.by (g' := (mkF m 43 #[.val (.int (3 : Int32)), .val (.int p2), .val (.int p3), .val (.int p4)] [(.int (0 : Int32)), (.ref b), (.ref b)])) (fun _ k => XS.iconst X7.here hx rfl (hb hby d1_42) k) ?_
        refine Go.by (g' := (mkF m 44 #[.val (.int (3 : Int32)), .val (.int p2), .val (.int p3), .val (.int p4)] [(.int p2), (.int (0 : Int32)), (.ref b), (.ref b)])) (fun _ k => XS.iloadN X7.here hx rfl (hb hby d1_43) rfl k) ?_
        obtain ⟨T8, h8, X8, e8, W8, V8, st8⟩ := stIA X7 hx hZ e7 V0 0 rfl (by decide) (by decide) (by simp) (g := (mkF m 44 #[.val (.int (3 : Int32)), .val (.int p2), .val (.int p3), .val (.int p4)] [(.int p2), (.int (0 : Int32)), (.ref b), (.ref b)])) rfl rfl (hb hby d1_44)
        have Z8 : n0 ≤ h8.size := Nat.le_trans Z7 (Nat.le_of_eq W8.size.symm)
        have M8 := Fr.snoc X8 (Fr.nil n0) ge_b
        have KP8 : Keep h0 h8 [] := KP7.wr W8 (Or.inr sz_b)
        refine Go.by (g' := (mkF m 45 #[.val (.int (3 : Int32)), .val (.int p2), .val (.int p3), .val (.int p4)] [(.ref b)])) st8 ?_
        have U8 : Arv Z h8 b k7 .int 3 [.int p2, .int 0, .int 0] (.int 0) := V8
        refine Go.by (g' := (mkF m 46 #[.val (.int (3 : Int32)), .val (.int p2), .val (.int p3), .val (.int p4)] [(.ref b), (.ref b)])) (fun _ k => XS.dup X8.here hx rfl (hb hby d1_45) rfl rfl k) ?_
        refine Go.by (g' := (mkF m 47 #[.val (.int (3 : Int32)), .val (.int p2), .val (.int p3), .val (.int p4)] [(.int (1 : Int32)), (.ref b), (.ref b)])) (fun _ k => XS.iconst X8.here hx rfl (hb hby d1_46) k) ?_
        refine Go.by (g' := (mkF m 48 #[.val (.int (3 : Int32)), .val (.int p2), .val (.int p3), .val (.int p4)] [(.int p3), (.int (1 : Int32)), (.ref b), (.ref b)])) (fun _ k => XS.iloadN X8.here hx rfl (hb hby d1_47) rfl k) ?_
        obtain ⟨T9, h9, X9, e9, W9, V9, st9⟩ := stIA X8 hx hZ e8 U8 1 rfl (by decide) (by decide) (by simp) (g := (mkF m 48 #[.val (.int (3 : Int32)), .val (.int p2), .val (.int p3), .val (.int p4)] [(.int p3), (.int (1 : Int32)), (.ref b), (.ref b)])) rfl rfl (hb hby d1_48)
        have Z9 : n0 ≤ h9.size := Nat.le_trans Z8 (Nat.le_of_eq W9.size.symm)
        have M9 := Fr.snoc X9 M8 ge_b
        have KP9 : Keep h0 h9 [] := KP8.wr W9 (Or.inr sz_b)
        refine Go.by (g' := (mkF m 49 #[.val (.int (3 : Int32)), .val (.int p2), .val (.int p3), .val (.int p4)] [(.ref b)])) st9 ?_
        have U9 : Arv Z h9 b k7 .int 3 [.int p2, .int p3, .int 0] (.int 0) := V9
        refine Go.by (g' := (mkF m 50 #[.val (.int (3 : Int32)), .val (.int p2), .val (.int p3), .val (.int p4)] [(.ref b), (.ref b)])) (fun _ k => XS.dup X9.here hx rfl (hb hby d1_49) rfl rfl k) ?_
        refine Go.by (g' := (mkF m 51 #[.val (.int (3 : Int32)), .val (.int p2), .val (.int p3), .val (.int p4)] [(.int (2 : Int32)), (.ref b), (.ref b)])) (fun _ k => XS.iconst X9.here hx rfl (hb hby d1_50) k) ?_
        refine Go.by (g' := (mkF m 52 #[.val (.int (3 : Int32)), .val (.int p2), .val (.int p3), .val (.int p4)] [(.int p4), (.int (2 : Int32)), (.ref b), (.ref b)])) (fun _ k => XS.iloadN X9.here hx rfl (hb hby d1_51) rfl k) ?_
        obtain ⟨T10, h10, X10, e10, W10, V10, st10⟩ := stIA X9 hx hZ e9 U9 2 rfl (by decide) (by decide) (by simp) (g := (mkF m 52 #[.val (.int (3 : Int32)), .val (.int p2), .val (.int p3), .val (.int p4)] [(.int p4), (.int (2 : Int32)), (.ref b), (.ref b)])) rfl rfl (hb hby d1_52)
        have Z10 : n0 ≤ h10.size := Nat.le_trans Z9 (Nat.le_of_eq W10.size.symm)
        have M10 := Fr.snoc X10 M9 ge_b
        have KP10 : Keep h0 h10 [] := KP9.wr W10 (Or.inr sz_b)
        refine Go.by (g' := (mkF m 53 #[.val (.int (3 : Int32)), .val (.int p2), .val (.int p3), .val (.int p4)] [(.ref b)])) st10 ?_
        have U10 : Arv Z h10 b k7 .int 3 [.int p2, .int p3, .int p4] (.int 0) := V10
        exact Go.outA X10 hx hret (Lv.narrow X10 hlk (by decide) (by decide)) rfl rfl (hb hby d1_53) (by rw [e10]; exact ⟨b, k7, rfl, M10, KP10, U10, sz_b⟩)
theorem ef_2 (a1 : Addr) (a2 : Addr) (p3 : Int32) (m : MethodId) : entryFrame m #[(.ref a1), (.ref a2), (.int p3)] 3 = mkF m 0 #[.val (.ref a1), .val (.ref a2), .val (.int p3)] [] := by first | (simp [entryFrame, mkF, argsToLocals, Value.category]; done) | rfl
set_option maxRecDepth 65536 in
set_option maxHeartbeats 40000000 in
theorem rm2 (l : Launch) (Z : State) (a0 : Array Value) (hw : ∀ d ∈ tables_1, d.before a0 Z = true) (a1 : Addr) (a2 : Addr) (p3 : Int32) (h0 : Heap) (n0 : Nat) (u1 u2 : Value) (Ea : Exa Z h0 a1 "com/example/sorrel/sorrel/middle/alloc/Placement") (Fp : Fld Z h0 a1 "com/example/sorrel/sorrel/middle/alloc/Placement" "places" "[I" u1) (Fs : Fld Z h0 a1 "com/example/sorrel/sorrel/middle/alloc/Placement" "slots" "I" u2) (g1 : n0 ≤ a1) :
    Ctr l Z (⟨"com/example/sorrel/sorrel/middle/alloc/Placement", "<init>", "([II)V"⟩ : MethodName) prog_97_method_1_code 3 none ({ frames := 1, cells := 0, slots := 0, locals := 12 } : Room) #[(.ref a1), (.ref a2), (.int p3)] h0 (fun v h L => v = none ∧ Fr n0 L ∧ Keep h0 h [a1] ∧ Fld Z h a1 "com/example/sorrel/sorrel/middle/alloc/Placement" "places" "[I" (.ref a2)) := by
  refine Ctr.of pf_2 (ef_2 a1 a2 p3) ?_
  intro p e s m below meth c T0 hx hby hml hret hlk hnm hZ hown e0 X0
  refine Go.by (g' := (mkF m 1 #[.val (.ref a1), .val (.ref a2), .val (.int p3)] [(.ref a1)])) (fun _ k => XS.aloadN X0.here hx rfl (hb hby d2_0) rfl rfl k) ?_
  obtain ⟨T11, X11, e11, st11⟩ := initO X0 hx hZ hown (hw _ (List.mem_of_getElem? (i := 15) rfl)) (hw _ (List.mem_of_getElem? (i := 16) rfl)) (hw _ (List.mem_of_getElem? (i := 17) rfl)) e0 (g := (mkF m 1 #[.val (.ref a1), .val (.ref a2), .val (.int p3)] [(.ref a1)])) rfl (by rw [hml]; rfl) rfl (hb hby d2_1) (by decide) (W := 0) (by show 2 * 0 + _ ≤ _; exact Nat.le_of_eq rfl) (by decide)
  refine Go.by (g' := (mkF m 4 #[.val (.ref a1), .val (.ref a2), .val (.int p3)] [])) st11 ?_
  refine Go.by (g' := (mkF m 5 #[.val (.ref a1), .val (.ref a2), .val (.int p3)] [(.ref a1)])) (fun _ k => XS.aloadN X11.here hx rfl (hb hby d2_4) rfl rfl k) ?_
  refine Go.by (g' := (mkF m 6 #[.val (.ref a1), .val (.ref a2), .val (.int p3)] [(.ref a2), (.ref a1)])) (fun _ k => XS.aloadN X11.here hx rfl (hb hby d2_5) rfl rfl k) ?_
  obtain ⟨T12, h12, X12, e12, W12, st12⟩ := putF X11 hx hZ hown (host := "") (Or.inl (hw _ (List.mem_of_getElem? (i := 18) rfl))) Via.refl e11 Fp Ea (Or.inr ⟨(hw _ (List.mem_of_getElem? (i := 19) rfl)), rfl, hnm⟩) (hw _ (List.mem_of_getElem? (i := 10) rfl)) (ty := (.array .int)) (by decide) rfl rfl (g := (mkF m 6 #[.val (.ref a1), .val (.ref a2), .val (.int p3)] [(.ref a2), (.ref a1)])) rfl rfl (hb hby d2_6)
  have M12 := Fr.snoc X12 (Fr.nil n0) g1
  have KP12 : Keep h0 h12 [a1] := (Keep.refl h0 [a1]).wr W12 (Or.inl (List.mem_of_getElem? (i := 0) rfl))
  have F12_Fp := Fp.same W12
  refine Go.by (g' := (mkF m 9 #[.val (.ref a1), .val (.ref a2), .val (.int p3)] [])) st12 ?_
  refine Go.by (g' := (mkF m 10 #[.val (.ref a1), .val (.ref a2), .val (.int p3)] [(.ref a1)])) (fun _ k => XS.aloadN X12.here hx rfl (hb hby d2_9) rfl rfl k) ?_
  refine Go.by (g' := (mkF m 11 #[.val (.ref a1), .val (.ref a2), .val (.int p3)] [(.int p3), (.ref a1)])) (fun _ k => XS.iloadN X12.here hx rfl (hb hby d2_10) rfl k) ?_
  have f13_Fs := (Fs.other W12 (Or.inr (slot_ne (Or.inr (hw _ (List.mem_of_getElem? (i := 21) rfl))) (Or.inr (hw _ (List.mem_of_getElem? (i := 19) rfl))) (by decide) (t := .int) (t' := (.array .int)) (by decide) (by decide))))
  have f14_Ea := (Ea.wr W12)
  obtain ⟨T15, h15, X15, e15, W15, st15⟩ := putF X12 hx hZ hown (host := "") (Or.inl (hw _ (List.mem_of_getElem? (i := 20) rfl))) Via.refl e12 f13_Fs f14_Ea (Or.inr ⟨(hw _ (List.mem_of_getElem? (i := 21) rfl)), rfl, hnm⟩) (hw _ (List.mem_of_getElem? (i := 10) rfl)) (ty := .int) (by decide) rfl rfl (g := (mkF m 11 #[.val (.ref a1), .val (.ref a2), .val (.int p3)] [(.int p3), (.ref a1)])) rfl rfl (hb hby d2_11)
  have M15 := Fr.snoc X15 M12 g1
  have KP15 : Keep h0 h15 [a1] := KP12.wr W15 (Or.inl (List.mem_of_getElem? (i := 0) rfl))
  have F15_Fs := f13_Fs.same W15
  refine Go.by (g' := (mkF m 14 #[.val (.ref a1), .val (.ref a2), .val (.int p3)] [])) st15 ?_
  have f16_Fp := (F12_Fp.other W15 (Or.inr (slot_ne (Or.inr (hw _ (List.mem_of_getElem? (i := 19) rfl))) (Or.inr (hw _ (List.mem_of_getElem? (i := 21) rfl))) (by decide) (t := (.array .int)) (t' := .int) (by decide) (by decide))))
  exact Go.outN X15 hx hret (Lv.narrow X15 hlk (by decide) (by decide)) (hb hby d2_14) (by rw [e15]; exact ⟨rfl, M15, KP15, f16_Fp⟩)
theorem ef_5 (a1 : Addr) (m : MethodId) : entryFrame m #[(.ref a1)] 1 = mkF m 0 #[.val (.ref a1)] [] := by first | (simp [entryFrame, mkF, argsToLocals, Value.category]; done) | rfl
set_option maxRecDepth 65536 in
set_option maxHeartbeats 40000000 in
theorem rm5 (l : Launch) (Z : State) (a0 : Array Value) (hw : ∀ d ∈ tables_1, d.before a0 Z = true) (a1 : Addr) (h0 : Heap) (n0 : Nat)   :
    Ctr l Z (⟨"java/lang/Record", "<init>", "()V"⟩ : MethodName) jdk_30_method_1_code 1 none ({ frames := 1, cells := 0, slots := 0, locals := 12 } : Room) #[(.ref a1)] h0 (fun v h L => v = none ∧ Fr n0 L ∧ h = h0) := by
  refine Ctr.of pf_5 (ef_5 a1) ?_
  intro p e s m below meth c T0 hx hby hml hret hlk hnm hZ hown e0 X0
  refine Go.by (g' := (mkF m 1 #[.val (.ref a1)] [(.ref a1)])) (fun _ k => XS.aloadN X0.here hx rfl (hb hby d5_0) rfl rfl k) ?_
  obtain ⟨T17, X17, e17, st17⟩ := initO X0 hx hZ hown (hw _ (List.mem_of_getElem? (i := 33) rfl)) (hw _ (List.mem_of_getElem? (i := 16) rfl)) (hw _ (List.mem_of_getElem? (i := 17) rfl)) e0 (g := (mkF m 1 #[.val (.ref a1)] [(.ref a1)])) rfl (by rw [hml]; rfl) rfl (hb hby d5_1) (by decide) (W := 0) (by show 2 * 0 + _ ≤ _; exact Nat.le_of_eq rfl) (by decide)
  refine Go.by (g' := (mkF m 4 #[.val (.ref a1)] [])) st17 ?_
  exact Go.outN X17 hx hret (Lv.narrow X17 hlk (by decide) (by decide)) (hb hby d5_4) (by rw [e17]; exact ⟨rfl, Fr.nil _, rfl⟩)
theorem ef_4 (a1 : Addr) (p2 : Int32) (a3 : Addr) (m : MethodId) : entryFrame m #[(.ref a1), (.int p2), (.ref a3)] 3 = mkF m 0 #[.val (.ref a1), .val (.int p2), .val (.ref a3)] [] := by first | (simp [entryFrame, mkF, argsToLocals, Value.category]; done) | rfl
set_option maxRecDepth 65536 in
set_option maxHeartbeats 40000000 in
theorem rm4 (l : Launch) (Z : State) (a0 : Array Value) (hw : ∀ d ∈ tables_1, d.before a0 Z = true) (a1 : Addr) (p2 : Int32) (a3 : Addr) (h0 : Heap) (n0 : Nat) (u1 u2 : Value) (Ea : Exa Z h0 a1 "com/example/sorrel/sorrel/middle/ir/Value") (Fp : Fld Z h0 a1 "com/example/sorrel/sorrel/middle/ir/Value" "number" "I" u1) (Fs : Fld Z h0 a1 "com/example/sorrel/sorrel/middle/ir/Value" "type" "Lcom/example/sorrel/sorrel/middle/ir/Value$Type;" u2) (g1 : n0 ≤ a1) :
    Ctr l Z (⟨"com/example/sorrel/sorrel/middle/ir/Value", "<init>", "(ILcom/example/sorrel/sorrel/middle/ir/Value$Type;)V"⟩ : MethodName) prog_169_method_1_code 3 none ({ frames := 2, cells := 0, slots := 0, locals := 24 } : Room) #[(.ref a1), (.int p2), (.ref a3)] h0 (fun v h L => v = none ∧ Fr n0 L ∧ Keep h0 h [a1] ∧ Fld Z h a1 "com/example/sorrel/sorrel/middle/ir/Value" "number" "I" (.int p2)) := by
  refine Ctr.of pf_4 (ef_4 a1 p2 a3) ?_
  intro p e s m below meth c T0 hx hby hml hret hlk hnm hZ hown e0 X0
  refine Go.by (g' := (mkF m 1 #[.val (.ref a1), .val (.int p2), .val (.ref a3)] [(.ref a1)])) (fun _ k => XS.aloadN X0.here hx rfl (hb hby d4_0) rfl rfl k) ?_
  refine Go.callI X0 hx hZ (y := (⟨"java/lang/Record", "<init>", "()V"⟩ : MethodName)) rfl hown (hw _ (List.mem_of_getElem? (i := 28) rfl)) (hw _ (List.mem_of_getElem? (i := 29) rfl)) (hw _ (List.mem_of_getElem? (i := 31) rfl)) (hw _ (List.mem_of_getElem? (i := 32) rfl)) (by decide) (W := 0) (a := a1) (argsL := []) (rest := []) (rm5 l Z a0 hw a1 h0 n0) (by decide) (by decide) (by decide) (by decide) (g := (mkF m 1 #[.val (.ref a1), .val (.int p2), .val (.ref a3)] [(.ref a1)])) rfl (by rw [hml]; rfl) (lenOf pd_5 rfl) rfl (by show 2 * 0 + _ ≤ _; exact Nat.le_of_eq rfl) (hb hby d4_1) e0 ?_
  rintro T18 L18 _ X18 ⟨rfl, N18, q18⟩
  have M18 := Fr.app (Fr.nil n0) N18
  show Go p e below _ _ T18 (mkF m 4 #[.val (.ref a1), .val (.int p2), .val (.ref a3)] [])
  refine Go.by (g' := (mkF m 5 #[.val (.ref a1), .val (.int p2), .val (.ref a3)] [(.ref a1)])) (fun _ k => XS.aloadN X18.here hx rfl (hb hby d4_4) rfl rfl k) ?_
  refine Go.by (g' := (mkF m 6 #[.val (.ref a1), .val (.int p2), .val (.ref a3)] [(.int p2), (.ref a1)])) (fun _ k => XS.iloadN X18.here hx rfl (hb hby d4_5) rfl k) ?_
  obtain ⟨T19, h19, X19, e19, W19, st19⟩ := putF X18 hx hZ hown (host := "") (Or.inl (hw _ (List.mem_of_getElem? (i := 34) rfl))) Via.refl q18 Fp Ea (Or.inr ⟨(hw _ (List.mem_of_getElem? (i := 35) rfl)), rfl, hnm⟩) (hw _ (List.mem_of_getElem? (i := 23) rfl)) (ty := .int) (by decide) rfl rfl (g := (mkF m 6 #[.val (.ref a1), .val (.int p2), .val (.ref a3)] [(.int p2), (.ref a1)])) rfl rfl (hb hby d4_6)
  have M19 := Fr.snoc X19 M18 g1
  have KP19 : Keep h0 h19 [a1] := (Keep.refl h0 [a1]).wr W19 (Or.inl (List.mem_of_getElem? (i := 0) rfl))
  have F19_Fp := Fp.same W19
  refine Go.by (g' := (mkF m 9 #[.val (.ref a1), .val (.int p2), .val (.ref a3)] [])) st19 ?_
  refine Go.by (g' := (mkF m 10 #[.val (.ref a1), .val (.int p2), .val (.ref a3)] [(.ref a1)])) (fun _ k => XS.aloadN X19.here hx rfl (hb hby d4_9) rfl rfl k) ?_
  refine Go.by (g' := (mkF m 11 #[.val (.ref a1), .val (.int p2), .val (.ref a3)] [(.ref a3), (.ref a1)])) (fun _ k => XS.aloadN X19.here hx rfl (hb hby d4_10) rfl rfl k) ?_
  have f20_Fs := (Fs.other W19 (Or.inr (slot_ne (Or.inr (hw _ (List.mem_of_getElem? (i := 37) rfl))) (Or.inr (hw _ (List.mem_of_getElem? (i := 35) rfl))) (by decide) (t := (.object "com/example/sorrel/sorrel/middle/ir/Value$Type")) (t' := .int) (by decide) (by decide))))
  have f21_Ea := (Ea.wr W19)
  obtain ⟨T22, h22, X22, e22, W22, st22⟩ := putF X19 hx hZ hown (host := "") (Or.inl (hw _ (List.mem_of_getElem? (i := 36) rfl))) Via.refl e19 f20_Fs f21_Ea (Or.inr ⟨(hw _ (List.mem_of_getElem? (i := 37) rfl)), rfl, hnm⟩) (hw _ (List.mem_of_getElem? (i := 23) rfl)) (ty := (.object "com/example/sorrel/sorrel/middle/ir/Value$Type")) (by decide) rfl rfl (g := (mkF m 11 #[.val (.ref a1), .val (.int p2), .val (.ref a3)] [(.ref a3), (.ref a1)])) rfl rfl (hb hby d4_11)
  have M22 := Fr.snoc X22 M19 g1
  have KP22 : Keep h0 h22 [a1] := KP19.wr W22 (Or.inl (List.mem_of_getElem? (i := 0) rfl))
  have F22_Fs := f20_Fs.same W22
  refine Go.by (g' := (mkF m 14 #[.val (.ref a1), .val (.int p2), .val (.ref a3)] [])) st22 ?_
  have f23_Fp := (F19_Fp.other W22 (Or.inr (slot_ne (Or.inr (hw _ (List.mem_of_getElem? (i := 35) rfl))) (Or.inr (hw _ (List.mem_of_getElem? (i := 37) rfl))) (by decide) (t := .int) (t' := (.object "com/example/sorrel/sorrel/middle/ir/Value$Type")) (by decide) (by decide))))
  exact Go.outN X22 hx hret (Lv.narrow X22 hlk (by decide) (by decide)) (hb hby d4_14) (by rw [e22]; exact ⟨rfl, M22, KP22, f23_Fp⟩)
theorem ef_7 (a1 : Addr) (m : MethodId) : entryFrame m #[(.ref a1)] 1 = mkF m 0 #[.val (.ref a1)] [] := by first | (simp [entryFrame, mkF, argsToLocals, Value.category]; done) | rfl
set_option maxRecDepth 65536 in
set_option maxHeartbeats 40000000 in
theorem rm7 (l : Launch) (Z : State) (a0 : Array Value) (hw : ∀ d ∈ tables_1, d.before a0 Z = true) (a1 : Addr) (h0 : Heap) (n0 : Nat) (q1 : Int32) (Fp : Fld Z h0 a1 "com/example/sorrel/sorrel/middle/ir/Value" "number" "I" (.int q1)) :
    Ctr l Z (⟨"com/example/sorrel/sorrel/middle/ir/Value", "number", "()I"⟩ : MethodName) prog_169_method_5_code 1 (some .int) ({ frames := 0, cells := 0, slots := 0, locals := 0 } : Room) #[(.ref a1)] h0 (fun v h L => v = some (.int q1) ∧ Fr n0 L ∧ h = h0) := by
  refine Ctr.of pf_7 (ef_7 a1) ?_
  intro p e s m below meth c T0 hx hby hml hret hlk hnm hZ hown e0 X0
  refine Go.by (g' := (mkF m 1 #[.val (.ref a1)] [(.ref a1)])) (fun _ k => XS.aloadN X0.here hx rfl (hb hby d7_0) rfl rfl k) ?_
  obtain ⟨T24, X24, e24, st24⟩ := getF X0 hx hZ hown (host := "") (Or.inl (hw _ (List.mem_of_getElem? (i := 34) rfl))) Via.refl e0 Fp (g := (mkF m 1 #[.val (.ref a1)] [(.ref a1)])) rfl rfl (hb hby d7_1)
  refine Go.by (g' := (mkF m 4 #[.val (.ref a1)] [(.int q1)])) st24 ?_
  exact Go.outI X24 hx hret (Lv.narrow X24 hlk (by decide) (by decide)) (hb hby d7_4) (by rw [e24]; exact ⟨rfl, Fr.nil _, rfl⟩)
theorem ef_6 (a1 : Addr) (a2 : Addr) (m : MethodId) : entryFrame m #[(.ref a1), (.ref a2)] 2 = mkF m 0 #[.val (.ref a1), .val (.ref a2)] [] := by first | (simp [entryFrame, mkF, argsToLocals, Value.category]; done) | rfl
set_option maxRecDepth 65536 in
set_option maxHeartbeats 40000000 in
theorem rm6 (l : Launch) (Z : State) (a0 : Array Value) (hw : ∀ d ∈ tables_1, d.before a0 Z = true) (a1 : Addr) (a2 : Addr) (h0 : Heap) (n0 : Nat) (b : Addr) (k : ClassId) (q1 len wv : Int32) (vs : List Value) (Fp : Fld Z h0 a1 "com/example/sorrel/sorrel/middle/alloc/Placement" "places" "[I" (.ref b)) (V : Arv Z h0 b k .int len vs (.int 0)) (Ev : Exa Z h0 a2 "com/example/sorrel/sorrel/middle/ir/Value") (Fn : Fld Z h0 a2 "com/example/sorrel/sorrel/middle/ir/Value" "number" "I" (.int q1)) (hn : ¬ q1 < 0) (hat : q1 < len → vs.getD q1.toNatClampNeg (.int 0) = .int wv) :
    Ctr l Z (⟨"com/example/sorrel/sorrel/middle/alloc/Placement", "has", "(Lcom/example/sorrel/sorrel/middle/ir/Value;)Z"⟩ : MethodName) prog_97_method_4_code 2 (some .boolean) ({ frames := 1, cells := 0, slots := 0, locals := 13 } : Room) #[(.ref a1), (.ref a2)] h0 (fun v h L => v = some (.int (hasV q1 len wv)) ∧ Fr n0 L ∧ h = h0) := by
  refine Ctr.of pf_6 (ef_6 a1 a2) ?_
  intro p e s m below meth c T0 hx hby hml hret hlk hnm hZ hown e0 X0
  refine Go.by (g' := (mkF m 1 #[.val (.ref a1), .val (.ref a2)] [(.ref a2)])) (fun _ k => XS.aloadN X0.here hx rfl (hb hby d6_0) rfl rfl k) ?_
  refine Go.callV X0 hx hZ (y := (⟨"com/example/sorrel/sorrel/middle/ir/Value", "number", "()I"⟩ : MethodName)) (z := (⟨"com/example/sorrel/sorrel/middle/ir/Value", "number", "()I"⟩ : MethodName)) hown (hw _ (List.mem_of_getElem? (i := 43) rfl)) (hw _ (List.mem_of_getElem? (i := 44) rfl)) (notFace_of_selects (args := #[]) (mvT hZ (hw _ (List.mem_of_getElem? (i := 46) rfl)))) (hw _ (List.mem_of_getElem? (i := 46) rfl)) (hw _ (List.mem_of_getElem? (i := 45) rfl)) (hw _ (List.mem_of_getElem? (i := 24) rfl)) (hw _ (List.mem_of_getElem? (i := 47) rfl)) (by decide) (W := 0) (a := a2) (argsL := []) (rest := []) Ev (rm7 l Z a0 hw a2 h0 n0 q1 Fn) (by decide) (by decide) (by decide) (by decide) (g := (mkF m 1 #[.val (.ref a1), .val (.ref a2)] [(.ref a2)])) rfl (by rw [hml]; rfl) (lenOf pd_7 rfl) rfl (by show 2 * 0 + _ ≤ _; exact Nat.le_of_eq rfl) (hb hby d6_1) e0 ?_
  rintro T25 L25 _ X25 ⟨rfl, N25, q25⟩
  have M25 := Fr.app (Fr.nil n0) N25
  show Go p e below _ _ T25 (mkF m 4 #[.val (.ref a1), .val (.ref a2)] [(.int q1)])
  refine Go.by (g' := (mkF m 5 #[.val (.ref a1), .val (.ref a2)] [(.ref a1), (.int q1)])) (fun _ k => XS.aloadN X25.here hx rfl (hb hby d6_4) rfl rfl k) ?_
  obtain ⟨T26, X26, e26, st26⟩ := getF X25 hx hZ hown (host := "") (Or.inl (hw _ (List.mem_of_getElem? (i := 18) rfl))) Via.refl q25 Fp (g := (mkF m 5 #[.val (.ref a1), .val (.ref a2)] [(.ref a1), (.int q1)])) rfl rfl (hb hby d6_5)
  refine Go.by (g' := (mkF m 8 #[.val (.ref a1), .val (.ref a2)] [(.ref b), (.int q1)])) st26 ?_
  refine Go.by (g' := (mkF m 9 #[.val (.ref a1), .val (.ref a2)] [(.int len), (.int q1)])) (lnA X26 hx hZ e26 V (g := (mkF m 8 #[.val (.ref a1), .val (.ref a2)] [(.ref b), (.int q1)])) rfl rfl (hb hby d6_8)) ?_
  by_cases h9 : q1 < len
  · refine Go.by (g' := (mkF m 12 #[.val (.ref a1), .val (.ref a2)] [])) (fun _ k => XS.icmpNo X26.here hx rfl (hb hby d6_9) rfl (tlt h9).2.1 k) ?_
    refine Go.by (g' := (mkF m 13 #[.val (.ref a1), .val (.ref a2)] [(.ref a1)])) (fun _ k => XS.aloadN X26.here hx rfl (hb hby d6_12) rfl rfl k) ?_
    obtain ⟨T27, X27, e27, st27⟩ := getF X26 hx hZ hown (host := "") (Or.inl (hw _ (List.mem_of_getElem? (i := 18) rfl))) Via.refl e26 Fp (g := (mkF m 13 #[.val (.ref a1), .val (.ref a2)] [(.ref a1)])) rfl rfl (hb hby d6_13)
    refine Go.by (g' := (mkF m 16 #[.val (.ref a1), .val (.ref a2)] [(.ref b)])) st27 ?_
    refine Go.by (g' := (mkF m 17 #[.val (.ref a1), .val (.ref a2)] [(.ref a2), (.ref b)])) (fun _ k => XS.aloadN X27.here hx rfl (hb hby d6_16) rfl rfl k) ?_
    refine Go.callV X27 hx hZ (y := (⟨"com/example/sorrel/sorrel/middle/ir/Value", "number", "()I"⟩ : MethodName)) (z := (⟨"com/example/sorrel/sorrel/middle/ir/Value", "number", "()I"⟩ : MethodName)) hown (hw _ (List.mem_of_getElem? (i := 43) rfl)) (hw _ (List.mem_of_getElem? (i := 44) rfl)) (notFace_of_selects (args := #[]) (mvT hZ (hw _ (List.mem_of_getElem? (i := 46) rfl)))) (hw _ (List.mem_of_getElem? (i := 46) rfl)) (hw _ (List.mem_of_getElem? (i := 45) rfl)) (hw _ (List.mem_of_getElem? (i := 24) rfl)) (hw _ (List.mem_of_getElem? (i := 47) rfl)) (by decide) (W := 1) (a := a2) (argsL := []) (rest := [(.ref b)]) Ev (rm7 l Z a0 hw a2 h0 n0 q1 Fn) (by decide) (by decide) (by decide) (by decide) (g := (mkF m 17 #[.val (.ref a1), .val (.ref a2)] [(.ref a2), (.ref b)])) rfl (by rw [hml]; rfl) (lenOf pd_7 rfl) rfl (by show 2 * 0 + _ ≤ _; exact Nat.le_of_eq rfl) (hb hby d6_17) e27 ?_
    rintro T28 L28 _ X28 ⟨rfl, N28, q28⟩
    have M28 := Fr.app M25 N28
    show Go p e below _ _ T28 (mkF m 20 #[.val (.ref a1), .val (.ref a2)] [(.int q1), (.ref b)])
    refine Go.by (g' := (mkF m 21 #[.val (.ref a1), .val (.ref a2)] [(.int wv)])) (ldIA X28 hx hZ q28 V (v := (.int wv)) hn h9 (hat h9) (g := (mkF m 20 #[.val (.ref a1), .val (.ref a2)] [(.int q1), (.ref b)])) rfl rfl (hb hby d6_20)) ?_
    refine Go.by (g' := (mkF m 23 #[.val (.ref a1), .val (.ref a2)] [(.int (-2147483648 : Int32)), (.int wv)])) (fun _ k => X28.ldcInt hx hown (mvT hZ (hw _ (List.mem_of_getElem? (i := 48) rfl))) (g := (mkF m 21 #[.val (.ref a1), .val (.ref a2)] [(.int wv)])) rfl (hb hby d6_21) _ k) ?_
    by_cases h23 : wv = (-2147483648 : Int32)
    · refine Go.by (g' := (mkF m 30 #[.val (.ref a1), .val (.ref a2)] [])) (fun _ k => XS.icmpYes X28.here hx rfl (pc0 := 23) (pc' := 30) rfl (hb hby d6_23) rfl (teq h23).1 (by decide) (by decide) k) ?_
      refine Go.by (g' := (mkF m 31 #[.val (.ref a1), .val (.ref a2)] [(.int (0 : Int32))])) (fun _ k => XS.iconst X28.here hx rfl (hb hby d6_30) k) ?_
      exact Go.outZ X28 hx hret (Lv.narrow X28 hlk (by decide) (by decide)) (hb hby d6_31) (by decide) (by rw [q28]; exact ⟨by rw [hasV, if_pos h9, if_pos h23], M28, rfl⟩)
    · refine Go.by (g' := (mkF m 26 #[.val (.ref a1), .val (.ref a2)] [])) (fun _ k => XS.icmpNo X28.here hx rfl (hb hby d6_23) rfl (feq h23).1 k) ?_
      refine Go.by (g' := (mkF m 27 #[.val (.ref a1), .val (.ref a2)] [(.int (1 : Int32))])) (fun _ k => XS.iconst X28.here hx rfl (hb hby d6_26) k) ?_
      refine Go.by (g' := (mkF m 31 #[.val (.ref a1), .val (.ref a2)] [(.int (1 : Int32))])) (fun _ k => XS.goto X28.here hx rfl (pc0 := 27) (pc' := 31) rfl (hb hby d6_27) (by decide) (by decide) k) ?_
      exact Go.outZ X28 hx hret (Lv.narrow X28 hlk (by decide) (by decide)) (hb hby d6_31) (by decide) (by rw [q28]; exact ⟨by rw [hasV, if_pos h9, if_neg h23], M28, rfl⟩)
  · refine Go.by (g' := (mkF m 30 #[.val (.ref a1), .val (.ref a2)] [])) (fun _ k => XS.icmpYes X26.here hx rfl (pc0 := 9) (pc' := 30) rfl (hb hby d6_9) rfl (flt h9).2.1 (by decide) (by decide) k) ?_
    refine Go.by (g' := (mkF m 31 #[.val (.ref a1), .val (.ref a2)] [(.int (0 : Int32))])) (fun _ k => XS.iconst X26.here hx rfl (hb hby d6_30) k) ?_
    exact Go.outZ X26 hx hret (Lv.narrow X26 hlk (by decide) (by decide)) (hb hby d6_31) (by decide) (by rw [e26]; exact ⟨by rw [hasV, if_neg h9], M25, rfl⟩)
theorem ef_0 (p1 : Int32) (p2 : Int32) (p3 : Int32) (p4 : Int32) (p5 : Int32) (m : MethodId) : entryFrame m #[(.int p1), (.int p2), (.int p3), (.int p4), (.int p5)] maxLocals = mkF m 0 #[.val (.int p1), .val (.int p2), .val (.int p3), .val (.int p4), .val (.int p5), .unset, .unset, .unset, .unset, .unset, .unset, .unset, .unset, .unset, .unset, .unset, .unset] [] := by first | (simp [entryFrame, mkF, argsToLocals, Value.category, maxLocals]; done) | rfl
set_option maxRecDepth 65536 in
set_option maxHeartbeats 40000000 in
theorem rm0 (l : Launch) (Z : State) (a0 : Array Value) (hw : ∀ d ∈ tables_1, d.before a0 Z = true) (p1 : Int32) (p2 : Int32) (p3 : Int32) (p4 : Int32) (p5 : Int32) (h0 : Heap) (n0 : Nat) (Z0 : n0 ≤ h0.size) (aI aB aR : Addr) (OL : Old Z n0 h0) (SI : Sta Z Z.heap "com/example/sorrel/sorrel/middle/ir/Value$Type" "INT" "Lcom/example/sorrel/sorrel/middle/ir/Value$Type;" (.ref aI)) (SB : Sta Z Z.heap "com/example/sorrel/sorrel/middle/ir/Value$Type" "BOOL" "Lcom/example/sorrel/sorrel/middle/ir/Value$Type;" (.ref aB)) (SR : Sta Z Z.heap "com/example/sorrel/sorrel/middle/ir/Value$Type" "REF" "Lcom/example/sorrel/sorrel/middle/ir/Value$Type;" (.ref aR)) :
    Ctr l Z x code maxLocals ret room_1 #[(.int p1), (.int p2), (.int p3), (.int p4), (.int p5)] h0 (fun v h L => v = some (.int 1) ∧ Fr n0 L) := by
  refine Ctr.of pf_0 (ef_0 p1 p2 p3 p4 p5) ?_
  intro p e s m below meth c T0 hx hby hml hret hlk hnm hZ hown e0 X0
  have k46 : ∀ x y z : Int32, Go p e below (En s room_1.cells room_1.slots) (fun v h L => v = some (.int 1) ∧ Fr n0 L) T0 (mkF m 46 #[.val (.int p1), .val (.int p2), .val (.int p3), .val (.int p4), .val (.int p5), .val (.int x), .val (.int y), .unset, .unset, .unset, .unset, .unset, .unset, .unset, .unset, .unset, .unset] [(.int z)]) := by
    intro x y z
    refine Go.by (g' := (mkF m 48 #[.val (.int p1), .val (.int p2), .val (.int p3), .val (.int p4), .val (.int p5), .val (.int x), .val (.int y), .val (.int z), .unset, .unset, .unset, .unset, .unset, .unset, .unset, .unset, .unset] [])) (fun _ k => XS.istore X0.here hx rfl (hb hby at_46) rfl (l' := #[.val (.int p1), .val (.int p2), .val (.int p3), .val (.int p4), .val (.int p5), .val (.int x), .val (.int y), .val (.int z), .unset, .unset, .unset, .unset, .unset, .unset, .unset, .unset, .unset]) rfl k) ?_
    refine Go.by (g' := (mkF m 49 #[.val (.int p1), .val (.int p2), .val (.int p3), .val (.int p4), .val (.int p5), .val (.int x), .val (.int y), .val (.int z), .unset, .unset, .unset, .unset, .unset, .unset, .unset, .unset, .unset] [(.int p4)])) (fun _ k => XS.iloadN X0.here hx rfl (hb hby at_48) rfl k) ?_
    refine Go.by (g' := (mkF m 50 #[.val (.int p1), .val (.int p2), .val (.int p3), .val (.int p4), .val (.int p5), .val (.int x), .val (.int y), .val (.int z), .unset, .unset, .unset, .unset, .unset, .unset, .unset, .unset, .unset] [(.int (3 : Int32)), (.int p4)])) (fun _ k => XS.iconst X0.here hx rfl (hb hby at_49) k) ?_
    refine Go.by (g' := (mkF m 51 #[.val (.int p1), .val (.int p2), .val (.int p3), .val (.int p4), .val (.int p5), .val (.int x), .val (.int y), .val (.int z), .unset, .unset, .unset, .unset, .unset, .unset, .unset, .unset, .unset] [(.int (p4 &&& (3 : Int32)))])) (fun _ k => XS.iand X0.here hx rfl (hb hby at_50) rfl k) ?_
    refine Go.by (g' := (mkF m 53 #[.val (.int p1), .val (.int p2), .val (.int p3), .val (.int p4), .val (.int p5), .val (.int x), .val (.int y), .val (.int z), .val (.int (p4 &&& (3 : Int32))), .unset, .unset, .unset, .unset, .unset, .unset, .unset, .unset] [])) (fun _ k => XS.istore X0.here hx rfl (hb hby at_51) rfl (l' := #[.val (.int p1), .val (.int p2), .val (.int p3), .val (.int p4), .val (.int p5), .val (.int x), .val (.int y), .val (.int z), .val (.int (p4 &&& (3 : Int32))), .unset, .unset, .unset, .unset, .unset, .unset, .unset, .unset]) rfl k) ?_
    refine Go.by (g' := (mkF m 55 #[.val (.int p1), .val (.int p2), .val (.int p3), .val (.int p4), .val (.int p5), .val (.int x), .val (.int y), .val (.int z), .val (.int (p4 &&& (3 : Int32))), .unset, .unset, .unset, .unset, .unset, .unset, .unset, .unset] [(.int (p4 &&& (3 : Int32)))])) (fun _ k => XS.iload X0.here hx rfl (hb hby at_53) rfl k) ?_
    refine Go.by (g' := (mkF m 57 #[.val (.int p1), .val (.int p2), .val (.int p3), .val (.int p4), .val (.int p5), .val (.int x), .val (.int y), .val (.int z), .val (.int (p4 &&& (3 : Int32))), .unset, .unset, .unset, .unset, .unset, .unset, .unset, .unset] [(.int x), (.int (p4 &&& (3 : Int32)))])) (fun _ k => XS.iload X0.here hx rfl (hb hby at_55) rfl k) ?_
    refine Go.by (g' := (mkF m 59 #[.val (.int p1), .val (.int p2), .val (.int p3), .val (.int p4), .val (.int p5), .val (.int x), .val (.int y), .val (.int z), .val (.int (p4 &&& (3 : Int32))), .unset, .unset, .unset, .unset, .unset, .unset, .unset, .unset] [(.int y), (.int x), (.int (p4 &&& (3 : Int32)))])) (fun _ k => XS.iload X0.here hx rfl (hb hby at_57) rfl k) ?_
    refine Go.by (g' := (mkF m 61 #[.val (.int p1), .val (.int p2), .val (.int p3), .val (.int p4), .val (.int p5), .val (.int x), .val (.int y), .val (.int z), .val (.int (p4 &&& (3 : Int32))), .unset, .unset, .unset, .unset, .unset, .unset, .unset, .unset] [(.int z), (.int y), (.int x), (.int (p4 &&& (3 : Int32)))])) (fun _ k => XS.iload X0.here hx rfl (hb hby at_59) rfl k) ?_
    refine Go.callS X0 hx hZ (y := (⟨"com/example/sorrel/sorrel/middle/alloc/PlacementHasPinLaw", "places", "(IIII)[I"⟩ : MethodName)) hown (hw _ (List.mem_of_getElem? (i := 0) rfl)) (hw _ (List.mem_of_getElem? (i := 1) rfl)) (hw _ (List.mem_of_getElem? (i := 2) rfl)) (hw _ (List.mem_of_getElem? (i := 3) rfl)) (by decide) (W := 0) (argsL := [(.int (p4 &&& (3 : Int32))), (.int x), (.int y), (.int z)]) (rest := []) (rm1 l Z a0 hw (p4 &&& (3 : Int32)) x y z h0 n0 Z0 (len_cases p4)) (by decide) (by decide) (by decide) (by decide) (g := (mkF m 61 #[.val (.int p1), .val (.int p2), .val (.int p3), .val (.int p4), .val (.int p5), .val (.int x), .val (.int y), .val (.int z), .val (.int (p4 &&& (3 : Int32))), .unset, .unset, .unset, .unset, .unset, .unset, .unset, .unset] [(.int z), (.int y), (.int x), (.int (p4 &&& (3 : Int32)))])) rfl (by rw [hml]; rfl) (lenOf pd_1 rfl) rfl (by show 2 * 0 + _ ≤ _; exact Nat.le_of_eq rfl) (hb hby at_61) e0 ?_
    rintro T29 L29 _ X29 ⟨b1, kA, rfl, N29, K29, V0, sz1⟩
    have M29 := Fr.app (Fr.nil n0) N29
    have Z29 : n0 ≤ T29.heap.size := Nat.le_trans Z0 K29.1
    show Go p e below _ _ T29 (mkF m 64 #[.val (.int p1), .val (.int p2), .val (.int p3), .val (.int p4), .val (.int p5), .val (.int x), .val (.int y), .val (.int z), .val (.int (p4 &&& (3 : Int32))), .unset, .unset, .unset, .unset, .unset, .unset, .unset, .unset] [(.ref b1)])
    have ge_b1 : n0 ≤ b1 := Nat.le_trans Z0 sz1
    refine Go.by (g' := (mkF m 66 #[.val (.int p1), .val (.int p2), .val (.int p3), .val (.int p4), .val (.int p5), .val (.int x), .val (.int y), .val (.int z), .val (.int (p4 &&& (3 : Int32))), .val (.ref b1), .unset, .unset, .unset, .unset, .unset, .unset, .unset] [])) (fun _ k => XS.astore X29.here hx rfl (hb hby at_64) rfl rfl (l' := #[.val (.int p1), .val (.int p2), .val (.int p3), .val (.int p4), .val (.int p5), .val (.int x), .val (.int y), .val (.int z), .val (.int (p4 &&& (3 : Int32))), .val (.ref b1), .unset, .unset, .unset, .unset, .unset, .unset, .unset]) rfl k) ?_
    refine Go.by (g' := (mkF m 67 #[.val (.int p1), .val (.int p2), .val (.int p3), .val (.int p4), .val (.int p5), .val (.int x), .val (.int y), .val (.int z), .val (.int (p4 &&& (3 : Int32))), .val (.ref b1), .unset, .unset, .unset, .unset, .unset, .unset, .unset] [(.int p4)])) (fun _ k => XS.iloadN X29.here hx rfl (hb hby at_66) rfl k) ?_
    refine Go.by (g' := (mkF m 68 #[.val (.int p1), .val (.int p2), .val (.int p3), .val (.int p4), .val (.int p5), .val (.int x), .val (.int y), .val (.int z), .val (.int (p4 &&& (3 : Int32))), .val (.ref b1), .unset, .unset, .unset, .unset, .unset, .unset, .unset] [(.int (5 : Int32)), (.int p4)])) (fun _ k => XS.iconst X29.here hx rfl (hb hby at_67) k) ?_
    refine Go.by (g' := (mkF m 69 #[.val (.int p1), .val (.int p2), .val (.int p3), .val (.int p4), .val (.int p5), .val (.int x), .val (.int y), .val (.int z), .val (.int (p4 &&& (3 : Int32))), .val (.ref b1), .unset, .unset, .unset, .unset, .unset, .unset, .unset] [(.int (p4 >>> ((5 : Int32) &&& 31)))])) (fun _ k => XS.ishr X29.here hx rfl (hb hby at_68) rfl k) ?_
    refine Go.by (g' := (mkF m 70 #[.val (.int p1), .val (.int p2), .val (.int p3), .val (.int p4), .val (.int p5), .val (.int x), .val (.int y), .val (.int z), .val (.int (p4 &&& (3 : Int32))), .val (.ref b1), .unset, .unset, .unset, .unset, .unset, .unset, .unset] [(.int (1 : Int32)), (.int (p4 >>> ((5 : Int32) &&& 31)))])) (fun _ k => XS.iconst X29.here hx rfl (hb hby at_69) k) ?_
    refine Go.by (g' := (mkF m 71 #[.val (.int p1), .val (.int p2), .val (.int p3), .val (.int p4), .val (.int p5), .val (.int x), .val (.int y), .val (.int z), .val (.int (p4 &&& (3 : Int32))), .val (.ref b1), .unset, .unset, .unset, .unset, .unset, .unset, .unset] [(.int ((p4 >>> ((5 : Int32) &&& 31)) &&& (1 : Int32)))])) (fun _ k => XS.iand X29.here hx rfl (hb hby at_70) rfl k) ?_
    have k87 : ∀ num : Int32, ¬ num < 0 → Go p e below (En s room_1.cells room_1.slots) (fun v h L => v = some (.int 1) ∧ Fr n0 L) T29 (mkF m 87 #[.val (.int p1), .val (.int p2), .val (.int p3), .val (.int p4), .val (.int p5), .val (.int x), .val (.int y), .val (.int z), .val (.int (p4 &&& (3 : Int32))), .val (.ref b1), .unset, .unset, .unset, .unset, .unset, .unset, .unset] [(.int num)]) := by
      intro num hnum
      refine Go.by (g' := (mkF m 89 #[.val (.int p1), .val (.int p2), .val (.int p3), .val (.int p4), .val (.int p5), .val (.int x), .val (.int y), .val (.int z), .val (.int (p4 &&& (3 : Int32))), .val (.ref b1), .val (.int num), .unset, .unset, .unset, .unset, .unset, .unset] [])) (fun _ k => XS.istore X29.here hx rfl (hb hby at_87) rfl (l' := #[.val (.int p1), .val (.int p2), .val (.int p3), .val (.int p4), .val (.int p5), .val (.int x), .val (.int y), .val (.int z), .val (.int (p4 &&& (3 : Int32))), .val (.ref b1), .val (.int num), .unset, .unset, .unset, .unset, .unset, .unset]) rfl k) ?_
      refine Go.by (g' := (mkF m 90 #[.val (.int p1), .val (.int p2), .val (.int p3), .val (.int p4), .val (.int p5), .val (.int x), .val (.int y), .val (.int z), .val (.int (p4 &&& (3 : Int32))), .val (.ref b1), .val (.int num), .unset, .unset, .unset, .unset, .unset, .unset] [(.int p4)])) (fun _ k => XS.iloadN X29.here hx rfl (hb hby at_89) rfl k) ?_
      refine Go.by (g' := (mkF m 92 #[.val (.int p1), .val (.int p2), .val (.int p3), .val (.int p4), .val (.int p5), .val (.int x), .val (.int y), .val (.int z), .val (.int (p4 &&& (3 : Int32))), .val (.ref b1), .val (.int num), .unset, .unset, .unset, .unset, .unset, .unset] [(.int (6 : Int32)), (.int p4)])) (fun _ k => XS.bipush X29.here hx rfl (hb hby at_90) k) ?_
      refine Go.by (g' := (mkF m 93 #[.val (.int p1), .val (.int p2), .val (.int p3), .val (.int p4), .val (.int p5), .val (.int x), .val (.int y), .val (.int z), .val (.int (p4 &&& (3 : Int32))), .val (.ref b1), .val (.int num), .unset, .unset, .unset, .unset, .unset, .unset] [(.int (us p4 (6 : Int32)))])) (fun _ k => XS.iushr X29.here hx rfl (hb hby at_92) rfl k) ?_
      refine Go.by (g' := (mkF m 94 #[.val (.int p1), .val (.int p2), .val (.int p3), .val (.int p4), .val (.int p5), .val (.int x), .val (.int y), .val (.int z), .val (.int (p4 &&& (3 : Int32))), .val (.ref b1), .val (.int num), .unset, .unset, .unset, .unset, .unset, .unset] [(.int (3 : Int32)), (.int (us p4 (6 : Int32)))])) (fun _ k => XS.iconst X29.here hx rfl (hb hby at_93) k) ?_
      refine Go.by (g' := (mkF m 95 #[.val (.int p1), .val (.int p2), .val (.int p3), .val (.int p4), .val (.int p5), .val (.int x), .val (.int y), .val (.int z), .val (.int (p4 &&& (3 : Int32))), .val (.ref b1), .val (.int num), .unset, .unset, .unset, .unset, .unset, .unset] [(.int ((us p4 (6 : Int32)) &&& (3 : Int32)))])) (fun _ k => XS.iand X29.here hx rfl (hb hby at_94) rfl k) ?_
      refine Go.by (g' := (mkF m 97 #[.val (.int p1), .val (.int p2), .val (.int p3), .val (.int p4), .val (.int p5), .val (.int x), .val (.int y), .val (.int z), .val (.int (p4 &&& (3 : Int32))), .val (.ref b1), .val (.int num), .val (.int ((us p4 (6 : Int32)) &&& (3 : Int32))), .unset, .unset, .unset, .unset, .unset] [])) (fun _ k => XS.istore X29.here hx rfl (hb hby at_95) rfl (l' := #[.val (.int p1), .val (.int p2), .val (.int p3), .val (.int p4), .val (.int p5), .val (.int x), .val (.int y), .val (.int z), .val (.int (p4 &&& (3 : Int32))), .val (.ref b1), .val (.int num), .val (.int ((us p4 (6 : Int32)) &&& (3 : Int32))), .unset, .unset, .unset, .unset, .unset]) rfl k) ?_
      refine Go.by (g' := (mkF m 99 #[.val (.int p1), .val (.int p2), .val (.int p3), .val (.int p4), .val (.int p5), .val (.int x), .val (.int y), .val (.int z), .val (.int (p4 &&& (3 : Int32))), .val (.ref b1), .val (.int num), .val (.int ((us p4 (6 : Int32)) &&& (3 : Int32))), .unset, .unset, .unset, .unset, .unset] [(.int ((us p4 (6 : Int32)) &&& (3 : Int32)))])) (fun _ k => XS.iload X29.here hx rfl (hb hby at_97) rfl k) ?_
      have k123 : ∀ (T30 : State), Same X29 T30 → T30.heap = T29.heap → ∀ ty : Addr, Go p e below (En s room_1.cells room_1.slots) (fun v h L => v = some (.int 1) ∧ Fr n0 L) T30 (mkF m 123 #[.val (.int p1), .val (.int p2), .val (.int p3), .val (.int p4), .val (.int p5), .val (.int x), .val (.int y), .val (.int z), .val (.int (p4 &&& (3 : Int32))), .val (.ref b1), .val (.int num), .val (.int ((us p4 (6 : Int32)) &&& (3 : Int32))), .unset, .unset, .unset, .unset, .unset] [(.ref ty)]) := by
        intro T30 X30 e30 ty
        refine Go.by (g' := (mkF m 125 #[.val (.int p1), .val (.int p2), .val (.int p3), .val (.int p4), .val (.int p5), .val (.int x), .val (.int y), .val (.int z), .val (.int (p4 &&& (3 : Int32))), .val (.ref b1), .val (.int num), .val (.int ((us p4 (6 : Int32)) &&& (3 : Int32))), .val (.ref ty), .unset, .unset, .unset, .unset] [])) (fun _ k => XS.astore X30.here hx rfl (hb hby at_123) rfl rfl (l' := #[.val (.int p1), .val (.int p2), .val (.int p3), .val (.int p4), .val (.int p5), .val (.int x), .val (.int y), .val (.int z), .val (.int (p4 &&& (3 : Int32))), .val (.ref b1), .val (.int num), .val (.int ((us p4 (6 : Int32)) &&& (3 : Int32))), .val (.ref ty), .unset, .unset, .unset, .unset]) rfl k) ?_
        obtain ⟨T31, h31, X31, e31, E31, A31, D31, -, st31⟩ := newO X30 hx hZ hown (hw _ (List.mem_of_getElem? (i := 9) rfl)) (hw _ (List.mem_of_getElem? (i := 10) rfl)) (hw _ (List.mem_of_getElem? (i := 11) rfl)) e30 (g := (mkF m 125 #[.val (.int p1), .val (.int p2), .val (.int p3), .val (.int p4), .val (.int p5), .val (.int x), .val (.int y), .val (.int z), .val (.int (p4 &&& (3 : Int32))), .val (.ref b1), .val (.int num), .val (.int ((us p4 (6 : Int32)) &&& (3 : Int32))), .val (.ref ty), .unset, .unset, .unset, .unset] [])) rfl (hb hby at_125) (by decide) (by decide)
        obtain ⟨b2, g31⟩ : ∃ z, z = T29.heap.size := ⟨_, rfl⟩
        rw [← g31] at A31 D31 st31
        have ne_b1_b2 : b1 ≠ b2 := Nat.ne_of_lt (by rw [g31]; exact V0.lt)
        have ge_b2 : n0 ≤ b2 := Nat.le_trans Z29 (Nat.le_of_eq g31.symm)
        have Z31 : n0 ≤ h31.size := Nat.le_trans Z29 E31.1
        refine Go.by (g' := (mkF m 128 #[.val (.int p1), .val (.int p2), .val (.int p3), .val (.int p4), .val (.int p5), .val (.int x), .val (.int y), .val (.int z), .val (.int (p4 &&& (3 : Int32))), .val (.ref b1), .val (.int num), .val (.int ((us p4 (6 : Int32)) &&& (3 : Int32))), .val (.ref ty), .unset, .unset, .unset, .unset] [(.ref b2)])) st31 ?_
        have Fp : Fld Z h31 b2 "com/example/sorrel/sorrel/middle/alloc/Placement" "places" "[I" .null := (D31 (Or.inr (hw _ (List.mem_of_getElem? (i := 19) rfl))) (ty := (.array .int)) (by decide))
        have Fs : Fld Z h31 b2 "com/example/sorrel/sorrel/middle/alloc/Placement" "slots" "I" (.int 0) := (D31 (Or.inr (hw _ (List.mem_of_getElem? (i := 21) rfl))) (ty := .int) (by decide))
        refine Go.by (g' := (mkF m 129 #[.val (.int p1), .val (.int p2), .val (.int p3), .val (.int p4), .val (.int p5), .val (.int x), .val (.int y), .val (.int z), .val (.int (p4 &&& (3 : Int32))), .val (.ref b1), .val (.int num), .val (.int ((us p4 (6 : Int32)) &&& (3 : Int32))), .val (.ref ty), .unset, .unset, .unset, .unset] [(.ref b2), (.ref b2)])) (fun _ k => XS.dup X31.here hx rfl (hb hby at_128) rfl rfl k) ?_
        refine Go.by (g' := (mkF m 131 #[.val (.int p1), .val (.int p2), .val (.int p3), .val (.int p4), .val (.int p5), .val (.int x), .val (.int y), .val (.int z), .val (.int (p4 &&& (3 : Int32))), .val (.ref b1), .val (.int num), .val (.int ((us p4 (6 : Int32)) &&& (3 : Int32))), .val (.ref ty), .unset, .unset, .unset, .unset] [(.ref b1), (.ref b2), (.ref b2)])) (fun _ k => XS.aload X31.here hx rfl (hb hby at_129) rfl rfl k) ?_
        refine Go.by (g' := (mkF m 133 #[.val (.int p1), .val (.int p2), .val (.int p3), .val (.int p4), .val (.int p5), .val (.int x), .val (.int y), .val (.int z), .val (.int (p4 &&& (3 : Int32))), .val (.ref b1), .val (.int num), .val (.int ((us p4 (6 : Int32)) &&& (3 : Int32))), .val (.ref ty), .unset, .unset, .unset, .unset] [(.int p5), (.ref b1), (.ref b2), (.ref b2)])) (fun _ k => XS.iload X31.here hx rfl (hb hby at_131) rfl k) ?_
        refine Go.callI X31 hx hZ (y := (⟨"com/example/sorrel/sorrel/middle/alloc/Placement", "<init>", "([II)V"⟩ : MethodName)) rfl hown (hw _ (List.mem_of_getElem? (i := 12) rfl)) (hw _ (List.mem_of_getElem? (i := 13) rfl)) (hw _ (List.mem_of_getElem? (i := 11) rfl)) (hw _ (List.mem_of_getElem? (i := 14) rfl)) (by decide) (W := 1) (a := b2) (argsL := [(.ref b1), (.int p5)]) (rest := [(.ref b2)]) (rm2 l Z a0 hw b2 b1 p5 h31 n0 .null (.int 0) A31 Fp Fs ge_b2) (by decide) (by decide) (by decide) (by decide) (g := (mkF m 133 #[.val (.int p1), .val (.int p2), .val (.int p3), .val (.int p4), .val (.int p5), .val (.int x), .val (.int y), .val (.int z), .val (.int (p4 &&& (3 : Int32))), .val (.ref b1), .val (.int num), .val (.int ((us p4 (6 : Int32)) &&& (3 : Int32))), .val (.ref ty), .unset, .unset, .unset, .unset] [(.int p5), (.ref b1), (.ref b2), (.ref b2)])) rfl (by rw [hml]; rfl) (lenOf pd_2 rfl) rfl (by show 2 * 0 + _ ≤ _; exact Nat.le_of_eq rfl) (hb hby at_133) e31 ?_
        rintro T32 L32 _ X32 ⟨rfl, N32, K32, Fp32⟩
        have M32 := Fr.app M29 N32
        have Z32 : n0 ≤ T32.heap.size := Nat.le_trans Z31 K32.1
        show Go p e below _ _ T32 (mkF m 136 #[.val (.int p1), .val (.int p2), .val (.int p3), .val (.int p4), .val (.int p5), .val (.int x), .val (.int y), .val (.int z), .val (.int (p4 &&& (3 : Int32))), .val (.ref b1), .val (.int num), .val (.int ((us p4 (6 : Int32)) &&& (3 : Int32))), .val (.ref ty), .unset, .unset, .unset, .unset] [(.ref b2)])
        refine Go.by (g' := (mkF m 138 #[.val (.int p1), .val (.int p2), .val (.int p3), .val (.int p4), .val (.int p5), .val (.int x), .val (.int y), .val (.int z), .val (.int (p4 &&& (3 : Int32))), .val (.ref b1), .val (.int num), .val (.int ((us p4 (6 : Int32)) &&& (3 : Int32))), .val (.ref ty), .val (.ref b2), .unset, .unset, .unset] [])) (fun _ k => XS.astore X32.here hx rfl (hb hby at_136) rfl rfl (l' := #[.val (.int p1), .val (.int p2), .val (.int p3), .val (.int p4), .val (.int p5), .val (.int x), .val (.int y), .val (.int z), .val (.int (p4 &&& (3 : Int32))), .val (.ref b1), .val (.int num), .val (.int ((us p4 (6 : Int32)) &&& (3 : Int32))), .val (.ref ty), .val (.ref b2), .unset, .unset, .unset]) rfl k) ?_
        refine Go.by (g' := (mkF m 140 #[.val (.int p1), .val (.int p2), .val (.int p3), .val (.int p4), .val (.int p5), .val (.int x), .val (.int y), .val (.int z), .val (.int (p4 &&& (3 : Int32))), .val (.ref b1), .val (.int num), .val (.int ((us p4 (6 : Int32)) &&& (3 : Int32))), .val (.ref ty), .val (.ref b2), .unset, .unset, .unset] [(.ref b2)])) (fun _ k => XS.aload X32.here hx rfl (hb hby at_138) rfl rfl k) ?_
        obtain ⟨T33, h33, X33, e33, E33, A33, D33, -, st33⟩ := newO X32 hx hZ hown (hw _ (List.mem_of_getElem? (i := 22) rfl)) (hw _ (List.mem_of_getElem? (i := 23) rfl)) (hw _ (List.mem_of_getElem? (i := 24) rfl)) rfl (g := (mkF m 140 #[.val (.int p1), .val (.int p2), .val (.int p3), .val (.int p4), .val (.int p5), .val (.int x), .val (.int y), .val (.int z), .val (.int (p4 &&& (3 : Int32))), .val (.ref b1), .val (.int num), .val (.int ((us p4 (6 : Int32)) &&& (3 : Int32))), .val (.ref ty), .val (.ref b2), .unset, .unset, .unset] [(.ref b2)])) rfl (hb hby at_140) (by decide) (by decide)
        obtain ⟨b3, g33⟩ : ∃ z, z = T32.heap.size := ⟨_, rfl⟩
        rw [← g33] at A33 D33 st33
        have f34_V0 := ((V0.ext E31).keep K32 (ninS ne_b1_b2 nin0))
        have ne_b1_b3 : b1 ≠ b3 := Nat.ne_of_lt (by rw [g33]; exact f34_V0.lt)
        have f35_E2 := (A31.keep K32)
        have ne_b2_b3 : b2 ≠ b3 := Nat.ne_of_lt (by rw [g33]; exact f35_E2.lt)
        have ge_b3 : n0 ≤ b3 := Nat.le_trans Z32 (Nat.le_of_eq g33.symm)
        have Z33 : n0 ≤ h33.size := Nat.le_trans Z32 E33.1
        refine Go.by (g' := (mkF m 143 #[.val (.int p1), .val (.int p2), .val (.int p3), .val (.int p4), .val (.int p5), .val (.int x), .val (.int y), .val (.int z), .val (.int (p4 &&& (3 : Int32))), .val (.ref b1), .val (.int num), .val (.int ((us p4 (6 : Int32)) &&& (3 : Int32))), .val (.ref ty), .val (.ref b2), .unset, .unset, .unset] [(.ref b3), (.ref b2)])) st33 ?_
        have Fn : Fld Z h33 b3 "com/example/sorrel/sorrel/middle/ir/Value" "number" "I" (.int 0) := (D33 (Or.inr (hw _ (List.mem_of_getElem? (i := 35) rfl))) (ty := .int) (by decide))
        have Ft : Fld Z h33 b3 "com/example/sorrel/sorrel/middle/ir/Value" "type" "Lcom/example/sorrel/sorrel/middle/ir/Value$Type;" .null := (D33 (Or.inr (hw _ (List.mem_of_getElem? (i := 37) rfl))) (ty := (.object "com/example/sorrel/sorrel/middle/ir/Value$Type")) (by decide))
        refine Go.by (g' := (mkF m 144 #[.val (.int p1), .val (.int p2), .val (.int p3), .val (.int p4), .val (.int p5), .val (.int x), .val (.int y), .val (.int z), .val (.int (p4 &&& (3 : Int32))), .val (.ref b1), .val (.int num), .val (.int ((us p4 (6 : Int32)) &&& (3 : Int32))), .val (.ref ty), .val (.ref b2), .unset, .unset, .unset] [(.ref b3), (.ref b3), (.ref b2)])) (fun _ k => XS.dup X33.here hx rfl (hb hby at_143) rfl rfl k) ?_
        refine Go.by (g' := (mkF m 146 #[.val (.int p1), .val (.int p2), .val (.int p3), .val (.int p4), .val (.int p5), .val (.int x), .val (.int y), .val (.int z), .val (.int (p4 &&& (3 : Int32))), .val (.ref b1), .val (.int num), .val (.int ((us p4 (6 : Int32)) &&& (3 : Int32))), .val (.ref ty), .val (.ref b2), .unset, .unset, .unset] [(.int num), (.ref b3), (.ref b3), (.ref b2)])) (fun _ k => XS.iload X33.here hx rfl (hb hby at_144) rfl k) ?_
        refine Go.by (g' := (mkF m 148 #[.val (.int p1), .val (.int p2), .val (.int p3), .val (.int p4), .val (.int p5), .val (.int x), .val (.int y), .val (.int z), .val (.int (p4 &&& (3 : Int32))), .val (.ref b1), .val (.int num), .val (.int ((us p4 (6 : Int32)) &&& (3 : Int32))), .val (.ref ty), .val (.ref b2), .unset, .unset, .unset] [(.ref ty), (.int num), (.ref b3), (.ref b3), (.ref b2)])) (fun _ k => XS.aload X33.here hx rfl (hb hby at_146) rfl rfl k) ?_
        refine Go.callI X33 hx hZ (y := (⟨"com/example/sorrel/sorrel/middle/ir/Value", "<init>", "(ILcom/example/sorrel/sorrel/middle/ir/Value$Type;)V"⟩ : MethodName)) rfl hown (hw _ (List.mem_of_getElem? (i := 25) rfl)) (hw _ (List.mem_of_getElem? (i := 26) rfl)) (hw _ (List.mem_of_getElem? (i := 24) rfl)) (hw _ (List.mem_of_getElem? (i := 27) rfl)) (by decide) (W := 2) (a := b3) (argsL := [(.int num), (.ref ty)]) (rest := [(.ref b3), (.ref b2)]) (rm4 l Z a0 hw b3 num ty h33 n0 (.int 0) .null A33 Fn Ft ge_b3) (by decide) (by decide) (by decide) (by decide) (g := (mkF m 148 #[.val (.int p1), .val (.int p2), .val (.int p3), .val (.int p4), .val (.int p5), .val (.int x), .val (.int y), .val (.int z), .val (.int (p4 &&& (3 : Int32))), .val (.ref b1), .val (.int num), .val (.int ((us p4 (6 : Int32)) &&& (3 : Int32))), .val (.ref ty), .val (.ref b2), .unset, .unset, .unset] [(.ref ty), (.int num), (.ref b3), (.ref b3), (.ref b2)])) rfl (by rw [hml]; rfl) (lenOf pd_4 rfl) rfl (by show 2 * 0 + _ ≤ _; exact Nat.le_of_eq rfl) (hb hby at_148) e33 ?_
        rintro T36 L36 _ X36 ⟨rfl, N36, K36, Fn36⟩
        have M36 := Fr.app M32 N36
        have Z36 : n0 ≤ T36.heap.size := Nat.le_trans Z33 K36.1
        show Go p e below _ _ T36 (mkF m 151 #[.val (.int p1), .val (.int p2), .val (.int p3), .val (.int p4), .val (.int p5), .val (.int x), .val (.int y), .val (.int z), .val (.int (p4 &&& (3 : Int32))), .val (.ref b1), .val (.int num), .val (.int ((us p4 (6 : Int32)) &&& (3 : Int32))), .val (.ref ty), .val (.ref b2), .unset, .unset, .unset] [(.ref b3), (.ref b2)])
        have f37_E2 := ((f35_E2.ext E33).keep K36)
        have f38_Fp2 := ((Fp32.ext E33).keep K36 (ninS ne_b2_b3 nin0))
        have f39_V0 := ((f34_V0.ext E33).keep K36 (ninS ne_b1_b3 nin0))
        have f40_E3 := (A33.keep K36)
        refine Go.callV X36 hx hZ (y := (⟨"com/example/sorrel/sorrel/middle/alloc/Placement", "has", "(Lcom/example/sorrel/sorrel/middle/ir/Value;)Z"⟩ : MethodName)) (z := (⟨"com/example/sorrel/sorrel/middle/alloc/Placement", "has", "(Lcom/example/sorrel/sorrel/middle/ir/Value;)Z"⟩ : MethodName)) hown (hw _ (List.mem_of_getElem? (i := 38) rfl)) (hw _ (List.mem_of_getElem? (i := 39) rfl)) (notFace_of_selects (args := #[]) (mvT hZ (hw _ (List.mem_of_getElem? (i := 41) rfl)))) (hw _ (List.mem_of_getElem? (i := 41) rfl)) (hw _ (List.mem_of_getElem? (i := 40) rfl)) (hw _ (List.mem_of_getElem? (i := 11) rfl)) (hw _ (List.mem_of_getElem? (i := 42) rfl)) (by decide) (W := 0) (a := b2) (argsL := [(.ref b3)]) (rest := []) f37_E2 (rm6 l Z a0 hw b2 b3 T36.heap n0 b1 kA num (p4 &&& (3 : Int32)) (atV num x y z) (vsOf (p4 &&& (3 : Int32)) x y z) f38_Fp2 f39_V0 f40_E3 Fn36 hnum (hat_of x y z (len_cases p4) hnum)) (by decide) (by decide) (by decide) (by decide) (g := (mkF m 151 #[.val (.int p1), .val (.int p2), .val (.int p3), .val (.int p4), .val (.int p5), .val (.int x), .val (.int y), .val (.int z), .val (.int (p4 &&& (3 : Int32))), .val (.ref b1), .val (.int num), .val (.int ((us p4 (6 : Int32)) &&& (3 : Int32))), .val (.ref ty), .val (.ref b2), .unset, .unset, .unset] [(.ref b3), (.ref b2)])) rfl (by rw [hml]; rfl) (lenOf pd_6 rfl) rfl (by show 2 * 0 + _ ≤ _; exact Nat.le_of_eq rfl) (hb hby at_151) rfl ?_
        rintro T41 L41 _ X41 ⟨rfl, N41, q41⟩
        have M41 := Fr.app M36 N41
        show Go p e below _ _ T41 (mkF m 154 #[.val (.int p1), .val (.int p2), .val (.int p3), .val (.int p4), .val (.int p5), .val (.int x), .val (.int y), .val (.int z), .val (.int (p4 &&& (3 : Int32))), .val (.ref b1), .val (.int num), .val (.int ((us p4 (6 : Int32)) &&& (3 : Int32))), .val (.ref ty), .val (.ref b2), .unset, .unset, .unset] [(.int (hasV num (p4 &&& (3 : Int32)) (atV num x y z)))])
        refine Go.by (g' := (mkF m 156 #[.val (.int p1), .val (.int p2), .val (.int p3), .val (.int p4), .val (.int p5), .val (.int x), .val (.int y), .val (.int z), .val (.int (p4 &&& (3 : Int32))), .val (.ref b1), .val (.int num), .val (.int ((us p4 (6 : Int32)) &&& (3 : Int32))), .val (.ref ty), .val (.ref b2), .val (.int (hasV num (p4 &&& (3 : Int32)) (atV num x y z))), .unset, .unset] [])) (fun _ k => XS.istore X41.here hx rfl (hb hby at_154) rfl (l' := #[.val (.int p1), .val (.int p2), .val (.int p3), .val (.int p4), .val (.int p5), .val (.int x), .val (.int y), .val (.int z), .val (.int (p4 &&& (3 : Int32))), .val (.ref b1), .val (.int num), .val (.int ((us p4 (6 : Int32)) &&& (3 : Int32))), .val (.ref ty), .val (.ref b2), .val (.int (hasV num (p4 &&& (3 : Int32)) (atV num x y z))), .unset, .unset]) rfl k) ?_
        refine Go.by (g' := (mkF m 158 #[.val (.int p1), .val (.int p2), .val (.int p3), .val (.int p4), .val (.int p5), .val (.int x), .val (.int y), .val (.int z), .val (.int (p4 &&& (3 : Int32))), .val (.ref b1), .val (.int num), .val (.int ((us p4 (6 : Int32)) &&& (3 : Int32))), .val (.ref ty), .val (.ref b2), .val (.int (hasV num (p4 &&& (3 : Int32)) (atV num x y z))), .unset, .unset] [(.int num)])) (fun _ k => XS.iload X41.here hx rfl (hb hby at_156) rfl k) ?_
        refine Go.by (g' := (mkF m 160 #[.val (.int p1), .val (.int p2), .val (.int p3), .val (.int p4), .val (.int p5), .val (.int x), .val (.int y), .val (.int z), .val (.int (p4 &&& (3 : Int32))), .val (.ref b1), .val (.int num), .val (.int ((us p4 (6 : Int32)) &&& (3 : Int32))), .val (.ref ty), .val (.ref b2), .val (.int (hasV num (p4 &&& (3 : Int32)) (atV num x y z))), .unset, .unset] [(.int (p4 &&& (3 : Int32))), (.int num)])) (fun _ k => XS.iload X41.here hx rfl (hb hby at_158) rfl k) ?_
        by_cases h160 : num < (p4 &&& (3 : Int32))
        · refine Go.by (g' := (mkF m 169 #[.val (.int p1), .val (.int p2), .val (.int p3), .val (.int p4), .val (.int p5), .val (.int x), .val (.int y), .val (.int z), .val (.int (p4 &&& (3 : Int32))), .val (.ref b1), .val (.int num), .val (.int ((us p4 (6 : Int32)) &&& (3 : Int32))), .val (.ref ty), .val (.ref b2), .val (.int (hasV num (p4 &&& (3 : Int32)) (atV num x y z))), .unset, .unset] [])) (fun _ k => XS.icmpYes X41.here hx rfl (pc0 := 160) (pc' := 169) rfl (hb hby at_160) rfl (tlt h160).1 (by decide) (by decide) k) ?_
          refine Go.by (g' := (mkF m 171 #[.val (.int p1), .val (.int p2), .val (.int p3), .val (.int p4), .val (.int p5), .val (.int x), .val (.int y), .val (.int z), .val (.int (p4 &&& (3 : Int32))), .val (.ref b1), .val (.int num), .val (.int ((us p4 (6 : Int32)) &&& (3 : Int32))), .val (.ref ty), .val (.ref b2), .val (.int (hasV num (p4 &&& (3 : Int32)) (atV num x y z))), .unset, .unset] [(.int num)])) (fun _ k => XS.iload X41.here hx rfl (hb hby at_169) rfl k) ?_
          by_cases h171 : num = (0 : Int32)
          · refine Go.by (g' := (mkF m 174 #[.val (.int p1), .val (.int p2), .val (.int p3), .val (.int p4), .val (.int p5), .val (.int x), .val (.int y), .val (.int z), .val (.int (p4 &&& (3 : Int32))), .val (.ref b1), .val (.int num), .val (.int ((us p4 (6 : Int32)) &&& (3 : Int32))), .val (.ref ty), .val (.ref b2), .val (.int (hasV num (p4 &&& (3 : Int32)) (atV num x y z))), .unset, .unset] [])) (fun _ k => XS.ifNo X41.here hx rfl (hb hby at_171) rfl ((if0 _ _).trans (teq h171).2) k) ?_
            refine Go.by (g' := (mkF m 176 #[.val (.int p1), .val (.int p2), .val (.int p3), .val (.int p4), .val (.int p5), .val (.int x), .val (.int y), .val (.int z), .val (.int (p4 &&& (3 : Int32))), .val (.ref b1), .val (.int num), .val (.int ((us p4 (6 : Int32)) &&& (3 : Int32))), .val (.ref ty), .val (.ref b2), .val (.int (hasV num (p4 &&& (3 : Int32)) (atV num x y z))), .unset, .unset] [(.int x)])) (fun _ k => XS.iload X41.here hx rfl (hb hby at_174) rfl k) ?_
            refine Go.by (g' := (mkF m 192 #[.val (.int p1), .val (.int p2), .val (.int p3), .val (.int p4), .val (.int p5), .val (.int x), .val (.int y), .val (.int z), .val (.int (p4 &&& (3 : Int32))), .val (.ref b1), .val (.int num), .val (.int ((us p4 (6 : Int32)) &&& (3 : Int32))), .val (.ref ty), .val (.ref b2), .val (.int (hasV num (p4 &&& (3 : Int32)) (atV num x y z))), .unset, .unset] [(.int x)])) (fun _ k => XS.goto X41.here hx rfl (pc0 := 176) (pc' := 192) rfl (hb hby at_176) (by decide) (by decide) k) ?_
            refine Go.by (g' := (mkF m 194 #[.val (.int p1), .val (.int p2), .val (.int p3), .val (.int p4), .val (.int p5), .val (.int x), .val (.int y), .val (.int z), .val (.int (p4 &&& (3 : Int32))), .val (.ref b1), .val (.int num), .val (.int ((us p4 (6 : Int32)) &&& (3 : Int32))), .val (.ref ty), .val (.ref b2), .val (.int (hasV num (p4 &&& (3 : Int32)) (atV num x y z))), .unset, .val (.int x)] [])) (fun _ k => XS.istore X41.here hx rfl (hb hby at_192) rfl (l' := #[.val (.int p1), .val (.int p2), .val (.int p3), .val (.int p4), .val (.int p5), .val (.int x), .val (.int y), .val (.int z), .val (.int (p4 &&& (3 : Int32))), .val (.ref b1), .val (.int num), .val (.int ((us p4 (6 : Int32)) &&& (3 : Int32))), .val (.ref ty), .val (.ref b2), .val (.int (hasV num (p4 &&& (3 : Int32)) (atV num x y z))), .unset, .val (.int x)]) rfl k) ?_
            refine Go.by (g' := (mkF m 196 #[.val (.int p1), .val (.int p2), .val (.int p3), .val (.int p4), .val (.int p5), .val (.int x), .val (.int y), .val (.int z), .val (.int (p4 &&& (3 : Int32))), .val (.ref b1), .val (.int num), .val (.int ((us p4 (6 : Int32)) &&& (3 : Int32))), .val (.ref ty), .val (.ref b2), .val (.int (hasV num (p4 &&& (3 : Int32)) (atV num x y z))), .unset, .val (.int x)] [(.int x)])) (fun _ k => XS.iload X41.here hx rfl (hb hby at_194) rfl k) ?_
            refine Go.by (g' := (mkF m 198 #[.val (.int p1), .val (.int p2), .val (.int p3), .val (.int p4), .val (.int p5), .val (.int x), .val (.int y), .val (.int z), .val (.int (p4 &&& (3 : Int32))), .val (.ref b1), .val (.int num), .val (.int ((us p4 (6 : Int32)) &&& (3 : Int32))), .val (.ref ty), .val (.ref b2), .val (.int (hasV num (p4 &&& (3 : Int32)) (atV num x y z))), .unset, .val (.int x)] [(.int (-2147483648 : Int32)), (.int x)])) (fun _ k => X41.ldcInt hx hown (mvT hZ (hw _ (List.mem_of_getElem? (i := 49) rfl))) (g := (mkF m 196 #[.val (.int p1), .val (.int p2), .val (.int p3), .val (.int p4), .val (.int p5), .val (.int x), .val (.int y), .val (.int z), .val (.int (p4 &&& (3 : Int32))), .val (.ref b1), .val (.int num), .val (.int ((us p4 (6 : Int32)) &&& (3 : Int32))), .val (.ref ty), .val (.ref b2), .val (.int (hasV num (p4 &&& (3 : Int32)) (atV num x y z))), .unset, .val (.int x)] [(.int x)])) rfl (hb hby at_196) _ k) ?_
            by_cases h198 : x = (-2147483648 : Int32)
            · refine Go.by (g' := (mkF m 205 #[.val (.int p1), .val (.int p2), .val (.int p3), .val (.int p4), .val (.int p5), .val (.int x), .val (.int y), .val (.int z), .val (.int (p4 &&& (3 : Int32))), .val (.ref b1), .val (.int num), .val (.int ((us p4 (6 : Int32)) &&& (3 : Int32))), .val (.ref ty), .val (.ref b2), .val (.int (hasV num (p4 &&& (3 : Int32)) (atV num x y z))), .unset, .val (.int x)] [])) (fun _ k => XS.icmpYes X41.here hx rfl (pc0 := 198) (pc' := 205) rfl (hb hby at_198) rfl (teq h198).1 (by decide) (by decide) k) ?_
              refine Go.by (g' := (mkF m 206 #[.val (.int p1), .val (.int p2), .val (.int p3), .val (.int p4), .val (.int p5), .val (.int x), .val (.int y), .val (.int z), .val (.int (p4 &&& (3 : Int32))), .val (.ref b1), .val (.int num), .val (.int ((us p4 (6 : Int32)) &&& (3 : Int32))), .val (.ref ty), .val (.ref b2), .val (.int (hasV num (p4 &&& (3 : Int32)) (atV num x y z))), .unset, .val (.int x)] [(.int (0 : Int32))])) (fun _ k => XS.iconst X41.here hx rfl (hb hby at_205) k) ?_
              refine Go.by (g' := (mkF m 208 #[.val (.int p1), .val (.int p2), .val (.int p3), .val (.int p4), .val (.int p5), .val (.int x), .val (.int y), .val (.int z), .val (.int (p4 &&& (3 : Int32))), .val (.ref b1), .val (.int num), .val (.int ((us p4 (6 : Int32)) &&& (3 : Int32))), .val (.ref ty), .val (.ref b2), .val (.int (hasV num (p4 &&& (3 : Int32)) (atV num x y z))), .val (.int (0 : Int32)), .val (.int x)] [])) (fun _ k => XS.istore X41.here hx rfl (hb hby at_206) rfl (l' := #[.val (.int p1), .val (.int p2), .val (.int p3), .val (.int p4), .val (.int p5), .val (.int x), .val (.int y), .val (.int z), .val (.int (p4 &&& (3 : Int32))), .val (.ref b1), .val (.int num), .val (.int ((us p4 (6 : Int32)) &&& (3 : Int32))), .val (.ref ty), .val (.ref b2), .val (.int (hasV num (p4 &&& (3 : Int32)) (atV num x y z))), .val (.int (0 : Int32)), .val (.int x)]) rfl k) ?_
              refine Go.by (g' := (mkF m 210 #[.val (.int p1), .val (.int p2), .val (.int p3), .val (.int p4), .val (.int p5), .val (.int x), .val (.int y), .val (.int z), .val (.int (p4 &&& (3 : Int32))), .val (.ref b1), .val (.int num), .val (.int ((us p4 (6 : Int32)) &&& (3 : Int32))), .val (.ref ty), .val (.ref b2), .val (.int (hasV num (p4 &&& (3 : Int32)) (atV num x y z))), .val (.int (0 : Int32)), .val (.int x)] [(.int (hasV num (p4 &&& (3 : Int32)) (atV num x y z)))])) (fun _ k => XS.iload X41.here hx rfl (hb hby at_208) rfl k) ?_
              refine Go.by (g' := (mkF m 212 #[.val (.int p1), .val (.int p2), .val (.int p3), .val (.int p4), .val (.int p5), .val (.int x), .val (.int y), .val (.int z), .val (.int (p4 &&& (3 : Int32))), .val (.ref b1), .val (.int num), .val (.int ((us p4 (6 : Int32)) &&& (3 : Int32))), .val (.ref ty), .val (.ref b2), .val (.int (hasV num (p4 &&& (3 : Int32)) (atV num x y z))), .val (.int (0 : Int32)), .val (.int x)] [(.int (0 : Int32)), (.int (hasV num (p4 &&& (3 : Int32)) (atV num x y z)))])) (fun _ k => XS.iload X41.here hx rfl (hb hby at_210) rfl k) ?_
              refine Go.by (g' := (mkF m 215 #[.val (.int p1), .val (.int p2), .val (.int p3), .val (.int p4), .val (.int p5), .val (.int x), .val (.int y), .val (.int z), .val (.int (p4 &&& (3 : Int32))), .val (.ref b1), .val (.int num), .val (.int ((us p4 (6 : Int32)) &&& (3 : Int32))), .val (.ref ty), .val (.ref b2), .val (.int (hasV num (p4 &&& (3 : Int32)) (atV num x y z))), .val (.int (0 : Int32)), .val (.int x)] [])) (fun _ k => XS.icmpNo X41.here hx rfl (hb hby at_212) rfl (teq (by rw [hasV, if_pos h160, atV, if_pos h171, if_pos h198])).2 k) ?_
              refine Go.by (g' := (mkF m 216 #[.val (.int p1), .val (.int p2), .val (.int p3), .val (.int p4), .val (.int p5), .val (.int x), .val (.int y), .val (.int z), .val (.int (p4 &&& (3 : Int32))), .val (.ref b1), .val (.int num), .val (.int ((us p4 (6 : Int32)) &&& (3 : Int32))), .val (.ref ty), .val (.ref b2), .val (.int (hasV num (p4 &&& (3 : Int32)) (atV num x y z))), .val (.int (0 : Int32)), .val (.int x)] [(.int (1 : Int32))])) (fun _ k => XS.iconst X41.here hx rfl (hb hby at_215) k) ?_
              refine Go.by (g' := (mkF m 220 #[.val (.int p1), .val (.int p2), .val (.int p3), .val (.int p4), .val (.int p5), .val (.int x), .val (.int y), .val (.int z), .val (.int (p4 &&& (3 : Int32))), .val (.ref b1), .val (.int num), .val (.int ((us p4 (6 : Int32)) &&& (3 : Int32))), .val (.ref ty), .val (.ref b2), .val (.int (hasV num (p4 &&& (3 : Int32)) (atV num x y z))), .val (.int (0 : Int32)), .val (.int x)] [(.int (1 : Int32))])) (fun _ k => XS.goto X41.here hx rfl (pc0 := 216) (pc' := 220) rfl (hb hby at_216) (by decide) (by decide) k) ?_
              exact Go.outZ X41 hx hret (Lv.narrow X41 hlk (by decide) (by decide)) (hb hby at_220) (by decide) ⟨rfl, M41⟩
            · refine Go.by (g' := (mkF m 201 #[.val (.int p1), .val (.int p2), .val (.int p3), .val (.int p4), .val (.int p5), .val (.int x), .val (.int y), .val (.int z), .val (.int (p4 &&& (3 : Int32))), .val (.ref b1), .val (.int num), .val (.int ((us p4 (6 : Int32)) &&& (3 : Int32))), .val (.ref ty), .val (.ref b2), .val (.int (hasV num (p4 &&& (3 : Int32)) (atV num x y z))), .unset, .val (.int x)] [])) (fun _ k => XS.icmpNo X41.here hx rfl (hb hby at_198) rfl (feq h198).1 k) ?_
              refine Go.by (g' := (mkF m 202 #[.val (.int p1), .val (.int p2), .val (.int p3), .val (.int p4), .val (.int p5), .val (.int x), .val (.int y), .val (.int z), .val (.int (p4 &&& (3 : Int32))), .val (.ref b1), .val (.int num), .val (.int ((us p4 (6 : Int32)) &&& (3 : Int32))), .val (.ref ty), .val (.ref b2), .val (.int (hasV num (p4 &&& (3 : Int32)) (atV num x y z))), .unset, .val (.int x)] [(.int (1 : Int32))])) (fun _ k => XS.iconst X41.here hx rfl (hb hby at_201) k) ?_
              refine Go.by (g' := (mkF m 206 #[.val (.int p1), .val (.int p2), .val (.int p3), .val (.int p4), .val (.int p5), .val (.int x), .val (.int y), .val (.int z), .val (.int (p4 &&& (3 : Int32))), .val (.ref b1), .val (.int num), .val (.int ((us p4 (6 : Int32)) &&& (3 : Int32))), .val (.ref ty), .val (.ref b2), .val (.int (hasV num (p4 &&& (3 : Int32)) (atV num x y z))), .unset, .val (.int x)] [(.int (1 : Int32))])) (fun _ k => XS.goto X41.here hx rfl (pc0 := 202) (pc' := 206) rfl (hb hby at_202) (by decide) (by decide) k) ?_
              refine Go.by (g' := (mkF m 208 #[.val (.int p1), .val (.int p2), .val (.int p3), .val (.int p4), .val (.int p5), .val (.int x), .val (.int y), .val (.int z), .val (.int (p4 &&& (3 : Int32))), .val (.ref b1), .val (.int num), .val (.int ((us p4 (6 : Int32)) &&& (3 : Int32))), .val (.ref ty), .val (.ref b2), .val (.int (hasV num (p4 &&& (3 : Int32)) (atV num x y z))), .val (.int (1 : Int32)), .val (.int x)] [])) (fun _ k => XS.istore X41.here hx rfl (hb hby at_206) rfl (l' := #[.val (.int p1), .val (.int p2), .val (.int p3), .val (.int p4), .val (.int p5), .val (.int x), .val (.int y), .val (.int z), .val (.int (p4 &&& (3 : Int32))), .val (.ref b1), .val (.int num), .val (.int ((us p4 (6 : Int32)) &&& (3 : Int32))), .val (.ref ty), .val (.ref b2), .val (.int (hasV num (p4 &&& (3 : Int32)) (atV num x y z))), .val (.int (1 : Int32)), .val (.int x)]) rfl k) ?_
              refine Go.by (g' := (mkF m 210 #[.val (.int p1), .val (.int p2), .val (.int p3), .val (.int p4), .val (.int p5), .val (.int x), .val (.int y), .val (.int z), .val (.int (p4 &&& (3 : Int32))), .val (.ref b1), .val (.int num), .val (.int ((us p4 (6 : Int32)) &&& (3 : Int32))), .val (.ref ty), .val (.ref b2), .val (.int (hasV num (p4 &&& (3 : Int32)) (atV num x y z))), .val (.int (1 : Int32)), .val (.int x)] [(.int (hasV num (p4 &&& (3 : Int32)) (atV num x y z)))])) (fun _ k => XS.iload X41.here hx rfl (hb hby at_208) rfl k) ?_
              refine Go.by (g' := (mkF m 212 #[.val (.int p1), .val (.int p2), .val (.int p3), .val (.int p4), .val (.int p5), .val (.int x), .val (.int y), .val (.int z), .val (.int (p4 &&& (3 : Int32))), .val (.ref b1), .val (.int num), .val (.int ((us p4 (6 : Int32)) &&& (3 : Int32))), .val (.ref ty), .val (.ref b2), .val (.int (hasV num (p4 &&& (3 : Int32)) (atV num x y z))), .val (.int (1 : Int32)), .val (.int x)] [(.int (1 : Int32)), (.int (hasV num (p4 &&& (3 : Int32)) (atV num x y z)))])) (fun _ k => XS.iload X41.here hx rfl (hb hby at_210) rfl k) ?_
              refine Go.by (g' := (mkF m 215 #[.val (.int p1), .val (.int p2), .val (.int p3), .val (.int p4), .val (.int p5), .val (.int x), .val (.int y), .val (.int z), .val (.int (p4 &&& (3 : Int32))), .val (.ref b1), .val (.int num), .val (.int ((us p4 (6 : Int32)) &&& (3 : Int32))), .val (.ref ty), .val (.ref b2), .val (.int (hasV num (p4 &&& (3 : Int32)) (atV num x y z))), .val (.int (1 : Int32)), .val (.int x)] [])) (fun _ k => XS.icmpNo X41.here hx rfl (hb hby at_212) rfl (teq (by rw [hasV, if_pos h160, atV, if_pos h171, if_neg h198])).2 k) ?_
              refine Go.by (g' := (mkF m 216 #[.val (.int p1), .val (.int p2), .val (.int p3), .val (.int p4), .val (.int p5), .val (.int x), .val (.int y), .val (.int z), .val (.int (p4 &&& (3 : Int32))), .val (.ref b1), .val (.int num), .val (.int ((us p4 (6 : Int32)) &&& (3 : Int32))), .val (.ref ty), .val (.ref b2), .val (.int (hasV num (p4 &&& (3 : Int32)) (atV num x y z))), .val (.int (1 : Int32)), .val (.int x)] [(.int (1 : Int32))])) (fun _ k => XS.iconst X41.here hx rfl (hb hby at_215) k) ?_
              refine Go.by (g' := (mkF m 220 #[.val (.int p1), .val (.int p2), .val (.int p3), .val (.int p4), .val (.int p5), .val (.int x), .val (.int y), .val (.int z), .val (.int (p4 &&& (3 : Int32))), .val (.ref b1), .val (.int num), .val (.int ((us p4 (6 : Int32)) &&& (3 : Int32))), .val (.ref ty), .val (.ref b2), .val (.int (hasV num (p4 &&& (3 : Int32)) (atV num x y z))), .val (.int (1 : Int32)), .val (.int x)] [(.int (1 : Int32))])) (fun _ k => XS.goto X41.here hx rfl (pc0 := 216) (pc' := 220) rfl (hb hby at_216) (by decide) (by decide) k) ?_
              exact Go.outZ X41 hx hret (Lv.narrow X41 hlk (by decide) (by decide)) (hb hby at_220) (by decide) ⟨rfl, M41⟩
          · refine Go.by (g' := (mkF m 179 #[.val (.int p1), .val (.int p2), .val (.int p3), .val (.int p4), .val (.int p5), .val (.int x), .val (.int y), .val (.int z), .val (.int (p4 &&& (3 : Int32))), .val (.ref b1), .val (.int num), .val (.int ((us p4 (6 : Int32)) &&& (3 : Int32))), .val (.ref ty), .val (.ref b2), .val (.int (hasV num (p4 &&& (3 : Int32)) (atV num x y z))), .unset, .unset] [])) (fun _ k => XS.ifYes X41.here hx rfl (pc0 := 171) (pc' := 179) rfl (hb hby at_171) rfl ((if0 _ _).trans (feq h171).2) (by decide) (by decide) k) ?_
            refine Go.by (g' := (mkF m 181 #[.val (.int p1), .val (.int p2), .val (.int p3), .val (.int p4), .val (.int p5), .val (.int x), .val (.int y), .val (.int z), .val (.int (p4 &&& (3 : Int32))), .val (.ref b1), .val (.int num), .val (.int ((us p4 (6 : Int32)) &&& (3 : Int32))), .val (.ref ty), .val (.ref b2), .val (.int (hasV num (p4 &&& (3 : Int32)) (atV num x y z))), .unset, .unset] [(.int num)])) (fun _ k => XS.iload X41.here hx rfl (hb hby at_179) rfl k) ?_
            refine Go.by (g' := (mkF m 182 #[.val (.int p1), .val (.int p2), .val (.int p3), .val (.int p4), .val (.int p5), .val (.int x), .val (.int y), .val (.int z), .val (.int (p4 &&& (3 : Int32))), .val (.ref b1), .val (.int num), .val (.int ((us p4 (6 : Int32)) &&& (3 : Int32))), .val (.ref ty), .val (.ref b2), .val (.int (hasV num (p4 &&& (3 : Int32)) (atV num x y z))), .unset, .unset] [(.int (1 : Int32)), (.int num)])) (fun _ k => XS.iconst X41.here hx rfl (hb hby at_181) k) ?_
            by_cases h182 : num = (1 : Int32)
            · refine Go.by (g' := (mkF m 185 #[.val (.int p1), .val (.int p2), .val (.int p3), .val (.int p4), .val (.int p5), .val (.int x), .val (.int y), .val (.int z), .val (.int (p4 &&& (3 : Int32))), .val (.ref b1), .val (.int num), .val (.int ((us p4 (6 : Int32)) &&& (3 : Int32))), .val (.ref ty), .val (.ref b2), .val (.int (hasV num (p4 &&& (3 : Int32)) (atV num x y z))), .unset, .unset] [])) (fun _ k => XS.icmpNo X41.here hx rfl (hb hby at_182) rfl (teq h182).2 k) ?_
              refine Go.by (g' := (mkF m 187 #[.val (.int p1), .val (.int p2), .val (.int p3), .val (.int p4), .val (.int p5), .val (.int x), .val (.int y), .val (.int z), .val (.int (p4 &&& (3 : Int32))), .val (.ref b1), .val (.int num), .val (.int ((us p4 (6 : Int32)) &&& (3 : Int32))), .val (.ref ty), .val (.ref b2), .val (.int (hasV num (p4 &&& (3 : Int32)) (atV num x y z))), .unset, .unset] [(.int y)])) (fun _ k => XS.iload X41.here hx rfl (hb hby at_185) rfl k) ?_
              refine Go.by (g' := (mkF m 192 #[.val (.int p1), .val (.int p2), .val (.int p3), .val (.int p4), .val (.int p5), .val (.int x), .val (.int y), .val (.int z), .val (.int (p4 &&& (3 : Int32))), .val (.ref b1), .val (.int num), .val (.int ((us p4 (6 : Int32)) &&& (3 : Int32))), .val (.ref ty), .val (.ref b2), .val (.int (hasV num (p4 &&& (3 : Int32)) (atV num x y z))), .unset, .unset] [(.int y)])) (fun _ k => XS.goto X41.here hx rfl (pc0 := 187) (pc' := 192) rfl (hb hby at_187) (by decide) (by decide) k) ?_
              refine Go.by (g' := (mkF m 194 #[.val (.int p1), .val (.int p2), .val (.int p3), .val (.int p4), .val (.int p5), .val (.int x), .val (.int y), .val (.int z), .val (.int (p4 &&& (3 : Int32))), .val (.ref b1), .val (.int num), .val (.int ((us p4 (6 : Int32)) &&& (3 : Int32))), .val (.ref ty), .val (.ref b2), .val (.int (hasV num (p4 &&& (3 : Int32)) (atV num x y z))), .unset, .val (.int y)] [])) (fun _ k => XS.istore X41.here hx rfl (hb hby at_192) rfl (l' := #[.val (.int p1), .val (.int p2), .val (.int p3), .val (.int p4), .val (.int p5), .val (.int x), .val (.int y), .val (.int z), .val (.int (p4 &&& (3 : Int32))), .val (.ref b1), .val (.int num), .val (.int ((us p4 (6 : Int32)) &&& (3 : Int32))), .val (.ref ty), .val (.ref b2), .val (.int (hasV num (p4 &&& (3 : Int32)) (atV num x y z))), .unset, .val (.int y)]) rfl k) ?_
              refine Go.by (g' := (mkF m 196 #[.val (.int p1), .val (.int p2), .val (.int p3), .val (.int p4), .val (.int p5), .val (.int x), .val (.int y), .val (.int z), .val (.int (p4 &&& (3 : Int32))), .val (.ref b1), .val (.int num), .val (.int ((us p4 (6 : Int32)) &&& (3 : Int32))), .val (.ref ty), .val (.ref b2), .val (.int (hasV num (p4 &&& (3 : Int32)) (atV num x y z))), .unset, .val (.int y)] [(.int y)])) (fun _ k => XS.iload X41.here hx rfl (hb hby at_194) rfl k) ?_
              refine Go.by (g' := (mkF m 198 #[.val (.int p1), .val (.int p2), .val (.int p3), .val (.int p4), .val (.int p5), .val (.int x), .val (.int y), .val (.int z), .val (.int (p4 &&& (3 : Int32))), .val (.ref b1), .val (.int num), .val (.int ((us p4 (6 : Int32)) &&& (3 : Int32))), .val (.ref ty), .val (.ref b2), .val (.int (hasV num (p4 &&& (3 : Int32)) (atV num x y z))), .unset, .val (.int y)] [(.int (-2147483648 : Int32)), (.int y)])) (fun _ k => X41.ldcInt hx hown (mvT hZ (hw _ (List.mem_of_getElem? (i := 49) rfl))) (g := (mkF m 196 #[.val (.int p1), .val (.int p2), .val (.int p3), .val (.int p4), .val (.int p5), .val (.int x), .val (.int y), .val (.int z), .val (.int (p4 &&& (3 : Int32))), .val (.ref b1), .val (.int num), .val (.int ((us p4 (6 : Int32)) &&& (3 : Int32))), .val (.ref ty), .val (.ref b2), .val (.int (hasV num (p4 &&& (3 : Int32)) (atV num x y z))), .unset, .val (.int y)] [(.int y)])) rfl (hb hby at_196) _ k) ?_
              by_cases h198 : y = (-2147483648 : Int32)
              · refine Go.by (g' := (mkF m 205 #[.val (.int p1), .val (.int p2), .val (.int p3), .val (.int p4), .val (.int p5), .val (.int x), .val (.int y), .val (.int z), .val (.int (p4 &&& (3 : Int32))), .val (.ref b1), .val (.int num), .val (.int ((us p4 (6 : Int32)) &&& (3 : Int32))), .val (.ref ty), .val (.ref b2), .val (.int (hasV num (p4 &&& (3 : Int32)) (atV num x y z))), .unset, .val (.int y)] [])) (fun _ k => XS.icmpYes X41.here hx rfl (pc0 := 198) (pc' := 205) rfl (hb hby at_198) rfl (teq h198).1 (by decide) (by decide) k) ?_
                refine Go.by (g' := (mkF m 206 #[.val (.int p1), .val (.int p2), .val (.int p3), .val (.int p4), .val (.int p5), .val (.int x), .val (.int y), .val (.int z), .val (.int (p4 &&& (3 : Int32))), .val (.ref b1), .val (.int num), .val (.int ((us p4 (6 : Int32)) &&& (3 : Int32))), .val (.ref ty), .val (.ref b2), .val (.int (hasV num (p4 &&& (3 : Int32)) (atV num x y z))), .unset, .val (.int y)] [(.int (0 : Int32))])) (fun _ k => XS.iconst X41.here hx rfl (hb hby at_205) k) ?_
                refine Go.by (g' := (mkF m 208 #[.val (.int p1), .val (.int p2), .val (.int p3), .val (.int p4), .val (.int p5), .val (.int x), .val (.int y), .val (.int z), .val (.int (p4 &&& (3 : Int32))), .val (.ref b1), .val (.int num), .val (.int ((us p4 (6 : Int32)) &&& (3 : Int32))), .val (.ref ty), .val (.ref b2), .val (.int (hasV num (p4 &&& (3 : Int32)) (atV num x y z))), .val (.int (0 : Int32)), .val (.int y)] [])) (fun _ k => XS.istore X41.here hx rfl (hb hby at_206) rfl (l' := #[.val (.int p1), .val (.int p2), .val (.int p3), .val (.int p4), .val (.int p5), .val (.int x), .val (.int y), .val (.int z), .val (.int (p4 &&& (3 : Int32))), .val (.ref b1), .val (.int num), .val (.int ((us p4 (6 : Int32)) &&& (3 : Int32))), .val (.ref ty), .val (.ref b2), .val (.int (hasV num (p4 &&& (3 : Int32)) (atV num x y z))), .val (.int (0 : Int32)), .val (.int y)]) rfl k) ?_
                refine Go.by (g' := (mkF m 210 #[.val (.int p1), .val (.int p2), .val (.int p3), .val (.int p4), .val (.int p5), .val (.int x), .val (.int y), .val (.int z), .val (.int (p4 &&& (3 : Int32))), .val (.ref b1), .val (.int num), .val (.int ((us p4 (6 : Int32)) &&& (3 : Int32))), .val (.ref ty), .val (.ref b2), .val (.int (hasV num (p4 &&& (3 : Int32)) (atV num x y z))), .val (.int (0 : Int32)), .val (.int y)] [(.int (hasV num (p4 &&& (3 : Int32)) (atV num x y z)))])) (fun _ k => XS.iload X41.here hx rfl (hb hby at_208) rfl k) ?_
                refine Go.by (g' := (mkF m 212 #[.val (.int p1), .val (.int p2), .val (.int p3), .val (.int p4), .val (.int p5), .val (.int x), .val (.int y), .val (.int z), .val (.int (p4 &&& (3 : Int32))), .val (.ref b1), .val (.int num), .val (.int ((us p4 (6 : Int32)) &&& (3 : Int32))), .val (.ref ty), .val (.ref b2), .val (.int (hasV num (p4 &&& (3 : Int32)) (atV num x y z))), .val (.int (0 : Int32)), .val (.int y)] [(.int (0 : Int32)), (.int (hasV num (p4 &&& (3 : Int32)) (atV num x y z)))])) (fun _ k => XS.iload X41.here hx rfl (hb hby at_210) rfl k) ?_
                refine Go.by (g' := (mkF m 215 #[.val (.int p1), .val (.int p2), .val (.int p3), .val (.int p4), .val (.int p5), .val (.int x), .val (.int y), .val (.int z), .val (.int (p4 &&& (3 : Int32))), .val (.ref b1), .val (.int num), .val (.int ((us p4 (6 : Int32)) &&& (3 : Int32))), .val (.ref ty), .val (.ref b2), .val (.int (hasV num (p4 &&& (3 : Int32)) (atV num x y z))), .val (.int (0 : Int32)), .val (.int y)] [])) (fun _ k => XS.icmpNo X41.here hx rfl (hb hby at_212) rfl (teq (by rw [hasV, if_pos h160, atV, if_neg h171, if_pos h182, if_pos h198])).2 k) ?_
                refine Go.by (g' := (mkF m 216 #[.val (.int p1), .val (.int p2), .val (.int p3), .val (.int p4), .val (.int p5), .val (.int x), .val (.int y), .val (.int z), .val (.int (p4 &&& (3 : Int32))), .val (.ref b1), .val (.int num), .val (.int ((us p4 (6 : Int32)) &&& (3 : Int32))), .val (.ref ty), .val (.ref b2), .val (.int (hasV num (p4 &&& (3 : Int32)) (atV num x y z))), .val (.int (0 : Int32)), .val (.int y)] [(.int (1 : Int32))])) (fun _ k => XS.iconst X41.here hx rfl (hb hby at_215) k) ?_
                refine Go.by (g' := (mkF m 220 #[.val (.int p1), .val (.int p2), .val (.int p3), .val (.int p4), .val (.int p5), .val (.int x), .val (.int y), .val (.int z), .val (.int (p4 &&& (3 : Int32))), .val (.ref b1), .val (.int num), .val (.int ((us p4 (6 : Int32)) &&& (3 : Int32))), .val (.ref ty), .val (.ref b2), .val (.int (hasV num (p4 &&& (3 : Int32)) (atV num x y z))), .val (.int (0 : Int32)), .val (.int y)] [(.int (1 : Int32))])) (fun _ k => XS.goto X41.here hx rfl (pc0 := 216) (pc' := 220) rfl (hb hby at_216) (by decide) (by decide) k) ?_
                exact Go.outZ X41 hx hret (Lv.narrow X41 hlk (by decide) (by decide)) (hb hby at_220) (by decide) ⟨rfl, M41⟩
              · refine Go.by (g' := (mkF m 201 #[.val (.int p1), .val (.int p2), .val (.int p3), .val (.int p4), .val (.int p5), .val (.int x), .val (.int y), .val (.int z), .val (.int (p4 &&& (3 : Int32))), .val (.ref b1), .val (.int num), .val (.int ((us p4 (6 : Int32)) &&& (3 : Int32))), .val (.ref ty), .val (.ref b2), .val (.int (hasV num (p4 &&& (3 : Int32)) (atV num x y z))), .unset, .val (.int y)] [])) (fun _ k => XS.icmpNo X41.here hx rfl (hb hby at_198) rfl (feq h198).1 k) ?_
                refine Go.by (g' := (mkF m 202 #[.val (.int p1), .val (.int p2), .val (.int p3), .val (.int p4), .val (.int p5), .val (.int x), .val (.int y), .val (.int z), .val (.int (p4 &&& (3 : Int32))), .val (.ref b1), .val (.int num), .val (.int ((us p4 (6 : Int32)) &&& (3 : Int32))), .val (.ref ty), .val (.ref b2), .val (.int (hasV num (p4 &&& (3 : Int32)) (atV num x y z))), .unset, .val (.int y)] [(.int (1 : Int32))])) (fun _ k => XS.iconst X41.here hx rfl (hb hby at_201) k) ?_
                refine Go.by (g' := (mkF m 206 #[.val (.int p1), .val (.int p2), .val (.int p3), .val (.int p4), .val (.int p5), .val (.int x), .val (.int y), .val (.int z), .val (.int (p4 &&& (3 : Int32))), .val (.ref b1), .val (.int num), .val (.int ((us p4 (6 : Int32)) &&& (3 : Int32))), .val (.ref ty), .val (.ref b2), .val (.int (hasV num (p4 &&& (3 : Int32)) (atV num x y z))), .unset, .val (.int y)] [(.int (1 : Int32))])) (fun _ k => XS.goto X41.here hx rfl (pc0 := 202) (pc' := 206) rfl (hb hby at_202) (by decide) (by decide) k) ?_
                refine Go.by (g' := (mkF m 208 #[.val (.int p1), .val (.int p2), .val (.int p3), .val (.int p4), .val (.int p5), .val (.int x), .val (.int y), .val (.int z), .val (.int (p4 &&& (3 : Int32))), .val (.ref b1), .val (.int num), .val (.int ((us p4 (6 : Int32)) &&& (3 : Int32))), .val (.ref ty), .val (.ref b2), .val (.int (hasV num (p4 &&& (3 : Int32)) (atV num x y z))), .val (.int (1 : Int32)), .val (.int y)] [])) (fun _ k => XS.istore X41.here hx rfl (hb hby at_206) rfl (l' := #[.val (.int p1), .val (.int p2), .val (.int p3), .val (.int p4), .val (.int p5), .val (.int x), .val (.int y), .val (.int z), .val (.int (p4 &&& (3 : Int32))), .val (.ref b1), .val (.int num), .val (.int ((us p4 (6 : Int32)) &&& (3 : Int32))), .val (.ref ty), .val (.ref b2), .val (.int (hasV num (p4 &&& (3 : Int32)) (atV num x y z))), .val (.int (1 : Int32)), .val (.int y)]) rfl k) ?_
                refine Go.by (g' := (mkF m 210 #[.val (.int p1), .val (.int p2), .val (.int p3), .val (.int p4), .val (.int p5), .val (.int x), .val (.int y), .val (.int z), .val (.int (p4 &&& (3 : Int32))), .val (.ref b1), .val (.int num), .val (.int ((us p4 (6 : Int32)) &&& (3 : Int32))), .val (.ref ty), .val (.ref b2), .val (.int (hasV num (p4 &&& (3 : Int32)) (atV num x y z))), .val (.int (1 : Int32)), .val (.int y)] [(.int (hasV num (p4 &&& (3 : Int32)) (atV num x y z)))])) (fun _ k => XS.iload X41.here hx rfl (hb hby at_208) rfl k) ?_
                refine Go.by (g' := (mkF m 212 #[.val (.int p1), .val (.int p2), .val (.int p3), .val (.int p4), .val (.int p5), .val (.int x), .val (.int y), .val (.int z), .val (.int (p4 &&& (3 : Int32))), .val (.ref b1), .val (.int num), .val (.int ((us p4 (6 : Int32)) &&& (3 : Int32))), .val (.ref ty), .val (.ref b2), .val (.int (hasV num (p4 &&& (3 : Int32)) (atV num x y z))), .val (.int (1 : Int32)), .val (.int y)] [(.int (1 : Int32)), (.int (hasV num (p4 &&& (3 : Int32)) (atV num x y z)))])) (fun _ k => XS.iload X41.here hx rfl (hb hby at_210) rfl k) ?_
                refine Go.by (g' := (mkF m 215 #[.val (.int p1), .val (.int p2), .val (.int p3), .val (.int p4), .val (.int p5), .val (.int x), .val (.int y), .val (.int z), .val (.int (p4 &&& (3 : Int32))), .val (.ref b1), .val (.int num), .val (.int ((us p4 (6 : Int32)) &&& (3 : Int32))), .val (.ref ty), .val (.ref b2), .val (.int (hasV num (p4 &&& (3 : Int32)) (atV num x y z))), .val (.int (1 : Int32)), .val (.int y)] [])) (fun _ k => XS.icmpNo X41.here hx rfl (hb hby at_212) rfl (teq (by rw [hasV, if_pos h160, atV, if_neg h171, if_pos h182, if_neg h198])).2 k) ?_
                refine Go.by (g' := (mkF m 216 #[.val (.int p1), .val (.int p2), .val (.int p3), .val (.int p4), .val (.int p5), .val (.int x), .val (.int y), .val (.int z), .val (.int (p4 &&& (3 : Int32))), .val (.ref b1), .val (.int num), .val (.int ((us p4 (6 : Int32)) &&& (3 : Int32))), .val (.ref ty), .val (.ref b2), .val (.int (hasV num (p4 &&& (3 : Int32)) (atV num x y z))), .val (.int (1 : Int32)), .val (.int y)] [(.int (1 : Int32))])) (fun _ k => XS.iconst X41.here hx rfl (hb hby at_215) k) ?_
                refine Go.by (g' := (mkF m 220 #[.val (.int p1), .val (.int p2), .val (.int p3), .val (.int p4), .val (.int p5), .val (.int x), .val (.int y), .val (.int z), .val (.int (p4 &&& (3 : Int32))), .val (.ref b1), .val (.int num), .val (.int ((us p4 (6 : Int32)) &&& (3 : Int32))), .val (.ref ty), .val (.ref b2), .val (.int (hasV num (p4 &&& (3 : Int32)) (atV num x y z))), .val (.int (1 : Int32)), .val (.int y)] [(.int (1 : Int32))])) (fun _ k => XS.goto X41.here hx rfl (pc0 := 216) (pc' := 220) rfl (hb hby at_216) (by decide) (by decide) k) ?_
                exact Go.outZ X41 hx hret (Lv.narrow X41 hlk (by decide) (by decide)) (hb hby at_220) (by decide) ⟨rfl, M41⟩
            · refine Go.by (g' := (mkF m 190 #[.val (.int p1), .val (.int p2), .val (.int p3), .val (.int p4), .val (.int p5), .val (.int x), .val (.int y), .val (.int z), .val (.int (p4 &&& (3 : Int32))), .val (.ref b1), .val (.int num), .val (.int ((us p4 (6 : Int32)) &&& (3 : Int32))), .val (.ref ty), .val (.ref b2), .val (.int (hasV num (p4 &&& (3 : Int32)) (atV num x y z))), .unset, .unset] [])) (fun _ k => XS.icmpYes X41.here hx rfl (pc0 := 182) (pc' := 190) rfl (hb hby at_182) rfl (feq h182).2 (by decide) (by decide) k) ?_
              refine Go.by (g' := (mkF m 192 #[.val (.int p1), .val (.int p2), .val (.int p3), .val (.int p4), .val (.int p5), .val (.int x), .val (.int y), .val (.int z), .val (.int (p4 &&& (3 : Int32))), .val (.ref b1), .val (.int num), .val (.int ((us p4 (6 : Int32)) &&& (3 : Int32))), .val (.ref ty), .val (.ref b2), .val (.int (hasV num (p4 &&& (3 : Int32)) (atV num x y z))), .unset, .unset] [(.int z)])) (fun _ k => XS.iload X41.here hx rfl (hb hby at_190) rfl k) ?_
              refine Go.by (g' := (mkF m 194 #[.val (.int p1), .val (.int p2), .val (.int p3), .val (.int p4), .val (.int p5), .val (.int x), .val (.int y), .val (.int z), .val (.int (p4 &&& (3 : Int32))), .val (.ref b1), .val (.int num), .val (.int ((us p4 (6 : Int32)) &&& (3 : Int32))), .val (.ref ty), .val (.ref b2), .val (.int (hasV num (p4 &&& (3 : Int32)) (atV num x y z))), .unset, .val (.int z)] [])) (fun _ k => XS.istore X41.here hx rfl (hb hby at_192) rfl (l' := #[.val (.int p1), .val (.int p2), .val (.int p3), .val (.int p4), .val (.int p5), .val (.int x), .val (.int y), .val (.int z), .val (.int (p4 &&& (3 : Int32))), .val (.ref b1), .val (.int num), .val (.int ((us p4 (6 : Int32)) &&& (3 : Int32))), .val (.ref ty), .val (.ref b2), .val (.int (hasV num (p4 &&& (3 : Int32)) (atV num x y z))), .unset, .val (.int z)]) rfl k) ?_
              refine Go.by (g' := (mkF m 196 #[.val (.int p1), .val (.int p2), .val (.int p3), .val (.int p4), .val (.int p5), .val (.int x), .val (.int y), .val (.int z), .val (.int (p4 &&& (3 : Int32))), .val (.ref b1), .val (.int num), .val (.int ((us p4 (6 : Int32)) &&& (3 : Int32))), .val (.ref ty), .val (.ref b2), .val (.int (hasV num (p4 &&& (3 : Int32)) (atV num x y z))), .unset, .val (.int z)] [(.int z)])) (fun _ k => XS.iload X41.here hx rfl (hb hby at_194) rfl k) ?_
              refine Go.by (g' := (mkF m 198 #[.val (.int p1), .val (.int p2), .val (.int p3), .val (.int p4), .val (.int p5), .val (.int x), .val (.int y), .val (.int z), .val (.int (p4 &&& (3 : Int32))), .val (.ref b1), .val (.int num), .val (.int ((us p4 (6 : Int32)) &&& (3 : Int32))), .val (.ref ty), .val (.ref b2), .val (.int (hasV num (p4 &&& (3 : Int32)) (atV num x y z))), .unset, .val (.int z)] [(.int (-2147483648 : Int32)), (.int z)])) (fun _ k => X41.ldcInt hx hown (mvT hZ (hw _ (List.mem_of_getElem? (i := 49) rfl))) (g := (mkF m 196 #[.val (.int p1), .val (.int p2), .val (.int p3), .val (.int p4), .val (.int p5), .val (.int x), .val (.int y), .val (.int z), .val (.int (p4 &&& (3 : Int32))), .val (.ref b1), .val (.int num), .val (.int ((us p4 (6 : Int32)) &&& (3 : Int32))), .val (.ref ty), .val (.ref b2), .val (.int (hasV num (p4 &&& (3 : Int32)) (atV num x y z))), .unset, .val (.int z)] [(.int z)])) rfl (hb hby at_196) _ k) ?_
              by_cases h198 : z = (-2147483648 : Int32)
              · refine Go.by (g' := (mkF m 205 #[.val (.int p1), .val (.int p2), .val (.int p3), .val (.int p4), .val (.int p5), .val (.int x), .val (.int y), .val (.int z), .val (.int (p4 &&& (3 : Int32))), .val (.ref b1), .val (.int num), .val (.int ((us p4 (6 : Int32)) &&& (3 : Int32))), .val (.ref ty), .val (.ref b2), .val (.int (hasV num (p4 &&& (3 : Int32)) (atV num x y z))), .unset, .val (.int z)] [])) (fun _ k => XS.icmpYes X41.here hx rfl (pc0 := 198) (pc' := 205) rfl (hb hby at_198) rfl (teq h198).1 (by decide) (by decide) k) ?_
                refine Go.by (g' := (mkF m 206 #[.val (.int p1), .val (.int p2), .val (.int p3), .val (.int p4), .val (.int p5), .val (.int x), .val (.int y), .val (.int z), .val (.int (p4 &&& (3 : Int32))), .val (.ref b1), .val (.int num), .val (.int ((us p4 (6 : Int32)) &&& (3 : Int32))), .val (.ref ty), .val (.ref b2), .val (.int (hasV num (p4 &&& (3 : Int32)) (atV num x y z))), .unset, .val (.int z)] [(.int (0 : Int32))])) (fun _ k => XS.iconst X41.here hx rfl (hb hby at_205) k) ?_
                refine Go.by (g' := (mkF m 208 #[.val (.int p1), .val (.int p2), .val (.int p3), .val (.int p4), .val (.int p5), .val (.int x), .val (.int y), .val (.int z), .val (.int (p4 &&& (3 : Int32))), .val (.ref b1), .val (.int num), .val (.int ((us p4 (6 : Int32)) &&& (3 : Int32))), .val (.ref ty), .val (.ref b2), .val (.int (hasV num (p4 &&& (3 : Int32)) (atV num x y z))), .val (.int (0 : Int32)), .val (.int z)] [])) (fun _ k => XS.istore X41.here hx rfl (hb hby at_206) rfl (l' := #[.val (.int p1), .val (.int p2), .val (.int p3), .val (.int p4), .val (.int p5), .val (.int x), .val (.int y), .val (.int z), .val (.int (p4 &&& (3 : Int32))), .val (.ref b1), .val (.int num), .val (.int ((us p4 (6 : Int32)) &&& (3 : Int32))), .val (.ref ty), .val (.ref b2), .val (.int (hasV num (p4 &&& (3 : Int32)) (atV num x y z))), .val (.int (0 : Int32)), .val (.int z)]) rfl k) ?_
                refine Go.by (g' := (mkF m 210 #[.val (.int p1), .val (.int p2), .val (.int p3), .val (.int p4), .val (.int p5), .val (.int x), .val (.int y), .val (.int z), .val (.int (p4 &&& (3 : Int32))), .val (.ref b1), .val (.int num), .val (.int ((us p4 (6 : Int32)) &&& (3 : Int32))), .val (.ref ty), .val (.ref b2), .val (.int (hasV num (p4 &&& (3 : Int32)) (atV num x y z))), .val (.int (0 : Int32)), .val (.int z)] [(.int (hasV num (p4 &&& (3 : Int32)) (atV num x y z)))])) (fun _ k => XS.iload X41.here hx rfl (hb hby at_208) rfl k) ?_
                refine Go.by (g' := (mkF m 212 #[.val (.int p1), .val (.int p2), .val (.int p3), .val (.int p4), .val (.int p5), .val (.int x), .val (.int y), .val (.int z), .val (.int (p4 &&& (3 : Int32))), .val (.ref b1), .val (.int num), .val (.int ((us p4 (6 : Int32)) &&& (3 : Int32))), .val (.ref ty), .val (.ref b2), .val (.int (hasV num (p4 &&& (3 : Int32)) (atV num x y z))), .val (.int (0 : Int32)), .val (.int z)] [(.int (0 : Int32)), (.int (hasV num (p4 &&& (3 : Int32)) (atV num x y z)))])) (fun _ k => XS.iload X41.here hx rfl (hb hby at_210) rfl k) ?_
                refine Go.by (g' := (mkF m 215 #[.val (.int p1), .val (.int p2), .val (.int p3), .val (.int p4), .val (.int p5), .val (.int x), .val (.int y), .val (.int z), .val (.int (p4 &&& (3 : Int32))), .val (.ref b1), .val (.int num), .val (.int ((us p4 (6 : Int32)) &&& (3 : Int32))), .val (.ref ty), .val (.ref b2), .val (.int (hasV num (p4 &&& (3 : Int32)) (atV num x y z))), .val (.int (0 : Int32)), .val (.int z)] [])) (fun _ k => XS.icmpNo X41.here hx rfl (hb hby at_212) rfl (teq (by rw [hasV, if_pos h160, atV, if_neg h171, if_neg h182, if_pos h198])).2 k) ?_
                refine Go.by (g' := (mkF m 216 #[.val (.int p1), .val (.int p2), .val (.int p3), .val (.int p4), .val (.int p5), .val (.int x), .val (.int y), .val (.int z), .val (.int (p4 &&& (3 : Int32))), .val (.ref b1), .val (.int num), .val (.int ((us p4 (6 : Int32)) &&& (3 : Int32))), .val (.ref ty), .val (.ref b2), .val (.int (hasV num (p4 &&& (3 : Int32)) (atV num x y z))), .val (.int (0 : Int32)), .val (.int z)] [(.int (1 : Int32))])) (fun _ k => XS.iconst X41.here hx rfl (hb hby at_215) k) ?_
                refine Go.by (g' := (mkF m 220 #[.val (.int p1), .val (.int p2), .val (.int p3), .val (.int p4), .val (.int p5), .val (.int x), .val (.int y), .val (.int z), .val (.int (p4 &&& (3 : Int32))), .val (.ref b1), .val (.int num), .val (.int ((us p4 (6 : Int32)) &&& (3 : Int32))), .val (.ref ty), .val (.ref b2), .val (.int (hasV num (p4 &&& (3 : Int32)) (atV num x y z))), .val (.int (0 : Int32)), .val (.int z)] [(.int (1 : Int32))])) (fun _ k => XS.goto X41.here hx rfl (pc0 := 216) (pc' := 220) rfl (hb hby at_216) (by decide) (by decide) k) ?_
                exact Go.outZ X41 hx hret (Lv.narrow X41 hlk (by decide) (by decide)) (hb hby at_220) (by decide) ⟨rfl, M41⟩
              · refine Go.by (g' := (mkF m 201 #[.val (.int p1), .val (.int p2), .val (.int p3), .val (.int p4), .val (.int p5), .val (.int x), .val (.int y), .val (.int z), .val (.int (p4 &&& (3 : Int32))), .val (.ref b1), .val (.int num), .val (.int ((us p4 (6 : Int32)) &&& (3 : Int32))), .val (.ref ty), .val (.ref b2), .val (.int (hasV num (p4 &&& (3 : Int32)) (atV num x y z))), .unset, .val (.int z)] [])) (fun _ k => XS.icmpNo X41.here hx rfl (hb hby at_198) rfl (feq h198).1 k) ?_
                refine Go.by (g' := (mkF m 202 #[.val (.int p1), .val (.int p2), .val (.int p3), .val (.int p4), .val (.int p5), .val (.int x), .val (.int y), .val (.int z), .val (.int (p4 &&& (3 : Int32))), .val (.ref b1), .val (.int num), .val (.int ((us p4 (6 : Int32)) &&& (3 : Int32))), .val (.ref ty), .val (.ref b2), .val (.int (hasV num (p4 &&& (3 : Int32)) (atV num x y z))), .unset, .val (.int z)] [(.int (1 : Int32))])) (fun _ k => XS.iconst X41.here hx rfl (hb hby at_201) k) ?_
                refine Go.by (g' := (mkF m 206 #[.val (.int p1), .val (.int p2), .val (.int p3), .val (.int p4), .val (.int p5), .val (.int x), .val (.int y), .val (.int z), .val (.int (p4 &&& (3 : Int32))), .val (.ref b1), .val (.int num), .val (.int ((us p4 (6 : Int32)) &&& (3 : Int32))), .val (.ref ty), .val (.ref b2), .val (.int (hasV num (p4 &&& (3 : Int32)) (atV num x y z))), .unset, .val (.int z)] [(.int (1 : Int32))])) (fun _ k => XS.goto X41.here hx rfl (pc0 := 202) (pc' := 206) rfl (hb hby at_202) (by decide) (by decide) k) ?_
                refine Go.by (g' := (mkF m 208 #[.val (.int p1), .val (.int p2), .val (.int p3), .val (.int p4), .val (.int p5), .val (.int x), .val (.int y), .val (.int z), .val (.int (p4 &&& (3 : Int32))), .val (.ref b1), .val (.int num), .val (.int ((us p4 (6 : Int32)) &&& (3 : Int32))), .val (.ref ty), .val (.ref b2), .val (.int (hasV num (p4 &&& (3 : Int32)) (atV num x y z))), .val (.int (1 : Int32)), .val (.int z)] [])) (fun _ k => XS.istore X41.here hx rfl (hb hby at_206) rfl (l' := #[.val (.int p1), .val (.int p2), .val (.int p3), .val (.int p4), .val (.int p5), .val (.int x), .val (.int y), .val (.int z), .val (.int (p4 &&& (3 : Int32))), .val (.ref b1), .val (.int num), .val (.int ((us p4 (6 : Int32)) &&& (3 : Int32))), .val (.ref ty), .val (.ref b2), .val (.int (hasV num (p4 &&& (3 : Int32)) (atV num x y z))), .val (.int (1 : Int32)), .val (.int z)]) rfl k) ?_
                refine Go.by (g' := (mkF m 210 #[.val (.int p1), .val (.int p2), .val (.int p3), .val (.int p4), .val (.int p5), .val (.int x), .val (.int y), .val (.int z), .val (.int (p4 &&& (3 : Int32))), .val (.ref b1), .val (.int num), .val (.int ((us p4 (6 : Int32)) &&& (3 : Int32))), .val (.ref ty), .val (.ref b2), .val (.int (hasV num (p4 &&& (3 : Int32)) (atV num x y z))), .val (.int (1 : Int32)), .val (.int z)] [(.int (hasV num (p4 &&& (3 : Int32)) (atV num x y z)))])) (fun _ k => XS.iload X41.here hx rfl (hb hby at_208) rfl k) ?_
                refine Go.by (g' := (mkF m 212 #[.val (.int p1), .val (.int p2), .val (.int p3), .val (.int p4), .val (.int p5), .val (.int x), .val (.int y), .val (.int z), .val (.int (p4 &&& (3 : Int32))), .val (.ref b1), .val (.int num), .val (.int ((us p4 (6 : Int32)) &&& (3 : Int32))), .val (.ref ty), .val (.ref b2), .val (.int (hasV num (p4 &&& (3 : Int32)) (atV num x y z))), .val (.int (1 : Int32)), .val (.int z)] [(.int (1 : Int32)), (.int (hasV num (p4 &&& (3 : Int32)) (atV num x y z)))])) (fun _ k => XS.iload X41.here hx rfl (hb hby at_210) rfl k) ?_
                refine Go.by (g' := (mkF m 215 #[.val (.int p1), .val (.int p2), .val (.int p3), .val (.int p4), .val (.int p5), .val (.int x), .val (.int y), .val (.int z), .val (.int (p4 &&& (3 : Int32))), .val (.ref b1), .val (.int num), .val (.int ((us p4 (6 : Int32)) &&& (3 : Int32))), .val (.ref ty), .val (.ref b2), .val (.int (hasV num (p4 &&& (3 : Int32)) (atV num x y z))), .val (.int (1 : Int32)), .val (.int z)] [])) (fun _ k => XS.icmpNo X41.here hx rfl (hb hby at_212) rfl (teq (by rw [hasV, if_pos h160, atV, if_neg h171, if_neg h182, if_neg h198])).2 k) ?_
                refine Go.by (g' := (mkF m 216 #[.val (.int p1), .val (.int p2), .val (.int p3), .val (.int p4), .val (.int p5), .val (.int x), .val (.int y), .val (.int z), .val (.int (p4 &&& (3 : Int32))), .val (.ref b1), .val (.int num), .val (.int ((us p4 (6 : Int32)) &&& (3 : Int32))), .val (.ref ty), .val (.ref b2), .val (.int (hasV num (p4 &&& (3 : Int32)) (atV num x y z))), .val (.int (1 : Int32)), .val (.int z)] [(.int (1 : Int32))])) (fun _ k => XS.iconst X41.here hx rfl (hb hby at_215) k) ?_
                refine Go.by (g' := (mkF m 220 #[.val (.int p1), .val (.int p2), .val (.int p3), .val (.int p4), .val (.int p5), .val (.int x), .val (.int y), .val (.int z), .val (.int (p4 &&& (3 : Int32))), .val (.ref b1), .val (.int num), .val (.int ((us p4 (6 : Int32)) &&& (3 : Int32))), .val (.ref ty), .val (.ref b2), .val (.int (hasV num (p4 &&& (3 : Int32)) (atV num x y z))), .val (.int (1 : Int32)), .val (.int z)] [(.int (1 : Int32))])) (fun _ k => XS.goto X41.here hx rfl (pc0 := 216) (pc' := 220) rfl (hb hby at_216) (by decide) (by decide) k) ?_
                exact Go.outZ X41 hx hret (Lv.narrow X41 hlk (by decide) (by decide)) (hb hby at_220) (by decide) ⟨rfl, M41⟩
        · refine Go.by (g' := (mkF m 163 #[.val (.int p1), .val (.int p2), .val (.int p3), .val (.int p4), .val (.int p5), .val (.int x), .val (.int y), .val (.int z), .val (.int (p4 &&& (3 : Int32))), .val (.ref b1), .val (.int num), .val (.int ((us p4 (6 : Int32)) &&& (3 : Int32))), .val (.ref ty), .val (.ref b2), .val (.int (hasV num (p4 &&& (3 : Int32)) (atV num x y z))), .unset, .unset] [])) (fun _ k => XS.icmpNo X41.here hx rfl (hb hby at_160) rfl (flt h160).1 k) ?_
          refine Go.by (g' := (mkF m 164 #[.val (.int p1), .val (.int p2), .val (.int p3), .val (.int p4), .val (.int p5), .val (.int x), .val (.int y), .val (.int z), .val (.int (p4 &&& (3 : Int32))), .val (.ref b1), .val (.int num), .val (.int ((us p4 (6 : Int32)) &&& (3 : Int32))), .val (.ref ty), .val (.ref b2), .val (.int (hasV num (p4 &&& (3 : Int32)) (atV num x y z))), .unset, .unset] [(.int (0 : Int32))])) (fun _ k => XS.iconst X41.here hx rfl (hb hby at_163) k) ?_
          refine Go.by (g' := (mkF m 166 #[.val (.int p1), .val (.int p2), .val (.int p3), .val (.int p4), .val (.int p5), .val (.int x), .val (.int y), .val (.int z), .val (.int (p4 &&& (3 : Int32))), .val (.ref b1), .val (.int num), .val (.int ((us p4 (6 : Int32)) &&& (3 : Int32))), .val (.ref ty), .val (.ref b2), .val (.int (hasV num (p4 &&& (3 : Int32)) (atV num x y z))), .val (.int (0 : Int32)), .unset] [])) (fun _ k => XS.istore X41.here hx rfl (hb hby at_164) rfl (l' := #[.val (.int p1), .val (.int p2), .val (.int p3), .val (.int p4), .val (.int p5), .val (.int x), .val (.int y), .val (.int z), .val (.int (p4 &&& (3 : Int32))), .val (.ref b1), .val (.int num), .val (.int ((us p4 (6 : Int32)) &&& (3 : Int32))), .val (.ref ty), .val (.ref b2), .val (.int (hasV num (p4 &&& (3 : Int32)) (atV num x y z))), .val (.int (0 : Int32)), .unset]) rfl k) ?_
          refine Go.by (g' := (mkF m 208 #[.val (.int p1), .val (.int p2), .val (.int p3), .val (.int p4), .val (.int p5), .val (.int x), .val (.int y), .val (.int z), .val (.int (p4 &&& (3 : Int32))), .val (.ref b1), .val (.int num), .val (.int ((us p4 (6 : Int32)) &&& (3 : Int32))), .val (.ref ty), .val (.ref b2), .val (.int (hasV num (p4 &&& (3 : Int32)) (atV num x y z))), .val (.int (0 : Int32)), .unset] [])) (fun _ k => XS.goto X41.here hx rfl (pc0 := 166) (pc' := 208) rfl (hb hby at_166) (by decide) (by decide) k) ?_
          refine Go.by (g' := (mkF m 210 #[.val (.int p1), .val (.int p2), .val (.int p3), .val (.int p4), .val (.int p5), .val (.int x), .val (.int y), .val (.int z), .val (.int (p4 &&& (3 : Int32))), .val (.ref b1), .val (.int num), .val (.int ((us p4 (6 : Int32)) &&& (3 : Int32))), .val (.ref ty), .val (.ref b2), .val (.int (hasV num (p4 &&& (3 : Int32)) (atV num x y z))), .val (.int (0 : Int32)), .unset] [(.int (hasV num (p4 &&& (3 : Int32)) (atV num x y z)))])) (fun _ k => XS.iload X41.here hx rfl (hb hby at_208) rfl k) ?_
          refine Go.by (g' := (mkF m 212 #[.val (.int p1), .val (.int p2), .val (.int p3), .val (.int p4), .val (.int p5), .val (.int x), .val (.int y), .val (.int z), .val (.int (p4 &&& (3 : Int32))), .val (.ref b1), .val (.int num), .val (.int ((us p4 (6 : Int32)) &&& (3 : Int32))), .val (.ref ty), .val (.ref b2), .val (.int (hasV num (p4 &&& (3 : Int32)) (atV num x y z))), .val (.int (0 : Int32)), .unset] [(.int (0 : Int32)), (.int (hasV num (p4 &&& (3 : Int32)) (atV num x y z)))])) (fun _ k => XS.iload X41.here hx rfl (hb hby at_210) rfl k) ?_
          refine Go.by (g' := (mkF m 215 #[.val (.int p1), .val (.int p2), .val (.int p3), .val (.int p4), .val (.int p5), .val (.int x), .val (.int y), .val (.int z), .val (.int (p4 &&& (3 : Int32))), .val (.ref b1), .val (.int num), .val (.int ((us p4 (6 : Int32)) &&& (3 : Int32))), .val (.ref ty), .val (.ref b2), .val (.int (hasV num (p4 &&& (3 : Int32)) (atV num x y z))), .val (.int (0 : Int32)), .unset] [])) (fun _ k => XS.icmpNo X41.here hx rfl (hb hby at_212) rfl (teq (by rw [hasV, if_neg h160])).2 k) ?_
          refine Go.by (g' := (mkF m 216 #[.val (.int p1), .val (.int p2), .val (.int p3), .val (.int p4), .val (.int p5), .val (.int x), .val (.int y), .val (.int z), .val (.int (p4 &&& (3 : Int32))), .val (.ref b1), .val (.int num), .val (.int ((us p4 (6 : Int32)) &&& (3 : Int32))), .val (.ref ty), .val (.ref b2), .val (.int (hasV num (p4 &&& (3 : Int32)) (atV num x y z))), .val (.int (0 : Int32)), .unset] [(.int (1 : Int32))])) (fun _ k => XS.iconst X41.here hx rfl (hb hby at_215) k) ?_
          refine Go.by (g' := (mkF m 220 #[.val (.int p1), .val (.int p2), .val (.int p3), .val (.int p4), .val (.int p5), .val (.int x), .val (.int y), .val (.int z), .val (.int (p4 &&& (3 : Int32))), .val (.ref b1), .val (.int num), .val (.int ((us p4 (6 : Int32)) &&& (3 : Int32))), .val (.ref ty), .val (.ref b2), .val (.int (hasV num (p4 &&& (3 : Int32)) (atV num x y z))), .val (.int (0 : Int32)), .unset] [(.int (1 : Int32))])) (fun _ k => XS.goto X41.here hx rfl (pc0 := 216) (pc' := 220) rfl (hb hby at_216) (by decide) (by decide) k) ?_
          exact Go.outZ X41 hx hret (Lv.narrow X41 hlk (by decide) (by decide)) (hb hby at_220) (by decide) ⟨rfl, M41⟩
      by_cases h99 : ((us p4 (6 : Int32)) &&& (3 : Int32)) = (0 : Int32)
      · refine Go.by (g' := (mkF m 102 #[.val (.int p1), .val (.int p2), .val (.int p3), .val (.int p4), .val (.int p5), .val (.int x), .val (.int y), .val (.int z), .val (.int (p4 &&& (3 : Int32))), .val (.ref b1), .val (.int num), .val (.int ((us p4 (6 : Int32)) &&& (3 : Int32))), .unset, .unset, .unset, .unset, .unset] [])) (fun _ k => XS.ifNo X29.here hx rfl (hb hby at_99) rfl ((if0 _ _).trans (teq h99).2) k) ?_
        have f42_OL := (OL.keep K29 all0)
        obtain ⟨T43, X43, e43, st43⟩ := getS2 X29 hx hZ hown (host := "") (Or.inl (hw _ (List.mem_of_getElem? (i := 6) rfl))) Via.refl rfl (SI.ext f42_OL.2) (g := (mkF m 102 #[.val (.int p1), .val (.int p2), .val (.int p3), .val (.int p4), .val (.int p5), .val (.int x), .val (.int y), .val (.int z), .val (.int (p4 &&& (3 : Int32))), .val (.ref b1), .val (.int num), .val (.int ((us p4 (6 : Int32)) &&& (3 : Int32))), .unset, .unset, .unset, .unset, .unset] [])) rfl (hb hby at_102)
        refine Go.by (g' := (mkF m 105 #[.val (.int p1), .val (.int p2), .val (.int p3), .val (.int p4), .val (.int p5), .val (.int x), .val (.int y), .val (.int z), .val (.int (p4 &&& (3 : Int32))), .val (.ref b1), .val (.int num), .val (.int ((us p4 (6 : Int32)) &&& (3 : Int32))), .unset, .unset, .unset, .unset, .unset] [(.ref aI)])) st43 ?_
        refine Go.by (g' := (mkF m 123 #[.val (.int p1), .val (.int p2), .val (.int p3), .val (.int p4), .val (.int p5), .val (.int x), .val (.int y), .val (.int z), .val (.int (p4 &&& (3 : Int32))), .val (.ref b1), .val (.int num), .val (.int ((us p4 (6 : Int32)) &&& (3 : Int32))), .unset, .unset, .unset, .unset, .unset] [(.ref aI)])) (fun _ k => XS.goto X43.here hx rfl (pc0 := 105) (pc' := 123) rfl (hb hby at_105) (by decide) (by decide) k) ?_
        exact k123 T43 X43 e43 aI
      · refine Go.by (g' := (mkF m 108 #[.val (.int p1), .val (.int p2), .val (.int p3), .val (.int p4), .val (.int p5), .val (.int x), .val (.int y), .val (.int z), .val (.int (p4 &&& (3 : Int32))), .val (.ref b1), .val (.int num), .val (.int ((us p4 (6 : Int32)) &&& (3 : Int32))), .unset, .unset, .unset, .unset, .unset] [])) (fun _ k => XS.ifYes X29.here hx rfl (pc0 := 99) (pc' := 108) rfl (hb hby at_99) rfl ((if0 _ _).trans (feq h99).2) (by decide) (by decide) k) ?_
        refine Go.by (g' := (mkF m 110 #[.val (.int p1), .val (.int p2), .val (.int p3), .val (.int p4), .val (.int p5), .val (.int x), .val (.int y), .val (.int z), .val (.int (p4 &&& (3 : Int32))), .val (.ref b1), .val (.int num), .val (.int ((us p4 (6 : Int32)) &&& (3 : Int32))), .unset, .unset, .unset, .unset, .unset] [(.int ((us p4 (6 : Int32)) &&& (3 : Int32)))])) (fun _ k => XS.iload X29.here hx rfl (hb hby at_108) rfl k) ?_
        refine Go.by (g' := (mkF m 111 #[.val (.int p1), .val (.int p2), .val (.int p3), .val (.int p4), .val (.int p5), .val (.int x), .val (.int y), .val (.int z), .val (.int (p4 &&& (3 : Int32))), .val (.ref b1), .val (.int num), .val (.int ((us p4 (6 : Int32)) &&& (3 : Int32))), .unset, .unset, .unset, .unset, .unset] [(.int (1 : Int32)), (.int ((us p4 (6 : Int32)) &&& (3 : Int32)))])) (fun _ k => XS.iconst X29.here hx rfl (hb hby at_110) k) ?_
        by_cases h111 : ((us p4 (6 : Int32)) &&& (3 : Int32)) = (1 : Int32)
        · refine Go.by (g' := (mkF m 114 #[.val (.int p1), .val (.int p2), .val (.int p3), .val (.int p4), .val (.int p5), .val (.int x), .val (.int y), .val (.int z), .val (.int (p4 &&& (3 : Int32))), .val (.ref b1), .val (.int num), .val (.int ((us p4 (6 : Int32)) &&& (3 : Int32))), .unset, .unset, .unset, .unset, .unset] [])) (fun _ k => XS.icmpNo X29.here hx rfl (hb hby at_111) rfl (teq h111).2 k) ?_
          have f44_OL := (OL.keep K29 all0)
          obtain ⟨T45, X45, e45, st45⟩ := getS2 X29 hx hZ hown (host := "") (Or.inl (hw _ (List.mem_of_getElem? (i := 52) rfl))) Via.refl rfl (SB.ext f44_OL.2) (g := (mkF m 114 #[.val (.int p1), .val (.int p2), .val (.int p3), .val (.int p4), .val (.int p5), .val (.int x), .val (.int y), .val (.int z), .val (.int (p4 &&& (3 : Int32))), .val (.ref b1), .val (.int num), .val (.int ((us p4 (6 : Int32)) &&& (3 : Int32))), .unset, .unset, .unset, .unset, .unset] [])) rfl (hb hby at_114)
          refine Go.by (g' := (mkF m 117 #[.val (.int p1), .val (.int p2), .val (.int p3), .val (.int p4), .val (.int p5), .val (.int x), .val (.int y), .val (.int z), .val (.int (p4 &&& (3 : Int32))), .val (.ref b1), .val (.int num), .val (.int ((us p4 (6 : Int32)) &&& (3 : Int32))), .unset, .unset, .unset, .unset, .unset] [(.ref aB)])) st45 ?_
          refine Go.by (g' := (mkF m 123 #[.val (.int p1), .val (.int p2), .val (.int p3), .val (.int p4), .val (.int p5), .val (.int x), .val (.int y), .val (.int z), .val (.int (p4 &&& (3 : Int32))), .val (.ref b1), .val (.int num), .val (.int ((us p4 (6 : Int32)) &&& (3 : Int32))), .unset, .unset, .unset, .unset, .unset] [(.ref aB)])) (fun _ k => XS.goto X45.here hx rfl (pc0 := 117) (pc' := 123) rfl (hb hby at_117) (by decide) (by decide) k) ?_
          exact k123 T45 X45 e45 aB
        · refine Go.by (g' := (mkF m 120 #[.val (.int p1), .val (.int p2), .val (.int p3), .val (.int p4), .val (.int p5), .val (.int x), .val (.int y), .val (.int z), .val (.int (p4 &&& (3 : Int32))), .val (.ref b1), .val (.int num), .val (.int ((us p4 (6 : Int32)) &&& (3 : Int32))), .unset, .unset, .unset, .unset, .unset] [])) (fun _ k => XS.icmpYes X29.here hx rfl (pc0 := 111) (pc' := 120) rfl (hb hby at_111) rfl (feq h111).2 (by decide) (by decide) k) ?_
          have f46_OL := (OL.keep K29 all0)
          obtain ⟨T47, X47, e47, st47⟩ := getS2 X29 hx hZ hown (host := "") (Or.inl (hw _ (List.mem_of_getElem? (i := 50) rfl))) Via.refl rfl (SR.ext f46_OL.2) (g := (mkF m 120 #[.val (.int p1), .val (.int p2), .val (.int p3), .val (.int p4), .val (.int p5), .val (.int x), .val (.int y), .val (.int z), .val (.int (p4 &&& (3 : Int32))), .val (.ref b1), .val (.int num), .val (.int ((us p4 (6 : Int32)) &&& (3 : Int32))), .unset, .unset, .unset, .unset, .unset] [])) rfl (hb hby at_120)
          refine Go.by (g' := (mkF m 123 #[.val (.int p1), .val (.int p2), .val (.int p3), .val (.int p4), .val (.int p5), .val (.int x), .val (.int y), .val (.int z), .val (.int (p4 &&& (3 : Int32))), .val (.ref b1), .val (.int num), .val (.int ((us p4 (6 : Int32)) &&& (3 : Int32))), .unset, .unset, .unset, .unset, .unset] [(.ref aR)])) st47 ?_
          exact k123 T47 X47 e47 aR
    by_cases h71 : ((p4 >>> ((5 : Int32) &&& 31)) &&& (1 : Int32)) = (0 : Int32)
    · refine Go.by (g' := (mkF m 82 #[.val (.int p1), .val (.int p2), .val (.int p3), .val (.int p4), .val (.int p5), .val (.int x), .val (.int y), .val (.int z), .val (.int (p4 &&& (3 : Int32))), .val (.ref b1), .unset, .unset, .unset, .unset, .unset, .unset, .unset] [])) (fun _ k => XS.ifYes X29.here hx rfl (pc0 := 71) (pc' := 82) rfl (hb hby at_71) rfl ((if0 _ _).trans (teq h71).1) (by decide) (by decide) k) ?_
      refine Go.by (g' := (mkF m 84 #[.val (.int p1), .val (.int p2), .val (.int p3), .val (.int p4), .val (.int p5), .val (.int x), .val (.int y), .val (.int z), .val (.int (p4 &&& (3 : Int32))), .val (.ref b1), .unset, .unset, .unset, .unset, .unset, .unset, .unset] [(.int p5)])) (fun _ k => XS.iload X29.here hx rfl (hb hby at_82) rfl k) ?_
      refine Go.by (g' := (mkF m 86 #[.val (.int p1), .val (.int p2), .val (.int p3), .val (.int p4), .val (.int p5), .val (.int x), .val (.int y), .val (.int z), .val (.int (p4 &&& (3 : Int32))), .val (.ref b1), .unset, .unset, .unset, .unset, .unset, .unset, .unset] [(.int (2147483647 : Int32)), (.int p5)])) (fun _ k => X29.ldcInt hx hown (mvT hZ (hw _ (List.mem_of_getElem? (i := 5) rfl))) (g := (mkF m 84 #[.val (.int p1), .val (.int p2), .val (.int p3), .val (.int p4), .val (.int p5), .val (.int x), .val (.int y), .val (.int z), .val (.int (p4 &&& (3 : Int32))), .val (.ref b1), .unset, .unset, .unset, .unset, .unset, .unset, .unset] [(.int p5)])) rfl (hb hby at_84) _ k) ?_
      refine Go.by (g' := (mkF m 87 #[.val (.int p1), .val (.int p2), .val (.int p3), .val (.int p4), .val (.int p5), .val (.int x), .val (.int y), .val (.int z), .val (.int (p4 &&& (3 : Int32))), .val (.ref b1), .unset, .unset, .unset, .unset, .unset, .unset, .unset] [(.int (p5 &&& (2147483647 : Int32)))])) (fun _ k => XS.iand X29.here hx rfl (hb hby at_86) rfl k) ?_
      exact k87 _ (and_nn p5 2147483647 (by decide))
    · refine Go.by (g' := (mkF m 74 #[.val (.int p1), .val (.int p2), .val (.int p3), .val (.int p4), .val (.int p5), .val (.int x), .val (.int y), .val (.int z), .val (.int (p4 &&& (3 : Int32))), .val (.ref b1), .unset, .unset, .unset, .unset, .unset, .unset, .unset] [])) (fun _ k => XS.ifNo X29.here hx rfl (hb hby at_71) rfl ((if0 _ _).trans (feq h71).1) k) ?_
      refine Go.by (g' := (mkF m 76 #[.val (.int p1), .val (.int p2), .val (.int p3), .val (.int p4), .val (.int p5), .val (.int x), .val (.int y), .val (.int z), .val (.int (p4 &&& (3 : Int32))), .val (.ref b1), .unset, .unset, .unset, .unset, .unset, .unset, .unset] [(.int p5)])) (fun _ k => XS.iload X29.here hx rfl (hb hby at_74) rfl k) ?_
      refine Go.by (g' := (mkF m 78 #[.val (.int p1), .val (.int p2), .val (.int p3), .val (.int p4), .val (.int p5), .val (.int x), .val (.int y), .val (.int z), .val (.int (p4 &&& (3 : Int32))), .val (.ref b1), .unset, .unset, .unset, .unset, .unset, .unset, .unset] [(.int (7 : Int32)), (.int p5)])) (fun _ k => XS.bipush X29.here hx rfl (hb hby at_76) k) ?_
      refine Go.by (g' := (mkF m 79 #[.val (.int p1), .val (.int p2), .val (.int p3), .val (.int p4), .val (.int p5), .val (.int x), .val (.int y), .val (.int z), .val (.int (p4 &&& (3 : Int32))), .val (.ref b1), .unset, .unset, .unset, .unset, .unset, .unset, .unset] [(.int (p5 &&& (7 : Int32)))])) (fun _ k => XS.iand X29.here hx rfl (hb hby at_78) rfl k) ?_
      refine Go.by (g' := (mkF m 87 #[.val (.int p1), .val (.int p2), .val (.int p3), .val (.int p4), .val (.int p5), .val (.int x), .val (.int y), .val (.int z), .val (.int (p4 &&& (3 : Int32))), .val (.ref b1), .unset, .unset, .unset, .unset, .unset, .unset, .unset] [(.int (p5 &&& (7 : Int32)))])) (fun _ k => XS.goto X29.here hx rfl (pc0 := 79) (pc' := 87) rfl (hb hby at_79) (by decide) (by decide) k) ?_
      exact k87 _ (and_nn p5 7 (by decide))
  have k30 : ∀ x y : Int32, Go p e below (En s room_1.cells room_1.slots) (fun v h L => v = some (.int 1) ∧ Fr n0 L) T0 (mkF m 30 #[.val (.int p1), .val (.int p2), .val (.int p3), .val (.int p4), .val (.int p5), .val (.int x), .unset, .unset, .unset, .unset, .unset, .unset, .unset, .unset, .unset, .unset, .unset] [(.int y)]) := by
    intro x y
    refine Go.by (g' := (mkF m 32 #[.val (.int p1), .val (.int p2), .val (.int p3), .val (.int p4), .val (.int p5), .val (.int x), .val (.int y), .unset, .unset, .unset, .unset, .unset, .unset, .unset, .unset, .unset, .unset] [])) (fun _ k => XS.istore X0.here hx rfl (hb hby at_30) rfl (l' := #[.val (.int p1), .val (.int p2), .val (.int p3), .val (.int p4), .val (.int p5), .val (.int x), .val (.int y), .unset, .unset, .unset, .unset, .unset, .unset, .unset, .unset, .unset, .unset]) rfl k) ?_
    refine Go.by (g' := (mkF m 33 #[.val (.int p1), .val (.int p2), .val (.int p3), .val (.int p4), .val (.int p5), .val (.int x), .val (.int y), .unset, .unset, .unset, .unset, .unset, .unset, .unset, .unset, .unset, .unset] [(.int p4)])) (fun _ k => XS.iloadN X0.here hx rfl (hb hby at_32) rfl k) ?_
    refine Go.by (g' := (mkF m 34 #[.val (.int p1), .val (.int p2), .val (.int p3), .val (.int p4), .val (.int p5), .val (.int x), .val (.int y), .unset, .unset, .unset, .unset, .unset, .unset, .unset, .unset, .unset, .unset] [(.int (4 : Int32)), (.int p4)])) (fun _ k => XS.iconst X0.here hx rfl (hb hby at_33) k) ?_
    refine Go.by (g' := (mkF m 35 #[.val (.int p1), .val (.int p2), .val (.int p3), .val (.int p4), .val (.int p5), .val (.int x), .val (.int y), .unset, .unset, .unset, .unset, .unset, .unset, .unset, .unset, .unset, .unset] [(.int (p4 >>> ((4 : Int32) &&& 31)))])) (fun _ k => XS.ishr X0.here hx rfl (hb hby at_34) rfl k) ?_
    refine Go.by (g' := (mkF m 36 #[.val (.int p1), .val (.int p2), .val (.int p3), .val (.int p4), .val (.int p5), .val (.int x), .val (.int y), .unset, .unset, .unset, .unset, .unset, .unset, .unset, .unset, .unset, .unset] [(.int (1 : Int32)), (.int (p4 >>> ((4 : Int32) &&& 31)))])) (fun _ k => XS.iconst X0.here hx rfl (hb hby at_35) k) ?_
    refine Go.by (g' := (mkF m 37 #[.val (.int p1), .val (.int p2), .val (.int p3), .val (.int p4), .val (.int p5), .val (.int x), .val (.int y), .unset, .unset, .unset, .unset, .unset, .unset, .unset, .unset, .unset, .unset] [(.int ((p4 >>> ((4 : Int32) &&& 31)) &&& (1 : Int32)))])) (fun _ k => XS.iand X0.here hx rfl (hb hby at_36) rfl k) ?_
    by_cases h37 : ((p4 >>> ((4 : Int32) &&& 31)) &&& (1 : Int32)) = (0 : Int32)
    · refine Go.by (g' := (mkF m 45 #[.val (.int p1), .val (.int p2), .val (.int p3), .val (.int p4), .val (.int p5), .val (.int x), .val (.int y), .unset, .unset, .unset, .unset, .unset, .unset, .unset, .unset, .unset, .unset] [])) (fun _ k => XS.ifYes X0.here hx rfl (pc0 := 37) (pc' := 45) rfl (hb hby at_37) rfl ((if0 _ _).trans (teq h37).1) (by decide) (by decide) k) ?_
      refine Go.by (g' := (mkF m 46 #[.val (.int p1), .val (.int p2), .val (.int p3), .val (.int p4), .val (.int p5), .val (.int x), .val (.int y), .unset, .unset, .unset, .unset, .unset, .unset, .unset, .unset, .unset, .unset] [(.int p3)])) (fun _ k => XS.iloadN X0.here hx rfl (hb hby at_45) rfl k) ?_
      exact k46 x y _
    · refine Go.by (g' := (mkF m 40 #[.val (.int p1), .val (.int p2), .val (.int p3), .val (.int p4), .val (.int p5), .val (.int x), .val (.int y), .unset, .unset, .unset, .unset, .unset, .unset, .unset, .unset, .unset, .unset] [])) (fun _ k => XS.ifNo X0.here hx rfl (hb hby at_37) rfl ((if0 _ _).trans (feq h37).1) k) ?_
      refine Go.by (g' := (mkF m 42 #[.val (.int p1), .val (.int p2), .val (.int p3), .val (.int p4), .val (.int p5), .val (.int x), .val (.int y), .unset, .unset, .unset, .unset, .unset, .unset, .unset, .unset, .unset, .unset] [(.int (-2147483648 : Int32))])) (fun _ k => X0.ldcInt hx hown (mvT hZ (hw _ (List.mem_of_getElem? (i := 49) rfl))) (g := (mkF m 40 #[.val (.int p1), .val (.int p2), .val (.int p3), .val (.int p4), .val (.int p5), .val (.int x), .val (.int y), .unset, .unset, .unset, .unset, .unset, .unset, .unset, .unset, .unset, .unset] [])) rfl (hb hby at_40) _ k) ?_
      refine Go.by (g' := (mkF m 46 #[.val (.int p1), .val (.int p2), .val (.int p3), .val (.int p4), .val (.int p5), .val (.int x), .val (.int y), .unset, .unset, .unset, .unset, .unset, .unset, .unset, .unset, .unset, .unset] [(.int (-2147483648 : Int32))])) (fun _ k => XS.goto X0.here hx rfl (pc0 := 42) (pc' := 46) rfl (hb hby at_42) (by decide) (by decide) k) ?_
      exact k46 x y _
  have k14 : ∀ x : Int32, Go p e below (En s room_1.cells room_1.slots) (fun v h L => v = some (.int 1) ∧ Fr n0 L) T0 (mkF m 14 #[.val (.int p1), .val (.int p2), .val (.int p3), .val (.int p4), .val (.int p5), .unset, .unset, .unset, .unset, .unset, .unset, .unset, .unset, .unset, .unset, .unset, .unset] [(.int x)]) := by
    intro x
    refine Go.by (g' := (mkF m 16 #[.val (.int p1), .val (.int p2), .val (.int p3), .val (.int p4), .val (.int p5), .val (.int x), .unset, .unset, .unset, .unset, .unset, .unset, .unset, .unset, .unset, .unset, .unset] [])) (fun _ k => XS.istore X0.here hx rfl (hb hby at_14) rfl (l' := #[.val (.int p1), .val (.int p2), .val (.int p3), .val (.int p4), .val (.int p5), .val (.int x), .unset, .unset, .unset, .unset, .unset, .unset, .unset, .unset, .unset, .unset, .unset]) rfl k) ?_
    refine Go.by (g' := (mkF m 17 #[.val (.int p1), .val (.int p2), .val (.int p3), .val (.int p4), .val (.int p5), .val (.int x), .unset, .unset, .unset, .unset, .unset, .unset, .unset, .unset, .unset, .unset, .unset] [(.int p4)])) (fun _ k => XS.iloadN X0.here hx rfl (hb hby at_16) rfl k) ?_
    refine Go.by (g' := (mkF m 18 #[.val (.int p1), .val (.int p2), .val (.int p3), .val (.int p4), .val (.int p5), .val (.int x), .unset, .unset, .unset, .unset, .unset, .unset, .unset, .unset, .unset, .unset, .unset] [(.int (3 : Int32)), (.int p4)])) (fun _ k => XS.iconst X0.here hx rfl (hb hby at_17) k) ?_
    refine Go.by (g' := (mkF m 19 #[.val (.int p1), .val (.int p2), .val (.int p3), .val (.int p4), .val (.int p5), .val (.int x), .unset, .unset, .unset, .unset, .unset, .unset, .unset, .unset, .unset, .unset, .unset] [(.int (p4 >>> ((3 : Int32) &&& 31)))])) (fun _ k => XS.ishr X0.here hx rfl (hb hby at_18) rfl k) ?_
    refine Go.by (g' := (mkF m 20 #[.val (.int p1), .val (.int p2), .val (.int p3), .val (.int p4), .val (.int p5), .val (.int x), .unset, .unset, .unset, .unset, .unset, .unset, .unset, .unset, .unset, .unset, .unset] [(.int (1 : Int32)), (.int (p4 >>> ((3 : Int32) &&& 31)))])) (fun _ k => XS.iconst X0.here hx rfl (hb hby at_19) k) ?_
    refine Go.by (g' := (mkF m 21 #[.val (.int p1), .val (.int p2), .val (.int p3), .val (.int p4), .val (.int p5), .val (.int x), .unset, .unset, .unset, .unset, .unset, .unset, .unset, .unset, .unset, .unset, .unset] [(.int ((p4 >>> ((3 : Int32) &&& 31)) &&& (1 : Int32)))])) (fun _ k => XS.iand X0.here hx rfl (hb hby at_20) rfl k) ?_
    by_cases h21 : ((p4 >>> ((3 : Int32) &&& 31)) &&& (1 : Int32)) = (0 : Int32)
    · refine Go.by (g' := (mkF m 29 #[.val (.int p1), .val (.int p2), .val (.int p3), .val (.int p4), .val (.int p5), .val (.int x), .unset, .unset, .unset, .unset, .unset, .unset, .unset, .unset, .unset, .unset, .unset] [])) (fun _ k => XS.ifYes X0.here hx rfl (pc0 := 21) (pc' := 29) rfl (hb hby at_21) rfl ((if0 _ _).trans (teq h21).1) (by decide) (by decide) k) ?_
      refine Go.by (g' := (mkF m 30 #[.val (.int p1), .val (.int p2), .val (.int p3), .val (.int p4), .val (.int p5), .val (.int x), .unset, .unset, .unset, .unset, .unset, .unset, .unset, .unset, .unset, .unset, .unset] [(.int p2)])) (fun _ k => XS.iloadN X0.here hx rfl (hb hby at_29) rfl k) ?_
      exact k30 x _
    · refine Go.by (g' := (mkF m 24 #[.val (.int p1), .val (.int p2), .val (.int p3), .val (.int p4), .val (.int p5), .val (.int x), .unset, .unset, .unset, .unset, .unset, .unset, .unset, .unset, .unset, .unset, .unset] [])) (fun _ k => XS.ifNo X0.here hx rfl (hb hby at_21) rfl ((if0 _ _).trans (feq h21).1) k) ?_
      refine Go.by (g' := (mkF m 26 #[.val (.int p1), .val (.int p2), .val (.int p3), .val (.int p4), .val (.int p5), .val (.int x), .unset, .unset, .unset, .unset, .unset, .unset, .unset, .unset, .unset, .unset, .unset] [(.int (-2147483648 : Int32))])) (fun _ k => X0.ldcInt hx hown (mvT hZ (hw _ (List.mem_of_getElem? (i := 49) rfl))) (g := (mkF m 24 #[.val (.int p1), .val (.int p2), .val (.int p3), .val (.int p4), .val (.int p5), .val (.int x), .unset, .unset, .unset, .unset, .unset, .unset, .unset, .unset, .unset, .unset, .unset] [])) rfl (hb hby at_24) _ k) ?_
      refine Go.by (g' := (mkF m 30 #[.val (.int p1), .val (.int p2), .val (.int p3), .val (.int p4), .val (.int p5), .val (.int x), .unset, .unset, .unset, .unset, .unset, .unset, .unset, .unset, .unset, .unset, .unset] [(.int (-2147483648 : Int32))])) (fun _ k => XS.goto X0.here hx rfl (pc0 := 26) (pc' := 30) rfl (hb hby at_26) (by decide) (by decide) k) ?_
      exact k30 x _
  refine Go.by (g' := (mkF m 1 #[.val (.int p1), .val (.int p2), .val (.int p3), .val (.int p4), .val (.int p5), .unset, .unset, .unset, .unset, .unset, .unset, .unset, .unset, .unset, .unset, .unset, .unset] [(.int p4)])) (fun _ k => XS.iloadN X0.here hx rfl (hb hby at_0) rfl k) ?_
  refine Go.by (g' := (mkF m 2 #[.val (.int p1), .val (.int p2), .val (.int p3), .val (.int p4), .val (.int p5), .unset, .unset, .unset, .unset, .unset, .unset, .unset, .unset, .unset, .unset, .unset, .unset] [(.int (2 : Int32)), (.int p4)])) (fun _ k => XS.iconst X0.here hx rfl (hb hby at_1) k) ?_
  refine Go.by (g' := (mkF m 3 #[.val (.int p1), .val (.int p2), .val (.int p3), .val (.int p4), .val (.int p5), .unset, .unset, .unset, .unset, .unset, .unset, .unset, .unset, .unset, .unset, .unset, .unset] [(.int (p4 >>> ((2 : Int32) &&& 31)))])) (fun _ k => XS.ishr X0.here hx rfl (hb hby at_2) rfl k) ?_
  refine Go.by (g' := (mkF m 4 #[.val (.int p1), .val (.int p2), .val (.int p3), .val (.int p4), .val (.int p5), .unset, .unset, .unset, .unset, .unset, .unset, .unset, .unset, .unset, .unset, .unset, .unset] [(.int (1 : Int32)), (.int (p4 >>> ((2 : Int32) &&& 31)))])) (fun _ k => XS.iconst X0.here hx rfl (hb hby at_3) k) ?_
  refine Go.by (g' := (mkF m 5 #[.val (.int p1), .val (.int p2), .val (.int p3), .val (.int p4), .val (.int p5), .unset, .unset, .unset, .unset, .unset, .unset, .unset, .unset, .unset, .unset, .unset, .unset] [(.int ((p4 >>> ((2 : Int32) &&& 31)) &&& (1 : Int32)))])) (fun _ k => XS.iand X0.here hx rfl (hb hby at_4) rfl k) ?_
  by_cases h5 : ((p4 >>> ((2 : Int32) &&& 31)) &&& (1 : Int32)) = (0 : Int32)
  · refine Go.by (g' := (mkF m 13 #[.val (.int p1), .val (.int p2), .val (.int p3), .val (.int p4), .val (.int p5), .unset, .unset, .unset, .unset, .unset, .unset, .unset, .unset, .unset, .unset, .unset, .unset] [])) (fun _ k => XS.ifYes X0.here hx rfl (pc0 := 5) (pc' := 13) rfl (hb hby at_5) rfl ((if0 _ _).trans (teq h5).1) (by decide) (by decide) k) ?_
    refine Go.by (g' := (mkF m 14 #[.val (.int p1), .val (.int p2), .val (.int p3), .val (.int p4), .val (.int p5), .unset, .unset, .unset, .unset, .unset, .unset, .unset, .unset, .unset, .unset, .unset, .unset] [(.int p1)])) (fun _ k => XS.iloadN X0.here hx rfl (hb hby at_13) rfl k) ?_
    exact k14 _
  · refine Go.by (g' := (mkF m 8 #[.val (.int p1), .val (.int p2), .val (.int p3), .val (.int p4), .val (.int p5), .unset, .unset, .unset, .unset, .unset, .unset, .unset, .unset, .unset, .unset, .unset, .unset] [])) (fun _ k => XS.ifNo X0.here hx rfl (hb hby at_5) rfl ((if0 _ _).trans (feq h5).1) k) ?_
    refine Go.by (g' := (mkF m 10 #[.val (.int p1), .val (.int p2), .val (.int p3), .val (.int p4), .val (.int p5), .unset, .unset, .unset, .unset, .unset, .unset, .unset, .unset, .unset, .unset, .unset, .unset] [(.int (-2147483648 : Int32))])) (fun _ k => X0.ldcInt hx hown (mvT hZ (hw _ (List.mem_of_getElem? (i := 49) rfl))) (g := (mkF m 8 #[.val (.int p1), .val (.int p2), .val (.int p3), .val (.int p4), .val (.int p5), .unset, .unset, .unset, .unset, .unset, .unset, .unset, .unset, .unset, .unset, .unset, .unset] [])) rfl (hb hby at_8) _ k) ?_
    refine Go.by (g' := (mkF m 14 #[.val (.int p1), .val (.int p2), .val (.int p3), .val (.int p4), .val (.int p5), .unset, .unset, .unset, .unset, .unset, .unset, .unset, .unset, .unset, .unset, .unset, .unset] [(.int (-2147483648 : Int32))])) (fun _ k => XS.goto X0.here hx rfl (pc0 := 10) (pc' := 14) rfl (hb hby at_10) (by decide) (by decide) k) ?_
    exact k14 _
set_option maxRecDepth 65536 in
set_option maxHeartbeats 40000000 in
theorem comes_1 {Post : Tables → Env → Array Value → State → Outcome → State → Prop} (hpost : ∀ tb e args s v u, (limb_1_1.after args s (.returned v) u = true ∧ limb_1_2.after args s (.returned v) u = true ∧ True) → FrameEnd s (.returned v) u (Jvm.fieldLocs frame_1_writes args s ++ Jvm.arrayLocs frame_1_arrays args s ++ Jvm.staticLocs frame_1_statics s) 16 128 → Post tb e args s (.returned v) u) :
    ArmFor flags0 classFile x code maxLocals ret World_1 tables_1 room_1 Calls_1 rest_1 Pre_1 Post := by
  intro l hfl _ _ p e ha hc hk s m args below hf hA hF happ hP
  obtain ⟨hcalls, hrest, hpre⟩ := hP
  obtain ⟨-, -, -, hnamed, -, -, -, hat⟩ := (Spec.applies_iff hf).mp happ
  obtain ⟨hg, hn⟩ := and_e (Cond.before_iff.mp (show (Jvm.Cond.and given_1 narrow_1).before args s = true from hpre))
  obtain ⟨h1, q0⟩ := and_e hg
  obtain ⟨p0, q1⟩ := and_e q0
  obtain ⟨p1, q2⟩ := and_e q1
  obtain ⟨p2, q3⟩ := and_e q2
  obtain ⟨p3, q4⟩ := and_e q3
  obtain ⟨w0, w1, w2, w3, w4, rfl⟩ : ∃ w0 w1 w2 w3 w4 : Value, args = #[w0, w1, w2, w3, w4] := by
    have hs : args.size = 5 := by simpa [Cond.value, given_1] using h1
    obtain ⟨L⟩ := args
    match L, hs with
    | [w0, w1, w2, w3, w4], _ => exact ⟨w0, w1, w2, w3, w4, rfl⟩
  have hw := fun d (hd : d ∈ tables_1) => atoms_spec (ws := Jvm.Cond.code x code maxLocals ret :: tables_1) hat d (List.mem_cons_of_mem _ hd)
  have hfit : Fit s := fun {y c} hc i hi => by
    obtain ⟨ha, rfl⟩ := Array.getElem?_eq_some_iff.mp hc
    have q := List.all_eq_true.mp ((Array.all_eq_true_iff_forall_mem.mp hF) _ (Array.getElem_mem ha)) i (List.mem_range.mpr hi)
    simpa [Array.getElem?_eq_getElem hi] using q
  obtain ⟨i0, ee0⟩ := is_v p0
  obtain rfl : w0 = (.int i0) := Option.some.inj ee0
  obtain ⟨i1, ee1⟩ := is_v p1
  obtain rfl : w1 = (.int i1) := Option.some.inj ee1
  obtain ⟨i2, ee2⟩ := is_v p2
  obtain rfl : w2 = (.int i2) := Option.some.inj ee2
  obtain ⟨i3, ee3⟩ := is_v p3
  obtain rfl : w3 = (.int i3) := Option.some.inj ee3
  obtain ⟨i4, ee4⟩ := is_v q4
  obtain rfl : w4 = (.int i4) := Option.some.inj ee4
  obtain ⟨m1, r1⟩ := and_e hn
  obtain ⟨m2, m3⟩ := and_e r1
  obtain ⟨aI, eaI⟩ := exa_v m1
  have SI : Sta s s.heap "com/example/sorrel/sorrel/middle/ir/Value$Type" "INT" "Lcom/example/sorrel/sorrel/middle/ir/Value$Type;" (.ref aI) := Sta.start eaI (Or.inr ⟨(hw _ (List.mem_of_getElem? (i := 7) rfl)), (hw _ (List.mem_of_getElem? (i := 8) rfl))⟩)
  obtain ⟨aR, eaR⟩ := exa_v m2
  have SR : Sta s s.heap "com/example/sorrel/sorrel/middle/ir/Value$Type" "REF" "Lcom/example/sorrel/sorrel/middle/ir/Value$Type;" (.ref aR) := Sta.start eaR (Or.inr ⟨(hw _ (List.mem_of_getElem? (i := 7) rfl)), (hw _ (List.mem_of_getElem? (i := 51) rfl))⟩)
  obtain ⟨aB, eaB⟩ := exa_v m3
  have SB : Sta s s.heap "com/example/sorrel/sorrel/middle/ir/Value$Type" "BOOL" "Lcom/example/sorrel/sorrel/middle/ir/Value$Type;" (.ref aB) := Sta.start eaB (Or.inr ⟨(hw _ (List.mem_of_getElem? (i := 7) rfl)), (hw _ (List.mem_of_getElem? (i := 53) rfl))⟩)
  obtain ⟨n, o, h1, h2, h3, _, L, rfl, ⟨rfl, N⟩, hq⟩ := rm0 l s _ hw i0 i1 i2 i3 i4 s.heap s.heap.size (Nat.le_refl _) aI aB aR (Old.start s) SI SB SR tables_1 p e ha hc hk s m _ below hf ((Spec.applies_iff_loose hf).mp happ).1 ⟨rfl, State.Warmed39.refl s, rfl⟩ trivial
  refine ⟨n, _, h1, h2, h3, hpost _ _ _ _ _ _ ⟨Cond.after_iff.mpr rfl, Cond.after_iff.mpr (eq_i res_at (Term.int_eval (1)) rfl), trivial⟩ ⟨hq.1, hq.2.1, (hq.2.2.sift fun y hy => Or.inr (N y hy)).mono (by decide) (by decide)⟩⟩
theorem main_1_1 : Claimed_1_1 := comes_1 fun _ _ _ _ _ _ h hF => ⟨h.1, hF⟩
theorem main_1_2 : Claimed_1_2 := comes_1 fun _ _ _ _ _ _ h hF => ⟨h.2.1, hF⟩
end Jvm.Pilot.@@N@@
namespace Jvm.Pilot.@@N@@
open Jvm Jvm.ClassFile Sem Op Lib Jvm.Free Jvm.Stand Jvm.Pilot.@@N@@.Jvm.D
/-! MADE BY PROGRAM (witnessworld.py) out of the Statement's table words and the real class files: 15 classes; the members and pool entries that the words name. The judged class is class 1, her method 2. -/
namespace start1
open Jvm.ClassFile
def u (s : String) : CpInfo := .utf8 (stringToUtf16 s)
/-- a pool by its gaps: so many unusable entries, then the entry; so many at the end -/
def gap : Nat → List CpInfo → List CpInfo
  | 0, r => r
  | n + 1, r => .unusable :: gap n r
def poolList (es : List (Nat × CpInfo)) (last : Nat) : List CpInfo := es.foldr (fun e r => gap e.1 (e.2 :: r)) (gap last [])
def pool (es : List (Nat × CpInfo)) (last : Nat) : Array CpInfo := ⟨poolList es last⟩
def fileOf (pool : Array CpInfo) (this : Nat) (attrs : Array Attribute := #[]) (ms : Array MethodInfo := #[]) (fl : Nat := 33) (sup : Nat := 0) (ifs : Array Nat := #[]) (fds : Array FieldInfo := #[]) : ClassFile where
  minorVersion := 0
  majorVersion := 65
  constantPool := pool
  accessFlags := fl
  thisClass := this
  superClass := sup
  interfaces := ifs
  fields := fds
  methods := ms
  attributes := attrs
def plain (name : String) (sup : Option ClassId) : Class where
  name := name
  kind := .ordinary
  loader := none
  accessFlags := 33
  super := sup
  interfaces := #[]
  cf := none
  fields := #[]
  methods := #[]
  instanceTypes := #[]
  staticTypes := #[]
  resolved := #[]
  callSites := []
  init := .initialized
  statics := none
  mirror := none

def pool0 : Array CpInfo := pool [(5, u "<init>"), (0, u "()V"), (1, .class_ 10), (1, u "java/lang/Object")] 113

def k0c0 : Code := { maxStack := 0, maxLocals := 1, code := object_method_1_code, exceptionTable := #[], attributes := #[] }
def k0m0 : Method := { name := "<init>", desc := "()V", sig := { parameters := [], returnType := none }, accessFlags := 1, code := some k0c0 }
/-- java/lang/Object -/
def k0 : Class := { plain "java/lang/Object" none with
  accessFlags := 33
  interfaces := #[]
  cf := some (fileOf pool0 8 #[] #[{ accessFlags := 1, nameIndex := 5, descriptorIndex := 6, attributes := #[] }] 33 0 #[] #[])
  fields := #[]
  methods := #[k0m0]
  instanceTypes := #[]
  staticTypes := #[]
  resolved := Array.replicate 124 none
  statics := none }

def pool1 : Array CpInfo := pool [(2, .class_ 4), (1, u "java/lang/Object"), (0, u "<init>"), (0, u "()V"), (2, .integer 2147483648), (0, .methodref 11 12), (0, .class_ 13), (0, .nameAndType 14 15), (0, u "com/example/sorrel/sorrel/middle/alloc/PlacementHasPinLaw"), (0, u "places"), (0, u "(IIII)[I"), (0, .integer 2147483647), (0, .fieldref 18 19), (0, .class_ 20), (0, .nameAndType 21 22), (0, u "com/example/sorrel/sorrel/middle/ir/Value$Type"), (0, u "INT"), (0, u "Lcom/example/sorrel/sorrel/middle/ir/Value$Type;"), (0, .fieldref 18 24), (0, .nameAndType 25 22), (0, u "BOOL"), (0, .fieldref 18 27), (0, .nameAndType 28 22), (0, u "REF"), (0, .class_ 30), (0, u "com/example/sorrel/sorrel/middle/alloc/Placement"), (0, .methodref 29 32), (0, .nameAndType 5 33), (0, u "([II)V"), (0, .class_ 35), (0, u "com/example/sorrel/sorrel/middle/ir/Value"), (0, .methodref 34 37), (0, .nameAndType 5 38), (0, u "(ILcom/example/sorrel/sorrel/middle/ir/Value$Type;)V"), (0, .methodref 29 40), (0, .nameAndType 41 42), (0, u "has"), (0, u "(Lcom/example/sorrel/sorrel/middle/ir/Value;)Z"), (3, u "law"), (0, u "(IIIII)Z")] 6

def k1m0 : Method := { name := "<init>", desc := "()V", sig := { parameters := [], returnType := none }, accessFlags := 1, code := none }
def k1c1 : Code := { maxStack := 4, maxLocals := 4, code := method_2_code, exceptionTable := #[], attributes := #[] }
def k1m1 : Method := { name := "places", desc := "(IIII)[I", sig := { parameters := [.int, .int, .int, .int], returnType := some (.array .int) }, accessFlags := 10, code := some k1c1 }
def k1c2 : Code := { maxStack := 5, maxLocals := 17, code := code, exceptionTable := #[], attributes := #[] }
def k1m2 : Method := { name := "law", desc := "(IIIII)Z", sig := { parameters := [.int, .int, .int, .int, .int], returnType := some .boolean }, accessFlags := 9, code := some k1c2 }
/-- com/example/sorrel/sorrel/middle/alloc/PlacementHasPinLaw -/
def k1 : Class := { plain "com/example/sorrel/sorrel/middle/alloc/PlacementHasPinLaw" (some 0) with
  accessFlags := 49
  interfaces := #[]
  cf := some (fileOf pool1 11 #[] #[{ accessFlags := 1, nameIndex := 5, descriptorIndex := 6, attributes := #[] }, { accessFlags := 10, nameIndex := 14, descriptorIndex := 15, attributes := #[] }, { accessFlags := 9, nameIndex := 46, descriptorIndex := 47, attributes := #[] }] 49 2 #[] #[])
  fields := #[]
  methods := #[k1m0, k1m1, k1m2]
  instanceTypes := #[]
  staticTypes := #[]
  resolved := Array.replicate 54 none
  statics := none }

def pool2 : Array CpInfo := pool [(1, .class_ 2), (0, u "java/lang/constant/Constable"), (0, .class_ 4), (0, u "java/lang/Object")] 6

/-- java/lang/constant/Constable -/
def k2 : Class := { plain "java/lang/constant/Constable" (some 0) with
  accessFlags := 1537
  interfaces := #[]
  cf := some (fileOf pool2 1 #[] #[] 1537 3 #[] #[])
  fields := #[]
  methods := #[]
  instanceTypes := #[]
  staticTypes := #[]
  resolved := Array.replicate 11 none
  statics := none }

def pool3 : Array CpInfo := pool [(1, .class_ 2), (0, u "java/lang/Comparable"), (0, .class_ 4), (0, u "java/lang/Object")] 7

/-- java/lang/Comparable -/
def k3 : Class := { plain "java/lang/Comparable" (some 0) with
  accessFlags := 1537
  interfaces := #[]
  cf := some (fileOf pool3 1 #[] #[] 1537 3 #[] #[])
  fields := #[]
  methods := #[]
  instanceTypes := #[]
  staticTypes := #[]
  resolved := Array.replicate 12 none
  statics := none }

def pool4 : Array CpInfo := pool [(1, .class_ 2), (0, u "java/io/Serializable"), (0, .class_ 4), (0, u "java/lang/Object")] 2

/-- java/io/Serializable -/
def k4 : Class := { plain "java/io/Serializable" (some 0) with
  accessFlags := 1537
  interfaces := #[]
  cf := some (fileOf pool4 1 #[] #[] 1537 3 #[] #[])
  fields := #[]
  methods := #[]
  instanceTypes := #[]
  staticTypes := #[]
  resolved := Array.replicate 7 none
  statics := none }

def pool5 : Array CpInfo := pool [(2, .class_ 4), (1, u "java/lang/Enum"), (0, u "name"), (0, u "Ljava/lang/String;"), (2, u "ordinal"), (0, u "I"), (1, .class_ 14), (1, u "java/lang/Object"), (4, u "hash"), (86, .class_ 108), (1, u "java/lang/Enum$EnumDesc"), (2, .class_ 112), (0, u "java/lang/constant/Constable"), (0, .class_ 114), (0, u "java/lang/Comparable"), (0, .class_ 116), (0, u "java/io/Serializable")] 87

/-- java/lang/Enum -/
def k5 : Class := { plain "java/lang/Enum" (some 0) with
  accessFlags := 1057
  interfaces := #[2, 3, 4]
  cf := some (fileOf pool5 2 #[.nestMembers #[106]] #[] 1057 12 #[111, 113, 115] #[{ accessFlags := 18, nameIndex := 5, descriptorIndex := 6, attributes := #[] }, { accessFlags := 18, nameIndex := 9, descriptorIndex := 10, attributes := #[] }, { accessFlags := 2, nameIndex := 19, descriptorIndex := 10, attributes := #[] }])
  fields := #[{ name := "name", type := (.object "java/lang/String"), accessFlags := 18, slot := 0, constantValue := 0 }, { name := "ordinal", type := .int, accessFlags := 18, slot := 1, constantValue := 0 }, { name := "hash", type := .int, accessFlags := 2, slot := 2, constantValue := 0 }]
  methods := #[]
  instanceTypes := #[(.object "java/lang/String"), .int, .int]
  staticTypes := #[]
  resolved := Array.replicate 204 none
  statics := none }

def pool6 : Array CpInfo := pool [(1, .class_ 2), (0, u "com/example/sorrel/sorrel/middle/ir/Value$Type"), (2, u "INT"), (0, u "Lcom/example/sorrel/sorrel/middle/ir/Value$Type;"), (2, u "BOOL"), (2, u "REF"), (2, u "$VALUES"), (0, u "[Lcom/example/sorrel/sorrel/middle/ir/Value$Type;"), (6, .class_ 25), (1, u "java/lang/Enum"), (26, .class_ 53), (0, u "com/example/sorrel/sorrel/middle/ir/Value")] 2

/-- com/example/sorrel/sorrel/middle/ir/Value$Type -/
def k6 : Class := { plain "com/example/sorrel/sorrel/middle/ir/Value$Type" (some 5) with
  accessFlags := 16433
  interfaces := #[]
  cf := some (fileOf pool6 1 #[.nestHost 52] #[] 16433 23 #[] #[{ accessFlags := 16409, nameIndex := 5, descriptorIndex := 6, attributes := #[] }, { accessFlags := 16409, nameIndex := 9, descriptorIndex := 6, attributes := #[] }, { accessFlags := 16409, nameIndex := 12, descriptorIndex := 6, attributes := #[] }, { accessFlags := 4122, nameIndex := 15, descriptorIndex := 16, attributes := #[] }])
  fields := #[{ name := "INT", type := (.object "com/example/sorrel/sorrel/middle/ir/Value$Type"), accessFlags := 16409, slot := 0, constantValue := 0 }, { name := "BOOL", type := (.object "com/example/sorrel/sorrel/middle/ir/Value$Type"), accessFlags := 16409, slot := 1, constantValue := 0 }, { name := "REF", type := (.object "com/example/sorrel/sorrel/middle/ir/Value$Type"), accessFlags := 16409, slot := 2, constantValue := 0 }, { name := "$VALUES", type := (.array (.object "com/example/sorrel/sorrel/middle/ir/Value$Type")), accessFlags := 4122, slot := 3, constantValue := 0 }]
  methods := #[]
  instanceTypes := #[(.object "java/lang/String"), .int, .int]
  staticTypes := #[(.object "com/example/sorrel/sorrel/middle/ir/Value$Type"), (.object "com/example/sorrel/sorrel/middle/ir/Value$Type"), (.object "com/example/sorrel/sorrel/middle/ir/Value$Type"), (.array (.object "com/example/sorrel/sorrel/middle/ir/Value$Type"))]
  resolved := Array.replicate 56 none
  statics := some 0 }

def pool7 : Array CpInfo := pool [(3, .methodref 4 5), (0, .class_ 6), (0, .nameAndType 7 8), (0, u "java/lang/Object"), (0, u "<init>"), (0, u "()V"), (0, .fieldref 10 11), (0, .class_ 12), (0, .nameAndType 13 14), (0, u "com/example/sorrel/sorrel/middle/alloc/Placement"), (0, u "places"), (0, u "[I"), (0, .fieldref 10 16), (0, .nameAndType 17 18), (0, u "slots"), (0, u "I"), (7, .nameAndType 27 28), (0, u "number"), (0, u "()I"), (7, .methodref 37 26), (0, .class_ 38), (0, u "com/example/sorrel/sorrel/middle/ir/Value"), (0, .integer 2147483648), (2, u "has"), (0, u "(Lcom/example/sorrel/sorrel/middle/ir/Value;)Z"), (12, u "NONE"), (1, u "([II)V")] 27

def k7c0 : Code := { maxStack := 2, maxLocals := 3, code := prog_97_method_1_code, exceptionTable := #[], attributes := #[] }
def k7m0 : Method := { name := "<init>", desc := "([II)V", sig := { parameters := [(.array .int), .int], returnType := none }, accessFlags := 0, code := some k7c0 }
def k7c1 : Code := { maxStack := 2, maxLocals := 2, code := prog_97_method_4_code, exceptionTable := #[], attributes := #[] }
def k7m1 : Method := { name := "has", desc := "(Lcom/example/sorrel/sorrel/middle/ir/Value;)Z", sig := { parameters := [(.object "com/example/sorrel/sorrel/middle/ir/Value")], returnType := some .boolean }, accessFlags := 1, code := some k7c1 }
/-- com/example/sorrel/sorrel/middle/alloc/Placement -/
def k7 : Class := { plain "com/example/sorrel/sorrel/middle/alloc/Placement" (some 0) with
  accessFlags := 49
  interfaces := #[]
  cf := some (fileOf pool7 10 #[] #[{ accessFlags := 0, nameIndex := 7, descriptorIndex := 58, attributes := #[] }, { accessFlags := 1, nameIndex := 42, descriptorIndex := 43, attributes := #[] }] 49 4 #[] #[{ accessFlags := 24, nameIndex := 56, descriptorIndex := 18, attributes := #[] }, { accessFlags := 18, nameIndex := 13, descriptorIndex := 14, attributes := #[] }, { accessFlags := 18, nameIndex := 17, descriptorIndex := 18, attributes := #[] }])
  fields := #[{ name := "NONE", type := .int, accessFlags := 24, slot := 0, constantValue := 0 }, { name := "places", type := (.array .int), accessFlags := 18, slot := 0, constantValue := 0 }, { name := "slots", type := .int, accessFlags := 18, slot := 1, constantValue := 0 }]
  methods := #[k7m0, k7m1]
  instanceTypes := #[(.array .int), .int]
  staticTypes := #[.int]
  resolved := Array.replicate 86 none
  statics := none }

def pool8 : Array CpInfo := pool [(1, .methodref 2 3), (0, .class_ 4), (0, .nameAndType 5 6), (0, u "java/lang/Object"), (0, u "<init>"), (0, u "()V"), (0, .class_ 8), (0, u "java/lang/Record")] 13

def k8c0 : Code := { maxStack := 1, maxLocals := 1, code := jdk_30_method_1_code, exceptionTable := #[], attributes := #[] }
def k8m0 : Method := { name := "<init>", desc := "()V", sig := { parameters := [], returnType := none }, accessFlags := 4, code := some k8c0 }
/-- java/lang/Record -/
def k8 : Class := { plain "java/lang/Record" (some 0) with
  accessFlags := 1057
  interfaces := #[]
  cf := some (fileOf pool8 7 #[] #[{ accessFlags := 4, nameIndex := 5, descriptorIndex := 6, attributes := #[] }] 1057 2 #[] #[])
  fields := #[]
  methods := #[k8m0]
  instanceTypes := #[]
  staticTypes := #[]
  resolved := Array.replicate 22 none
  statics := none }

def pool9 : Array CpInfo := pool [(1, .methodref 2 3), (0, .class_ 4), (0, .nameAndType 5 6), (0, u "java/lang/Record"), (0, u "<init>"), (0, u "()V"), (0, .fieldref 8 9), (0, .class_ 10), (0, .nameAndType 11 12), (0, u "com/example/sorrel/sorrel/middle/ir/Value"), (0, u "number"), (0, u "I"), (0, .fieldref 8 14), (0, .nameAndType 15 16), (0, u "type"), (0, u "Lcom/example/sorrel/sorrel/middle/ir/Value$Type;"), (12, u "(ILcom/example/sorrel/sorrel/middle/ir/Value$Type;)V"), (4, u "()I"), (5, .class_ 41), (0, u "com/example/sorrel/sorrel/middle/ir/Value$Type")] 20

def k9c0 : Code := { maxStack := 2, maxLocals := 3, code := prog_169_method_1_code, exceptionTable := #[], attributes := #[] }
def k9m0 : Method := { name := "<init>", desc := "(ILcom/example/sorrel/sorrel/middle/ir/Value$Type;)V", sig := { parameters := [.int, (.object "com/example/sorrel/sorrel/middle/ir/Value$Type")], returnType := none }, accessFlags := 1, code := some k9c0 }
def k9c1 : Code := { maxStack := 1, maxLocals := 1, code := prog_169_method_5_code, exceptionTable := #[], attributes := #[] }
def k9m1 : Method := { name := "number", desc := "()I", sig := { parameters := [], returnType := some .int }, accessFlags := 1, code := some k9c1 }
/-- com/example/sorrel/sorrel/middle/ir/Value -/
def k9 : Class := { plain "com/example/sorrel/sorrel/middle/ir/Value" (some 8) with
  accessFlags := 49
  interfaces := #[]
  cf := some (fileOf pool9 8 #[.nestMembers #[40]] #[{ accessFlags := 1, nameIndex := 5, descriptorIndex := 29, attributes := #[] }, { accessFlags := 1, nameIndex := 11, descriptorIndex := 34, attributes := #[] }] 49 2 #[] #[{ accessFlags := 18, nameIndex := 11, descriptorIndex := 12, attributes := #[] }, { accessFlags := 18, nameIndex := 15, descriptorIndex := 16, attributes := #[] }])
  fields := #[{ name := "number", type := .int, accessFlags := 18, slot := 0, constantValue := 0 }, { name := "type", type := (.object "com/example/sorrel/sorrel/middle/ir/Value$Type"), accessFlags := 18, slot := 1, constantValue := 0 }]
  methods := #[k9m0, k9m1]
  instanceTypes := #[.int, (.object "com/example/sorrel/sorrel/middle/ir/Value$Type")]
  staticTypes := #[]
  resolved := Array.replicate 62 none
  statics := none }

def pool10 : Array CpInfo := pool [(1, u "java/lang/Cloneable"), (0, .class_ 1), (0, u "java/lang/Object"), (0, .class_ 3)] 3

/-- java/lang/Cloneable -/
def k10 : Class := { plain "java/lang/Cloneable" (some 0) with
  accessFlags := 1537
  interfaces := #[]
  cf := some (fileOf pool10 2 #[] #[] 1537 4 #[] #[])
  fields := #[]
  methods := #[]
  instanceTypes := #[]
  staticTypes := #[]
  resolved := Array.replicate 8 none
  statics := none }

/-- the primitive byte -/
def k11 : Class := { plain "byte" none with kind := .primitive 'B', accessFlags := 0x411 }
/-- [B -/
def k12 : Class := { plain "[B" (some 0) with kind := .array 11 .byte, interfaces := #[10, 4], accessFlags := 1041 }

/-- the primitive int -/
def k13 : Class := { plain "int" none with kind := .primitive 'I', accessFlags := 0x411 }
/-- [I -/
def k14 : Class := { plain "[I" (some 0) with kind := .array 13 .int, interfaces := #[10, 4], accessFlags := 1041 }

def heap : Heap := #[{ cls := 6, slots := #[.ref 1, .ref 2, .ref 3, .null], vm := .statics 6 },
  { cls := 6, slots := #[.null, .int 0, .int 0], vm := .none },
  { cls := 6, slots := #[.null, .int 1, .int 0], vm := .none },
  { cls := 6, slots := #[.null, .int 2, .int 0], vm := .none }]
def classes : Array Class := #[k0, k1, k2, k3, k4, k5, k6, k7, k8, k9, k10, k11, k12, k13, k14]
def interned : List (Array UInt16 × Addr) := []
def slotsUsed : Nat := 13
def theMethod : MethodId := ⟨1, 2⟩
def args0 : Array Value := #[.int 5, .int 6, .int 7, .int 8, .int 9]
def aboutOver (below : List Frame) : State where
  vm := { classes := classes, interned := interned.toArray }
  heap := heap
  slotsUsed := slotsUsed
  threads := #[{ frames := .invoking theMethod args0 :: below }]
def below0 : List Frame := [.native { method := ⟨0, 0⟩, args := #[] }]
def about1 : State := aboutOver below0
def p0 : Program := .bare "" "" ""
def e0 : Env := launch0.env 0 0 0
theorem w_frames : about1.frames = Frame.invoking theMethod args0 :: below0 := rfl
set_option maxRecDepth 65536 in
theorem w_args : argsFit about1.vm theMethod args0 = true := by decide +kernel
set_option maxRecDepth 65536 in
theorem w_heap : heapFits about1 = true := by decide +kernel
set_option maxRecDepth 65536 in
theorem w_runnable : about1.curStatus? = some .runnable := by decide +kernel
set_option maxRecDepth 65536 in
theorem w_alone : about1.alone = true := by decide +kernel
set_option maxRecDepth 65536 in
theorem w_named : about1.methodNamed? x = some theMethod := by decide +kernel
set_option maxRecDepth 65536 in
theorem w_hears : about1.hears theMethod below0 = true := by decide +kernel
set_option maxRecDepth 65536 in
theorem w_ripe : about1.ripe theMethod args0 below0 = true := by decide +kernel
theorem w_running : about1.status = .running := rfl
set_option maxRecDepth 65536 in
theorem w_room : about1.hasRoom e0.platform room_1 = true :=
  launch0.hasRoom_least _ room_1 (by decide +kernel) (by decide +kernel) (by decide +kernel) (by decide +kernel) (by decide +kernel) (by decide +kernel)
theorem allAtoms_all (ts : List Jvm.Cond) (a : Array Jvm.Value) (st : Jvm.State) : (allAtoms ts).before a st = ts.all (fun c => c.before a st) := by
  induction ts with
  | nil => rfl
  | cons c t ih =>
    show (Jvm.Cond.and c (allAtoms t)).before a st = _
    rw [Jvm.Cond.before_and, ih, List.all_cons]
def words1 : List Jvm.Cond := Jvm.Cond.code x code maxLocals ret :: tables_1
/-- a 'code' word, met by the world's own term for the bytes: nothing is compared byte by byte -/
theorem code_word {y : MethodName} {bytes : ByteArray} {mx : Nat} {rt : Option FieldType} {a : Array Value} {s : State} {m : MethodId} {meth : Method} {c : Code} (h1 : s.methodNamed? y = some m) (h2 : s.vm.method? m = some meth) (h3 : meth.code = some c) (h4 : c.code = bytes)
    (h5 : (c.maxLocals == mx && c.exceptionTable.isEmpty && decide (c.maxStack ≤ mostOperands) && decide (meth.sig.returnType = rt) && !meth.locks && decide (parseMethodDescriptor y.desc = some meth.sig)) = true) : (Jvm.Cond.code y bytes mx rt).before a s = true := by
  simp only [Bool.and_eq_true, beq_iff_eq, Bool.not_eq_true', decide_eq_true_eq] at h5
  obtain ⟨⟨⟨⟨⟨g1, g2⟩, g3⟩, g4⟩, g5⟩, g6⟩ := h5
  simp [Cond.before, Cond.holds, Cond.value, h1, h2, h3, h4, g1, g2, g3, g4, g5, g6]
def isCode : Jvm.Cond → Bool
  | .code _ _ _ _ => true
  | _ => false
theorem all_split {L : List Jvm.Cond} {P : Jvm.Cond → Bool} (h1 : L.all (fun c => isCode c || P c) = true) (h2 : ∀ c ∈ L.filter isCode, P c = true) : L.all P = true := by
  refine List.all_eq_true.mpr fun c hc => ?_
  have h := List.all_eq_true.mp h1 c hc
  rcases Bool.eq_false_or_eq_true (isCode c) with hi | hi
  · exact h2 c (List.mem_filter.mpr ⟨hc, hi⟩)
  · simpa [hi] using h
set_option maxRecDepth 65536 in
theorem w_c0 : (Jvm.Cond.code x code maxLocals ret).before args0 about1 = true := code_word (m := ⟨1, 2⟩) (meth := k1m2) (c := k1c2) (by decide +kernel) rfl rfl rfl (by decide +kernel)
set_option maxRecDepth 65536 in
theorem w_c1 : (Jvm.Cond.code ({ cls := "com/example/sorrel/sorrel/middle/alloc/PlacementHasPinLaw", name := "places", desc := "(IIII)[I" } : Jvm.MethodName) method_2_code (4 : Nat) (Option.some (Jvm.ClassFile.FieldType.array Jvm.ClassFile.FieldType.int))).before args0 about1 = true := code_word (m := ⟨1, 1⟩) (meth := k1m1) (c := k1c1) (by decide +kernel) rfl rfl rfl (by decide +kernel)
set_option maxRecDepth 65536 in
theorem w_c2 : (Jvm.Cond.code ({ cls := "com/example/sorrel/sorrel/middle/alloc/Placement", name := "<init>", desc := "([II)V" } : Jvm.MethodName) prog_97_method_1_code (3 : Nat) (Option.none : Option Jvm.ClassFile.FieldType)).before args0 about1 = true := code_word (m := ⟨7, 0⟩) (meth := k7m0) (c := k7c0) (by decide +kernel) rfl rfl rfl (by decide +kernel)
set_option maxRecDepth 65536 in
theorem w_c3 : (Jvm.Cond.code ({ cls := "java/lang/Object", name := "<init>", desc := "()V" } : Jvm.MethodName) object_method_1_code (1 : Nat) (Option.none : Option Jvm.ClassFile.FieldType)).before args0 about1 = true := code_word (m := ⟨0, 0⟩) (meth := k0m0) (c := k0c0) (by decide +kernel) rfl rfl rfl (by decide +kernel)
set_option maxRecDepth 65536 in
theorem w_c4 : (Jvm.Cond.code ({ cls := "com/example/sorrel/sorrel/middle/ir/Value", name := "<init>", desc := "(ILcom/example/sorrel/sorrel/middle/ir/Value$Type;)V" } : Jvm.MethodName) prog_169_method_1_code (3 : Nat) (Option.none : Option Jvm.ClassFile.FieldType)).before args0 about1 = true := code_word (m := ⟨9, 0⟩) (meth := k9m0) (c := k9c0) (by decide +kernel) rfl rfl rfl (by decide +kernel)
set_option maxRecDepth 65536 in
theorem w_c5 : (Jvm.Cond.code ({ cls := "java/lang/Record", name := "<init>", desc := "()V" } : Jvm.MethodName) jdk_30_method_1_code (1 : Nat) (Option.none : Option Jvm.ClassFile.FieldType)).before args0 about1 = true := code_word (m := ⟨8, 0⟩) (meth := k8m0) (c := k8c0) (by decide +kernel) rfl rfl rfl (by decide +kernel)
set_option maxRecDepth 65536 in
theorem w_c6 : (Jvm.Cond.code ({ cls := "com/example/sorrel/sorrel/middle/alloc/Placement", name := "has", desc := "(Lcom/example/sorrel/sorrel/middle/ir/Value;)Z" } : Jvm.MethodName) prog_97_method_4_code (2 : Nat) (Option.some Jvm.ClassFile.FieldType.boolean)).before args0 about1 = true := code_word (m := ⟨7, 1⟩) (meth := k7m1) (c := k7c1) (by decide +kernel) rfl rfl rfl (by decide +kernel)
set_option maxRecDepth 65536 in
theorem w_c7 : (Jvm.Cond.code ({ cls := "com/example/sorrel/sorrel/middle/ir/Value", name := "number", desc := "()I" } : Jvm.MethodName) prog_169_method_5_code (1 : Nat) (Option.some Jvm.ClassFile.FieldType.int)).before args0 about1 = true := code_word (m := ⟨9, 1⟩) (meth := k9m1) (c := k9c1) (by decide +kernel) rfl rfl rfl (by decide +kernel)
def codes1 : List Jvm.Cond := [Jvm.Cond.code x code maxLocals ret, Jvm.Cond.code ({ cls := "com/example/sorrel/sorrel/middle/alloc/PlacementHasPinLaw", name := "places", desc := "(IIII)[I" } : Jvm.MethodName) method_2_code (4 : Nat) (Option.some (Jvm.ClassFile.FieldType.array Jvm.ClassFile.FieldType.int)), Jvm.Cond.code ({ cls := "com/example/sorrel/sorrel/middle/alloc/Placement", name := "<init>", desc := "([II)V" } : Jvm.MethodName) prog_97_method_1_code (3 : Nat) (Option.none : Option Jvm.ClassFile.FieldType), Jvm.Cond.code ({ cls := "java/lang/Object", name := "<init>", desc := "()V" } : Jvm.MethodName) object_method_1_code (1 : Nat) (Option.none : Option Jvm.ClassFile.FieldType), Jvm.Cond.code ({ cls := "com/example/sorrel/sorrel/middle/ir/Value", name := "<init>", desc := "(ILcom/example/sorrel/sorrel/middle/ir/Value$Type;)V" } : Jvm.MethodName) prog_169_method_1_code (3 : Nat) (Option.none : Option Jvm.ClassFile.FieldType), Jvm.Cond.code ({ cls := "java/lang/Record", name := "<init>", desc := "()V" } : Jvm.MethodName) jdk_30_method_1_code (1 : Nat) (Option.none : Option Jvm.ClassFile.FieldType), Jvm.Cond.code ({ cls := "com/example/sorrel/sorrel/middle/alloc/Placement", name := "has", desc := "(Lcom/example/sorrel/sorrel/middle/ir/Value;)Z" } : Jvm.MethodName) prog_97_method_4_code (2 : Nat) (Option.some Jvm.ClassFile.FieldType.boolean), Jvm.Cond.code ({ cls := "com/example/sorrel/sorrel/middle/ir/Value", name := "number", desc := "()I" } : Jvm.MethodName) prog_169_method_5_code (1 : Nat) (Option.some Jvm.ClassFile.FieldType.int)]
set_option maxRecDepth 65536 in
theorem codes_eq : words1.filter isCode = codes1 := rfl
theorem w_codes : ∀ c ∈ words1.filter isCode, c.before args0 about1 = true := by
  rw [codes_eq]
  intro c hc
  simp only [codes1, List.mem_cons, List.not_mem_nil, or_false] at hc
  rcases hc with rfl | rfl | rfl | rfl | rfl | rfl | rfl | rfl
  · exact w_c0
  · exact w_c1
  · exact w_c2
  · exact w_c3
  · exact w_c4
  · exact w_c5
  · exact w_c6
  · exact w_c7
set_option maxRecDepth 65536 in
theorem w_t1 : (words1.take 24).all (fun c => isCode c || c.before args0 about1) = true := by decide +kernel
set_option maxRecDepth 65536 in
theorem w_t2 : ((words1.drop 24).take 24).all (fun c => isCode c || c.before args0 about1) = true := by decide +kernel
set_option maxRecDepth 65536 in
theorem w_t3 : ((words1.drop 24).drop 24).all (fun c => isCode c || c.before args0 about1) = true := by decide +kernel
theorem w_tables : (allAtoms (Jvm.Cond.code x code maxLocals ret :: tables_1)).before args0 about1 = true := by
  rw [allAtoms_all]
  show words1.all (fun c => c.before args0 about1) = true
  refine all_split ?_ w_codes
  rw [← List.take_append_drop 24 words1, List.all_append, w_t1, ← List.take_append_drop 24 (words1.drop 24), List.all_append, w_t2, w_t3]
  rfl
set_option maxRecDepth 65536 in
theorem w_case : (Jvm.Cond.and given_1 narrow_1).before args0 about1 = true := by decide +kernel
theorem w_applies : (headSpec (Jvm.Cond.code x code maxLocals ret :: tables_1) room_1).applies x e0.platform about1 = true :=
  (Spec.applies_iff w_frames).mpr ⟨w_running, w_runnable, w_alone, w_named, w_hears, w_ripe, w_room, w_tables⟩
theorem atStart : AtStart classFile x code maxLocals ret World_1 tables_1 room_1 Calls_1 rest_1 Pre_1 launch0 p0 e0 about1 theMethod args0 below0 :=
  ⟨lists_1, trivial, launch0.admits_env _ _ _, launch0.least_env, fairChoices_fair.cas, fairChoices_fair.clock, w_frames, w_args, w_heap, w_applies, trivial, trivial, w_case⟩
end start1
theorem witness_1 : WitnessClaimed_1 := ⟨start1.p0, start1.e0, start1.about1, start1.theMethod, start1.args0, start1.below0, start1.atStart⟩
end Jvm.Pilot.@@N@@
