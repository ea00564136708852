import JvmDerived
import JvmDerived.Pilot.@@N@@Statement
import JvmDerived.Pilot.@@N@@Code
set_option linter.unusedVariables false
set_option linter.unusedSimpArgs false
namespace Jvm.OwnGo
open Sem ClassFile Op Lib Jvm.Stand Jvm.Free Jvm.LawKit Jvm.RoadKit
/-- from the state T with the frame g on top the run comes to the body's end, what is left there meets Q, and the end is framed as E says -/
def Go (p : Program) (e : Env) (below : List Frame) (E : Outcome → State → List Loc → Prop) (Q : Option Value → Heap → List Loc → Prop) (T : State) (g : JFrame) : Prop :=
  ∃ s₂ o, Steps p.tables e below (T.setTop g) s₂ ∧ s₂.status = .running ∧ Ended s₂ below o ∧ ∃ v L, o = .returned v ∧ Q v s₂.heap L ∧ E o s₂ L
abbrev En (s : State) (kc ks : Nat) : Outcome → State → List Loc → Prop := fun o t L => FrameEnd s o t L kc ks
/-- the wide end: the run may have interned its literals -/
abbrev EnW (s : State) (kc ks : Nat) : Outcome → State → List Loc → Prop := fun o t L => ReturnedEndW s o t L kc ks
/-- what a body promises, at one heap and one row of arguments -/
def Ctr (l : Launch) (Z : State) (y : MethodName) (bytes : ByteArray) (maxL : Nat) (ret : Option FieldType) (rm : Room) (as : Array Value) (h : Heap) (Q : Option Value → Heap → List Loc → Prop) : Prop :=
  ∀ ws : List Jvm.Cond, MetFree l y (head1 (Jvm.Cond.code y bytes maxL ret :: ws) rm) (fun a U => a = as ∧ Z.Warmed39 U.vm ∧ U.heap = h) (fun _ _ _ _ _ => True) (fun _ U o U' => ∃ v L, o = .returned v ∧ Q v U'.heap L ∧ FrameEnd U o U' L rm.cells rm.slots)
/-- the same of a body that may intern its literals -/
def CtrW (l : Launch) (Z : State) (y : MethodName) (bytes : ByteArray) (maxL : Nat) (ret : Option FieldType) (rm : Room) (as : Array Value) (h : Heap) (Q : Option Value → Heap → List Loc → Prop) : Prop :=
  ∀ ws : List Jvm.Cond, MetFree l y (head1 (Jvm.Cond.code y bytes maxL ret :: ws) rm) (fun a U => a = as ∧ Z.Warmed39 U.vm ∧ U.heap = h) (fun _ _ _ _ _ => True) (fun _ U o U' => ∃ v L, o = .returned v ∧ Q v U'.heap L ∧ ReturnedEndW U o U' L rm.cells rm.slots)
/-- how a walk that stands here may leave -/
def Lv (e : Env) (m : MethodId) (meth : Method) (below : List Frame) (E : Outcome → State → List Loc → Prop) (T : State) (locs : List Loc) : Prop :=
  ∀ v : Option Value, (meth.sig.returnType = none → v = none) → ∃ fs, (∀ (f : JFrame) (acts : List Action), f.method = m → f.locked = none → f.entered = [] → (doReturn e (T.setTop f) acts v).1 = T.setFrames fs) ∧ (T.setFrames fs).status = .running ∧ Ended (T.setFrames fs) below (.returned v) ∧ E (.returned v) (T.setFrames fs) locs
abbrev us (x y : Int32) : Int32 := (x.toUInt32 >>> (y &&& 31).toUInt32).toInt32
abbrev usL (x : Int64) (y : Int32) : Int64 := (x.toUInt64 >>> (y &&& 0x3f).toInt64.toUInt64).toInt64
section G
variable {p : Program} {l : Launch} {e : Env} {R : Room} {s : State} {m : MethodId} {args : Array Value} {below : List Frame} {meth : Method} {c : Code} {T T' : State} {locs : List Loc} {cells slots : Nat} {E : Outcome → State → List Loc → Prop} {Q : Option Value → Heap → List Loc → Prop} {kc ks : Nat} {g g' : JFrame} {Z : State} {a0 : Array Value} {h : Heap}
/-- another state that stands as this one does -/
abbrev Same (X : Stand p l e R s m args below meth c T locs cells slots) (T' : State) : Prop := Stand p l e R s m args below meth c T' locs cells slots
theorem Go.by (st : ∀ t, Steps p.tables e below (T'.setTop g') t → Steps p.tables e below (T.setTop g) t) (k : Go p e below E Q T' g') : Go p e below E Q T g := by
  obtain ⟨s₂, o, h1, h2⟩ := k
  exact ⟨s₂, o, st _ h1, h2⟩
theorem Lv.narrow (X : Stand p l e R s m args below meth c T locs cells slots) (hlk : meth.locks = false) (hc : cells ≤ kc) (hs : slots ≤ ks) : Lv e m meth below (En s kc ks) T locs := by
  intro v hv
  obtain ⟨fs, hr, hrun, hended, hW, hsame⟩ := X.leave (v := v) hv hlk
  exact ⟨fs, hr, hrun, hended, ⟨_, rfl⟩, hW, hsame.mono hc hs⟩
theorem Lv.wide {vm0 : Vm} {k0 : Nat} (X : Stand p l e R (s.setVm vm0) m args below meth c T locs cells slots) (hlk : meth.locks = false) (hS : s.Since vm0 k0) (hk : k0 ≤ T.heap.size) (hc : cells ≤ kc) (hs : slots ≤ ks) : Lv e m meth below (EnW s kc ks) T locs := by
  intro v hv
  obtain ⟨fs, hr, hrun, hended, h1, h2, h3, hsame⟩ := X.leaveW hS hk (v := v) hv hlk
  exact ⟨fs, hr, hrun, hended, h1, h2, h3, hsame.mono hc hs⟩
theorem Go.out (lv : Lv e m meth below E T locs) {v : Option Value} (hv : meth.sig.returnType = none → v = none) (hQ : Q v T.heap locs)
    (st : ∀ fs, (∀ (f : JFrame) (acts : List Action), f.method = m → f.locked = none → f.entered = [] → (doReturn e (T.setTop f) acts v).1 = T.setFrames fs) → Steps p.tables e below (T.setTop g) (T.setFrames fs)) : Go p e below E Q T g := by
  obtain ⟨fs, hr, hrun, hended, hE⟩ := lv v hv
  exact ⟨_, _, st fs hr, hrun, hended, v, locs, rfl, hQ, hE⟩
theorem Go.outV (X : Stand p l e R s m args below meth c T locs cells slots) (hx : p.tables.exec = Jvm.exec) {t : FieldType} {w : Value} {i : Instr} {pc : Nat} {Ls : Array Slot} {rest : List Value} (hret : meth.sig.returnType = some t) (lv : Lv e m meth below E T locs)
    (hn : narrow t w = w)
    (hi : (i = .ireturn ∧ (t = .int ∨ t = .boolean ∨ t = .byte ∨ t = .char ∨ t = .short) ∧ ∃ z, w = .int z) ∨ (i = .lreturn ∧ t = .long ∧ ∃ z, w = .long z) ∨ (i = .dreturn ∧ t = .double ∧ ∃ z, w = .double z) ∨ (i = .freturn ∧ t = .float ∧ ∃ z, w = .float z) ∨ (i = .areturn ∧ t.isReference = true ∧ w.isRef = true))
    (hd : decode c.code pc = .ok (i, 1)) (hQ : Q (some w) T.heap locs) : Go p e below E Q T (mkF m pc Ls (w :: rest)) :=
  Go.out lv (fun h => by rw [hret] at h; cases h) hQ (fun fs hr => retOut X hx hret hn hi hd hr)
theorem Go.outI (X : Stand p l e R s m args below meth c T locs cells slots) (hx : p.tables.exec = Jvm.exec) {z : Int32} {pc : Nat} {Ls : Array Slot} {rest : List Value} (hret : meth.sig.returnType = some .int) (lv : Lv e m meth below E T locs)
    (hd : decode c.code pc = .ok (.ireturn, 1)) (hQ : Q (some (.int z)) T.heap locs) : Go p e below E Q T (mkF m pc Ls (.int z :: rest)) :=
  Go.outV X hx hret lv rfl (Or.inl ⟨rfl, Or.inl rfl, z, rfl⟩) hd hQ
theorem Go.outZ (X : Stand p l e R s m args below meth c T locs cells slots) (hx : p.tables.exec = Jvm.exec) {z : Int32} {pc : Nat} {Ls : Array Slot} {rest : List Value} (hret : meth.sig.returnType = some .boolean) (lv : Lv e m meth below E T locs)
    (hd : decode c.code pc = .ok (.ireturn, 1)) (hz : z = 0 ∨ z = 1) (hQ : Q (some (.int z)) T.heap locs) : Go p e below E Q T (mkF m pc Ls (.int z :: rest)) :=
  Go.outV X hx hret lv (by rcases hz with rfl | rfl <;> rfl) (Or.inl ⟨rfl, Or.inr (Or.inl rfl), z, rfl⟩) hd hQ
theorem Go.outJ (X : Stand p l e R s m args below meth c T locs cells slots) (hx : p.tables.exec = Jvm.exec) {z : Int64} {pc : Nat} {Ls : Array Slot} {rest : List Value} (hret : meth.sig.returnType = some .long) (lv : Lv e m meth below E T locs)
    (hd : decode c.code pc = .ok (.lreturn, 1)) (hQ : Q (some (.long z)) T.heap locs) : Go p e below E Q T (mkF m pc Ls (.long z :: rest)) :=
  Go.outV X hx hret lv rfl (Or.inr (Or.inl ⟨rfl, rfl, z, rfl⟩)) hd hQ
theorem nar_ref {t : FieldType} {w : Value} (ht : t.isReference = true) : narrow t w = w := by cases t <;> first | rfl | (simp [FieldType.isReference] at ht)
theorem Go.outA (X : Stand p l e R s m args below meth c T locs cells slots) (hx : p.tables.exec = Jvm.exec) {w : Value} {t : FieldType} {pc : Nat} {Ls : Array Slot} {rest : List Value} (hret : meth.sig.returnType = some t) (lv : Lv e m meth below E T locs) (ht : t.isReference = true) (hw : w.isRef = true)
    (hd : decode c.code pc = .ok (.areturn, 1)) (hQ : Q (some w) T.heap locs) : Go p e below E Q T (mkF m pc Ls (w :: rest)) :=
  Go.outV X hx hret lv (nar_ref ht) (Or.inr (Or.inr (Or.inr (Or.inr ⟨rfl, ht, hw⟩)))) hd hQ
theorem Go.outN (X : Stand p l e R s m args below meth c T locs cells slots) (hx : p.tables.exec = Jvm.exec) {pc : Nat} {Ls : Array Slot} (hret : meth.sig.returnType = none) (lv : Lv e m meth below E T locs)
    (hd : decode c.code pc = .ok (.return_, 1)) (hQ : Q none T.heap locs) : Go p e below E Q T (mkF m pc Ls []) :=
  Go.out lv (fun _ => rfl) hQ (fun fs hr => X.returnOut hx hret hd hr)
theorem Ctr.of {y : MethodName} {bytes : ByteArray} {maxL : Nat} {ret : Option FieldType} {rm : Room} {as : Array Value} {Ls : Array Slot} (hpn : plainFor y = true) (hef : ∀ m, entryFrame m as maxL = mkF m 0 Ls [])
    (body : ∀ (p : Program) (e : Env) (s : State) (m : MethodId) (below : List Frame) (meth : Method) (c : Code) (T0 : State), p.tables.exec = Jvm.exec → c.code = bytes → c.maxLocals = maxL → meth.sig.returnType = ret → meth.locks = false → meth.name = y.name → Z.Warmed39 s.vm → s.vm.findClass y.cls = some m.cls → T0.heap = h → Stand p l e rm s m as below meth c T0 [] 0 0 → Go p e below (En s rm.cells rm.slots) Q T0 (mkF m 0 Ls [])) :
    Ctr l Z y bytes maxL ret rm as h Q := by
  intro ws
  refine MetFree.of_bodySF hpn hisR ?_
  intro p e s m args below meth c s₁ Bd hml0 hP hK
  obtain ⟨ha, hZ, hh⟩ := hP
  subst ha
  have X0 : Stand p l e rm s m args below meth c s₁ [] 0 0 := Stand.of_body Bd
  obtain ⟨s₂, o, h1, h2⟩ := body p e s m below meth c s₁ Bd.exec Bd.bytes hml0 Bd.returns (BodyLoose.notSynchronized Bd) (name_of_methodNamed Bd.named Bd.method).1 hZ (findClass_of_methodNamed Bd.named) (by rw [← hh, Bd.state]; rfl) X0
  exact ⟨s₂, o, castTop (hef m) h1, h2⟩
theorem CtrW.of {y : MethodName} {bytes : ByteArray} {maxL : Nat} {ret : Option FieldType} {rm : Room} {as : Array Value} {Ls : Array Slot} (hpn : plainFor y = true) (hef : ∀ m, entryFrame m as maxL = mkF m 0 Ls [])
    (body : ∀ (p : Program) (e : Env) (s : State) (vm0 : Vm) (m : MethodId) (below : List Frame) (meth : Method) (c : Code) (T0 : State), p.tables.exec = Jvm.exec → c.code = bytes → c.maxLocals = maxL → meth.sig.returnType = ret → meth.locks = false → meth.name = y.name → s.Since vm0 0 → Z.Warmed39 (s.setVm vm0).vm → (s.setVm vm0).vm.findClass y.cls = some m.cls → T0.heap = h → Stand p l e rm (s.setVm vm0) m as below meth c T0 [] 0 0 → Go p e below (EnW s rm.cells rm.slots) Q T0 (mkF m 0 Ls [])) :
    CtrW l Z y bytes maxL ret rm as h Q := by
  intro ws
  refine MetFree.of_bodySF hpn hisR ?_
  intro p e s m args below meth c s₁ Bd hml0 hP hK
  obtain ⟨ha, hZ, hh⟩ := hP
  subst ha
  have X0 : Stand p l e rm s m args below meth c s₁ [] 0 0 := Stand.of_body Bd
  obtain ⟨s₂, o, h1, h2⟩ := body p e s s.vm m below meth c s₁ Bd.exec Bd.bytes hml0 Bd.returns (BodyLoose.notSynchronized Bd) (name_of_methodNamed Bd.named Bd.method).1 (State.WarmedH.since (State.WarmedH.refl s) 0) hZ (findClass_of_methodNamed Bd.named) (by rw [← hh, Bd.state]; rfl) X0
  exact ⟨s₂, o, castTop (hef m) h1, h2⟩
/-- a contract may promise less -/
theorem Ctr.weaken {y : MethodName} {bytes : ByteArray} {maxL : Nat} {ret : Option FieldType} {rm : Room} {as : Array Value} {Q' : Option Value → Heap → List Loc → Prop} (K : Ctr l Z y bytes maxL ret rm as h Q) (q : ∀ v h' L, Q v h' L → Q' v h' L) : Ctr l Z y bytes maxL ret rm as h Q' := by
  intro ws p e ha hc hk s m args below hf happ hP hK
  obtain ⟨n, o, h1, h2, h3, v, L, h4, h5, h6⟩ := K ws p e ha hc hk s m args below hf happ hP hK
  exact ⟨n, o, h1, h2, h3, v, L, h4, q _ _ _ h5, h6⟩
theorem Go.ldc {vm0 : Vm} {k0 : Nat} (X : Stand p l e R (s.setVm vm0) m args below meth c T locs cells slots) (hx : p.tables.exec = Jvm.exec) (hZ : Z.Warmed39 (s.setVm vm0).vm) {own text : String} {index : Nat} (hown : (s.setVm vm0).vm.findClass own = some m.cls) (w : (Cond.stringLink own index text).before a0 Z = true) (wS : ∀ a ∈ Bundle.stringAtoms, a.before a0 Z = true)
    (eT : T.heap = h) (hS : s.Since vm0 k0) (hk : k0 ≤ h.size) {g : JFrame} (hg : g.method = m) (hd : decode c.code g.pc = .ok (.ldc index, 2)) {n : Nat} (hn : 4 * text.toList.length ≤ n) (hbig : n ≤ 536870912) (hc : cells + 2 ≤ R.cells) (hl : slots + (n + 4) ≤ R.slots)
    (k : ∀ (a : Addr) (T' : State) (h' : Heap) (k1 : Nat), Stand p l e R (s.setVm T'.vm) m args below meth c T' locs (cells + 2) (slots + (n + 4)) → T'.heap = h' → Ext h h' → s.Since T'.vm k1 → k1 ≤ h'.size → Z.Warmed39 (s.setVm T'.vm).vm → (s.setVm T'.vm).vm.findClass own = some m.cls → Go p e below E Q T' { g with pc := g.pc + 2, stack := .ref a :: g.stack }) : Go p e below E Q T g := by
  obtain ⟨a, T', h', k1, X', e', E', hS', hk', hZ', hown', st⟩ := ldcS X hx hZ hown w wS eT hS hk hg hd hn hbig hc hl
  exact Go.by st (k a T' h' k1 X' e' E' hS' hk' hZ' hown')
theorem Go.callS (X : Stand p l e R s m args below meth c T locs cells slots) (hx : p.tables.exec = Jvm.exec) (hZ : Z.Warmed39 s.vm) {own : String} {index : Nat} {y : MethodName} {bytes : ByteArray} {maxL : Nat} {ret : Option FieldType}
    (hown : s.vm.findClass own = some m.cls) (w1 : (Cond.methodLink own index y).before a0 Z = true) (w2 : (Cond.static y).before a0 Z = true) (w3 : (Cond.initialized y.cls).before a0 Z = true)
    (w4 : (Cond.code y bytes maxL ret).before a0 Z = true) (hy : y.cls ≠ "java/lang/invoke/MethodHandle" ∧ y.cls ≠ "java/lang/invoke/VarHandle")
    {W : Nat} {rm : Room} {argsL rest : List Value} {Qc : Option Value → Heap → List Loc → Prop} (hM : Ctr l Z y bytes maxL ret rm argsL.toArray h Qc) (hf : rm.frames + 1 ≤ R.frames) (hl : W + (maxL + 11) + rm.locals ≤ R.locals) (hc : cells + rm.cells ≤ R.cells) (hs : slots + rm.slots ≤ R.slots)
    {g : JFrame} (hg : g.method = m) (hsize : g.locals.size = c.maxLocals) (hlen : ∀ sig, parseMethodDescriptor y.desc = some sig → argsL.length = sig.parameters.length)
    (hstack : g.stack = argsL.reverse ++ rest) (hW : 2 * g.monitorRoom + (rest.map fun v => v.category).sum ≤ W) (hdg : decode c.code g.pc = .ok (.invokestatic index, 3)) (eT : T.heap = h)
    (k : ∀ T' L v, Stand p l e R s m args below meth c T' (locs ++ L) (cells + rm.cells) (slots + rm.slots) → Qc v T'.heap L → Go p e below E Q T' { g with pc := g.pc + 3, stack := v.toList ++ rest }) : Go p e below E Q T g := by
  obtain ⟨v, _, ⟨T3, L3, k3, n3⟩, -, X3, ⟨Lc3, hQ3, l3, y3, z3⟩, st3⟩ := Jvm.LawKit.callS X hx (y := y) hown (mvT hZ w1) (mvT hZ w2) (mvT hZ w3) (mvT hZ w4) hy (backOf (W := W) (hM []) hZ w4 w3 hf hl) (g := g) hg hsize (argsL := argsL) (rest := rest) hlen hstack hW hdg (fun _ _ => ⟨rfl, eT, hc, hs⟩)
  dsimp only [Pt.U, Pt.locs, Pt.cells, Pt.slots] at X3 l3 y3 z3 st3 hQ3
  subst l3 y3 z3
  exact Go.by st3 (k _ _ _ X3 hQ3)
theorem Go.callI (X : Stand p l e R s m args below meth c T locs cells slots) (hx : p.tables.exec = Jvm.exec) (hZ : Z.Warmed39 s.vm) {own : String} {index : Nat} {y : MethodName} {bytes : ByteArray} {maxL : Nat} (hy1 : y.name = "<init>")
    (hown : s.vm.findClass own = some m.cls) (w1 : (Cond.methodLink own index y).before a0 Z = true) (w2 : (Cond.instanceMethod y).before a0 Z = true) (w3 : (Cond.initialized y.cls).before a0 Z = true)
    (w4 : (Cond.code y bytes maxL none).before a0 Z = true) (hy : y.cls ≠ "java/lang/invoke/MethodHandle" ∧ y.cls ≠ "java/lang/invoke/VarHandle")
    {W : Nat} {rm : Room} {a : Addr} {argsL rest : List Value} {Qc : Option Value → Heap → List Loc → Prop} (hM : Ctr l Z y bytes maxL none rm (.ref a :: argsL).toArray h Qc) (hf : rm.frames + 1 ≤ R.frames) (hl : W + (maxL + 11) + rm.locals ≤ R.locals) (hc : cells + rm.cells ≤ R.cells) (hs : slots + rm.slots ≤ R.slots)
    {g : JFrame} (hg : g.method = m) (hsize : g.locals.size = c.maxLocals) (hlen : ∀ sig, parseMethodDescriptor y.desc = some sig → argsL.length = sig.parameters.length)
    (hstack : g.stack = argsL.reverse ++ .ref a :: rest) (hW : 2 * g.monitorRoom + (rest.map fun v => v.category).sum ≤ W) (hdg : decode c.code g.pc = .ok (.invokespecial index, 3)) (eT : T.heap = h)
    (k : ∀ T' L v, Stand p l e R s m args below meth c T' (locs ++ L) (cells + rm.cells) (slots + rm.slots) → Qc v T'.heap L → Go p e below E Q T' { g with pc := g.pc + 3, stack := v.toList ++ rest }) : Go p e below E Q T g := by
  obtain ⟨v, _, ⟨T3, L3, k3, n3⟩, -, X3, ⟨Lc3, hQ3, l3, y3, z3⟩, st3⟩ := X.specialBack hx (y := y) hy1 hown (mvT hZ w1) (mvT hZ w2) (mvT hZ w4) hy (backOf (W := W) (hM []) hZ w4 w3 hf hl) (g := g) hg hsize (Steps.refl _) (a := a) (argsL := argsL) (rest := rest) hlen hstack hW hdg (fun _ _ => ⟨rfl, eT, hc, hs⟩)
  dsimp only [Pt.U, Pt.locs, Pt.cells, Pt.slots] at X3 l3 y3 z3 st3 hQ3
  subst l3 y3 z3
  exact Go.by (fun _ q => st3.trans q) (k _ _ _ X3 hQ3)
/-- invokevirtual, the class that declares the method is a class (hnf) -/
theorem Go.callV (X : Stand p l e R s m args below meth c T locs cells slots) (hx : p.tables.exec = Jvm.exec) (hZ : Z.Warmed39 s.vm) {own C : String} {index : Nat} {y z : MethodName} {bytes : ByteArray} {maxL : Nat} {ret : Option FieldType}
    (hown : s.vm.findClass own = some m.cls) (w1 : (Cond.methodLink own index y).before a0 Z = true) (w2 : (Cond.declares y).before a0 Z = true) (hnf : NotFace s y) (w5 : (Cond.selects C y z).before a0 Z = true) (w6 : (Cond.instanceMethod z).before a0 Z = true) (w3 : (Cond.initialized z.cls).before a0 Z = true)
    (w4 : (Cond.code z bytes maxL ret).before a0 Z = true) (hy : y.cls ≠ "java/lang/invoke/MethodHandle" ∧ y.cls ≠ "java/lang/invoke/VarHandle")
    {W : Nat} {rm : Room} {a : Addr} {argsL rest : List Value} {Qc : Option Value → Heap → List Loc → Prop} (Ex : Exa Z h a C) (hM : Ctr l Z z bytes maxL ret rm (.ref a :: argsL).toArray h Qc) (hf : rm.frames + 1 ≤ R.frames) (hl : W + (maxL + 11) + rm.locals ≤ R.locals) (hc : cells + rm.cells ≤ R.cells) (hs : slots + rm.slots ≤ R.slots)
    {g : JFrame} (hg : g.method = m) (hsize : g.locals.size = c.maxLocals) (hlen : ∀ sig, parseMethodDescriptor y.desc = some sig → argsL.length = sig.parameters.length)
    (hstack : g.stack = argsL.reverse ++ .ref a :: rest) (hW : 2 * g.monitorRoom + (rest.map fun v => v.category).sum ≤ W) (hdg : decode c.code g.pc = .ok (.invokevirtual index, 3)) (eT : T.heap = h)
    (k : ∀ T' L v, Stand p l e R s m args below meth c T' (locs ++ L) (cells + rm.cells) (slots + rm.slots) → Qc v T'.heap L → Go p e below E Q T' { g with pc := g.pc + 3, stack := v.toList ++ rest }) : Go p e below E Q T g := by
  obtain ⟨cq, kq, qa, qb, qc⟩ := isOf hZ eT Ex
  obtain ⟨v, _, ⟨T3, L3, k3, n3⟩, -, X3, ⟨Lc3, hQ3, l3, y3, z3⟩, st3⟩ := X.virtualBack hx (y := y) (z := z) hown (mvT hZ w1) (mvT hZ w2) hnf (mvT hZ w5) (mvT hZ w6) hy (backOf (W := W) (hM []) hZ w4 w3 hf hl) qa qc (g := g) hg hsize (Steps.refl _) (argsL := argsL) (rest := rest) hlen hstack hW hdg (fun _ _ => ⟨rfl, eT, hc, hs⟩)
  dsimp only [Pt.U, Pt.locs, Pt.cells, Pt.slots] at X3 l3 y3 z3 st3 hQ3
  subst l3 y3 z3
  exact Go.by (fun _ q => st3.trans q) (k _ _ _ X3 hQ3)
/-- a private method, by invokevirtual -/
theorem Go.callP (X : Stand p l e R s m args below meth c T locs cells slots) (hx : p.tables.exec = Jvm.exec) (hZ : Z.Warmed39 s.vm) {own C : String} {index : Nat} {y : MethodName} {bytes : ByteArray} {maxL : Nat} {ret : Option FieldType}
    (hown : s.vm.findClass own = some m.cls) (w1 : (Cond.methodLink own index y).before a0 Z = true) (w2 : (Cond.instanceMethod y).before a0 Z = true) (w5 : (Cond.selects y.cls y y).before a0 Z = true) (w6 : (Cond.privateMethod y).before a0 Z = true) (w3 : (Cond.initialized y.cls).before a0 Z = true)
    (w4 : (Cond.code y bytes maxL ret).before a0 Z = true) (hy : y.cls ≠ "java/lang/invoke/MethodHandle" ∧ y.cls ≠ "java/lang/invoke/VarHandle")
    {W : Nat} {rm : Room} {a : Addr} {argsL rest : List Value} {Qc : Option Value → Heap → List Loc → Prop} (Ex : Exa Z h a C) (hM : Ctr l Z y bytes maxL ret rm (.ref a :: argsL).toArray h Qc) (hf : rm.frames + 1 ≤ R.frames) (hl : W + (maxL + 11) + rm.locals ≤ R.locals) (hc : cells + rm.cells ≤ R.cells) (hs : slots + rm.slots ≤ R.slots)
    {g : JFrame} (hg : g.method = m) (hsize : g.locals.size = c.maxLocals) (hlen : ∀ sig, parseMethodDescriptor y.desc = some sig → argsL.length = sig.parameters.length)
    (hstack : g.stack = argsL.reverse ++ .ref a :: rest) (hW : 2 * g.monitorRoom + (rest.map fun v => v.category).sum ≤ W) (hdg : decode c.code g.pc = .ok (.invokevirtual index, 3)) (eT : T.heap = h)
    (k : ∀ T' L v, Stand p l e R s m args below meth c T' (locs ++ L) (cells + rm.cells) (slots + rm.slots) → Qc v T'.heap L → Go p e below E Q T' { g with pc := g.pc + 3, stack := v.toList ++ rest }) : Go p e below E Q T g := by
  obtain ⟨cq, q1, q2⟩ := Ex.cell
  obtain ⟨v, _, ⟨T3, L3, k3, n3⟩, -, X3, ⟨Lc3, hQ3, l3, y3, z3⟩, st3⟩ := X.privateBack hx (y := y) hown (mvT hZ w1) (mvT hZ w2) (mvT hZ w5) (Cond.privateMethod_at (mvP hZ w6 (args := #[]))) (mvT hZ w4) hy (backOf (W := W) (hM []) hZ w4 w3 hf hl) (g := g) hg hsize (Steps.refl _) (a := a) (by rw [eT]; exact q1) q2 (argsL := argsL) (rest := rest) hlen hstack hW hdg (fun _ _ => ⟨rfl, eT, hc, hs⟩)
  dsimp only [Pt.U, Pt.locs, Pt.cells, Pt.slots] at X3 l3 y3 z3 st3 hQ3
  subst l3 y3 z3
  exact Go.by (fun _ q => st3.trans q) (k _ _ _ X3 hQ3)
/-- invokeinterface -/
theorem Go.callF (X : Stand p l e R s m args below meth c T locs cells slots) (hx : p.tables.exec = Jvm.exec) (hZ : Z.Warmed39 s.vm) {own C : String} {index count : Nat} {y z : MethodName} {bytes : ByteArray} {maxL : Nat} {ret : Option FieldType}
    (hown : s.vm.findClass own = some m.cls) (w1 : (Cond.methodLink own index y).before a0 Z = true) (w2 : (Cond.declares y).before a0 Z = true) (w7 : (Cond.interfaceMethod y.cls y.cls y.name y.desc).before args s = true) (w5 : (Cond.selects C y z).before a0 Z = true) (w6 : (Cond.instanceMethod z).before a0 Z = true) (w8 : (Cond.publicMethod z).before a0 Z = true) (w9 : (Cond.unhidden C y.name y.desc).before a0 Z = true) (w10 : (Cond.castable C y.cls).before a0 Z = true) (w3 : (Cond.initialized z.cls).before a0 Z = true)
    (w4 : (Cond.code z bytes maxL ret).before a0 Z = true) (hy : y.cls ≠ "java/lang/invoke/MethodHandle" ∧ y.cls ≠ "java/lang/invoke/VarHandle")
    {W : Nat} {rm : Room} {a : Addr} {argsL rest : List Value} {Qc : Option Value → Heap → List Loc → Prop} (Ex : Exa Z h a C) (hM : Ctr l Z z bytes maxL ret rm (.ref a :: argsL).toArray h Qc) (hf : rm.frames + 1 ≤ R.frames) (hl : W + (maxL + 11) + rm.locals ≤ R.locals) (hc : cells + rm.cells ≤ R.cells) (hs : slots + rm.slots ≤ R.slots)
    {g : JFrame} (hg : g.method = m) (hsize : g.locals.size = c.maxLocals) (hlen : ∀ sig, parseMethodDescriptor y.desc = some sig → argsL.length = sig.parameters.length)
    (hstack : g.stack = argsL.reverse ++ .ref a :: rest) (hW : 2 * g.monitorRoom + (rest.map fun v => v.category).sum ≤ W) (hdg : decode c.code g.pc = .ok (.invokeinterface index count, 5)) (eT : T.heap = h)
    (k : ∀ T' L v, Stand p l e R s m args below meth c T' (locs ++ L) (cells + rm.cells) (slots + rm.slots) → Qc v T'.heap L → Go p e below E Q T' { g with pc := g.pc + 5, stack := v.toList ++ rest }) : Go p e below E Q T g := by
  obtain ⟨cq, kq, qa, qb, qc⟩ := isOf hZ eT Ex
  obtain ⟨v, _, ⟨T3, L3, k3, n3⟩, -, X3, ⟨Lc3, hQ3, l3, y3, z3⟩, st3⟩ := X.interfaceBack hx (xi := y) (y := z) hown (mvT hZ w1) (mvT hZ w2) w7 (mvT hZ w5) (mvT hZ w6) (mvT hZ w8) (mvT hZ w9) (mvT hZ w10) hy (backOf (W := W) (hM []) hZ w4 w3 hf hl) qa qb qc (g := g) hg hsize (Steps.refl _) (argsL := argsL) (rest := rest) hlen hstack hW hdg (fun _ _ => ⟨rfl, eT, hc, hs⟩)
  dsimp only [Pt.U, Pt.locs, Pt.cells, Pt.slots] at X3 l3 y3 z3 st3 hQ3
  subst l3 y3 z3
  exact Go.by (fun _ q => st3.trans q) (k _ _ _ X3 hQ3)
/-- a callee that may intern: invokevirtual -/
theorem Go.callVW {vm0 : Vm} {k0 : Nat} (X : Stand p l e R (s.setVm vm0) m args below meth c T locs cells slots) (hx : p.tables.exec = Jvm.exec) (hS : s.Since vm0 k0) (hk : k0 ≤ h.size) (hZ : Z.Warmed39 (s.setVm vm0).vm) {own C : String} {index : Nat} {y z : MethodName} {bytes : ByteArray} {maxL : Nat} {ret : Option FieldType}
    (hown : (s.setVm vm0).vm.findClass own = some m.cls) (w1 : (Cond.methodLink own index y).before a0 Z = true) (w2 : (Cond.declares y).before a0 Z = true) (hnf : NotFace (s.setVm vm0) y) (w5 : (Cond.selects C y z).before a0 Z = true) (w6 : (Cond.instanceMethod z).before a0 Z = true) (w3 : (Cond.initialized z.cls).before a0 Z = true)
    (w4 : (Cond.code z bytes maxL ret).before a0 Z = true) (hy : y.cls ≠ "java/lang/invoke/MethodHandle" ∧ y.cls ≠ "java/lang/invoke/VarHandle")
    {W : Nat} {rm : Room} {a : Addr} {argsL rest : List Value} {Qc : Option Value → Heap → List Loc → Prop} (Ex : Exa Z h a C) (hM : CtrW l Z z bytes maxL ret rm (.ref a :: argsL).toArray h Qc) (hf : rm.frames + 1 ≤ R.frames) (hl : W + (maxL + 11) + rm.locals ≤ R.locals) (hc : cells + rm.cells ≤ R.cells) (hs : slots + rm.slots ≤ R.slots)
    {g : JFrame} (hg : g.method = m) (hsize : g.locals.size = c.maxLocals) (hlen : ∀ sig, parseMethodDescriptor y.desc = some sig → argsL.length = sig.parameters.length)
    (hstack : g.stack = argsL.reverse ++ .ref a :: rest) (hW : 2 * g.monitorRoom + (rest.map fun v => v.category).sum ≤ W) (hdg : decode c.code g.pc = .ok (.invokevirtual index, 3)) (eT : T.heap = h)
    (k : ∀ T' L v, Stand p l e R (s.setVm T'.vm) m args below meth c T' (locs ++ L) (cells + rm.cells) (slots + rm.slots) → s.Since T'.vm T'.heap.size → Z.Warmed39 (s.setVm T'.vm).vm → (s.setVm T'.vm).vm.findClass own = some m.cls → Qc v T'.heap L → Go p e below E Q T' { g with pc := g.pc + 3, stack := v.toList ++ rest }) : Go p e below E Q T g := by
  obtain ⟨cq, kq, qa, qb, qc⟩ := isOf hZ eT Ex
  obtain ⟨v, _, ⟨T3, L3, k3, n3⟩, -, X3, hS3, hgr, ⟨Lc3, hQ3, l3, y3, z3⟩, st3⟩ := X.virtualBackS hx (y := y) (z := z) hown (mvT hZ w1) (mvT hZ w2) hnf (mvT hZ w5) (mvT hZ w6) hy (backOfS (W := W) (hM []) hZ w4 w3 hf hl) qa qc (g := g) hg hsize (Steps.refl _) (argsL := argsL) (rest := rest) hlen hstack hW hdg (fun _ _ => ⟨rfl, eT, hc, hs⟩)
  dsimp only [Pt.U, Pt.locs, Pt.cells, Pt.slots] at X3 l3 y3 z3 st3 hQ3 hS3 hgr
  subst l3 y3 z3
  obtain ⟨X4, hS4, hZ4, hown4⟩ := rebS hS (by rw [eT]; exact hk) X3 hS3 hgr hZ hown
  exact Go.by (fun _ q => st3.trans q) (k _ _ _ X4 hS4 hZ4 hown4 hQ3)
/-- a callee that may intern: a constructor -/
theorem Go.callIW {vm0 : Vm} {k0 : Nat} (X : Stand p l e R (s.setVm vm0) m args below meth c T locs cells slots) (hx : p.tables.exec = Jvm.exec) (hS : s.Since vm0 k0) (hk : k0 ≤ h.size) (hZ : Z.Warmed39 (s.setVm vm0).vm) {own : String} {index : Nat} {y : MethodName} {bytes : ByteArray} {maxL : Nat} (hy1 : y.name = "<init>")
    (hown : (s.setVm vm0).vm.findClass own = some m.cls) (w1 : (Cond.methodLink own index y).before a0 Z = true) (w2 : (Cond.instanceMethod y).before a0 Z = true) (w3 : (Cond.initialized y.cls).before a0 Z = true)
    (w4 : (Cond.code y bytes maxL none).before a0 Z = true) (hy : y.cls ≠ "java/lang/invoke/MethodHandle" ∧ y.cls ≠ "java/lang/invoke/VarHandle")
    {W : Nat} {rm : Room} {a : Addr} {argsL rest : List Value} {Qc : Option Value → Heap → List Loc → Prop} (hM : CtrW l Z y bytes maxL none rm (.ref a :: argsL).toArray h Qc) (hf : rm.frames + 1 ≤ R.frames) (hl : W + (maxL + 11) + rm.locals ≤ R.locals) (hc : cells + rm.cells ≤ R.cells) (hs : slots + rm.slots ≤ R.slots)
    {g : JFrame} (hg : g.method = m) (hsize : g.locals.size = c.maxLocals) (hlen : ∀ sig, parseMethodDescriptor y.desc = some sig → argsL.length = sig.parameters.length)
    (hstack : g.stack = argsL.reverse ++ .ref a :: rest) (hW : 2 * g.monitorRoom + (rest.map fun v => v.category).sum ≤ W) (hdg : decode c.code g.pc = .ok (.invokespecial index, 3)) (eT : T.heap = h)
    (k : ∀ T' L v, Stand p l e R (s.setVm T'.vm) m args below meth c T' (locs ++ L) (cells + rm.cells) (slots + rm.slots) → s.Since T'.vm T'.heap.size → Z.Warmed39 (s.setVm T'.vm).vm → (s.setVm T'.vm).vm.findClass own = some m.cls → Qc v T'.heap L → Go p e below E Q T' { g with pc := g.pc + 3, stack := v.toList ++ rest }) : Go p e below E Q T g := by
  obtain ⟨v, _, ⟨T3, L3, k3, n3⟩, -, X3, hS3, hgr, ⟨Lc3, hQ3, l3, y3, z3⟩, st3⟩ := X.specialBackS hx (y := y) hy1 hown (mvT hZ w1) (mvT hZ w2) (mvT hZ w4) hy (backOfS (W := W) (hM []) hZ w4 w3 hf hl) (g := g) hg hsize (Steps.refl _) (a := a) (argsL := argsL) (rest := rest) hlen hstack hW hdg (fun _ _ => ⟨rfl, eT, hc, hs⟩)
  dsimp only [Pt.U, Pt.locs, Pt.cells, Pt.slots] at X3 l3 y3 z3 st3 hQ3 hS3 hgr
  subst l3 y3 z3
  obtain ⟨X4, hS4, hZ4, hown4⟩ := rebS hS (by rw [eT]; exact hk) X3 hS3 hgr hZ hown
  exact Go.by (fun _ q => st3.trans q) (k _ _ _ X4 hS4 hZ4 hown4 hQ3)
/-- a callee that may intern: a static method -/
theorem Go.callSW {vm0 : Vm} {k0 : Nat} (X : Stand p l e R (s.setVm vm0) m args below meth c T locs cells slots) (hx : p.tables.exec = Jvm.exec) (hS : s.Since vm0 k0) (hk : k0 ≤ h.size) (hZ : Z.Warmed39 (s.setVm vm0).vm) {own : String} {index : Nat} {y : MethodName} {bytes : ByteArray} {maxL : Nat} {ret : Option FieldType}
    (hown : (s.setVm vm0).vm.findClass own = some m.cls) (w1 : (Cond.methodLink own index y).before a0 Z = true) (w2 : (Cond.static y).before a0 Z = true) (w3 : (Cond.initialized y.cls).before a0 Z = true)
    (w4 : (Cond.code y bytes maxL ret).before a0 Z = true) (hy : y.cls ≠ "java/lang/invoke/MethodHandle" ∧ y.cls ≠ "java/lang/invoke/VarHandle")
    {W : Nat} {rm : Room} {argsL rest : List Value} {Qc : Option Value → Heap → List Loc → Prop} (hM : CtrW l Z y bytes maxL ret rm argsL.toArray h Qc) (hf : rm.frames + 1 ≤ R.frames) (hl : W + (maxL + 11) + rm.locals ≤ R.locals) (hc : cells + rm.cells ≤ R.cells) (hs : slots + rm.slots ≤ R.slots)
    {g : JFrame} (hg : g.method = m) (hsize : g.locals.size = c.maxLocals) (hlen : ∀ sig, parseMethodDescriptor y.desc = some sig → argsL.length = sig.parameters.length)
    (hstack : g.stack = argsL.reverse ++ rest) (hW : 2 * g.monitorRoom + (rest.map fun v => v.category).sum ≤ W) (hdg : decode c.code g.pc = .ok (.invokestatic index, 3)) (eT : T.heap = h)
    (k : ∀ T' L v, Stand p l e R (s.setVm T'.vm) m args below meth c T' (locs ++ L) (cells + rm.cells) (slots + rm.slots) → s.Since T'.vm T'.heap.size → Z.Warmed39 (s.setVm T'.vm).vm → (s.setVm T'.vm).vm.findClass own = some m.cls → Qc v T'.heap L → Go p e below E Q T' { g with pc := g.pc + 3, stack := v.toList ++ rest }) : Go p e below E Q T g := by
  obtain ⟨v, _, ⟨T3, L3, k3, n3⟩, -, X3, hS3, hgr, ⟨Lc3, hQ3, l3, y3, z3⟩, st3⟩ := Jvm.RoadKit.callSS X hx (y := y) hown (mvT hZ w1) (mvT hZ w2) (mvT hZ w3) (mvT hZ w4) hy (backOfS (W := W) (hM []) hZ w4 w3 hf hl) (g := g) hg hsize (argsL := argsL) (rest := rest) hlen hstack hW hdg (fun _ _ => ⟨rfl, eT, hc, hs⟩)
  dsimp only [Pt.U, Pt.locs, Pt.cells, Pt.slots] at X3 l3 y3 z3 st3 hQ3 hS3 hgr
  subst l3 y3 z3
  obtain ⟨X4, hS4, hZ4, hown4⟩ := rebS hS (by rw [eT]; exact hk) X3 hS3 hgr hZ hown
  exact Go.by (fun _ q => st3.trans q) (k _ _ _ X4 hS4 hZ4 hown4 hQ3)
end G
section A
variable {p : Program} {l : Launch} {e : Env} {R : Room} {s : State} {m : MethodId} {args : Array Value} {below : List Frame} {meth : Method} {c : Code} {T : State} {locs : List Loc} {cells slots : Nat} {Z : State} {h : Heap} {a : Addr} {k : ClassId} {n : Int32} {vs : List Value} {d : Value}
theorem stIA (X : Stand p l e R s m args below meth c T locs cells slots) (hx : p.tables.exec = Jvm.exec) (hZ : Z.Warmed39 s.vm) (eT : T.heap = h) (V : Arv Z h a k .int n vs d) {j x : Int32} (i : Nat) (hj : j.toNatClampNeg = i) (hj0 : ¬ j < 0) (hjn : j < n) (hi : i < vs.length) {g : JFrame} (hg : g.method = m) {rest : List Value} (hs : g.stack = .int x :: .int j :: .ref a :: rest) (hd : decode c.code g.pc = .ok (.iastore, 1)) :
    ∃ T' h', Stand p l e R s m args below meth c T' (locs ++ [⟨a, j.toNatClampNeg⟩]) cells slots ∧ T'.heap = h' ∧ Wr h h' a j.toNatClampNeg (.int x) ∧ Arv Z h' a k .int n (vs.set i (.int x)) d ∧ ∀ target, Steps p.tables e below (T'.setTop { g with pc := g.pc + 1, stack := rest }) target → Steps p.tables e below (T.setTop g) target := by
  obtain ⟨cl, Ar, q, S, M, H, U⟩ := V
  obtain ⟨T', h', X', e', W', st'⟩ := stI X hx hZ eT Ar (j := j) (inb_of S ⟨hj0, hjn⟩) hg hs hd
  exact ⟨T', h', X', e', W', Arv.set Ar q S M H U rfl W' i hj hi, st'⟩
theorem stBA (X : Stand p l e R s m args below meth c T locs cells slots) (hx : p.tables.exec = Jvm.exec) (hZ : Z.Warmed39 s.vm) (eT : T.heap = h) (V : Arv Z h a k .byte n vs d) {j x : Int32} (i : Nat) (hj : j.toNatClampNeg = i) (hj0 : ¬ j < 0) (hjn : j < n) (hi : i < vs.length) {g : JFrame} (hg : g.method = m) {rest : List Value} (hs : g.stack = .int x :: .int j :: .ref a :: rest) (hd : decode c.code g.pc = .ok (.bastore, 1)) :
    ∃ T' h', Stand p l e R s m args below meth c T' (locs ++ [⟨a, j.toNatClampNeg⟩]) cells slots ∧ T'.heap = h' ∧ Wr h h' a j.toNatClampNeg (.int x.toInt8.toInt32) ∧ Arv Z h' a k .byte n (vs.set i (.int x.toInt8.toInt32)) d ∧ ∀ target, Steps p.tables e below (T'.setTop { g with pc := g.pc + 1, stack := rest }) target → Steps p.tables e below (T.setTop g) target := by
  obtain ⟨cl, Ar, q, S, M, H, U⟩ := V
  obtain ⟨T', h', X', e', W', st'⟩ := stB X hx hZ eT Ar (j := j) (inb_of S ⟨hj0, hjn⟩) hg hs hd
  exact ⟨T', h', X', e', W', Arv.set Ar q S M H U (fits_nar_byte x) W' i hj hi, st'⟩
theorem ldIA (X : Stand p l e R s m args below meth c T locs cells slots) (hx : p.tables.exec = Jvm.exec) (hZ : Z.Warmed39 s.vm) (eT : T.heap = h) (V : Arv Z h a k .int n vs d) {j : Int32} {v : Value} (hj0 : ¬ j < 0) (hjn : j < n) (hv : vs.getD j.toNatClampNeg d = v) {g : JFrame} (hg : g.method = m) {rest : List Value} (hs : g.stack = .int j :: .ref a :: rest) (hd : decode c.code g.pc = .ok (.iaload, 1)) :
    ∀ target, Steps p.tables e below (T.setTop { g with pc := g.pc + 1, stack := v :: rest }) target → Steps p.tables e below (T.setTop g) target := by
  obtain ⟨cl, Ar, q, S, M, H, U⟩ := V
  have hin := inb_of S ⟨hj0, hjn⟩
  intro target kt
  exact X.iaload hx (j := j) (v := v) (by rw [eT]; exact Ar.1) (State.isArrayOf_alike hZ.alike Ar.2.1) Ar.2.2 hin (H.at hin hv) hg hs hd _ kt
theorem ldBA (X : Stand p l e R s m args below meth c T locs cells slots) (hx : p.tables.exec = Jvm.exec) (hZ : Z.Warmed39 s.vm) (eT : T.heap = h) (V : Arv Z h a k .byte n vs d) {j : Int32} {v : Value} (hj0 : ¬ j < 0) (hjn : j < n) (hv : vs.getD j.toNatClampNeg d = v) {g : JFrame} (hg : g.method = m) {rest : List Value} (hs : g.stack = .int j :: .ref a :: rest) (hd : decode c.code g.pc = .ok (.baload, 1)) :
    ∀ target, Steps p.tables e below (T.setTop { g with pc := g.pc + 1, stack := v :: rest }) target → Steps p.tables e below (T.setTop g) target := by
  obtain ⟨cl, Ar, q, S, M, H, U⟩ := V
  have hin := inb_of S ⟨hj0, hjn⟩
  intro target kt
  exact X.baloadBytes hx (j := j) (v := v) (by rw [eT]; exact Ar.1) (State.isArrayOf_alike hZ.alike Ar.2.1) Ar.2.2 hin (H.at hin hv) hg hs hd _ kt
theorem lnA {ty : FieldType} (X : Stand p l e R s m args below meth c T locs cells slots) (hx : p.tables.exec = Jvm.exec) (hZ : Z.Warmed39 s.vm) (eT : T.heap = h) (V : Arv Z h a k ty n vs d) {g : JFrame} (hg : g.method = m) {rest : List Value} (hs : g.stack = .ref a :: rest) (hd : decode c.code g.pc = .ok (.arraylength, 1)) :
    ∀ target, Steps p.tables e below (T.setTop { g with pc := g.pc + 1, stack := .int n :: rest }) target → Steps p.tables e below (T.setTop g) target := by
  obtain ⟨cl, Ar, q, S, M, H, U⟩ := V
  intro target kt
  refine X.arraylength hx (by rw [eT]; exact Ar.1) (State.isArrayOf_alike hZ.alike Ar.2.1) hg hs hd _ ?_
  rw [len_of S M]
  exact kt
theorem fitsR {ty : FieldType} {y : Addr} (hty : ty.isReference = true) : fits ty (.ref y) = true := by cases ty <;> first | rfl | (simp [FieldType.isReference] at hty)
theorem stRA {ty : FieldType} {C : String} (X : Stand p l e R s m args below meth c T locs cells slots) (hx : p.tables.exec = Jvm.exec) (hZ : Z.Warmed39 s.vm) (eT : T.heap = h) (V : Arv Z h a k ty n vs d) (O : Ovr Z k C) {y : Addr} (I : Ins Z h y C true) (hty : ty.isReference = true) {j : Int32} (i : Nat) (hj : j.toNatClampNeg = i) (hj0 : ¬ j < 0) (hjn : j < n) (hi : i < vs.length) {g : JFrame} (hg : g.method = m) {rest : List Value} (hs : g.stack = .ref y :: .int j :: .ref a :: rest) (hd : decode c.code g.pc = .ok (.aastore, 1)) :
    ∃ T' h', Stand p l e R s m args below meth c T' (locs ++ [⟨a, j.toNatClampNeg⟩]) cells slots ∧ T'.heap = h' ∧ Wr h h' a j.toNatClampNeg (.ref y) ∧ Arv Z h' a k ty n (vs.set i (.ref y)) d ∧ ∀ target, Steps p.tables e below (T'.setTop { g with pc := g.pc + 1, stack := rest }) target → Steps p.tables e below (T.setTop g) target := by
  obtain ⟨cl, Ar, q, S, M, H, U⟩ := V
  obtain ⟨T', h', X', e', W', st'⟩ := stR X hx hZ eT Ar (j := j) (inb_of S ⟨hj0, hjn⟩) hty (Sto.ofV Ar q O I) hg hs hd
  exact ⟨T', h', X', e', W', Arv.set Ar q S M H U (fitsR hty) W' i hj hi, st'⟩
theorem ldRA {ty : FieldType} (X : Stand p l e R s m args below meth c T locs cells slots) (hx : p.tables.exec = Jvm.exec) (hZ : Z.Warmed39 s.vm) (eT : T.heap = h) (V : Arv Z h a k ty n vs d) (hty : ty.isReference = true) {j : Int32} {v : Value} (hj0 : ¬ j < 0) (hjn : j < n) (hv : vs.getD j.toNatClampNeg d = v) {g : JFrame} (hg : g.method = m) {rest : List Value} (hs : g.stack = .int j :: .ref a :: rest) (hd : decode c.code g.pc = .ok (.aaload, 1)) :
    ∀ target, Steps p.tables e below (T.setTop { g with pc := g.pc + 1, stack := v :: rest }) target → Steps p.tables e below (T.setTop g) target := by
  obtain ⟨cl, Ar, q, S, M, H, U⟩ := V
  have hin := inb_of S ⟨hj0, hjn⟩
  intro target kt
  exact X.aaload hx (j := j) (v := v) (by rw [eT]; exact Ar.1) (State.isArrayOf_alike hZ.alike Ar.2.1) hty Ar.2.2 hin (H.at hin hv) hg hs hd _ kt
end A
end Jvm.OwnGo
namespace Jvm.Pilot.@@N@@
open Jvm Jvm.ClassFile Sem Op Lib Jvm.Free Jvm.Stand Jvm.LawKit Jvm.RoadKit Jvm.OwnGo Bundle Jvm.Pilot.@@N@@.Jvm.D

theorem pn_0 : plainName "com/example/grenoble/grenoble/check/StateStoreHashPinLaw" = true := by first | (simp [plainName, overriddenIn]; done) | decide +kernel
theorem pf_0 : plainFor x = true := plainFor_of_name pn_0
theorem pd_0 : parseMethodDescriptor "(JJJII)Z" = some ⟨[.long, .long, .long, .int, .int], (some .boolean)⟩ := by decide +kernel
theorem d1_0 : decode method_2_code 0 = .ok (.bipush 8, 2) := by decide +kernel
theorem d1_2 : decode method_2_code 2 = .ok (.newarray .byte, 2) := by decide +kernel
theorem d1_4 : decode method_2_code 4 = .ok (.astore_n 2, 1) := by decide +kernel
theorem d1_5 : decode method_2_code 5 = .ok (.aload_n 2, 1) := by decide +kernel
theorem d1_6 : decode method_2_code 6 = .ok (.iconst 0, 1) := by decide +kernel
theorem d1_7 : decode method_2_code 7 = .ok (.lload_n 0, 1) := by decide +kernel
theorem d1_8 : decode method_2_code 8 = .ok (.l2i, 1) := by decide +kernel
theorem d1_9 : decode method_2_code 9 = .ok (.i2b, 1) := by decide +kernel
theorem d1_10 : decode method_2_code 10 = .ok (.bastore, 1) := by decide +kernel
theorem d1_11 : decode method_2_code 11 = .ok (.aload_n 2, 1) := by decide +kernel
theorem d1_12 : decode method_2_code 12 = .ok (.iconst 1, 1) := by decide +kernel
theorem d1_13 : decode method_2_code 13 = .ok (.lload_n 0, 1) := by decide +kernel
theorem d1_14 : decode method_2_code 14 = .ok (.bipush 8, 2) := by decide +kernel
theorem d1_16 : decode method_2_code 16 = .ok (.lushr, 1) := by decide +kernel
theorem d1_17 : decode method_2_code 17 = .ok (.l2i, 1) := by decide +kernel
theorem d1_18 : decode method_2_code 18 = .ok (.i2b, 1) := by decide +kernel
theorem d1_19 : decode method_2_code 19 = .ok (.bastore, 1) := by decide +kernel
theorem d1_20 : decode method_2_code 20 = .ok (.aload_n 2, 1) := by decide +kernel
theorem d1_21 : decode method_2_code 21 = .ok (.iconst 2, 1) := by decide +kernel
theorem d1_22 : decode method_2_code 22 = .ok (.lload_n 0, 1) := by decide +kernel
theorem d1_23 : decode method_2_code 23 = .ok (.bipush 16, 2) := by decide +kernel
theorem d1_25 : decode method_2_code 25 = .ok (.lushr, 1) := by decide +kernel
theorem d1_26 : decode method_2_code 26 = .ok (.l2i, 1) := by decide +kernel
theorem d1_27 : decode method_2_code 27 = .ok (.i2b, 1) := by decide +kernel
theorem d1_28 : decode method_2_code 28 = .ok (.bastore, 1) := by decide +kernel
theorem d1_29 : decode method_2_code 29 = .ok (.aload_n 2, 1) := by decide +kernel
theorem d1_30 : decode method_2_code 30 = .ok (.iconst 3, 1) := by decide +kernel
theorem d1_31 : decode method_2_code 31 = .ok (.lload_n 0, 1) := by decide +kernel
theorem d1_32 : decode method_2_code 32 = .ok (.bipush 24, 2) := by decide +kernel
theorem d1_34 : decode method_2_code 34 = .ok (.lushr, 1) := by decide +kernel
theorem d1_35 : decode method_2_code 35 = .ok (.l2i, 1) := by decide +kernel
theorem d1_36 : decode method_2_code 36 = .ok (.i2b, 1) := by decide +kernel
theorem d1_37 : decode method_2_code 37 = .ok (.bastore, 1) := by decide +kernel
theorem d1_38 : decode method_2_code 38 = .ok (.aload_n 2, 1) := by decide +kernel
theorem d1_39 : decode method_2_code 39 = .ok (.iconst 4, 1) := by decide +kernel
theorem d1_40 : decode method_2_code 40 = .ok (.lload_n 0, 1) := by decide +kernel
theorem d1_41 : decode method_2_code 41 = .ok (.bipush 32, 2) := by decide +kernel
theorem d1_43 : decode method_2_code 43 = .ok (.lushr, 1) := by decide +kernel
theorem d1_44 : decode method_2_code 44 = .ok (.l2i, 1) := by decide +kernel
theorem d1_45 : decode method_2_code 45 = .ok (.i2b, 1) := by decide +kernel
theorem d1_46 : decode method_2_code 46 = .ok (.bastore, 1) := by decide +kernel
theorem d1_47 : decode method_2_code 47 = .ok (.aload_n 2, 1) := by decide +kernel
theorem d1_48 : decode method_2_code 48 = .ok (.iconst 5, 1) := by decide +kernel
theorem d1_49 : decode method_2_code 49 = .ok (.lload_n 0, 1) := by decide +kernel
theorem d1_50 : decode method_2_code 50 = .ok (.bipush 40, 2) := by decide +kernel
theorem d1_52 : decode method_2_code 52 = .ok (.lushr, 1) := by decide +kernel
theorem d1_53 : decode method_2_code 53 = .ok (.l2i, 1) := by decide +kernel
theorem d1_54 : decode method_2_code 54 = .ok (.i2b, 1) := by decide +kernel
theorem d1_55 : decode method_2_code 55 = .ok (.bastore, 1) := by decide +kernel
theorem d1_56 : decode method_2_code 56 = .ok (.aload_n 2, 1) := by decide +kernel
theorem d1_57 : decode method_2_code 57 = .ok (.bipush 6, 2) := by decide +kernel
theorem d1_59 : decode method_2_code 59 = .ok (.lload_n 0, 1) := by decide +kernel
theorem d1_60 : decode method_2_code 60 = .ok (.bipush 48, 2) := by decide +kernel
theorem d1_62 : decode method_2_code 62 = .ok (.lushr, 1) := by decide +kernel
theorem d1_63 : decode method_2_code 63 = .ok (.l2i, 1) := by decide +kernel
theorem d1_64 : decode method_2_code 64 = .ok (.i2b, 1) := by decide +kernel
theorem d1_65 : decode method_2_code 65 = .ok (.bastore, 1) := by decide +kernel
theorem d1_66 : decode method_2_code 66 = .ok (.aload_n 2, 1) := by decide +kernel
theorem d1_67 : decode method_2_code 67 = .ok (.bipush 7, 2) := by decide +kernel
theorem d1_69 : decode method_2_code 69 = .ok (.lload_n 0, 1) := by decide +kernel
theorem d1_70 : decode method_2_code 70 = .ok (.bipush 56, 2) := by decide +kernel
theorem d1_72 : decode method_2_code 72 = .ok (.lushr, 1) := by decide +kernel
theorem d1_73 : decode method_2_code 73 = .ok (.l2i, 1) := by decide +kernel
theorem d1_74 : decode method_2_code 74 = .ok (.i2b, 1) := by decide +kernel
theorem d1_75 : decode method_2_code 75 = .ok (.bastore, 1) := by decide +kernel
theorem d1_76 : decode method_2_code 76 = .ok (.aload_n 2, 1) := by decide +kernel
theorem d1_77 : decode method_2_code 77 = .ok (.areturn, 1) := by decide +kernel
theorem pn_1 : plainName "com/example/grenoble/grenoble/check/StateStoreHashPinLaw" = true := by first | (simp [plainName, overriddenIn]; done) | decide +kernel
theorem pf_1 : plainFor (⟨"com/example/grenoble/grenoble/check/StateStoreHashPinLaw", "fill", "(J)[B"⟩ : MethodName) = true := plainFor_of_name pn_1
theorem pd_1 : parseMethodDescriptor "(J)[B" = some ⟨[.long], (some (.array .byte))⟩ := by decide +kernel
theorem d2_0 : decode method_3_code 0 = .ok (.iload 4, 2) := by decide +kernel
theorem d2_2 : decode method_3_code 2 = .ok (.ifCond .le 9, 3) := by decide +kernel
theorem d2_5 : decode method_3_code 5 = .ok (.aload_n 0, 1) := by decide +kernel
theorem d2_6 : decode method_3_code 6 = .ok (.iload_n 1, 1) := by decide +kernel
theorem d2_7 : decode method_3_code 7 = .ok (.lload_n 2, 1) := by decide +kernel
theorem d2_8 : decode method_3_code 8 = .ok (.l2i, 1) := by decide +kernel
theorem d2_9 : decode method_3_code 9 = .ok (.i2b, 1) := by decide +kernel
theorem d2_10 : decode method_3_code 10 = .ok (.bastore, 1) := by decide +kernel
theorem d2_11 : decode method_3_code 11 = .ok (.iload 4, 2) := by decide +kernel
theorem d2_13 : decode method_3_code 13 = .ok (.iconst 1, 1) := by decide +kernel
theorem d2_14 : decode method_3_code 14 = .ok (.if_icmp .le 14, 3) := by decide +kernel
theorem d2_17 : decode method_3_code 17 = .ok (.aload_n 0, 1) := by decide +kernel
theorem d2_18 : decode method_3_code 18 = .ok (.iload_n 1, 1) := by decide +kernel
theorem d2_19 : decode method_3_code 19 = .ok (.iconst 1, 1) := by decide +kernel
theorem d2_20 : decode method_3_code 20 = .ok (.iadd, 1) := by decide +kernel
theorem d2_21 : decode method_3_code 21 = .ok (.lload_n 2, 1) := by decide +kernel
theorem d2_22 : decode method_3_code 22 = .ok (.bipush 8, 2) := by decide +kernel
theorem d2_24 : decode method_3_code 24 = .ok (.lushr, 1) := by decide +kernel
theorem d2_25 : decode method_3_code 25 = .ok (.l2i, 1) := by decide +kernel
theorem d2_26 : decode method_3_code 26 = .ok (.i2b, 1) := by decide +kernel
theorem d2_27 : decode method_3_code 27 = .ok (.bastore, 1) := by decide +kernel
theorem d2_28 : decode method_3_code 28 = .ok (.iload 4, 2) := by decide +kernel
theorem d2_30 : decode method_3_code 30 = .ok (.iconst 2, 1) := by decide +kernel
theorem d2_31 : decode method_3_code 31 = .ok (.if_icmp .le 14, 3) := by decide +kernel
theorem d2_34 : decode method_3_code 34 = .ok (.aload_n 0, 1) := by decide +kernel
theorem d2_35 : decode method_3_code 35 = .ok (.iload_n 1, 1) := by decide +kernel
theorem d2_36 : decode method_3_code 36 = .ok (.iconst 2, 1) := by decide +kernel
theorem d2_37 : decode method_3_code 37 = .ok (.iadd, 1) := by decide +kernel
theorem d2_38 : decode method_3_code 38 = .ok (.lload_n 2, 1) := by decide +kernel
theorem d2_39 : decode method_3_code 39 = .ok (.bipush 16, 2) := by decide +kernel
theorem d2_41 : decode method_3_code 41 = .ok (.lushr, 1) := by decide +kernel
theorem d2_42 : decode method_3_code 42 = .ok (.l2i, 1) := by decide +kernel
theorem d2_43 : decode method_3_code 43 = .ok (.i2b, 1) := by decide +kernel
theorem d2_44 : decode method_3_code 44 = .ok (.bastore, 1) := by decide +kernel
theorem d2_45 : decode method_3_code 45 = .ok (.iload 4, 2) := by decide +kernel
theorem d2_47 : decode method_3_code 47 = .ok (.iconst 3, 1) := by decide +kernel
theorem d2_48 : decode method_3_code 48 = .ok (.if_icmp .le 14, 3) := by decide +kernel
theorem d2_51 : decode method_3_code 51 = .ok (.aload_n 0, 1) := by decide +kernel
theorem d2_52 : decode method_3_code 52 = .ok (.iload_n 1, 1) := by decide +kernel
theorem d2_53 : decode method_3_code 53 = .ok (.iconst 3, 1) := by decide +kernel
theorem d2_54 : decode method_3_code 54 = .ok (.iadd, 1) := by decide +kernel
theorem d2_55 : decode method_3_code 55 = .ok (.lload_n 2, 1) := by decide +kernel
theorem d2_56 : decode method_3_code 56 = .ok (.bipush 24, 2) := by decide +kernel
theorem d2_58 : decode method_3_code 58 = .ok (.lushr, 1) := by decide +kernel
theorem d2_59 : decode method_3_code 59 = .ok (.l2i, 1) := by decide +kernel
theorem d2_60 : decode method_3_code 60 = .ok (.i2b, 1) := by decide +kernel
theorem d2_61 : decode method_3_code 61 = .ok (.bastore, 1) := by decide +kernel
theorem d2_62 : decode method_3_code 62 = .ok (.return_, 1) := by decide +kernel
theorem pn_2 : plainName "com/example/grenoble/grenoble/check/StateStoreHashPinLaw" = true := by first | (simp [plainName, overriddenIn]; done) | decide +kernel
theorem pf_2 : plainFor (⟨"com/example/grenoble/grenoble/check/StateStoreHashPinLaw", "place", "([BIJI)V"⟩ : MethodName) = true := plainFor_of_name pn_2
theorem pd_2 : parseMethodDescriptor "([BIJI)V" = some ⟨[(.array .byte), .int, .long, .int], none⟩ := by decide +kernel
theorem d3_0 : decode prog_19_method_15_code 0 = .ok (.ldc2_w 163, 3) := by decide +kernel
theorem d3_3 : decode prog_19_method_15_code 3 = .ok (.lstore_n 3, 1) := by decide +kernel
theorem d3_4 : decode prog_19_method_15_code 4 = .ok (.iload_n 1, 1) := by decide +kernel
theorem d3_5 : decode prog_19_method_15_code 5 = .ok (.istore 5, 2) := by decide +kernel
theorem d3_7 : decode prog_19_method_15_code 7 = .ok (.iload 5, 2) := by decide +kernel
theorem d3_9 : decode prog_19_method_15_code 9 = .ok (.iload_n 2, 1) := by decide +kernel
theorem d3_10 : decode prog_19_method_15_code 10 = .ok (.if_icmp .ge 25, 3) := by decide +kernel
theorem d3_13 : decode prog_19_method_15_code 13 = .ok (.lload_n 3, 1) := by decide +kernel
theorem d3_14 : decode prog_19_method_15_code 14 = .ok (.aload_n 0, 1) := by decide +kernel
theorem d3_15 : decode prog_19_method_15_code 15 = .ok (.iload 5, 2) := by decide +kernel
theorem d3_17 : decode prog_19_method_15_code 17 = .ok (.baload, 1) := by decide +kernel
theorem d3_18 : decode prog_19_method_15_code 18 = .ok (.sipush 255, 3) := by decide +kernel
theorem d3_21 : decode prog_19_method_15_code 21 = .ok (.iand, 1) := by decide +kernel
theorem d3_22 : decode prog_19_method_15_code 22 = .ok (.i2l, 1) := by decide +kernel
theorem d3_23 : decode prog_19_method_15_code 23 = .ok (.lxor, 1) := by decide +kernel
theorem d3_24 : decode prog_19_method_15_code 24 = .ok (.ldc2_w 165, 3) := by decide +kernel
theorem d3_27 : decode prog_19_method_15_code 27 = .ok (.lmul, 1) := by decide +kernel
theorem d3_28 : decode prog_19_method_15_code 28 = .ok (.lstore_n 3, 1) := by decide +kernel
theorem d3_29 : decode prog_19_method_15_code 29 = .ok (.iinc 5 1, 3) := by decide +kernel
theorem d3_32 : decode prog_19_method_15_code 32 = .ok (.goto (-25), 3) := by decide +kernel
theorem d3_35 : decode prog_19_method_15_code 35 = .ok (.lload_n 3, 1) := by decide +kernel
theorem d3_36 : decode prog_19_method_15_code 36 = .ok (.lload_n 3, 1) := by decide +kernel
theorem d3_37 : decode prog_19_method_15_code 37 = .ok (.bipush 33, 2) := by decide +kernel
theorem d3_39 : decode prog_19_method_15_code 39 = .ok (.lushr, 1) := by decide +kernel
theorem d3_40 : decode prog_19_method_15_code 40 = .ok (.lxor, 1) := by decide +kernel
theorem d3_41 : decode prog_19_method_15_code 41 = .ok (.lstore_n 3, 1) := by decide +kernel
theorem d3_42 : decode prog_19_method_15_code 42 = .ok (.lload_n 3, 1) := by decide +kernel
theorem d3_43 : decode prog_19_method_15_code 43 = .ok (.ldc2_w 167, 3) := by decide +kernel
theorem d3_46 : decode prog_19_method_15_code 46 = .ok (.lmul, 1) := by decide +kernel
theorem d3_47 : decode prog_19_method_15_code 47 = .ok (.lstore_n 3, 1) := by decide +kernel
theorem d3_48 : decode prog_19_method_15_code 48 = .ok (.lload_n 3, 1) := by decide +kernel
theorem d3_49 : decode prog_19_method_15_code 49 = .ok (.lload_n 3, 1) := by decide +kernel
theorem d3_50 : decode prog_19_method_15_code 50 = .ok (.bipush 33, 2) := by decide +kernel
theorem d3_52 : decode prog_19_method_15_code 52 = .ok (.lushr, 1) := by decide +kernel
theorem d3_53 : decode prog_19_method_15_code 53 = .ok (.lxor, 1) := by decide +kernel
theorem d3_54 : decode prog_19_method_15_code 54 = .ok (.lstore_n 3, 1) := by decide +kernel
theorem d3_55 : decode prog_19_method_15_code 55 = .ok (.lload_n 3, 1) := by decide +kernel
theorem d3_56 : decode prog_19_method_15_code 56 = .ok (.lreturn, 1) := by decide +kernel
theorem pn_3 : plainName "com/example/grenoble/grenoble/check/StateStore" = true := by first | (simp [plainName, overriddenIn]; done) | decide +kernel
theorem pf_3 : plainFor (⟨"com/example/grenoble/grenoble/check/StateStore", "hash", "([BII)J"⟩ : MethodName) = true := plainFor_of_name pn_3
theorem pd_3 : parseMethodDescriptor "([BII)J" = some ⟨[(.array .byte), .int, .int], (some .long)⟩ := by decide +kernel
/-! the plain law on the hash -/
def fnv (f : Nat → Int32) : Nat → Int64
  | 0 => -3750763034362895579
  | n + 1 => (fnv f n ^^^ (f n &&& 255).toInt64) * 1099511628211
def mixx (h : Int64) : Int64 := h ^^^ (h.toUInt64 >>> ((33 : Int32) &&& 0x3f).toInt64.toUInt64).toInt64
def mixH (h : Int64) : Int64 := mixx (mixx h * (-49064778989728563))
theorem mul_inj {x y P Q : Int64} (hPQ : P * Q = 1) (h : x * P = y * P) : x = y := by
  have q : x * P * Q = y * P * Q := by rw [h]
  rwa [Int64.mul_assoc, Int64.mul_assoc, hPQ, Int64.mul_one, Int64.mul_one] at q
theorem xs_bv (x : BitVec 64) : (x ^^^ (x >>> 33)) ^^^ ((x ^^^ (x >>> 33)) >>> 33) = x := by
  apply BitVec.eq_of_getLsbD_eq
  intro i hi
  have h : x.getLsbD (33 + (33 + i)) = false := BitVec.getLsbD_of_ge _ _ (by omega)
  simp only [BitVec.getLsbD_xor, BitVec.getLsbD_ushiftRight, h]
  cases x.getLsbD i <;> cases x.getLsbD (33 + i) <;> rfl
theorem mixx_bv (h : Int64) : (mixx h).toBitVec = h.toBitVec ^^^ (h.toBitVec >>> 33) := rfl
theorem mixx_mixx (h : Int64) : mixx (mixx h) = h := by
  apply Int64.toBitVec_inj.mp
  rw [mixx_bv, mixx_bv]
  exact xs_bv _
theorem mixx_inj {x y : Int64} (h : mixx x = mixx y) : x = y := by rw [← mixx_mixx x, h, mixx_mixx]
theorem mixH_inj {x y : Int64} (h : mixH x = mixH y) : x = y :=
  mixx_inj (mul_inj (Q := (5725274745694666757)) (by decide) (mixx_inj h))
theorem xor_inj {a b c : Int64} (h : a ^^^ c = b ^^^ c) : a = b := by
  have q : a ^^^ c ^^^ c = b ^^^ c ^^^ c := by rw [h]
  rwa [Int64.xor_assoc, Int64.xor_assoc, Int64.xor_self, Int64.xor_zero, Int64.xor_zero] at q
theorem xor_inj' {a b c : Int64} (h : c ^^^ a = c ^^^ b) : a = b := by
  rw [Int64.xor_comm c a, Int64.xor_comm c b] at h; exact xor_inj h
theorem fnv_same {f g : Nat → Int32} : ∀ n, (∀ i, i < n → f i = g i) → fnv f n = fnv g n
  | 0, _ => rfl
  | n + 1, h => by
    show (fnv f n ^^^ (f n &&& 255).toInt64) * 1099511628211 = (fnv g n ^^^ (g n &&& 255).toInt64) * 1099511628211
    rw [fnv_same n (fun i hi => h i (by omega)), h n (by omega)]
theorem i64_inj {x y : Int32} (h : x.toInt64 = y.toInt64) : x = y := by
  have q := congrArg Int64.toInt h
  rw [Int32.toInt_toInt64, Int32.toInt_toInt64] at q
  exact Int32.toInt_inj.mp q
theorem fnv_ne {f g : Nat → Int32} {k : Nat} (hk : (f k &&& 255) ≠ (g k &&& 255)) : ∀ n, k < n → (∀ i, i < n → i ≠ k → f i = g i) → fnv f n ≠ fnv g n
  | 0, h, _ => by omega
  | n + 1, h, hs => by
    intro q
    have q1 : fnv f n ^^^ (f n &&& 255).toInt64 = fnv g n ^^^ (g n &&& 255).toInt64 := mul_inj (P := 1099511628211) (Q := (-3560570117845248645)) (by decide) q
    by_cases e : n = k
    · subst e
      rw [fnv_same n (fun i hi => hs i (by omega) (by omega))] at q1
      exact hk (i64_inj (xor_inj' q1))
    · rw [hs n (by omega) e] at q1
      exact fnv_ne hk n (by omega) (fun i hi => hs i (by omega)) (xor_inj q1)
abbrev by8 (x : Int32) : Int32 := x.toInt8.toInt32
/-- xoring in 1 to 255 turns the low eight bits -/
theorem by8_low (x : Int32) : (by8 x) &&& 255 = x &&& 255 := by
  apply Int32.toBitVec_inj.mp
  show (x.toBitVec.signExtend 8).signExtend 32 &&& 255#32 = x.toBitVec &&& 255#32
  apply BitVec.eq_of_getLsbD_eq
  intro i hi
  have h255 : (255#32).getLsbD i = decide (i < 8) := by
    have : ∀ j : Fin 32, (255#32).getLsbD j.val = decide (j.val < 8) := by decide
    exact this ⟨i, hi⟩
  rw [BitVec.getLsbD_and, BitVec.getLsbD_and, h255]
  by_cases h8 : i < 8
  · rw [BitVec.getLsbD_signExtend, if_pos h8, BitVec.getLsbD_signExtend, if_pos hi]
    simp only [h8, hi, decide_true, Bool.true_and, Bool.and_true]
  · simp [h8]
theorem xor_turns {x d : Int32} (hd : (d &&& 255) ≠ 0) : (by8 (by8 (x ^^^ d)) &&& 255) ≠ (x &&& 255) := by
  rw [by8_low, by8_low]
  intro h
  apply hd
  have q : (x ^^^ d) &&& 255 = (x &&& 255) ^^^ (d &&& 255) := by
    apply Int32.toBitVec_inj.mp
    show (x.toBitVec ^^^ d.toBitVec) &&& 255#32 = (x.toBitVec &&& 255#32) ^^^ (d.toBitVec &&& 255#32)
    apply BitVec.eq_of_getLsbD_eq
    intro i hi
    simp only [BitVec.getLsbD_and, BitVec.getLsbD_xor]
    cases x.toBitVec.getLsbD i <;> cases d.toBitVec.getLsbD i <;> cases (255#32).getLsbD i <;> rfl
  rw [q] at h
  have q2 : (x &&& 255) ^^^ ((x &&& 255) ^^^ (d &&& 255)) = (x &&& 255) ^^^ (x &&& 255) := by rw [h]
  rwa [← Int32.xor_assoc, Int32.xor_self, Int32.zero_xor] at q2
/-! the arrays: n bytes of c laid from place o on -/
def ct (c : Int64) : Nat → Int32
  | 0 => by8 (by8 c.toInt32)
  | 1 => by8 (by8 (c.toUInt64 >>> ((8 : Int32) &&& 0x3f).toInt64.toUInt64).toInt64.toInt32)
  | 2 => by8 (by8 (c.toUInt64 >>> ((16 : Int32) &&& 0x3f).toInt64.toUInt64).toInt64.toInt32)
  | _ => by8 (by8 (c.toUInt64 >>> ((24 : Int32) &&& 0x3f).toInt64.toUInt64).toInt64.toInt32)
def placeL (ws : List Value) (o : Nat) (c : Int64) : Nat → List Value
  | 0 => ws
  | n + 1 => (placeL ws o c n).set (o + n) (.int (ct c n))
theorem placeL_len (ws : List Value) (o : Nat) (c : Int64) : ∀ n, (placeL ws o c n).length = ws.length
  | 0 => rfl
  | n + 1 => by rw [placeL, List.length_set]; exact placeL_len ws o c n
theorem getD_set (l : List Value) (i j : Nat) (v d : Value) (hi : i < l.length) : (l.set i v).getD j d = if j = i then v else l.getD j d := by
  rw [List.getD_eq_getElem?_getD, List.getD_eq_getElem?_getD, List.getElem?_set]
  by_cases e : i = j
  · subst e; rw [if_pos rfl, if_pos hi, if_pos rfl]; rfl
  · rw [if_neg e, if_neg (fun q => e q.symm)]
theorem placeL_at {ws : List Value} {o : Nat} (c : Int64) (d : Value) (hw : ws.length = 8) : ∀ n, o + n ≤ 8 → ∀ i, i < n → (placeL ws o c n).getD (o + i) d = .int (ct c i)
  | 0, _, i, hi => absurd hi (by omega)
  | n + 1, ho, i, hi => by
    rw [placeL, getD_set _ _ _ _ _ (by rw [placeL_len, hw]; omega)]
    by_cases e : i = n
    · subst e; rw [if_pos rfl]
    · rw [if_neg (by omega)]; exact placeL_at c d hw n (by omega) i (by omega)
theorem ix_nat {j : Int32} {n : Nat} (h : j.toInt = (n : Int)) : j.toNatClampNeg = n := by
  show j.toInt.toNat = n
  rw [h]; rfl
theorem ix_nn {j : Int32} {n : Nat} (h : j.toInt = (n : Int)) : ¬ j < 0 := by
  have e0 : (0 : Int32).toInt = 0 := by decide
  rw [Int32.lt_iff_toInt_lt, h, e0]; omega
theorem ix_lt {j m : Int32} {n k : Nat} (h : j.toInt = (n : Int)) (hm : m.toInt = (k : Int)) (hn : n < k) : j < m := by
  rw [Int32.lt_iff_toInt_lt, h, hm]; omega
theorem ix_nlt {j m : Int32} {n k : Nat} (h : j.toInt = (n : Int)) (hm : m.toInt = (k : Int)) (hn : k ≤ n) : ¬ j < m := by
  rw [Int32.lt_iff_toInt_lt, h, hm]; omega
theorem ix_add {p q : Int32} {o i : Nat} (h : p.toInt = (o : Int)) (hq : q.toInt = (i : Int)) (hb : o + i < 1000) : (p + q).toInt = ((o + i : Nat) : Int) := by
  have h1 := c_iadd p q
  have h2 := rng32 (p + q)
  rw [h, hq] at h1
  omega

theorem ef_1 (p1 : Int64) (m : MethodId) : entryFrame m #[(.long p1)] 3 = mkF m 0 #[.val (.long p1), .second, .unset] [] := by first | (simp [entryFrame, mkF, argsToLocals, Value.category]; done) | rfl
set_option maxRecDepth 65536 in
set_option maxHeartbeats 40000000 in
theorem rm1 (l : Launch) (Z : State) (a0 : Array Value) (hw : ∀ d ∈ tables_1, d.before a0 Z = true) (p1 : Int64) (h0 : Heap) (n0 : Nat) (Z0 : n0 ≤ h0.size)   :
    Ctr l Z (⟨"com/example/grenoble/grenoble/check/StateStoreHashPinLaw", "fill", "(J)[B"⟩ : MethodName) method_2_code 3 (some (.array .byte)) ({ frames := 0, cells := 1, slots := 8, locals := 0 } : Room) #[(.long p1)] h0 (fun v h L => ∃ b k ws, v = some (.ref b) ∧ Fr n0 L ∧ Keep h0 h [] ∧ h0.size ≤ b ∧ ws.length = 8 ∧ Arv Z h b k .byte 8 ws (.int 0)) := by
  refine Ctr.of pf_1 (ef_1 p1) ?_
  intro p e s m below meth c T0 hx hby hml hret hlk hnm hZ hown e0 X0
  refine Go.by (g' := (mkF m 2 #[.val (.long p1), .second, .unset] [(.int (8 : Int32))])) (fun _ k => XS.bipush X0.here hx rfl (hb hby d1_0) k) ?_
  obtain ⟨T1, h1, k1, X1, e1, E1, A1, st1⟩ := newP X0 hx hZ (hw _ (List.mem_of_getElem? (i := 4) rfl)) e0 (g := (mkF m 2 #[.val (.long p1), .second, .unset] [(.int (8 : Int32))])) rfl (hb hby d1_2) rfl (by decide) (cap := 8) (by decide) (by decide) (by decide) (by decide)
  obtain ⟨b, g1⟩ : ∃ z, z = h0.size := ⟨_, rfl⟩
  rw [← g1] at A1 st1
  have ge_b : n0 ≤ b := Nat.le_trans Z0 (Nat.le_of_eq g1.symm)
  have sz_b : h0.size ≤ b := Nat.le_trans (Keep.refl h0 []).1 (Nat.le_of_eq g1.symm)
  have Z1 : n0 ≤ h1.size := Nat.le_trans Z0 E1.1
  have KP1 : Keep h0 h1 [] := (Keep.refl h0 []).ext E1
  refine Go.by (g' := (mkF m 4 #[.val (.long p1), .second, .unset] [(.ref b)])) st1 ?_
  have V0 : Arv Z h1 b k1 .byte 8 [.int 0, .int 0, .int 0, .int 0, .int 0, .int 0, .int 0, .int 0] (.int 0) := (Arv.new A1 (by decide)).pad (pad_rep [] _ 8)
  refine Go.by (g' := (mkF m 5 #[.val (.long p1), .second, .val (.ref b)] [])) (fun _ k => XS.astoreN X1.here hx rfl (hb hby d1_4) rfl rfl (l' := #[.val (.long p1), .second, .val (.ref b)]) rfl k) ?_
  refine Go.by (g' := (mkF m 6 #[.val (.long p1), .second, .val (.ref b)] [(.ref b)])) (fun _ k => XS.aloadN X1.here hx rfl (hb hby d1_5) rfl rfl k) ?_
  refine Go.by (g' := (mkF m 7 #[.val (.long p1), .second, .val (.ref b)] [(.int (0 : Int32)), (.ref b)])) (fun _ k => XS.iconst X1.here hx rfl (hb hby d1_6) k) ?_
  refine Go.by (g' := (mkF m 8 #[.val (.long p1), .second, .val (.ref b)] [(.long p1), (.int (0 : Int32)), (.ref b)])) (fun _ k => XS.lloadN X1.here hx rfl (hb hby d1_7) rfl k) ?_
  refine Go.by (g' := (mkF m 9 #[.val (.long p1), .second, .val (.ref b)] [(.int (p1.toInt32)), (.int (0 : Int32)), (.ref b)])) (fun _ k => XS.l2i X1.here hx rfl (hb hby d1_8) rfl k) ?_
  refine Go.by (g' := (mkF m 10 #[.val (.long p1), .second, .val (.ref b)] [(.int ((p1.toInt32).toInt8.toInt32)), (.int (0 : Int32)), (.ref b)])) (fun _ k => XS.i2b X1.here hx rfl (hb hby d1_9) rfl k) ?_
  obtain ⟨T2, h2, X2, e2, W2, V2, st2⟩ := stBA X1 hx hZ e1 V0 0 rfl (by decide) (by decide) (by simp) (g := (mkF m 10 #[.val (.long p1), .second, .val (.ref b)] [(.int ((p1.toInt32).toInt8.toInt32)), (.int (0 : Int32)), (.ref b)])) rfl rfl (hb hby d1_10)
  have Z2 : n0 ≤ h2.size := Nat.le_trans Z1 (Nat.le_of_eq W2.size.symm)
  have M2 := Fr.snoc X2 (Fr.nil n0) ge_b
  have KP2 : Keep h0 h2 [] := KP1.wr W2 (Or.inr sz_b)
  refine Go.by (g' := (mkF m 11 #[.val (.long p1), .second, .val (.ref b)] [])) st2 ?_
  refine Go.by (g' := (mkF m 12 #[.val (.long p1), .second, .val (.ref b)] [(.ref b)])) (fun _ k => XS.aloadN X2.here hx rfl (hb hby d1_11) rfl rfl k) ?_
  refine Go.by (g' := (mkF m 13 #[.val (.long p1), .second, .val (.ref b)] [(.int (1 : Int32)), (.ref b)])) (fun _ k => XS.iconst X2.here hx rfl (hb hby d1_12) k) ?_
  refine Go.by (g' := (mkF m 14 #[.val (.long p1), .second, .val (.ref b)] [(.long p1), (.int (1 : Int32)), (.ref b)])) (fun _ k => XS.lloadN X2.here hx rfl (hb hby d1_13) rfl k) ?_
  refine Go.by (g' := (mkF m 16 #[.val (.long p1), .second, .val (.ref b)] [(.int (8 : Int32)), (.long p1), (.int (1 : Int32)), (.ref b)])) (fun _ k => XS.bipush X2.here hx rfl (hb hby d1_14) k) ?_
  refine Go.by (g' := (mkF m 17 #[.val (.long p1), .second, .val (.ref b)] [(.long (usL p1 (8 : Int32))), (.int (1 : Int32)), (.ref b)])) (fun _ k => XS.lushr X2.here hx rfl (hb hby d1_16) rfl k) ?_
  refine Go.by (g' := (mkF m 18 #[.val (.long p1), .second, .val (.ref b)] [(.int ((usL p1 (8 : Int32)).toInt32)), (.int (1 : Int32)), (.ref b)])) (fun _ k => XS.l2i X2.here hx rfl (hb hby d1_17) rfl k) ?_
  refine Go.by (g' := (mkF m 19 #[.val (.long p1), .second, .val (.ref b)] [(.int (((usL p1 (8 : Int32)).toInt32).toInt8.toInt32)), (.int (1 : Int32)), (.ref b)])) (fun _ k => XS.i2b X2.here hx rfl (hb hby d1_18) rfl k) ?_
  obtain ⟨T3, h3, X3, e3, W3, V3, st3⟩ := stBA X2 hx hZ e2 V2 1 rfl (by decide) (by decide) (by simp) (g := (mkF m 19 #[.val (.long p1), .second, .val (.ref b)] [(.int (((usL p1 (8 : Int32)).toInt32).toInt8.toInt32)), (.int (1 : Int32)), (.ref b)])) rfl rfl (hb hby d1_19)
  have Z3 : n0 ≤ h3.size := Nat.le_trans Z2 (Nat.le_of_eq W3.size.symm)
  have M3 := Fr.snoc X3 M2 ge_b
  have KP3 : Keep h0 h3 [] := KP2.wr W3 (Or.inr sz_b)
  refine Go.by (g' := (mkF m 20 #[.val (.long p1), .second, .val (.ref b)] [])) st3 ?_
  refine Go.by (g' := (mkF m 21 #[.val (.long p1), .second, .val (.ref b)] [(.ref b)])) (fun _ k => XS.aloadN X3.here hx rfl (hb hby d1_20) rfl rfl k) ?_
  refine Go.by (g' := (mkF m 22 #[.val (.long p1), .second, .val (.ref b)] [(.int (2 : Int32)), (.ref b)])) (fun _ k => XS.iconst X3.here hx rfl (hb hby d1_21) k) ?_
  refine Go.by (g' := (mkF m 23 #[.val (.long p1), .second, .val (.ref b)] [(.long p1), (.int (2 : Int32)), (.ref b)])) (fun _ k => XS.lloadN X3.here hx rfl (hb hby d1_22) rfl k) ?_
  refine Go.by (g' := (mkF m 25 #[.val (.long p1), .second, .val (.ref b)] [(.int (16 : Int32)), (.long p1), (.int (2 : Int32)), (.ref b)])) (fun _ k => XS.bipush X3.here hx rfl (hb hby d1_23) k) ?_
  refine Go.by (g' := (mkF m 26 #[.val (.long p1), .second, .val (.ref b)] [(.long (usL p1 (16 : Int32))), (.int (2 : Int32)), (.ref b)])) (fun _ k => XS.lushr X3.here hx rfl (hb hby d1_25) rfl k) ?_
  refine Go.by (g' := (mkF m 27 #[.val (.long p1), .second, .val (.ref b)] [(.int ((usL p1 (16 : Int32)).toInt32)), (.int (2 : Int32)), (.ref b)])) (fun _ k => XS.l2i X3.here hx rfl (hb hby d1_26) rfl k) ?_
  refine Go.by (g' := (mkF m 28 #[.val (.long p1), .second, .val (.ref b)] [(.int (((usL p1 (16 : Int32)).toInt32).toInt8.toInt32)), (.int (2 : Int32)), (.ref b)])) (fun _ k => XS.i2b X3.here hx rfl (hb hby d1_27) rfl k) ?_
  obtain ⟨T4, h4, X4, e4, W4, V4, st4⟩ := stBA X3 hx hZ e3 V3 2 rfl (by decide) (by decide) (by simp) (g := (mkF m 28 #[.val (.long p1), .second, .val (.ref b)] [(.int (((usL p1 (16 : Int32)).toInt32).toInt8.toInt32)), (.int (2 : Int32)), (.ref b)])) rfl rfl (hb hby d1_28)
  have Z4 : n0 ≤ h4.size := Nat.le_trans Z3 (Nat.le_of_eq W4.size.symm)
  have M4 := Fr.snoc X4 M3 ge_b
  have KP4 : Keep h0 h4 [] := KP3.wr W4 (Or.inr sz_b)
  refine Go.by (g' := (mkF m 29 #[.val (.long p1), .second, .val (.ref b)] [])) st4 ?_
  refine Go.by (g' := (mkF m 30 #[.val (.long p1), .second, .val (.ref b)] [(.ref b)])) (fun _ k => XS.aloadN X4.here hx rfl (hb hby d1_29) rfl rfl k) ?_
  refine Go.by (g' := (mkF m 31 #[.val (.long p1), .second, .val (.ref b)] [(.int (3 : Int32)), (.ref b)])) (fun _ k => XS.iconst X4.here hx rfl (hb hby d1_30) k) ?_
  refine Go.by (g' := (mkF m 32 #[.val (.long p1), .second, .val (.ref b)] [(.long p1), (.int (3 : Int32)), (.ref b)])) (fun _ k => XS.lloadN X4.here hx rfl (hb hby d1_31) rfl k) ?_
  refine Go.by (g' := (mkF m 34 #[.val (.long p1), .second, .val (.ref b)] [(.int (24 : Int32)), (.long p1), (.int (3 : Int32)), (.ref b)])) (fun _ k => XS.bipush X4.here hx rfl (hb hby d1_32) k) ?_
  refine Go.by (g' := (mkF m 35 #[.val (.long p1), .second, .val (.ref b)] [(.long (usL p1 (24 : Int32))), (.int (3 : Int32)), (.ref b)])) (fun _ k => XS.lushr X4.here hx rfl (hb hby d1_34) rfl k) ?_
  refine Go.by (g' := (mkF m 36 #[.val (.long p1), .second, .val (.ref b)] [(.int ((usL p1 (24 : Int32)).toInt32)), (.int (3 : Int32)), (.ref b)])) (fun _ k => XS.l2i X4.here hx rfl (hb hby d1_35) rfl k) ?_
  refine Go.by (g' := (mkF m 37 #[.val (.long p1), .second, .val (.ref b)] [(.int (((usL p1 (24 : Int32)).toInt32).toInt8.toInt32)), (.int (3 : Int32)), (.ref b)])) (fun _ k => XS.i2b X4.here hx rfl (hb hby d1_36) rfl k) ?_
  obtain ⟨T5, h5, X5, e5, W5, V5, st5⟩ := stBA X4 hx hZ e4 V4 3 rfl (by decide) (by decide) (by simp) (g := (mkF m 37 #[.val (.long p1), .second, .val (.ref b)] [(.int (((usL p1 (24 : Int32)).toInt32).toInt8.toInt32)), (.int (3 : Int32)), (.ref b)])) rfl rfl (hb hby d1_37)
  have Z5 : n0 ≤ h5.size := Nat.le_trans Z4 (Nat.le_of_eq W5.size.symm)
  have M5 := Fr.snoc X5 M4 ge_b
  have KP5 : Keep h0 h5 [] := KP4.wr W5 (Or.inr sz_b)
  refine Go.by (g' := (mkF m 38 #[.val (.long p1), .second, .val (.ref b)] [])) st5 ?_
  refine Go.by (g' := (mkF m 39 #[.val (.long p1), .second, .val (.ref b)] [(.ref b)])) (fun _ k => XS.aloadN X5.here hx rfl (hb hby d1_38) rfl rfl k) ?_
  refine Go.by (g' := (mkF m 40 #[.val (.long p1), .second, .val (.ref b)] [(.int (4 : Int32)), (.ref b)])) (fun _ k => XS.iconst X5.here hx rfl (hb hby d1_39) k) ?_
  refine Go.by (g' := (mkF m 41 #[.val (.long p1), .second, .val (.ref b)] [(.long p1), (.int (4 : Int32)), (.ref b)])) (fun _ k => XS.lloadN X5.here hx rfl (hb hby d1_40) rfl k) ?_
  refine Go.by (g' := (mkF m 43 #[.val (.long p1), .second, .val (.ref b)] [(.int (32 : Int32)), (.long p1), (.int (4 : Int32)), (.ref b)])) (fun _ k => XS.bipush X5.here hx rfl (hb hby d1_41) k) ?_
  refine Go.by (g' := (mkF m 44 #[.val (.long p1), .second, .val (.ref b)] [(.long (usL p1 (32 : Int32))), (.int (4 : Int32)), (.ref b)])) (fun _ k => XS.lushr X5.here hx rfl (hb hby d1_43) rfl k) ?_
  refine Go.by (g' := (mkF m 45 #[.val (.long p1), .second, .val (.ref b)] [(.int ((usL p1 (32 : Int32)).toInt32)), (.int (4 : Int32)), (.ref b)])) (fun _ k => XS.l2i X5.here hx rfl (hb hby d1_44) rfl k) ?_
  refine Go.by (g' := (mkF m 46 #[.val (.long p1), .second, .val (.ref b)] [(.int (((usL p1 (32 : Int32)).toInt32).toInt8.toInt32)), (.int (4 : Int32)), (.ref b)])) (fun _ k => XS.i2b X5.here hx rfl (hb hby d1_45) rfl k) ?_
  obtain ⟨T6, h6, X6, e6, W6, V6, st6⟩ := stBA X5 hx hZ e5 V5 4 rfl (by decide) (by decide) (by simp) (g := (mkF m 46 #[.val (.long p1), .second, .val (.ref b)] [(.int (((usL p1 (32 : Int32)).toInt32).toInt8.toInt32)), (.int (4 : Int32)), (.ref b)])) rfl rfl (hb hby d1_46)
  have Z6 : n0 ≤ h6.size := Nat.le_trans Z5 (Nat.le_of_eq W6.size.symm)
  have M6 := Fr.snoc X6 M5 ge_b
  have KP6 : Keep h0 h6 [] := KP5.wr W6 (Or.inr sz_b)
  refine Go.by (g' := (mkF m 47 #[.val (.long p1), .second, .val (.ref b)] [])) st6 ?_
  refine Go.by (g' := (mkF m 48 #[.val (.long p1), .second, .val (.ref b)] [(.ref b)])) (fun _ k => XS.aloadN X6.here hx rfl (hb hby d1_47) rfl rfl k) ?_
  refine Go.by (g' := (mkF m 49 #[.val (.long p1), .second, .val (.ref b)] [(.int (5 : Int32)), (.ref b)])) (fun _ k => XS.iconst X6.here hx rfl (hb hby d1_48) k) ?_
  refine Go.by (g' := (mkF m 50 #[.val (.long p1), .second, .val (.ref b)] [(.long p1), (.int (5 : Int32)), (.ref b)])) (fun _ k => XS.lloadN X6.here hx rfl (hb hby d1_49) rfl k) ?_
  refine Go.by (g' := (mkF m 52 #[.val (.long p1), .second, .val (.ref b)] [(.int (40 : Int32)), (.long p1), (.int (5 : Int32)), (.ref b)])) (fun _ k => XS.bipush X6.here hx rfl (hb hby d1_50) k) ?_
  refine Go.by (g' := (mkF m 53 #[.val (.long p1), .second, .val (.ref b)] [(.long (usL p1 (40 : Int32))), (.int (5 : Int32)), (.ref b)])) (fun _ k => XS.lushr X6.here hx rfl (hb hby d1_52) rfl k) ?_
  refine Go.by (g' := (mkF m 54 #[.val (.long p1), .second, .val (.ref b)] [(.int ((usL p1 (40 : Int32)).toInt32)), (.int (5 : Int32)), (.ref b)])) (fun _ k => XS.l2i X6.here hx rfl (hb hby d1_53) rfl k) ?_
  refine Go.by (g' := (mkF m 55 #[.val (.long p1), .second, .val (.ref b)] [(.int (((usL p1 (40 : Int32)).toInt32).toInt8.toInt32)), (.int (5 : Int32)), (.ref b)])) (fun _ k => XS.i2b X6.here hx rfl (hb hby d1_54) rfl k) ?_
  obtain ⟨T7, h7, X7, e7, W7, V7, st7⟩ := stBA X6 hx hZ e6 V6 5 rfl (by decide) (by decide) (by simp) (g := (mkF m 55 #[.val (.long p1), .second, .val (.ref b)] [(.int (((usL p1 (40 : Int32)).toInt32).toInt8.toInt32)), (.int (5 : Int32)), (.ref b)])) rfl rfl (hb hby d1_55)
  have Z7 : n0 ≤ h7.size := Nat.le_trans Z6 (Nat.le_of_eq W7.size.symm)
  have M7 := Fr.snoc X7 M6 ge_b
  have KP7 : Keep h0 h7 [] := KP6.wr W7 (Or.inr sz_b)
  refine Go.by (g' := (mkF m 56 #[.val (.long p1), .second, .val (.ref b)] [])) st7 ?_
  refine Go.by (g' := (mkF m 57 #[.val (.long p1), .second, .val (.ref b)] [(.ref b)])) (fun _ k => XS.aloadN X7.here hx rfl (hb hby d1_56) rfl rfl k) ?_
  refine Go.by (g' := (mkF m 59 #[.val (.long p1), .second, .val (.ref b)] [(.int (6 : Int32)), (.ref b)])) (fun _ k => XS.bipush X7.here hx rfl (hb hby d1_57) k) ?_
  refine Go.by (g' := (mkF m 60 #[.val (.long p1), .second, .val (.ref b)] [(.long p1), (.int (6 : Int32)), (.ref b)])) (fun _ k => XS.lloadN X7.here hx rfl (hb hby d1_59) rfl k) ?_
  refine Go.by (g' := (mkF m 62 #[.val (.long p1), .second, .val (.ref b)] [(.int (48 : Int32)), (.long p1), (.int (6 : Int32)), (.ref b)])) (fun _ k => XS.bipush X7.here hx rfl (hb hby d1_60) k) ?_
  refine Go.by (g' := (mkF m 63 #[.val (.long p1), .second, .val (.ref b)] [(.long (usL p1 (48 : Int32))), (.int (6 : Int32)), (.ref b)])) (fun _ k => XS.lushr X7.here hx rfl (hb hby d1_62) rfl k) ?_
  refine Go.by (g' := (mkF m 64 #[.val (.long p1), .second, .val (.ref b)] [(.int ((usL p1 (48 : Int32)).toInt32)), (.int (6 : Int32)), (.ref b)])) (fun _ k => XS.l2i X7.here hx rfl (hb hby d1_63) rfl k) ?_
  refine Go.by (g' := (mkF m 65 #[.val (.long p1), .second, .val (.ref b)] [(.int (((usL p1 (48 : Int32)).toInt32).toInt8.toInt32)), (.int (6 : Int32)), (.ref b)])) (fun _ k => XS.i2b X7.here hx rfl (hb hby d1_64) rfl k) ?_
  obtain ⟨T8, h8, X8, e8, W8, V8, st8⟩ := stBA X7 hx hZ e7 V7 6 rfl (by decide) (by decide) (by simp) (g := (mkF m 65 #[.val (.long p1), .second, .val (.ref b)] [(.int (((usL p1 (48 : Int32)).toInt32).toInt8.toInt32)), (.int (6 : Int32)), (.ref b)])) rfl rfl (hb hby d1_65)
  have Z8 : n0 ≤ h8.size := Nat.le_trans Z7 (Nat.le_of_eq W8.size.symm)
  have M8 := Fr.snoc X8 M7 ge_b
  have KP8 : Keep h0 h8 [] := KP7.wr W8 (Or.inr sz_b)
  refine Go.by (g' := (mkF m 66 #[.val (.long p1), .second, .val (.ref b)] [])) st8 ?_
  refine Go.by (g' := (mkF m 67 #[.val (.long p1), .second, .val (.ref b)] [(.ref b)])) (fun _ k => XS.aloadN X8.here hx rfl (hb hby d1_66) rfl rfl k) ?_
  refine Go.by (g' := (mkF m 69 #[.val (.long p1), .second, .val (.ref b)] [(.int (7 : Int32)), (.ref b)])) (fun _ k => XS.bipush X8.here hx rfl (hb hby d1_67) k) ?_
  refine Go.by (g' := (mkF m 70 #[.val (.long p1), .second, .val (.ref b)] [(.long p1), (.int (7 : Int32)), (.ref b)])) (fun _ k => XS.lloadN X8.here hx rfl (hb hby d1_69) rfl k) ?_
  refine Go.by (g' := (mkF m 72 #[.val (.long p1), .second, .val (.ref b)] [(.int (56 : Int32)), (.long p1), (.int (7 : Int32)), (.ref b)])) (fun _ k => XS.bipush X8.here hx rfl (hb hby d1_70) k) ?_
  refine Go.by (g' := (mkF m 73 #[.val (.long p1), .second, .val (.ref b)] [(.long (usL p1 (56 : Int32))), (.int (7 : Int32)), (.ref b)])) (fun _ k => XS.lushr X8.here hx rfl (hb hby d1_72) rfl k) ?_
  refine Go.by (g' := (mkF m 74 #[.val (.long p1), .second, .val (.ref b)] [(.int ((usL p1 (56 : Int32)).toInt32)), (.int (7 : Int32)), (.ref b)])) (fun _ k => XS.l2i X8.here hx rfl (hb hby d1_73) rfl k) ?_
  refine Go.by (g' := (mkF m 75 #[.val (.long p1), .second, .val (.ref b)] [(.int (((usL p1 (56 : Int32)).toInt32).toInt8.toInt32)), (.int (7 : Int32)), (.ref b)])) (fun _ k => XS.i2b X8.here hx rfl (hb hby d1_74) rfl k) ?_
  obtain ⟨T9, h9, X9, e9, W9, V9, st9⟩ := stBA X8 hx hZ e8 V8 7 rfl (by decide) (by decide) (by simp) (g := (mkF m 75 #[.val (.long p1), .second, .val (.ref b)] [(.int (((usL p1 (56 : Int32)).toInt32).toInt8.toInt32)), (.int (7 : Int32)), (.ref b)])) rfl rfl (hb hby d1_75)
  have Z9 : n0 ≤ h9.size := Nat.le_trans Z8 (Nat.le_of_eq W9.size.symm)
  have M9 := Fr.snoc X9 M8 ge_b
  have KP9 : Keep h0 h9 [] := KP8.wr W9 (Or.inr sz_b)
  refine Go.by (g' := (mkF m 76 #[.val (.long p1), .second, .val (.ref b)] [])) st9 ?_
  refine Go.by (g' := (mkF m 77 #[.val (.long p1), .second, .val (.ref b)] [(.ref b)])) (fun _ k => XS.aloadN X9.here hx rfl (hb hby d1_76) rfl rfl k) ?_
  exact Go.outA X9 hx hret (Lv.narrow X9 hlk (by decide) (by decide)) rfl rfl (hb hby d1_77) (by rw [e9]; exact ⟨b, k1, _, rfl, M9, KP9, sz_b, rfl, V9⟩)
theorem ef_2 (a1 : Addr) (p2 : Int32) (p3 : Int64) (p4 : Int32) (m : MethodId) : entryFrame m #[(.ref a1), (.int p2), (.long p3), (.int p4)] 5 = mkF m 0 #[.val (.ref a1), .val (.int p2), .val (.long p3), .second, .val (.int p4)] [] := by first | (simp [entryFrame, mkF, argsToLocals, Value.category]; done) | rfl
set_option maxRecDepth 65536 in
set_option maxHeartbeats 40000000 in
theorem rm2 (l : Launch) (Z : State) (a0 : Array Value) (hw : ∀ d ∈ tables_1, d.before a0 Z = true) (a1 : Addr) (p2 : Int32) (p3 : Int64) (p4 : Int32) (h0 : Heap) (n0 : Nat) (k : ClassId) (ws : List Value) (o nn : Nat) (V : Arv Z h0 a1 k .byte 8 ws (.int 0)) (hws : ws.length = 8) (g1 : n0 ≤ a1) (h2 : p2.toInt = (o : Int)) (ho : o ≤ 3) (hl : (p4 = 0 ∧ nn = 0) ∨ (p4 = 1 ∧ nn = 1) ∨ (p4 = 2 ∧ nn = 2) ∨ (p4 = 3 ∧ nn = 3) ∨ (p4 = 4 ∧ nn = 4)) :
    Ctr l Z (⟨"com/example/grenoble/grenoble/check/StateStoreHashPinLaw", "place", "([BIJI)V"⟩ : MethodName) method_3_code 5 none ({ frames := 0, cells := 0, slots := 0, locals := 0 } : Room) #[(.ref a1), (.int p2), (.long p3), (.int p4)] h0 (fun v h L => v = none ∧ Fr n0 L ∧ Keep h0 h [a1] ∧ Arv Z h a1 k .byte 8 (placeL ws o p3 nn) (.int 0)) := by
  refine Ctr.of pf_2 (ef_2 a1 p2 p3 p4) ?_
  intro p e s m below meth c T0 hx hby hml hret hlk hnm hZ hown e0 X0
  rcases hl with ⟨rfl, rfl⟩ | ⟨rfl, rfl⟩ | ⟨rfl, rfl⟩ | ⟨rfl, rfl⟩ | ⟨rfl, rfl⟩
  · refine Go.by (g' := (mkF m 2 #[.val (.ref a1), .val (.int p2), .val (.long p3), .second, .val (.int (0 : Int32))] [(.int (0 : Int32))])) (fun _ k => XS.iload X0.here hx rfl (hb hby d2_0) rfl k) ?_
    refine Go.by (g' := (mkF m 11 #[.val (.ref a1), .val (.int p2), .val (.long p3), .second, .val (.int (0 : Int32))] [])) (fun _ k => XS.ifYes X0.here hx rfl (pc0 := 2) (pc' := 11) rfl (hb hby d2_2) rfl ((if0 _ _).trans (flt (by decide)).2.2.2) (by decide) (by decide) k) ?_
    refine Go.by (g' := (mkF m 13 #[.val (.ref a1), .val (.int p2), .val (.long p3), .second, .val (.int (0 : Int32))] [(.int (0 : Int32))])) (fun _ k => XS.iload X0.here hx rfl (hb hby d2_11) rfl k) ?_
    refine Go.by (g' := (mkF m 14 #[.val (.ref a1), .val (.int p2), .val (.long p3), .second, .val (.int (0 : Int32))] [(.int (1 : Int32)), (.int (0 : Int32))])) (fun _ k => XS.iconst X0.here hx rfl (hb hby d2_13) k) ?_
    refine Go.by (g' := (mkF m 28 #[.val (.ref a1), .val (.int p2), .val (.long p3), .second, .val (.int (0 : Int32))] [])) (fun _ k => XS.icmpYes X0.here hx rfl (pc0 := 14) (pc' := 28) rfl (hb hby d2_14) rfl (flt (by decide)).2.2.2 (by decide) (by decide) k) ?_
    refine Go.by (g' := (mkF m 30 #[.val (.ref a1), .val (.int p2), .val (.long p3), .second, .val (.int (0 : Int32))] [(.int (0 : Int32))])) (fun _ k => XS.iload X0.here hx rfl (hb hby d2_28) rfl k) ?_
    refine Go.by (g' := (mkF m 31 #[.val (.ref a1), .val (.int p2), .val (.long p3), .second, .val (.int (0 : Int32))] [(.int (2 : Int32)), (.int (0 : Int32))])) (fun _ k => XS.iconst X0.here hx rfl (hb hby d2_30) k) ?_
    refine Go.by (g' := (mkF m 45 #[.val (.ref a1), .val (.int p2), .val (.long p3), .second, .val (.int (0 : Int32))] [])) (fun _ k => XS.icmpYes X0.here hx rfl (pc0 := 31) (pc' := 45) rfl (hb hby d2_31) rfl (flt (by decide)).2.2.2 (by decide) (by decide) k) ?_
    refine Go.by (g' := (mkF m 47 #[.val (.ref a1), .val (.int p2), .val (.long p3), .second, .val (.int (0 : Int32))] [(.int (0 : Int32))])) (fun _ k => XS.iload X0.here hx rfl (hb hby d2_45) rfl k) ?_
    refine Go.by (g' := (mkF m 48 #[.val (.ref a1), .val (.int p2), .val (.long p3), .second, .val (.int (0 : Int32))] [(.int (3 : Int32)), (.int (0 : Int32))])) (fun _ k => XS.iconst X0.here hx rfl (hb hby d2_47) k) ?_
    refine Go.by (g' := (mkF m 62 #[.val (.ref a1), .val (.int p2), .val (.long p3), .second, .val (.int (0 : Int32))] [])) (fun _ k => XS.icmpYes X0.here hx rfl (pc0 := 48) (pc' := 62) rfl (hb hby d2_48) rfl (flt (by decide)).2.2.2 (by decide) (by decide) k) ?_
    exact Go.outN X0 hx hret (Lv.narrow X0 hlk (by decide) (by decide)) (hb hby d2_62) (by rw [e0]; exact ⟨rfl, (Fr.nil n0), (Keep.refl h0 [a1]), V⟩)
  · refine Go.by (g' := (mkF m 2 #[.val (.ref a1), .val (.int p2), .val (.long p3), .second, .val (.int (1 : Int32))] [(.int (1 : Int32))])) (fun _ k => XS.iload X0.here hx rfl (hb hby d2_0) rfl k) ?_
    refine Go.by (g' := (mkF m 5 #[.val (.ref a1), .val (.int p2), .val (.long p3), .second, .val (.int (1 : Int32))] [])) (fun _ k => XS.ifNo X0.here hx rfl (hb hby d2_2) rfl ((if0 _ _).trans (tlt (by decide)).2.2.2) k) ?_
    refine Go.by (g' := (mkF m 6 #[.val (.ref a1), .val (.int p2), .val (.long p3), .second, .val (.int (1 : Int32))] [(.ref a1)])) (fun _ k => XS.aloadN X0.here hx rfl (hb hby d2_5) rfl rfl k) ?_
    refine Go.by (g' := (mkF m 7 #[.val (.ref a1), .val (.int p2), .val (.long p3), .second, .val (.int (1 : Int32))] [(.int p2), (.ref a1)])) (fun _ k => XS.iloadN X0.here hx rfl (hb hby d2_6) rfl k) ?_
    refine Go.by (g' := (mkF m 8 #[.val (.ref a1), .val (.int p2), .val (.long p3), .second, .val (.int (1 : Int32))] [(.long p3), (.int p2), (.ref a1)])) (fun _ k => XS.lloadN X0.here hx rfl (hb hby d2_7) rfl k) ?_
    refine Go.by (g' := (mkF m 9 #[.val (.ref a1), .val (.int p2), .val (.long p3), .second, .val (.int (1 : Int32))] [(.int (p3.toInt32)), (.int p2), (.ref a1)])) (fun _ k => XS.l2i X0.here hx rfl (hb hby d2_8) rfl k) ?_
    refine Go.by (g' := (mkF m 10 #[.val (.ref a1), .val (.int p2), .val (.long p3), .second, .val (.int (1 : Int32))] [(.int ((p3.toInt32).toInt8.toInt32)), (.int p2), (.ref a1)])) (fun _ k => XS.i2b X0.here hx rfl (hb hby d2_9) rfl k) ?_
    obtain ⟨T10, h10, X10, e10, W10, V10, st10⟩ := stBA X0 hx hZ e0 V o (ix_nat h2) (ix_nn h2) (ix_lt h2 (by decide : (8 : Int32).toInt = ((8 : Nat) : Int)) (by omega)) (by simp only [List.length_set, hws]; omega) (g := (mkF m 10 #[.val (.ref a1), .val (.int p2), .val (.long p3), .second, .val (.int (1 : Int32))] [(.int ((p3.toInt32).toInt8.toInt32)), (.int p2), (.ref a1)])) rfl rfl (hb hby d2_10)
    have M10 := Fr.snoc X10 (Fr.nil n0) g1
    have KP10 : Keep h0 h10 [a1] := (Keep.refl h0 [a1]).wr W10 (Or.inl (List.mem_of_getElem? (i := 0) rfl))
    refine Go.by (g' := (mkF m 11 #[.val (.ref a1), .val (.int p2), .val (.long p3), .second, .val (.int (1 : Int32))] [])) st10 ?_
    refine Go.by (g' := (mkF m 13 #[.val (.ref a1), .val (.int p2), .val (.long p3), .second, .val (.int (1 : Int32))] [(.int (1 : Int32))])) (fun _ k => XS.iload X10.here hx rfl (hb hby d2_11) rfl k) ?_
    refine Go.by (g' := (mkF m 14 #[.val (.ref a1), .val (.int p2), .val (.long p3), .second, .val (.int (1 : Int32))] [(.int (1 : Int32)), (.int (1 : Int32))])) (fun _ k => XS.iconst X10.here hx rfl (hb hby d2_13) k) ?_
    refine Go.by (g' := (mkF m 28 #[.val (.ref a1), .val (.int p2), .val (.long p3), .second, .val (.int (1 : Int32))] [])) (fun _ k => XS.icmpYes X10.here hx rfl (pc0 := 14) (pc' := 28) rfl (hb hby d2_14) rfl (flt (by decide)).2.2.2 (by decide) (by decide) k) ?_
    refine Go.by (g' := (mkF m 30 #[.val (.ref a1), .val (.int p2), .val (.long p3), .second, .val (.int (1 : Int32))] [(.int (1 : Int32))])) (fun _ k => XS.iload X10.here hx rfl (hb hby d2_28) rfl k) ?_
    refine Go.by (g' := (mkF m 31 #[.val (.ref a1), .val (.int p2), .val (.long p3), .second, .val (.int (1 : Int32))] [(.int (2 : Int32)), (.int (1 : Int32))])) (fun _ k => XS.iconst X10.here hx rfl (hb hby d2_30) k) ?_
    refine Go.by (g' := (mkF m 45 #[.val (.ref a1), .val (.int p2), .val (.long p3), .second, .val (.int (1 : Int32))] [])) (fun _ k => XS.icmpYes X10.here hx rfl (pc0 := 31) (pc' := 45) rfl (hb hby d2_31) rfl (flt (by decide)).2.2.2 (by decide) (by decide) k) ?_
    refine Go.by (g' := (mkF m 47 #[.val (.ref a1), .val (.int p2), .val (.long p3), .second, .val (.int (1 : Int32))] [(.int (1 : Int32))])) (fun _ k => XS.iload X10.here hx rfl (hb hby d2_45) rfl k) ?_
    refine Go.by (g' := (mkF m 48 #[.val (.ref a1), .val (.int p2), .val (.long p3), .second, .val (.int (1 : Int32))] [(.int (3 : Int32)), (.int (1 : Int32))])) (fun _ k => XS.iconst X10.here hx rfl (hb hby d2_47) k) ?_
    refine Go.by (g' := (mkF m 62 #[.val (.ref a1), .val (.int p2), .val (.long p3), .second, .val (.int (1 : Int32))] [])) (fun _ k => XS.icmpYes X10.here hx rfl (pc0 := 48) (pc' := 62) rfl (hb hby d2_48) rfl (flt (by decide)).2.2.2 (by decide) (by decide) k) ?_
    exact Go.outN X10 hx hret (Lv.narrow X10 hlk (by decide) (by decide)) (hb hby d2_62) (by rw [e10]; exact ⟨rfl, M10, KP10, V10⟩)
  · refine Go.by (g' := (mkF m 2 #[.val (.ref a1), .val (.int p2), .val (.long p3), .second, .val (.int (2 : Int32))] [(.int (2 : Int32))])) (fun _ k => XS.iload X0.here hx rfl (hb hby d2_0) rfl k) ?_
    refine Go.by (g' := (mkF m 5 #[.val (.ref a1), .val (.int p2), .val (.long p3), .second, .val (.int (2 : Int32))] [])) (fun _ k => XS.ifNo X0.here hx rfl (hb hby d2_2) rfl ((if0 _ _).trans (tlt (by decide)).2.2.2) k) ?_
    refine Go.by (g' := (mkF m 6 #[.val (.ref a1), .val (.int p2), .val (.long p3), .second, .val (.int (2 : Int32))] [(.ref a1)])) (fun _ k => XS.aloadN X0.here hx rfl (hb hby d2_5) rfl rfl k) ?_
    refine Go.by (g' := (mkF m 7 #[.val (.ref a1), .val (.int p2), .val (.long p3), .second, .val (.int (2 : Int32))] [(.int p2), (.ref a1)])) (fun _ k => XS.iloadN X0.here hx rfl (hb hby d2_6) rfl k) ?_
    refine Go.by (g' := (mkF m 8 #[.val (.ref a1), .val (.int p2), .val (.long p3), .second, .val (.int (2 : Int32))] [(.long p3), (.int p2), (.ref a1)])) (fun _ k => XS.lloadN X0.here hx rfl (hb hby d2_7) rfl k) ?_
    refine Go.by (g' := (mkF m 9 #[.val (.ref a1), .val (.int p2), .val (.long p3), .second, .val (.int (2 : Int32))] [(.int (p3.toInt32)), (.int p2), (.ref a1)])) (fun _ k => XS.l2i X0.here hx rfl (hb hby d2_8) rfl k) ?_
    refine Go.by (g' := (mkF m 10 #[.val (.ref a1), .val (.int p2), .val (.long p3), .second, .val (.int (2 : Int32))] [(.int ((p3.toInt32).toInt8.toInt32)), (.int p2), (.ref a1)])) (fun _ k => XS.i2b X0.here hx rfl (hb hby d2_9) rfl k) ?_
    obtain ⟨T11, h11, X11, e11, W11, V11, st11⟩ := stBA X0 hx hZ e0 V o (ix_nat h2) (ix_nn h2) (ix_lt h2 (by decide : (8 : Int32).toInt = ((8 : Nat) : Int)) (by omega)) (by simp only [List.length_set, hws]; omega) (g := (mkF m 10 #[.val (.ref a1), .val (.int p2), .val (.long p3), .second, .val (.int (2 : Int32))] [(.int ((p3.toInt32).toInt8.toInt32)), (.int p2), (.ref a1)])) rfl rfl (hb hby d2_10)
    have M11 := Fr.snoc X11 (Fr.nil n0) g1
    have KP11 : Keep h0 h11 [a1] := (Keep.refl h0 [a1]).wr W11 (Or.inl (List.mem_of_getElem? (i := 0) rfl))
    refine Go.by (g' := (mkF m 11 #[.val (.ref a1), .val (.int p2), .val (.long p3), .second, .val (.int (2 : Int32))] [])) st11 ?_
    refine Go.by (g' := (mkF m 13 #[.val (.ref a1), .val (.int p2), .val (.long p3), .second, .val (.int (2 : Int32))] [(.int (2 : Int32))])) (fun _ k => XS.iload X11.here hx rfl (hb hby d2_11) rfl k) ?_
    refine Go.by (g' := (mkF m 14 #[.val (.ref a1), .val (.int p2), .val (.long p3), .second, .val (.int (2 : Int32))] [(.int (1 : Int32)), (.int (2 : Int32))])) (fun _ k => XS.iconst X11.here hx rfl (hb hby d2_13) k) ?_
    refine Go.by (g' := (mkF m 17 #[.val (.ref a1), .val (.int p2), .val (.long p3), .second, .val (.int (2 : Int32))] [])) (fun _ k => XS.icmpNo X11.here hx rfl (hb hby d2_14) rfl (tlt (by decide)).2.2.2 k) ?_
    refine Go.by (g' := (mkF m 18 #[.val (.ref a1), .val (.int p2), .val (.long p3), .second, .val (.int (2 : Int32))] [(.ref a1)])) (fun _ k => XS.aloadN X11.here hx rfl (hb hby d2_17) rfl rfl k) ?_
    refine Go.by (g' := (mkF m 19 #[.val (.ref a1), .val (.int p2), .val (.long p3), .second, .val (.int (2 : Int32))] [(.int p2), (.ref a1)])) (fun _ k => XS.iloadN X11.here hx rfl (hb hby d2_18) rfl k) ?_
    refine Go.by (g' := (mkF m 20 #[.val (.ref a1), .val (.int p2), .val (.long p3), .second, .val (.int (2 : Int32))] [(.int (1 : Int32)), (.int p2), (.ref a1)])) (fun _ k => XS.iconst X11.here hx rfl (hb hby d2_19) k) ?_
    refine Go.by (g' := (mkF m 21 #[.val (.ref a1), .val (.int p2), .val (.long p3), .second, .val (.int (2 : Int32))] [(.int (p2 + (1 : Int32))), (.ref a1)])) (fun _ k => XS.iadd X11.here hx rfl (hb hby d2_20) rfl k) ?_
    refine Go.by (g' := (mkF m 22 #[.val (.ref a1), .val (.int p2), .val (.long p3), .second, .val (.int (2 : Int32))] [(.long p3), (.int (p2 + (1 : Int32))), (.ref a1)])) (fun _ k => XS.lloadN X11.here hx rfl (hb hby d2_21) rfl k) ?_
    refine Go.by (g' := (mkF m 24 #[.val (.ref a1), .val (.int p2), .val (.long p3), .second, .val (.int (2 : Int32))] [(.int (8 : Int32)), (.long p3), (.int (p2 + (1 : Int32))), (.ref a1)])) (fun _ k => XS.bipush X11.here hx rfl (hb hby d2_22) k) ?_
    refine Go.by (g' := (mkF m 25 #[.val (.ref a1), .val (.int p2), .val (.long p3), .second, .val (.int (2 : Int32))] [(.long (usL p3 (8 : Int32))), (.int (p2 + (1 : Int32))), (.ref a1)])) (fun _ k => XS.lushr X11.here hx rfl (hb hby d2_24) rfl k) ?_
    refine Go.by (g' := (mkF m 26 #[.val (.ref a1), .val (.int p2), .val (.long p3), .second, .val (.int (2 : Int32))] [(.int ((usL p3 (8 : Int32)).toInt32)), (.int (p2 + (1 : Int32))), (.ref a1)])) (fun _ k => XS.l2i X11.here hx rfl (hb hby d2_25) rfl k) ?_
    refine Go.by (g' := (mkF m 27 #[.val (.ref a1), .val (.int p2), .val (.long p3), .second, .val (.int (2 : Int32))] [(.int (((usL p3 (8 : Int32)).toInt32).toInt8.toInt32)), (.int (p2 + (1 : Int32))), (.ref a1)])) (fun _ k => XS.i2b X11.here hx rfl (hb hby d2_26) rfl k) ?_
    obtain ⟨T12, h12, X12, e12, W12, V12, st12⟩ := stBA X11 hx hZ e11 V11 (o + 1) (ix_nat (ix_add h2 (by decide : (1 : Int32).toInt = ((1 : Nat) : Int)) (by omega))) (ix_nn (ix_add h2 (by decide : (1 : Int32).toInt = ((1 : Nat) : Int)) (by omega))) (ix_lt (ix_add h2 (by decide : (1 : Int32).toInt = ((1 : Nat) : Int)) (by omega)) (by decide : (8 : Int32).toInt = ((8 : Nat) : Int)) (by omega)) (by simp only [List.length_set, hws]; omega) (g := (mkF m 27 #[.val (.ref a1), .val (.int p2), .val (.long p3), .second, .val (.int (2 : Int32))] [(.int (((usL p3 (8 : Int32)).toInt32).toInt8.toInt32)), (.int (p2 + (1 : Int32))), (.ref a1)])) rfl rfl (hb hby d2_27)
    have M12 := Fr.snoc X12 M11 g1
    have KP12 : Keep h0 h12 [a1] := KP11.wr W12 (Or.inl (List.mem_of_getElem? (i := 0) rfl))
    refine Go.by (g' := (mkF m 28 #[.val (.ref a1), .val (.int p2), .val (.long p3), .second, .val (.int (2 : Int32))] [])) st12 ?_
    refine Go.by (g' := (mkF m 30 #[.val (.ref a1), .val (.int p2), .val (.long p3), .second, .val (.int (2 : Int32))] [(.int (2 : Int32))])) (fun _ k => XS.iload X12.here hx rfl (hb hby d2_28) rfl k) ?_
    refine Go.by (g' := (mkF m 31 #[.val (.ref a1), .val (.int p2), .val (.long p3), .second, .val (.int (2 : Int32))] [(.int (2 : Int32)), (.int (2 : Int32))])) (fun _ k => XS.iconst X12.here hx rfl (hb hby d2_30) k) ?_
    refine Go.by (g' := (mkF m 45 #[.val (.ref a1), .val (.int p2), .val (.long p3), .second, .val (.int (2 : Int32))] [])) (fun _ k => XS.icmpYes X12.here hx rfl (pc0 := 31) (pc' := 45) rfl (hb hby d2_31) rfl (flt (by decide)).2.2.2 (by decide) (by decide) k) ?_
    refine Go.by (g' := (mkF m 47 #[.val (.ref a1), .val (.int p2), .val (.long p3), .second, .val (.int (2 : Int32))] [(.int (2 : Int32))])) (fun _ k => XS.iload X12.here hx rfl (hb hby d2_45) rfl k) ?_
    refine Go.by (g' := (mkF m 48 #[.val (.ref a1), .val (.int p2), .val (.long p3), .second, .val (.int (2 : Int32))] [(.int (3 : Int32)), (.int (2 : Int32))])) (fun _ k => XS.iconst X12.here hx rfl (hb hby d2_47) k) ?_
    refine Go.by (g' := (mkF m 62 #[.val (.ref a1), .val (.int p2), .val (.long p3), .second, .val (.int (2 : Int32))] [])) (fun _ k => XS.icmpYes X12.here hx rfl (pc0 := 48) (pc' := 62) rfl (hb hby d2_48) rfl (flt (by decide)).2.2.2 (by decide) (by decide) k) ?_
    exact Go.outN X12 hx hret (Lv.narrow X12 hlk (by decide) (by decide)) (hb hby d2_62) (by rw [e12]; exact ⟨rfl, M12, KP12, V12⟩)
  · refine Go.by (g' := (mkF m 2 #[.val (.ref a1), .val (.int p2), .val (.long p3), .second, .val (.int (3 : Int32))] [(.int (3 : Int32))])) (fun _ k => XS.iload X0.here hx rfl (hb hby d2_0) rfl k) ?_
    refine Go.by (g' := (mkF m 5 #[.val (.ref a1), .val (.int p2), .val (.long p3), .second, .val (.int (3 : Int32))] [])) (fun _ k => XS.ifNo X0.here hx rfl (hb hby d2_2) rfl ((if0 _ _).trans (tlt (by decide)).2.2.2) k) ?_
    refine Go.by (g' := (mkF m 6 #[.val (.ref a1), .val (.int p2), .val (.long p3), .second, .val (.int (3 : Int32))] [(.ref a1)])) (fun _ k => XS.aloadN X0.here hx rfl (hb hby d2_5) rfl rfl k) ?_
    refine Go.by (g' := (mkF m 7 #[.val (.ref a1), .val (.int p2), .val (.long p3), .second, .val (.int (3 : Int32))] [(.int p2), (.ref a1)])) (fun _ k => XS.iloadN X0.here hx rfl (hb hby d2_6) rfl k) ?_
    refine Go.by (g' := (mkF m 8 #[.val (.ref a1), .val (.int p2), .val (.long p3), .second, .val (.int (3 : Int32))] [(.long p3), (.int p2), (.ref a1)])) (fun _ k => XS.lloadN X0.here hx rfl (hb hby d2_7) rfl k) ?_
    refine Go.by (g' := (mkF m 9 #[.val (.ref a1), .val (.int p2), .val (.long p3), .second, .val (.int (3 : Int32))] [(.int (p3.toInt32)), (.int p2), (.ref a1)])) (fun _ k => XS.l2i X0.here hx rfl (hb hby d2_8) rfl k) ?_
    refine Go.by (g' := (mkF m 10 #[.val (.ref a1), .val (.int p2), .val (.long p3), .second, .val (.int (3 : Int32))] [(.int ((p3.toInt32).toInt8.toInt32)), (.int p2), (.ref a1)])) (fun _ k => XS.i2b X0.here hx rfl (hb hby d2_9) rfl k) ?_
    obtain ⟨T13, h13, X13, e13, W13, V13, st13⟩ := stBA X0 hx hZ e0 V o (ix_nat h2) (ix_nn h2) (ix_lt h2 (by decide : (8 : Int32).toInt = ((8 : Nat) : Int)) (by omega)) (by simp only [List.length_set, hws]; omega) (g := (mkF m 10 #[.val (.ref a1), .val (.int p2), .val (.long p3), .second, .val (.int (3 : Int32))] [(.int ((p3.toInt32).toInt8.toInt32)), (.int p2), (.ref a1)])) rfl rfl (hb hby d2_10)
    have M13 := Fr.snoc X13 (Fr.nil n0) g1
    have KP13 : Keep h0 h13 [a1] := (Keep.refl h0 [a1]).wr W13 (Or.inl (List.mem_of_getElem? (i := 0) rfl))
    refine Go.by (g' := (mkF m 11 #[.val (.ref a1), .val (.int p2), .val (.long p3), .second, .val (.int (3 : Int32))] [])) st13 ?_
    refine Go.by (g' := (mkF m 13 #[.val (.ref a1), .val (.int p2), .val (.long p3), .second, .val (.int (3 : Int32))] [(.int (3 : Int32))])) (fun _ k => XS.iload X13.here hx rfl (hb hby d2_11) rfl k) ?_
    refine Go.by (g' := (mkF m 14 #[.val (.ref a1), .val (.int p2), .val (.long p3), .second, .val (.int (3 : Int32))] [(.int (1 : Int32)), (.int (3 : Int32))])) (fun _ k => XS.iconst X13.here hx rfl (hb hby d2_13) k) ?_
    refine Go.by (g' := (mkF m 17 #[.val (.ref a1), .val (.int p2), .val (.long p3), .second, .val (.int (3 : Int32))] [])) (fun _ k => XS.icmpNo X13.here hx rfl (hb hby d2_14) rfl (tlt (by decide)).2.2.2 k) ?_
    refine Go.by (g' := (mkF m 18 #[.val (.ref a1), .val (.int p2), .val (.long p3), .second, .val (.int (3 : Int32))] [(.ref a1)])) (fun _ k => XS.aloadN X13.here hx rfl (hb hby d2_17) rfl rfl k) ?_
    refine Go.by (g' := (mkF m 19 #[.val (.ref a1), .val (.int p2), .val (.long p3), .second, .val (.int (3 : Int32))] [(.int p2), (.ref a1)])) (fun _ k => XS.iloadN X13.here hx rfl (hb hby d2_18) rfl k) ?_
    refine Go.by (g' := (mkF m 20 #[.val (.ref a1), .val (.int p2), .val (.long p3), .second, .val (.int (3 : Int32))] [(.int (1 : Int32)), (.int p2), (.ref a1)])) (fun _ k => XS.iconst X13.here hx rfl (hb hby d2_19) k) ?_
    refine Go.by (g' := (mkF m 21 #[.val (.ref a1), .val (.int p2), .val (.long p3), .second, .val (.int (3 : Int32))] [(.int (p2 + (1 : Int32))), (.ref a1)])) (fun _ k => XS.iadd X13.here hx rfl (hb hby d2_20) rfl k) ?_
    refine Go.by (g' := (mkF m 22 #[.val (.ref a1), .val (.int p2), .val (.long p3), .second, .val (.int (3 : Int32))] [(.long p3), (.int (p2 + (1 : Int32))), (.ref a1)])) (fun _ k => XS.lloadN X13.here hx rfl (hb hby d2_21) rfl k) ?_
    refine Go.by (g' := (mkF m 24 #[.val (.ref a1), .val (.int p2), .val (.long p3), .second, .val (.int (3 : Int32))] [(.int (8 : Int32)), (.long p3), (.int (p2 + (1 : Int32))), (.ref a1)])) (fun _ k => XS.bipush X13.here hx rfl (hb hby d2_22) k) ?_
    refine Go.by (g' := (mkF m 25 #[.val (.ref a1), .val (.int p2), .val (.long p3), .second, .val (.int (3 : Int32))] [(.long (usL p3 (8 : Int32))), (.int (p2 + (1 : Int32))), (.ref a1)])) (fun _ k => XS.lushr X13.here hx rfl (hb hby d2_24) rfl k) ?_
    refine Go.by (g' := (mkF m 26 #[.val (.ref a1), .val (.int p2), .val (.long p3), .second, .val (.int (3 : Int32))] [(.int ((usL p3 (8 : Int32)).toInt32)), (.int (p2 + (1 : Int32))), (.ref a1)])) (fun _ k => XS.l2i X13.here hx rfl (hb hby d2_25) rfl k) ?_
    refine Go.by (g' := (mkF m 27 #[.val (.ref a1), .val (.int p2), .val (.long p3), .second, .val (.int (3 : Int32))] [(.int (((usL p3 (8 : Int32)).toInt32).toInt8.toInt32)), (.int (p2 + (1 : Int32))), (.ref a1)])) (fun _ k => XS.i2b X13.here hx rfl (hb hby d2_26) rfl k) ?_
    obtain ⟨T14, h14, X14, e14, W14, V14, st14⟩ := stBA X13 hx hZ e13 V13 (o + 1) (ix_nat (ix_add h2 (by decide : (1 : Int32).toInt = ((1 : Nat) : Int)) (by omega))) (ix_nn (ix_add h2 (by decide : (1 : Int32).toInt = ((1 : Nat) : Int)) (by omega))) (ix_lt (ix_add h2 (by decide : (1 : Int32).toInt = ((1 : Nat) : Int)) (by omega)) (by decide : (8 : Int32).toInt = ((8 : Nat) : Int)) (by omega)) (by simp only [List.length_set, hws]; omega) (g := (mkF m 27 #[.val (.ref a1), .val (.int p2), .val (.long p3), .second, .val (.int (3 : Int32))] [(.int (((usL p3 (8 : Int32)).toInt32).toInt8.toInt32)), (.int (p2 + (1 : Int32))), (.ref a1)])) rfl rfl (hb hby d2_27)
    have M14 := Fr.snoc X14 M13 g1
    have KP14 : Keep h0 h14 [a1] := KP13.wr W14 (Or.inl (List.mem_of_getElem? (i := 0) rfl))
    refine Go.by (g' := (mkF m 28 #[.val (.ref a1), .val (.int p2), .val (.long p3), .second, .val (.int (3 : Int32))] [])) st14 ?_
    refine Go.by (g' := (mkF m 30 #[.val (.ref a1), .val (.int p2), .val (.long p3), .second, .val (.int (3 : Int32))] [(.int (3 : Int32))])) (fun _ k => XS.iload X14.here hx rfl (hb hby d2_28) rfl k) ?_
    refine Go.by (g' := (mkF m 31 #[.val (.ref a1), .val (.int p2), .val (.long p3), .second, .val (.int (3 : Int32))] [(.int (2 : Int32)), (.int (3 : Int32))])) (fun _ k => XS.iconst X14.here hx rfl (hb hby d2_30) k) ?_
    refine Go.by (g' := (mkF m 34 #[.val (.ref a1), .val (.int p2), .val (.long p3), .second, .val (.int (3 : Int32))] [])) (fun _ k => XS.icmpNo X14.here hx rfl (hb hby d2_31) rfl (tlt (by decide)).2.2.2 k) ?_
    refine Go.by (g' := (mkF m 35 #[.val (.ref a1), .val (.int p2), .val (.long p3), .second, .val (.int (3 : Int32))] [(.ref a1)])) (fun _ k => XS.aloadN X14.here hx rfl (hb hby d2_34) rfl rfl k) ?_
    refine Go.by (g' := (mkF m 36 #[.val (.ref a1), .val (.int p2), .val (.long p3), .second, .val (.int (3 : Int32))] [(.int p2), (.ref a1)])) (fun _ k => XS.iloadN X14.here hx rfl (hb hby d2_35) rfl k) ?_
    refine Go.by (g' := (mkF m 37 #[.val (.ref a1), .val (.int p2), .val (.long p3), .second, .val (.int (3 : Int32))] [(.int (2 : Int32)), (.int p2), (.ref a1)])) (fun _ k => XS.iconst X14.here hx rfl (hb hby d2_36) k) ?_
    refine Go.by (g' := (mkF m 38 #[.val (.ref a1), .val (.int p2), .val (.long p3), .second, .val (.int (3 : Int32))] [(.int (p2 + (2 : Int32))), (.ref a1)])) (fun _ k => XS.iadd X14.here hx rfl (hb hby d2_37) rfl k) ?_
    refine Go.by (g' := (mkF m 39 #[.val (.ref a1), .val (.int p2), .val (.long p3), .second, .val (.int (3 : Int32))] [(.long p3), (.int (p2 + (2 : Int32))), (.ref a1)])) (fun _ k => XS.lloadN X14.here hx rfl (hb hby d2_38) rfl k) ?_
    refine Go.by (g' := (mkF m 41 #[.val (.ref a1), .val (.int p2), .val (.long p3), .second, .val (.int (3 : Int32))] [(.int (16 : Int32)), (.long p3), (.int (p2 + (2 : Int32))), (.ref a1)])) (fun _ k => XS.bipush X14.here hx rfl (hb hby d2_39) k) ?_
    refine Go.by (g' := (mkF m 42 #[.val (.ref a1), .val (.int p2), .val (.long p3), .second, .val (.int (3 : Int32))] [(.long (usL p3 (16 : Int32))), (.int (p2 + (2 : Int32))), (.ref a1)])) (fun _ k => XS.lushr X14.here hx rfl (hb hby d2_41) rfl k) ?_
    refine Go.by (g' := (mkF m 43 #[.val (.ref a1), .val (.int p2), .val (.long p3), .second, .val (.int (3 : Int32))] [(.int ((usL p3 (16 : Int32)).toInt32)), (.int (p2 + (2 : Int32))), (.ref a1)])) (fun _ k => XS.l2i X14.here hx rfl (hb hby d2_42) rfl k) ?_
    refine Go.by (g' := (mkF m 44 #[.val (.ref a1), .val (.int p2), .val (.long p3), .second, .val (.int (3 : Int32))] [(.int (((usL p3 (16 : Int32)).toInt32).toInt8.toInt32)), (.int (p2 + (2 : Int32))), (.ref a1)])) (fun _ k => XS.i2b X14.here hx rfl (hb hby d2_43) rfl k) ?_
    obtain ⟨T15, h15, X15, e15, W15, V15, st15⟩ := stBA X14 hx hZ e14 V14 (o + 2) (ix_nat (ix_add h2 (by decide : (2 : Int32).toInt = ((2 : Nat) : Int)) (by omega))) (ix_nn (ix_add h2 (by decide : (2 : Int32).toInt = ((2 : Nat) : Int)) (by omega))) (ix_lt (ix_add h2 (by decide : (2 : Int32).toInt = ((2 : Nat) : Int)) (by omega)) (by decide : (8 : Int32).toInt = ((8 : Nat) : Int)) (by omega)) (by simp only [List.length_set, hws]; omega) (g := (mkF m 44 #[.val (.ref a1), .val (.int p2), .val (.long p3), .second, .val (.int (3 : Int32))] [(.int (((usL p3 (16 : Int32)).toInt32).toInt8.toInt32)), (.int (p2 + (2 : Int32))), (.ref a1)])) rfl rfl (hb hby d2_44)
    have M15 := Fr.snoc X15 M14 g1
    have KP15 : Keep h0 h15 [a1] := KP14.wr W15 (Or.inl (List.mem_of_getElem? (i := 0) rfl))
    refine Go.by (g' := (mkF m 45 #[.val (.ref a1), .val (.int p2), .val (.long p3), .second, .val (.int (3 : Int32))] [])) st15 ?_
    refine Go.by (g' := (mkF m 47 #[.val (.ref a1), .val (.int p2), .val (.long p3), .second, .val (.int (3 : Int32))] [(.int (3 : Int32))])) (fun _ k => XS.iload X15.here hx rfl (hb hby d2_45) rfl k) ?_
    refine Go.by (g' := (mkF m 48 #[.val (.ref a1), .val (.int p2), .val (.long p3), .second, .val (.int (3 : Int32))] [(.int (3 : Int32)), (.int (3 : Int32))])) (fun _ k => XS.iconst X15.here hx rfl (hb hby d2_47) k) ?_
    refine Go.by (g' := (mkF m 62 #[.val (.ref a1), .val (.int p2), .val (.long p3), .second, .val (.int (3 : Int32))] [])) (fun _ k => XS.icmpYes X15.here hx rfl (pc0 := 48) (pc' := 62) rfl (hb hby d2_48) rfl (flt (by decide)).2.2.2 (by decide) (by decide) k) ?_
    exact Go.outN X15 hx hret (Lv.narrow X15 hlk (by decide) (by decide)) (hb hby d2_62) (by rw [e15]; exact ⟨rfl, M15, KP15, V15⟩)
  · refine Go.by (g' := (mkF m 2 #[.val (.ref a1), .val (.int p2), .val (.long p3), .second, .val (.int (4 : Int32))] [(.int (4 : Int32))])) (fun _ k => XS.iload X0.here hx rfl (hb hby d2_0) rfl k) ?_
    refine Go.by (g' := (mkF m 5 #[.val (.ref a1), .val (.int p2), .val (.long p3), .second, .val (.int (4 : Int32))] [])) (fun _ k => XS.ifNo X0.here hx rfl (hb hby d2_2) rfl ((if0 _ _).trans (tlt (by decide)).2.2.2) k) ?_
    refine Go.by (g' := (mkF m 6 #[.val (.ref a1), .val (.int p2), .val (.long p3), .second, .val (.int (4 : Int32))] [(.ref a1)])) (fun _ k => XS.aloadN X0.here hx rfl (hb hby d2_5) rfl rfl k) ?_
    refine Go.by (g' := (mkF m 7 #[.val (.ref a1), .val (.int p2), .val (.long p3), .second, .val (.int (4 : Int32))] [(.int p2), (.ref a1)])) (fun _ k => XS.iloadN X0.here hx rfl (hb hby d2_6) rfl k) ?_
    refine Go.by (g' := (mkF m 8 #[.val (.ref a1), .val (.int p2), .val (.long p3), .second, .val (.int (4 : Int32))] [(.long p3), (.int p2), (.ref a1)])) (fun _ k => XS.lloadN X0.here hx rfl (hb hby d2_7) rfl k) ?_
    refine Go.by (g' := (mkF m 9 #[.val (.ref a1), .val (.int p2), .val (.long p3), .second, .val (.int (4 : Int32))] [(.int (p3.toInt32)), (.int p2), (.ref a1)])) (fun _ k => XS.l2i X0.here hx rfl (hb hby d2_8) rfl k) ?_
    refine Go.by (g' := (mkF m 10 #[.val (.ref a1), .val (.int p2), .val (.long p3), .second, .val (.int (4 : Int32))] [(.int ((p3.toInt32).toInt8.toInt32)), (.int p2), (.ref a1)])) (fun _ k => XS.i2b X0.here hx rfl (hb hby d2_9) rfl k) ?_
    obtain ⟨T16, h16, X16, e16, W16, V16, st16⟩ := stBA X0 hx hZ e0 V o (ix_nat h2) (ix_nn h2) (ix_lt h2 (by decide : (8 : Int32).toInt = ((8 : Nat) : Int)) (by omega)) (by simp only [List.length_set, hws]; omega) (g := (mkF m 10 #[.val (.ref a1), .val (.int p2), .val (.long p3), .second, .val (.int (4 : Int32))] [(.int ((p3.toInt32).toInt8.toInt32)), (.int p2), (.ref a1)])) rfl rfl (hb hby d2_10)
    have M16 := Fr.snoc X16 (Fr.nil n0) g1
    have KP16 : Keep h0 h16 [a1] := (Keep.refl h0 [a1]).wr W16 (Or.inl (List.mem_of_getElem? (i := 0) rfl))
    refine Go.by (g' := (mkF m 11 #[.val (.ref a1), .val (.int p2), .val (.long p3), .second, .val (.int (4 : Int32))] [])) st16 ?_
    refine Go.by (g' := (mkF m 13 #[.val (.ref a1), .val (.int p2), .val (.long p3), .second, .val (.int (4 : Int32))] [(.int (4 : Int32))])) (fun _ k => XS.iload X16.here hx rfl (hb hby d2_11) rfl k) ?_
    refine Go.by (g' := (mkF m 14 #[.val (.ref a1), .val (.int p2), .val (.long p3), .second, .val (.int (4 : Int32))] [(.int (1 : Int32)), (.int (4 : Int32))])) (fun _ k => XS.iconst X16.here hx rfl (hb hby d2_13) k) ?_
    refine Go.by (g' := (mkF m 17 #[.val (.ref a1), .val (.int p2), .val (.long p3), .second, .val (.int (4 : Int32))] [])) (fun _ k => XS.icmpNo X16.here hx rfl (hb hby d2_14) rfl (tlt (by decide)).2.2.2 k) ?_
    refine Go.by (g' := (mkF m 18 #[.val (.ref a1), .val (.int p2), .val (.long p3), .second, .val (.int (4 : Int32))] [(.ref a1)])) (fun _ k => XS.aloadN X16.here hx rfl (hb hby d2_17) rfl rfl k) ?_
    refine Go.by (g' := (mkF m 19 #[.val (.ref a1), .val (.int p2), .val (.long p3), .second, .val (.int (4 : Int32))] [(.int p2), (.ref a1)])) (fun _ k => XS.iloadN X16.here hx rfl (hb hby d2_18) rfl k) ?_
    refine Go.by (g' := (mkF m 20 #[.val (.ref a1), .val (.int p2), .val (.long p3), .second, .val (.int (4 : Int32))] [(.int (1 : Int32)), (.int p2), (.ref a1)])) (fun _ k => XS.iconst X16.here hx rfl (hb hby d2_19) k) ?_
    refine Go.by (g' := (mkF m 21 #[.val (.ref a1), .val (.int p2), .val (.long p3), .second, .val (.int (4 : Int32))] [(.int (p2 + (1 : Int32))), (.ref a1)])) (fun _ k => XS.iadd X16.here hx rfl (hb hby d2_20) rfl k) ?_
    refine Go.by (g' := (mkF m 22 #[.val (.ref a1), .val (.int p2), .val (.long p3), .second, .val (.int (4 : Int32))] [(.long p3), (.int (p2 + (1 : Int32))), (.ref a1)])) (fun _ k => XS.lloadN X16.here hx rfl (hb hby d2_21) rfl k) ?_
    refine Go.by (g' := (mkF m 24 #[.val (.ref a1), .val (.int p2), .val (.long p3), .second, .val (.int (4 : Int32))] [(.int (8 : Int32)), (.long p3), (.int (p2 + (1 : Int32))), (.ref a1)])) (fun _ k => XS.bipush X16.here hx rfl (hb hby d2_22) k) ?_
    refine Go.by (g' := (mkF m 25 #[.val (.ref a1), .val (.int p2), .val (.long p3), .second, .val (.int (4 : Int32))] [(.long (usL p3 (8 : Int32))), (.int (p2 + (1 : Int32))), (.ref a1)])) (fun _ k => XS.lushr X16.here hx rfl (hb hby d2_24) rfl k) ?_
    refine Go.by (g' := (mkF m 26 #[.val (.ref a1), .val (.int p2), .val (.long p3), .second, .val (.int (4 : Int32))] [(.int ((usL p3 (8 : Int32)).toInt32)), (.int (p2 + (1 : Int32))), (.ref a1)])) (fun _ k => XS.l2i X16.here hx rfl (hb hby d2_25) rfl k) ?_
    refine Go.by (g' := (mkF m 27 #[.val (.ref a1), .val (.int p2), .val (.long p3), .second, .val (.int (4 : Int32))] [(.int (((usL p3 (8 : Int32)).toInt32).toInt8.toInt32)), (.int (p2 + (1 : Int32))), (.ref a1)])) (fun _ k => XS.i2b X16.here hx rfl (hb hby d2_26) rfl k) ?_
    obtain ⟨T17, h17, X17, e17, W17, V17, st17⟩ := stBA X16 hx hZ e16 V16 (o + 1) (ix_nat (ix_add h2 (by decide : (1 : Int32).toInt = ((1 : Nat) : Int)) (by omega))) (ix_nn (ix_add h2 (by decide : (1 : Int32).toInt = ((1 : Nat) : Int)) (by omega))) (ix_lt (ix_add h2 (by decide : (1 : Int32).toInt = ((1 : Nat) : Int)) (by omega)) (by decide : (8 : Int32).toInt = ((8 : Nat) : Int)) (by omega)) (by simp only [List.length_set, hws]; omega) (g := (mkF m 27 #[.val (.ref a1), .val (.int p2), .val (.long p3), .second, .val (.int (4 : Int32))] [(.int (((usL p3 (8 : Int32)).toInt32).toInt8.toInt32)), (.int (p2 + (1 : Int32))), (.ref a1)])) rfl rfl (hb hby d2_27)
    have M17 := Fr.snoc X17 M16 g1
    have KP17 : Keep h0 h17 [a1] := KP16.wr W17 (Or.inl (List.mem_of_getElem? (i := 0) rfl))
    refine Go.by (g' := (mkF m 28 #[.val (.ref a1), .val (.int p2), .val (.long p3), .second, .val (.int (4 : Int32))] [])) st17 ?_
    refine Go.by (g' := (mkF m 30 #[.val (.ref a1), .val (.int p2), .val (.long p3), .second, .val (.int (4 : Int32))] [(.int (4 : Int32))])) (fun _ k => XS.iload X17.here hx rfl (hb hby d2_28) rfl k) ?_
    refine Go.by (g' := (mkF m 31 #[.val (.ref a1), .val (.int p2), .val (.long p3), .second, .val (.int (4 : Int32))] [(.int (2 : Int32)), (.int (4 : Int32))])) (fun _ k => XS.iconst X17.here hx rfl (hb hby d2_30) k) ?_
    refine Go.by (g' := (mkF m 34 #[.val (.ref a1), .val (.int p2), .val (.long p3), .second, .val (.int (4 : Int32))] [])) (fun _ k => XS.icmpNo X17.here hx rfl (hb hby d2_31) rfl (tlt (by decide)).2.2.2 k) ?_
    refine Go.by (g' := (mkF m 35 #[.val (.ref a1), .val (.int p2), .val (.long p3), .second, .val (.int (4 : Int32))] [(.ref a1)])) (fun _ k => XS.aloadN X17.here hx rfl (hb hby d2_34) rfl rfl k) ?_
    refine Go.by (g' := (mkF m 36 #[.val (.ref a1), .val (.int p2), .val (.long p3), .second, .val (.int (4 : Int32))] [(.int p2), (.ref a1)])) (fun _ k => XS.iloadN X17.here hx rfl (hb hby d2_35) rfl k) ?_
    refine Go.by (g' := (mkF m 37 #[.val (.ref a1), .val (.int p2), .val (.long p3), .second, .val (.int (4 : Int32))] [(.int (2 : Int32)), (.int p2), (.ref a1)])) (fun _ k => XS.iconst X17.here hx rfl (hb hby d2_36) k) ?_
    refine Go.by (g' := (mkF m 38 #[.val (.ref a1), .val (.int p2), .val (.long p3), .second, .val (.int (4 : Int32))] [(.int (p2 + (2 : Int32))), (.ref a1)])) (fun _ k => XS.iadd X17.here hx rfl (hb hby d2_37) rfl k) ?_
    refine Go.by (g' := (mkF m 39 #[.val (.ref a1), .val (.int p2), .val (.long p3), .second, .val (.int (4 : Int32))] [(.long p3), (.int (p2 + (2 : Int32))), (.ref a1)])) (fun _ k => XS.lloadN X17.here hx rfl (hb hby d2_38) rfl k) ?_
    refine Go.by (g' := (mkF m 41 #[.val (.ref a1), .val (.int p2), .val (.long p3), .second, .val (.int (4 : Int32))] [(.int (16 : Int32)), (.long p3), (.int (p2 + (2 : Int32))), (.ref a1)])) (fun _ k => XS.bipush X17.here hx rfl (hb hby d2_39) k) ?_
    refine Go.by (g' := (mkF m 42 #[.val (.ref a1), .val (.int p2), .val (.long p3), .second, .val (.int (4 : Int32))] [(.long (usL p3 (16 : Int32))), (.int (p2 + (2 : Int32))), (.ref a1)])) (fun _ k => XS.lushr X17.here hx rfl (hb hby d2_41) rfl k) ?_
    refine Go.by (g' := (mkF m 43 #[.val (.ref a1), .val (.int p2), .val (.long p3), .second, .val (.int (4 : Int32))] [(.int ((usL p3 (16 : Int32)).toInt32)), (.int (p2 + (2 : Int32))), (.ref a1)])) (fun _ k => XS.l2i X17.here hx rfl (hb hby d2_42) rfl k) ?_
    refine Go.by (g' := (mkF m 44 #[.val (.ref a1), .val (.int p2), .val (.long p3), .second, .val (.int (4 : Int32))] [(.int (((usL p3 (16 : Int32)).toInt32).toInt8.toInt32)), (.int (p2 + (2 : Int32))), (.ref a1)])) (fun _ k => XS.i2b X17.here hx rfl (hb hby d2_43) rfl k) ?_
    obtain ⟨T18, h18, X18, e18, W18, V18, st18⟩ := stBA X17 hx hZ e17 V17 (o + 2) (ix_nat (ix_add h2 (by decide : (2 : Int32).toInt = ((2 : Nat) : Int)) (by omega))) (ix_nn (ix_add h2 (by decide : (2 : Int32).toInt = ((2 : Nat) : Int)) (by omega))) (ix_lt (ix_add h2 (by decide : (2 : Int32).toInt = ((2 : Nat) : Int)) (by omega)) (by decide : (8 : Int32).toInt = ((8 : Nat) : Int)) (by omega)) (by simp only [List.length_set, hws]; omega) (g := (mkF m 44 #[.val (.ref a1), .val (.int p2), .val (.long p3), .second, .val (.int (4 : Int32))] [(.int (((usL p3 (16 : Int32)).toInt32).toInt8.toInt32)), (.int (p2 + (2 : Int32))), (.ref a1)])) rfl rfl (hb hby d2_44)
    have M18 := Fr.snoc X18 M17 g1
    have KP18 : Keep h0 h18 [a1] := KP17.wr W18 (Or.inl (List.mem_of_getElem? (i := 0) rfl))
    refine Go.by (g' := (mkF m 45 #[.val (.ref a1), .val (.int p2), .val (.long p3), .second, .val (.int (4 : Int32))] [])) st18 ?_
    refine Go.by (g' := (mkF m 47 #[.val (.ref a1), .val (.int p2), .val (.long p3), .second, .val (.int (4 : Int32))] [(.int (4 : Int32))])) (fun _ k => XS.iload X18.here hx rfl (hb hby d2_45) rfl k) ?_
    refine Go.by (g' := (mkF m 48 #[.val (.ref a1), .val (.int p2), .val (.long p3), .second, .val (.int (4 : Int32))] [(.int (3 : Int32)), (.int (4 : Int32))])) (fun _ k => XS.iconst X18.here hx rfl (hb hby d2_47) k) ?_
    refine Go.by (g' := (mkF m 51 #[.val (.ref a1), .val (.int p2), .val (.long p3), .second, .val (.int (4 : Int32))] [])) (fun _ k => XS.icmpNo X18.here hx rfl (hb hby d2_48) rfl (tlt (by decide)).2.2.2 k) ?_
    refine Go.by (g' := (mkF m 52 #[.val (.ref a1), .val (.int p2), .val (.long p3), .second, .val (.int (4 : Int32))] [(.ref a1)])) (fun _ k => XS.aloadN X18.here hx rfl (hb hby d2_51) rfl rfl k) ?_
    refine Go.by (g' := (mkF m 53 #[.val (.ref a1), .val (.int p2), .val (.long p3), .second, .val (.int (4 : Int32))] [(.int p2), (.ref a1)])) (fun _ k => XS.iloadN X18.here hx rfl (hb hby d2_52) rfl k) ?_
    refine Go.by (g' := (mkF m 54 #[.val (.ref a1), .val (.int p2), .val (.long p3), .second, .val (.int (4 : Int32))] [(.int (3 : Int32)), (.int p2), (.ref a1)])) (fun _ k => XS.iconst X18.here hx rfl (hb hby d2_53) k) ?_
    refine Go.by (g' := (mkF m 55 #[.val (.ref a1), .val (.int p2), .val (.long p3), .second, .val (.int (4 : Int32))] [(.int (p2 + (3 : Int32))), (.ref a1)])) (fun _ k => XS.iadd X18.here hx rfl (hb hby d2_54) rfl k) ?_
    refine Go.by (g' := (mkF m 56 #[.val (.ref a1), .val (.int p2), .val (.long p3), .second, .val (.int (4 : Int32))] [(.long p3), (.int (p2 + (3 : Int32))), (.ref a1)])) (fun _ k => XS.lloadN X18.here hx rfl (hb hby d2_55) rfl k) ?_
    refine Go.by (g' := (mkF m 58 #[.val (.ref a1), .val (.int p2), .val (.long p3), .second, .val (.int (4 : Int32))] [(.int (24 : Int32)), (.long p3), (.int (p2 + (3 : Int32))), (.ref a1)])) (fun _ k => XS.bipush X18.here hx rfl (hb hby d2_56) k) ?_
    refine Go.by (g' := (mkF m 59 #[.val (.ref a1), .val (.int p2), .val (.long p3), .second, .val (.int (4 : Int32))] [(.long (usL p3 (24 : Int32))), (.int (p2 + (3 : Int32))), (.ref a1)])) (fun _ k => XS.lushr X18.here hx rfl (hb hby d2_58) rfl k) ?_
    refine Go.by (g' := (mkF m 60 #[.val (.ref a1), .val (.int p2), .val (.long p3), .second, .val (.int (4 : Int32))] [(.int ((usL p3 (24 : Int32)).toInt32)), (.int (p2 + (3 : Int32))), (.ref a1)])) (fun _ k => XS.l2i X18.here hx rfl (hb hby d2_59) rfl k) ?_
    refine Go.by (g' := (mkF m 61 #[.val (.ref a1), .val (.int p2), .val (.long p3), .second, .val (.int (4 : Int32))] [(.int (((usL p3 (24 : Int32)).toInt32).toInt8.toInt32)), (.int (p2 + (3 : Int32))), (.ref a1)])) (fun _ k => XS.i2b X18.here hx rfl (hb hby d2_60) rfl k) ?_
    obtain ⟨T19, h19, X19, e19, W19, V19, st19⟩ := stBA X18 hx hZ e18 V18 (o + 3) (ix_nat (ix_add h2 (by decide : (3 : Int32).toInt = ((3 : Nat) : Int)) (by omega))) (ix_nn (ix_add h2 (by decide : (3 : Int32).toInt = ((3 : Nat) : Int)) (by omega))) (ix_lt (ix_add h2 (by decide : (3 : Int32).toInt = ((3 : Nat) : Int)) (by omega)) (by decide : (8 : Int32).toInt = ((8 : Nat) : Int)) (by omega)) (by simp only [List.length_set, hws]; omega) (g := (mkF m 61 #[.val (.ref a1), .val (.int p2), .val (.long p3), .second, .val (.int (4 : Int32))] [(.int (((usL p3 (24 : Int32)).toInt32).toInt8.toInt32)), (.int (p2 + (3 : Int32))), (.ref a1)])) rfl rfl (hb hby d2_61)
    have M19 := Fr.snoc X19 M18 g1
    have KP19 : Keep h0 h19 [a1] := KP18.wr W19 (Or.inl (List.mem_of_getElem? (i := 0) rfl))
    refine Go.by (g' := (mkF m 62 #[.val (.ref a1), .val (.int p2), .val (.long p3), .second, .val (.int (4 : Int32))] [])) st19 ?_
    exact Go.outN X19 hx hret (Lv.narrow X19 hlk (by decide) (by decide)) (hb hby d2_62) (by rw [e19]; exact ⟨rfl, M19, KP19, V19⟩)
theorem ef_3 (a1 : Addr) (p2 : Int32) (p3 : Int32) (m : MethodId) : entryFrame m #[(.ref a1), (.int p2), (.int p3)] 6 = mkF m 0 #[.val (.ref a1), .val (.int p2), .val (.int p3), .unset, .unset, .unset] [] := by first | (simp [entryFrame, mkF, argsToLocals, Value.category]; done) | rfl
set_option maxRecDepth 65536 in
set_option maxHeartbeats 40000000 in
theorem rm3 (l : Launch) (Z : State) (a0 : Array Value) (hw : ∀ d ∈ tables_1, d.before a0 Z = true) (a1 : Addr) (p2 : Int32) (p3 : Int32) (h0 : Heap) (n0 : Nat) (k : ClassId) (vs : List Value) (f : Nat → Int32) (o nn : Nat) (V : Arv Z h0 a1 k .byte 8 vs (.int 0)) (h2 : p2.toInt = (o : Int)) (h3 : p3.toInt = ((o + nn : Nat) : Int)) (hb8 : o + nn ≤ 8) (hat : ∀ i, i < nn → vs.getD (o + i) (.int 0) = .int (f i)) :
    Ctr l Z (⟨"com/example/grenoble/grenoble/check/StateStore", "hash", "([BII)J"⟩ : MethodName) prog_19_method_15_code 6 (some .long) ({ frames := 0, cells := 0, slots := 0, locals := 0 } : Room) #[(.ref a1), (.int p2), (.int p3)] h0 (fun v h L => v = some (.long (mixH (fnv f nn))) ∧ Fr n0 L ∧ h = h0) := by
  refine Ctr.of pf_3 (ef_3 a1 p2 p3) ?_
  intro p e s m below meth c T0 hx hby hml hret hlk hnm hZ hown e0 X0
  have loop : ∀ (d t : Nat), t + d = nn → ∀ j : Int32, j.toInt = ((o + t : Nat) : Int) → Go p e below (En s ({ frames := 0, cells := 0, slots := 0, locals := 0 } : Room).cells ({ frames := 0, cells := 0, slots := 0, locals := 0 } : Room).slots) (fun v h L => v = some (.long (mixH (fnv f nn))) ∧ Fr n0 L ∧ h = h0) T0 (mkF m 7 #[.val (.ref a1), .val (.int p2), .val (.int p3), .val (.long (fnv f t)), .second, .val (.int j)] []) := by
    intro d
    induction d with
    | zero =>
      intro t ht j hj
      obtain rfl : t = nn := by omega
      refine Go.by (g' := (mkF m 9 #[.val (.ref a1), .val (.int p2), .val (.int p3), .val (.long (fnv f t)), .second, .val (.int j)] [(.int j)])) (fun _ k => XS.iload X0.here hx rfl (hb hby d3_7) rfl k) ?_
      refine Go.by (g' := (mkF m 10 #[.val (.ref a1), .val (.int p2), .val (.int p3), .val (.long (fnv f t)), .second, .val (.int j)] [(.int p3), (.int j)])) (fun _ k => XS.iloadN X0.here hx rfl (hb hby d3_9) rfl k) ?_
      refine Go.by (g' := (mkF m 35 #[.val (.ref a1), .val (.int p2), .val (.int p3), .val (.long (fnv f t)), .second, .val (.int j)] [])) (fun _ k => XS.icmpYes X0.here hx rfl (pc0 := 10) (pc' := 35) rfl (hb hby d3_10) rfl (flt (ix_nlt hj h3 (by omega))).2.1 (by decide) (by decide) k) ?_
      refine Go.by (g' := (mkF m 36 #[.val (.ref a1), .val (.int p2), .val (.int p3), .val (.long (fnv f t)), .second, .val (.int j)] [(.long (fnv f t))])) (fun _ k => XS.lloadN X0.here hx rfl (hb hby d3_35) rfl k) ?_
      refine Go.by (g' := (mkF m 37 #[.val (.ref a1), .val (.int p2), .val (.int p3), .val (.long (fnv f t)), .second, .val (.int j)] [(.long (fnv f t)), (.long (fnv f t))])) (fun _ k => XS.lloadN X0.here hx rfl (hb hby d3_36) rfl k) ?_
      refine Go.by (g' := (mkF m 39 #[.val (.ref a1), .val (.int p2), .val (.int p3), .val (.long (fnv f t)), .second, .val (.int j)] [(.int (33 : Int32)), (.long (fnv f t)), (.long (fnv f t))])) (fun _ k => XS.bipush X0.here hx rfl (hb hby d3_37) k) ?_
      refine Go.by (g' := (mkF m 40 #[.val (.ref a1), .val (.int p2), .val (.int p3), .val (.long (fnv f t)), .second, .val (.int j)] [(.long (usL (fnv f t) (33 : Int32))), (.long (fnv f t))])) (fun _ k => XS.lushr X0.here hx rfl (hb hby d3_39) rfl k) ?_
      refine Go.by (g' := (mkF m 41 #[.val (.ref a1), .val (.int p2), .val (.int p3), .val (.long (fnv f t)), .second, .val (.int j)] [(.long ((fnv f t) ^^^ (usL (fnv f t) (33 : Int32))))])) (fun _ k => XS.lxor X0.here hx rfl (hb hby d3_40) rfl k) ?_
      refine Go.by (g' := (mkF m 42 #[.val (.ref a1), .val (.int p2), .val (.int p3), .val (.long ((fnv f t) ^^^ (usL (fnv f t) (33 : Int32)))), .second, .val (.int j)] [])) (fun _ k => XS.lstoreN X0.here hx rfl (hb hby d3_41) rfl (l' := #[.val (.ref a1), .val (.int p2), .val (.int p3), .val (.long ((fnv f t) ^^^ (usL (fnv f t) (33 : Int32)))), .second, .val (.int j)]) rfl k) ?_
      refine Go.by (g' := (mkF m 43 #[.val (.ref a1), .val (.int p2), .val (.int p3), .val (.long ((fnv f t) ^^^ (usL (fnv f t) (33 : Int32)))), .second, .val (.int j)] [(.long ((fnv f t) ^^^ (usL (fnv f t) (33 : Int32))))])) (fun _ k => XS.lloadN X0.here hx rfl (hb hby d3_42) rfl k) ?_
      refine Go.by (g' := (mkF m 46 #[.val (.ref a1), .val (.int p2), .val (.int p3), .val (.long ((fnv f t) ^^^ (usL (fnv f t) (33 : Int32)))), .second, .val (.int j)] [(.long (-49064778989728563 : Int64)), (.long ((fnv f t) ^^^ (usL (fnv f t) (33 : Int32))))])) (fun _ k => X0.ldc2Long hx hown (mvT hZ (hw _ (List.mem_of_getElem? (i := 14) rfl))) (g := (mkF m 43 #[.val (.ref a1), .val (.int p2), .val (.int p3), .val (.long ((fnv f t) ^^^ (usL (fnv f t) (33 : Int32)))), .second, .val (.int j)] [(.long ((fnv f t) ^^^ (usL (fnv f t) (33 : Int32))))])) rfl (hb hby d3_43) _ k) ?_
      refine Go.by (g' := (mkF m 47 #[.val (.ref a1), .val (.int p2), .val (.int p3), .val (.long ((fnv f t) ^^^ (usL (fnv f t) (33 : Int32)))), .second, .val (.int j)] [(.long (((fnv f t) ^^^ (usL (fnv f t) (33 : Int32))) * (-49064778989728563 : Int64)))])) (fun _ k => XS.lmul X0.here hx rfl (hb hby d3_46) rfl k) ?_
      refine Go.by (g' := (mkF m 48 #[.val (.ref a1), .val (.int p2), .val (.int p3), .val (.long (((fnv f t) ^^^ (usL (fnv f t) (33 : Int32))) * (-49064778989728563 : Int64))), .second, .val (.int j)] [])) (fun _ k => XS.lstoreN X0.here hx rfl (hb hby d3_47) rfl (l' := #[.val (.ref a1), .val (.int p2), .val (.int p3), .val (.long (((fnv f t) ^^^ (usL (fnv f t) (33 : Int32))) * (-49064778989728563 : Int64))), .second, .val (.int j)]) rfl k) ?_
      refine Go.by (g' := (mkF m 49 #[.val (.ref a1), .val (.int p2), .val (.int p3), .val (.long (((fnv f t) ^^^ (usL (fnv f t) (33 : Int32))) * (-49064778989728563 : Int64))), .second, .val (.int j)] [(.long (((fnv f t) ^^^ (usL (fnv f t) (33 : Int32))) * (-49064778989728563 : Int64)))])) (fun _ k => XS.lloadN X0.here hx rfl (hb hby d3_48) rfl k) ?_
      refine Go.by (g' := (mkF m 50 #[.val (.ref a1), .val (.int p2), .val (.int p3), .val (.long (((fnv f t) ^^^ (usL (fnv f t) (33 : Int32))) * (-49064778989728563 : Int64))), .second, .val (.int j)] [(.long (((fnv f t) ^^^ (usL (fnv f t) (33 : Int32))) * (-49064778989728563 : Int64))), (.long (((fnv f t) ^^^ (usL (fnv f t) (33 : Int32))) * (-49064778989728563 : Int64)))])) (fun _ k => XS.lloadN X0.here hx rfl (hb hby d3_49) rfl k) ?_
      refine Go.by (g' := (mkF m 52 #[.val (.ref a1), .val (.int p2), .val (.int p3), .val (.long (((fnv f t) ^^^ (usL (fnv f t) (33 : Int32))) * (-49064778989728563 : Int64))), .second, .val (.int j)] [(.int (33 : Int32)), (.long (((fnv f t) ^^^ (usL (fnv f t) (33 : Int32))) * (-49064778989728563 : Int64))), (.long (((fnv f t) ^^^ (usL (fnv f t) (33 : Int32))) * (-49064778989728563 : Int64)))])) (fun _ k => XS.bipush X0.here hx rfl (hb hby d3_50) k) ?_
      refine Go.by (g' := (mkF m 53 #[.val (.ref a1), .val (.int p2), .val (.int p3), .val (.long (((fnv f t) ^^^ (usL (fnv f t) (33 : Int32))) * (-49064778989728563 : Int64))), .second, .val (.int j)] [(.long (usL (((fnv f t) ^^^ (usL (fnv f t) (33 : Int32))) * (-49064778989728563 : Int64)) (33 : Int32))), (.long (((fnv f t) ^^^ (usL (fnv f t) (33 : Int32))) * (-49064778989728563 : Int64)))])) (fun _ k => XS.lushr X0.here hx rfl (hb hby d3_52) rfl k) ?_
      refine Go.by (g' := (mkF m 54 #[.val (.ref a1), .val (.int p2), .val (.int p3), .val (.long (((fnv f t) ^^^ (usL (fnv f t) (33 : Int32))) * (-49064778989728563 : Int64))), .second, .val (.int j)] [(.long ((((fnv f t) ^^^ (usL (fnv f t) (33 : Int32))) * (-49064778989728563 : Int64)) ^^^ (usL (((fnv f t) ^^^ (usL (fnv f t) (33 : Int32))) * (-49064778989728563 : Int64)) (33 : Int32))))])) (fun _ k => XS.lxor X0.here hx rfl (hb hby d3_53) rfl k) ?_
      refine Go.by (g' := (mkF m 55 #[.val (.ref a1), .val (.int p2), .val (.int p3), .val (.long ((((fnv f t) ^^^ (usL (fnv f t) (33 : Int32))) * (-49064778989728563 : Int64)) ^^^ (usL (((fnv f t) ^^^ (usL (fnv f t) (33 : Int32))) * (-49064778989728563 : Int64)) (33 : Int32)))), .second, .val (.int j)] [])) (fun _ k => XS.lstoreN X0.here hx rfl (hb hby d3_54) rfl (l' := #[.val (.ref a1), .val (.int p2), .val (.int p3), .val (.long ((((fnv f t) ^^^ (usL (fnv f t) (33 : Int32))) * (-49064778989728563 : Int64)) ^^^ (usL (((fnv f t) ^^^ (usL (fnv f t) (33 : Int32))) * (-49064778989728563 : Int64)) (33 : Int32)))), .second, .val (.int j)]) rfl k) ?_
      refine Go.by (g' := (mkF m 56 #[.val (.ref a1), .val (.int p2), .val (.int p3), .val (.long ((((fnv f t) ^^^ (usL (fnv f t) (33 : Int32))) * (-49064778989728563 : Int64)) ^^^ (usL (((fnv f t) ^^^ (usL (fnv f t) (33 : Int32))) * (-49064778989728563 : Int64)) (33 : Int32)))), .second, .val (.int j)] [(.long ((((fnv f t) ^^^ (usL (fnv f t) (33 : Int32))) * (-49064778989728563 : Int64)) ^^^ (usL (((fnv f t) ^^^ (usL (fnv f t) (33 : Int32))) * (-49064778989728563 : Int64)) (33 : Int32))))])) (fun _ k => XS.lloadN X0.here hx rfl (hb hby d3_55) rfl k) ?_
      exact Go.outJ X0 hx hret (Lv.narrow X0 hlk (by decide) (by decide)) (hb hby d3_56) (by rw [e0]; exact ⟨rfl, Fr.nil _, rfl⟩)
    | succ d ih =>
      intro t ht j hj
      refine Go.by (g' := (mkF m 9 #[.val (.ref a1), .val (.int p2), .val (.int p3), .val (.long (fnv f t)), .second, .val (.int j)] [(.int j)])) (fun _ k => XS.iload X0.here hx rfl (hb hby d3_7) rfl k) ?_
      refine Go.by (g' := (mkF m 10 #[.val (.ref a1), .val (.int p2), .val (.int p3), .val (.long (fnv f t)), .second, .val (.int j)] [(.int p3), (.int j)])) (fun _ k => XS.iloadN X0.here hx rfl (hb hby d3_9) rfl k) ?_
      refine Go.by (g' := (mkF m 13 #[.val (.ref a1), .val (.int p2), .val (.int p3), .val (.long (fnv f t)), .second, .val (.int j)] [])) (fun _ k => XS.icmpNo X0.here hx rfl (hb hby d3_10) rfl (tlt (ix_lt hj h3 (by omega))).2.1 k) ?_
      refine Go.by (g' := (mkF m 14 #[.val (.ref a1), .val (.int p2), .val (.int p3), .val (.long (fnv f t)), .second, .val (.int j)] [(.long (fnv f t))])) (fun _ k => XS.lloadN X0.here hx rfl (hb hby d3_13) rfl k) ?_
      refine Go.by (g' := (mkF m 15 #[.val (.ref a1), .val (.int p2), .val (.int p3), .val (.long (fnv f t)), .second, .val (.int j)] [(.ref a1), (.long (fnv f t))])) (fun _ k => XS.aloadN X0.here hx rfl (hb hby d3_14) rfl rfl k) ?_
      refine Go.by (g' := (mkF m 17 #[.val (.ref a1), .val (.int p2), .val (.int p3), .val (.long (fnv f t)), .second, .val (.int j)] [(.int j), (.ref a1), (.long (fnv f t))])) (fun _ k => XS.iload X0.here hx rfl (hb hby d3_15) rfl k) ?_
      refine Go.by (g' := (mkF m 18 #[.val (.ref a1), .val (.int p2), .val (.int p3), .val (.long (fnv f t)), .second, .val (.int j)] [(.int (f t)), (.long (fnv f t))])) (ldBA X0 hx hZ e0 V (v := (.int (f t))) (ix_nn hj) (ix_lt hj (by decide : (8 : Int32).toInt = ((8 : Nat) : Int)) (by omega)) (by rw [ix_nat hj]; exact hat t (by omega)) (g := (mkF m 17 #[.val (.ref a1), .val (.int p2), .val (.int p3), .val (.long (fnv f t)), .second, .val (.int j)] [(.int j), (.ref a1), (.long (fnv f t))])) rfl rfl (hb hby d3_17)) ?_
      refine Go.by (g' := (mkF m 21 #[.val (.ref a1), .val (.int p2), .val (.int p3), .val (.long (fnv f t)), .second, .val (.int j)] [(.int (255 : Int32)), (.int (f t)), (.long (fnv f t))])) (fun _ k => XS.sipush X0.here hx rfl (hb hby d3_18) k) ?_
      refine Go.by (g' := (mkF m 22 #[.val (.ref a1), .val (.int p2), .val (.int p3), .val (.long (fnv f t)), .second, .val (.int j)] [(.int ((f t) &&& (255 : Int32))), (.long (fnv f t))])) (fun _ k => XS.iand X0.here hx rfl (hb hby d3_21) rfl k) ?_
      refine Go.by (g' := (mkF m 23 #[.val (.ref a1), .val (.int p2), .val (.int p3), .val (.long (fnv f t)), .second, .val (.int j)] [(.long (((f t) &&& (255 : Int32)).toInt64)), (.long (fnv f t))])) (fun _ k => XS.i2l X0.here hx rfl (hb hby d3_22) rfl k) ?_
      refine Go.by (g' := (mkF m 24 #[.val (.ref a1), .val (.int p2), .val (.int p3), .val (.long (fnv f t)), .second, .val (.int j)] [(.long ((fnv f t) ^^^ (((f t) &&& (255 : Int32)).toInt64)))])) (fun _ k => XS.lxor X0.here hx rfl (hb hby d3_23) rfl k) ?_
      refine Go.by (g' := (mkF m 27 #[.val (.ref a1), .val (.int p2), .val (.int p3), .val (.long (fnv f t)), .second, .val (.int j)] [(.long (1099511628211 : Int64)), (.long ((fnv f t) ^^^ (((f t) &&& (255 : Int32)).toInt64)))])) (fun _ k => X0.ldc2Long hx hown (mvT hZ (hw _ (List.mem_of_getElem? (i := 13) rfl))) (g := (mkF m 24 #[.val (.ref a1), .val (.int p2), .val (.int p3), .val (.long (fnv f t)), .second, .val (.int j)] [(.long ((fnv f t) ^^^ (((f t) &&& (255 : Int32)).toInt64)))])) rfl (hb hby d3_24) _ k) ?_
      refine Go.by (g' := (mkF m 28 #[.val (.ref a1), .val (.int p2), .val (.int p3), .val (.long (fnv f t)), .second, .val (.int j)] [(.long (((fnv f t) ^^^ (((f t) &&& (255 : Int32)).toInt64)) * (1099511628211 : Int64)))])) (fun _ k => XS.lmul X0.here hx rfl (hb hby d3_27) rfl k) ?_
      refine Go.by (g' := (mkF m 29 #[.val (.ref a1), .val (.int p2), .val (.int p3), .val (.long (((fnv f t) ^^^ (((f t) &&& (255 : Int32)).toInt64)) * (1099511628211 : Int64))), .second, .val (.int j)] [])) (fun _ k => XS.lstoreN X0.here hx rfl (hb hby d3_28) rfl (l' := #[.val (.ref a1), .val (.int p2), .val (.int p3), .val (.long (((fnv f t) ^^^ (((f t) &&& (255 : Int32)).toInt64)) * (1099511628211 : Int64))), .second, .val (.int j)]) rfl k) ?_
      refine Go.by (g' := (mkF m 32 #[.val (.ref a1), .val (.int p2), .val (.int p3), .val (.long (((fnv f t) ^^^ (((f t) &&& (255 : Int32)).toInt64)) * (1099511628211 : Int64))), .second, .val (.int (j + (1 : Int32)))] [])) (fun _ k => XS.iinc X0.here hx rfl (hb hby d3_29) rfl (l' := #[.val (.ref a1), .val (.int p2), .val (.int p3), .val (.long (((fnv f t) ^^^ (((f t) &&& (255 : Int32)).toInt64)) * (1099511628211 : Int64))), .second, .val (.int (j + (1 : Int32)))]) rfl k) ?_
      refine Go.by (g' := (mkF m 7 #[.val (.ref a1), .val (.int p2), .val (.int p3), .val (.long (((fnv f t) ^^^ (((f t) &&& (255 : Int32)).toInt64)) * (1099511628211 : Int64))), .second, .val (.int (j + (1 : Int32)))] [])) (fun _ k => XS.goto X0.here hx rfl (pc0 := 32) (pc' := 7) rfl (hb hby d3_32) (by decide) (by decide) k) ?_
      exact ih (t + 1) (by omega) _ (by have q := ix_add hj (by decide : (1 : Int32).toInt = ((1 : Nat) : Int)) (by omega); rw [Nat.add_assoc] at q; exact q)
  refine Go.by (g' := (mkF m 3 #[.val (.ref a1), .val (.int p2), .val (.int p3), .unset, .unset, .unset] [(.long (-3750763034362895579 : Int64))])) (fun _ k => X0.ldc2Long hx hown (mvT hZ (hw _ (List.mem_of_getElem? (i := 12) rfl))) (g := (mkF m 0 #[.val (.ref a1), .val (.int p2), .val (.int p3), .unset, .unset, .unset] [])) rfl (hb hby d3_0) _ k) ?_
  refine Go.by (g' := (mkF m 4 #[.val (.ref a1), .val (.int p2), .val (.int p3), .val (.long (-3750763034362895579 : Int64)), .second, .unset] [])) (fun _ k => XS.lstoreN X0.here hx rfl (hb hby d3_3) rfl (l' := #[.val (.ref a1), .val (.int p2), .val (.int p3), .val (.long (-3750763034362895579 : Int64)), .second, .unset]) rfl k) ?_
  refine Go.by (g' := (mkF m 5 #[.val (.ref a1), .val (.int p2), .val (.int p3), .val (.long (-3750763034362895579 : Int64)), .second, .unset] [(.int p2)])) (fun _ k => XS.iloadN X0.here hx rfl (hb hby d3_4) rfl k) ?_
  refine Go.by (g' := (mkF m 7 #[.val (.ref a1), .val (.int p2), .val (.int p3), .val (.long (-3750763034362895579 : Int64)), .second, .val (.int p2)] [])) (fun _ k => XS.istore X0.here hx rfl (hb hby d3_5) rfl (l' := #[.val (.ref a1), .val (.int p2), .val (.int p3), .val (.long (-3750763034362895579 : Int64)), .second, .val (.int p2)]) rfl k) ?_
  exact loop nn 0 (by omega) p2 h2
theorem ef_0 (p1 : Int64) (p2 : Int64) (p3 : Int64) (p4 : Int32) (p5 : Int32) (m : MethodId) : entryFrame m #[(.long p1), (.long p2), (.long p3), (.int p4), (.int p5)] maxLocals = mkF m 0 #[.val (.long p1), .second, .val (.long p2), .second, .val (.long p3), .second, .val (.int p4), .val (.int p5), .unset, .unset, .unset, .unset, .unset, .unset, .unset, .unset, .unset, .unset, .unset, .unset, .unset, .unset, .unset] [] := by first | (simp [entryFrame, mkF, argsToLocals, Value.category, maxLocals]; done) | rfl
set_option maxRecDepth 65536 in
set_option maxHeartbeats 40000000 in
theorem rm0 (l : Launch) (Z : State) (a0 : Array Value) (hw : ∀ d ∈ tables_1, d.before a0 Z = true) (p1 : Int64) (p2 : Int64) (p3 : Int64) (p4 : Int32) (p5 : Int32) (h0 : Heap) (n0 : Nat) (Z0 : n0 ≤ h0.size)   :
    Ctr l Z x code maxLocals ret room_1 #[(.long p1), (.long p2), (.long p3), (.int p4), (.int p5)] h0 (fun v h L => v = some (.int 1) ∧ Fr n0 L) := by
  refine Ctr.of pf_0 (ef_0 p1 p2 p3 p4 p5) ?_
  intro p e s m below meth c T0 hx hby hml hret hlk hnm hZ hown e0 X0
  have k34 : ∀ (le oa ob kk : Int32) (nn o1 o2 k0 : Nat), le.toInt = (nn : Int) → nn ≤ 4 → oa.toInt = (o1 : Int) → o1 ≤ 3 → ob.toInt = (o2 : Int) → o2 ≤ 3 → kk.toInt = (k0 : Int) → Go p e below (En s room_1.cells room_1.slots) (fun v h L => v = some (.int 1) ∧ Fr n0 L) T0 (mkF m 34 #[.val (.long p1), .second, .val (.long p2), .second, .val (.long p3), .second, .val (.int p4), .val (.int p5), .val (.int le), .val (.int oa), .val (.int ob), .val (.int kk), .unset, .unset, .unset, .unset, .unset, .unset, .unset, .unset, .unset, .unset, .unset] []) := by
    intro le oa ob kk nn o1 o2 k0 hle hn4 hoa ho1 hob ho2 hkk
    have k46 : ∀ (kv : Int32) (k1 : Nat), ((0 : Int32) < le → kv.toInt = (k1 : Int) ∧ k1 < nn) → Go p e below (En s room_1.cells room_1.slots) (fun v h L => v = some (.int 1) ∧ Fr n0 L) T0 (mkF m 46 #[.val (.long p1), .second, .val (.long p2), .second, .val (.long p3), .second, .val (.int p4), .val (.int p5), .val (.int le), .val (.int oa), .val (.int ob), .val (.int kv), .unset, .unset, .unset, .unset, .unset, .unset, .unset, .unset, .unset, .unset, .unset] []) := by
      intro kv k1 hkv
      have k62 : ∀ dv : Int32, (dv &&& 255) ≠ 0 → Go p e below (En s room_1.cells room_1.slots) (fun v h L => v = some (.int 1) ∧ Fr n0 L) T0 (mkF m 62 #[.val (.long p1), .second, .val (.long p2), .second, .val (.long p3), .second, .val (.int p4), .val (.int p5), .val (.int le), .val (.int oa), .val (.int ob), .val (.int kv), .val (.int dv), .unset, .unset, .unset, .unset, .unset, .unset, .unset, .unset, .unset, .unset] []) := by
        intro dv hdv
        have hcase : (le = 0 ∧ nn = 0) ∨ (le = 1 ∧ nn = 1) ∨ (le = 2 ∧ nn = 2) ∨ (le = 3 ∧ nn = 3) ∨ (le = 4 ∧ nn = 4) := by
          have c0 : (0 : Int32).toInt = 0 := by decide
          have c1 : (1 : Int32).toInt = 1 := by decide
          have c2 : (2 : Int32).toInt = 2 := by decide
          have c3 : (3 : Int32).toInt = 3 := by decide
          have c4 : (4 : Int32).toInt = 4 := by decide
          rw [← Int32.toInt_inj, ← Int32.toInt_inj, ← Int32.toInt_inj, ← Int32.toInt_inj, ← Int32.toInt_inj]
          omega
        refine Go.by (g' := (mkF m 63 #[.val (.long p1), .second, .val (.long p2), .second, .val (.long p3), .second, .val (.int p4), .val (.int p5), .val (.int le), .val (.int oa), .val (.int ob), .val (.int kv), .val (.int dv), .unset, .unset, .unset, .unset, .unset, .unset, .unset, .unset, .unset, .unset] [(.long p2)])) (fun _ k => XS.lloadN X0.here hx rfl (hb hby at_62) rfl k) ?_
        refine Go.callS X0 hx hZ (y := (⟨"com/example/grenoble/grenoble/check/StateStoreHashPinLaw", "fill", "(J)[B"⟩ : MethodName)) hown (hw _ (List.mem_of_getElem? (i := 0) rfl)) (hw _ (List.mem_of_getElem? (i := 1) rfl)) (hw _ (List.mem_of_getElem? (i := 2) rfl)) (hw _ (List.mem_of_getElem? (i := 3) rfl)) (by decide) (W := 0) (argsL := [(.long p2)]) (rest := []) (rm1 l Z a0 hw p2 h0 n0 Z0) (by decide) (by decide) (by decide) (by decide) (g := (mkF m 63 #[.val (.long p1), .second, .val (.long p2), .second, .val (.long p3), .second, .val (.int p4), .val (.int p5), .val (.int le), .val (.int oa), .val (.int ob), .val (.int kv), .val (.int dv), .unset, .unset, .unset, .unset, .unset, .unset, .unset, .unset, .unset, .unset] [(.long p2)])) rfl (by rw [hml]; rfl) (lenOf pd_1 rfl) rfl (by show 2 * 0 + _ ≤ _; exact Nat.le_of_eq rfl) (hb hby at_63) e0 ?_
        rintro T20 L20 _ X20 ⟨b1, kb1, ws1, rfl, N20, K20, sz1, hw1, Va0⟩
        have M20 := Fr.app (Fr.nil n0) N20
        have Z20 : n0 ≤ T20.heap.size := Nat.le_trans Z0 K20.1
        show Go p e below _ _ T20 (mkF m 66 #[.val (.long p1), .second, .val (.long p2), .second, .val (.long p3), .second, .val (.int p4), .val (.int p5), .val (.int le), .val (.int oa), .val (.int ob), .val (.int kv), .val (.int dv), .unset, .unset, .unset, .unset, .unset, .unset, .unset, .unset, .unset, .unset] [(.ref b1)])
        have ge_b1 : n0 ≤ b1 := Nat.le_trans Z0 sz1
        refine Go.by (g' := (mkF m 68 #[.val (.long p1), .second, .val (.long p2), .second, .val (.long p3), .second, .val (.int p4), .val (.int p5), .val (.int le), .val (.int oa), .val (.int ob), .val (.int kv), .val (.int dv), .val (.ref b1), .unset, .unset, .unset, .unset, .unset, .unset, .unset, .unset, .unset] [])) (fun _ k => XS.astore X20.here hx rfl (hb hby at_66) rfl rfl (l' := #[.val (.long p1), .second, .val (.long p2), .second, .val (.long p3), .second, .val (.int p4), .val (.int p5), .val (.int le), .val (.int oa), .val (.int ob), .val (.int kv), .val (.int dv), .val (.ref b1), .unset, .unset, .unset, .unset, .unset, .unset, .unset, .unset, .unset]) rfl k) ?_
        refine Go.by (g' := (mkF m 70 #[.val (.long p1), .second, .val (.long p2), .second, .val (.long p3), .second, .val (.int p4), .val (.int p5), .val (.int le), .val (.int oa), .val (.int ob), .val (.int kv), .val (.int dv), .val (.ref b1), .unset, .unset, .unset, .unset, .unset, .unset, .unset, .unset, .unset] [(.ref b1)])) (fun _ k => XS.aload X20.here hx rfl (hb hby at_68) rfl rfl k) ?_
        refine Go.by (g' := (mkF m 72 #[.val (.long p1), .second, .val (.long p2), .second, .val (.long p3), .second, .val (.int p4), .val (.int p5), .val (.int le), .val (.int oa), .val (.int ob), .val (.int kv), .val (.int dv), .val (.ref b1), .unset, .unset, .unset, .unset, .unset, .unset, .unset, .unset, .unset] [(.int oa), (.ref b1)])) (fun _ k => XS.iload X20.here hx rfl (hb hby at_70) rfl k) ?_
        refine Go.by (g' := (mkF m 73 #[.val (.long p1), .second, .val (.long p2), .second, .val (.long p3), .second, .val (.int p4), .val (.int p5), .val (.int le), .val (.int oa), .val (.int ob), .val (.int kv), .val (.int dv), .val (.ref b1), .unset, .unset, .unset, .unset, .unset, .unset, .unset, .unset, .unset] [(.long p1), (.int oa), (.ref b1)])) (fun _ k => XS.lloadN X20.here hx rfl (hb hby at_72) rfl k) ?_
        refine Go.by (g' := (mkF m 75 #[.val (.long p1), .second, .val (.long p2), .second, .val (.long p3), .second, .val (.int p4), .val (.int p5), .val (.int le), .val (.int oa), .val (.int ob), .val (.int kv), .val (.int dv), .val (.ref b1), .unset, .unset, .unset, .unset, .unset, .unset, .unset, .unset, .unset] [(.int le), (.long p1), (.int oa), (.ref b1)])) (fun _ k => XS.iload X20.here hx rfl (hb hby at_73) rfl k) ?_
        refine Go.callS X20 hx hZ (y := (⟨"com/example/grenoble/grenoble/check/StateStoreHashPinLaw", "place", "([BIJI)V"⟩ : MethodName)) hown (hw _ (List.mem_of_getElem? (i := 5) rfl)) (hw _ (List.mem_of_getElem? (i := 6) rfl)) (hw _ (List.mem_of_getElem? (i := 2) rfl)) (hw _ (List.mem_of_getElem? (i := 7) rfl)) (by decide) (W := 0) (argsL := [(.ref b1), (.int oa), (.long p1), (.int le)]) (rest := []) (rm2 l Z a0 hw b1 oa p1 le T20.heap n0 kb1 ws1 o1 nn Va0 hw1 ge_b1 hoa ho1 hcase) (by decide) (by decide) (by decide) (by decide) (g := (mkF m 75 #[.val (.long p1), .second, .val (.long p2), .second, .val (.long p3), .second, .val (.int p4), .val (.int p5), .val (.int le), .val (.int oa), .val (.int ob), .val (.int kv), .val (.int dv), .val (.ref b1), .unset, .unset, .unset, .unset, .unset, .unset, .unset, .unset, .unset] [(.int le), (.long p1), (.int oa), (.ref b1)])) rfl (by rw [hml]; rfl) (lenOf pd_2 rfl) rfl (by show 2 * 0 + _ ≤ _; exact Nat.le_of_eq rfl) (hb hby at_75) rfl ?_
        rintro T21 L21 _ X21 ⟨rfl, N21, K21, Va1⟩
        have M21 := Fr.app M20 N21
        have Z21 : n0 ≤ T21.heap.size := Nat.le_trans Z20 K21.1
        show Go p e below _ _ T21 (mkF m 78 #[.val (.long p1), .second, .val (.long p2), .second, .val (.long p3), .second, .val (.int p4), .val (.int p5), .val (.int le), .val (.int oa), .val (.int ob), .val (.int kv), .val (.int dv), .val (.ref b1), .unset, .unset, .unset, .unset, .unset, .unset, .unset, .unset, .unset] [])
        refine Go.by (g' := (mkF m 80 #[.val (.long p1), .second, .val (.long p2), .second, .val (.long p3), .second, .val (.int p4), .val (.int p5), .val (.int le), .val (.int oa), .val (.int ob), .val (.int kv), .val (.int dv), .val (.ref b1), .unset, .unset, .unset, .unset, .unset, .unset, .unset, .unset, .unset] [(.long p3)])) (fun _ k => XS.lload X21.here hx rfl (hb hby at_78) rfl k) ?_
        refine Go.callS X21 hx hZ (y := (⟨"com/example/grenoble/grenoble/check/StateStoreHashPinLaw", "fill", "(J)[B"⟩ : MethodName)) hown (hw _ (List.mem_of_getElem? (i := 0) rfl)) (hw _ (List.mem_of_getElem? (i := 1) rfl)) (hw _ (List.mem_of_getElem? (i := 2) rfl)) (hw _ (List.mem_of_getElem? (i := 3) rfl)) (by decide) (W := 0) (argsL := [(.long p3)]) (rest := []) (rm1 l Z a0 hw p3 T21.heap n0 Z21) (by decide) (by decide) (by decide) (by decide) (g := (mkF m 80 #[.val (.long p1), .second, .val (.long p2), .second, .val (.long p3), .second, .val (.int p4), .val (.int p5), .val (.int le), .val (.int oa), .val (.int ob), .val (.int kv), .val (.int dv), .val (.ref b1), .unset, .unset, .unset, .unset, .unset, .unset, .unset, .unset, .unset] [(.long p3)])) rfl (by rw [hml]; rfl) (lenOf pd_1 rfl) rfl (by show 2 * 0 + _ ≤ _; exact Nat.le_of_eq rfl) (hb hby at_80) rfl ?_
        rintro T22 L22 _ X22 ⟨b2, kb2, ws2, rfl, N22, K22, sz2, hw2, Vb0⟩
        have M22 := Fr.app M21 N22
        have Z22 : n0 ≤ T22.heap.size := Nat.le_trans Z21 K22.1
        show Go p e below _ _ T22 (mkF m 83 #[.val (.long p1), .second, .val (.long p2), .second, .val (.long p3), .second, .val (.int p4), .val (.int p5), .val (.int le), .val (.int oa), .val (.int ob), .val (.int kv), .val (.int dv), .val (.ref b1), .unset, .unset, .unset, .unset, .unset, .unset, .unset, .unset, .unset] [(.ref b2)])
        have ne_b1_b2 : b1 ≠ b2 := Nat.ne_of_lt (Nat.lt_of_lt_of_le Va1.lt sz2)
        have ge_b2 : n0 ≤ b2 := Nat.le_trans Z21 sz2
        refine Go.by (g' := (mkF m 85 #[.val (.long p1), .second, .val (.long p2), .second, .val (.long p3), .second, .val (.int p4), .val (.int p5), .val (.int le), .val (.int oa), .val (.int ob), .val (.int kv), .val (.int dv), .val (.ref b1), .val (.ref b2), .unset, .unset, .unset, .unset, .unset, .unset, .unset, .unset] [])) (fun _ k => XS.astore X22.here hx rfl (hb hby at_83) rfl rfl (l' := #[.val (.long p1), .second, .val (.long p2), .second, .val (.long p3), .second, .val (.int p4), .val (.int p5), .val (.int le), .val (.int oa), .val (.int ob), .val (.int kv), .val (.int dv), .val (.ref b1), .val (.ref b2), .unset, .unset, .unset, .unset, .unset, .unset, .unset, .unset]) rfl k) ?_
        refine Go.by (g' := (mkF m 87 #[.val (.long p1), .second, .val (.long p2), .second, .val (.long p3), .second, .val (.int p4), .val (.int p5), .val (.int le), .val (.int oa), .val (.int ob), .val (.int kv), .val (.int dv), .val (.ref b1), .val (.ref b2), .unset, .unset, .unset, .unset, .unset, .unset, .unset, .unset] [(.ref b2)])) (fun _ k => XS.aload X22.here hx rfl (hb hby at_85) rfl rfl k) ?_
        refine Go.by (g' := (mkF m 89 #[.val (.long p1), .second, .val (.long p2), .second, .val (.long p3), .second, .val (.int p4), .val (.int p5), .val (.int le), .val (.int oa), .val (.int ob), .val (.int kv), .val (.int dv), .val (.ref b1), .val (.ref b2), .unset, .unset, .unset, .unset, .unset, .unset, .unset, .unset] [(.int ob), (.ref b2)])) (fun _ k => XS.iload X22.here hx rfl (hb hby at_87) rfl k) ?_
        refine Go.by (g' := (mkF m 90 #[.val (.long p1), .second, .val (.long p2), .second, .val (.long p3), .second, .val (.int p4), .val (.int p5), .val (.int le), .val (.int oa), .val (.int ob), .val (.int kv), .val (.int dv), .val (.ref b1), .val (.ref b2), .unset, .unset, .unset, .unset, .unset, .unset, .unset, .unset] [(.long p1), (.int ob), (.ref b2)])) (fun _ k => XS.lloadN X22.here hx rfl (hb hby at_89) rfl k) ?_
        refine Go.by (g' := (mkF m 92 #[.val (.long p1), .second, .val (.long p2), .second, .val (.long p3), .second, .val (.int p4), .val (.int p5), .val (.int le), .val (.int oa), .val (.int ob), .val (.int kv), .val (.int dv), .val (.ref b1), .val (.ref b2), .unset, .unset, .unset, .unset, .unset, .unset, .unset, .unset] [(.int le), (.long p1), (.int ob), (.ref b2)])) (fun _ k => XS.iload X22.here hx rfl (hb hby at_90) rfl k) ?_
        refine Go.callS X22 hx hZ (y := (⟨"com/example/grenoble/grenoble/check/StateStoreHashPinLaw", "place", "([BIJI)V"⟩ : MethodName)) hown (hw _ (List.mem_of_getElem? (i := 5) rfl)) (hw _ (List.mem_of_getElem? (i := 6) rfl)) (hw _ (List.mem_of_getElem? (i := 2) rfl)) (hw _ (List.mem_of_getElem? (i := 7) rfl)) (by decide) (W := 0) (argsL := [(.ref b2), (.int ob), (.long p1), (.int le)]) (rest := []) (rm2 l Z a0 hw b2 ob p1 le T22.heap n0 kb2 ws2 o2 nn Vb0 hw2 ge_b2 hob ho2 hcase) (by decide) (by decide) (by decide) (by decide) (g := (mkF m 92 #[.val (.long p1), .second, .val (.long p2), .second, .val (.long p3), .second, .val (.int p4), .val (.int p5), .val (.int le), .val (.int oa), .val (.int ob), .val (.int kv), .val (.int dv), .val (.ref b1), .val (.ref b2), .unset, .unset, .unset, .unset, .unset, .unset, .unset, .unset] [(.int le), (.long p1), (.int ob), (.ref b2)])) rfl (by rw [hml]; rfl) (lenOf pd_2 rfl) rfl (by show 2 * 0 + _ ≤ _; exact Nat.le_of_eq rfl) (hb hby at_92) rfl ?_
        rintro T23 L23 _ X23 ⟨rfl, N23, K23, Vb1⟩
        have M23 := Fr.app M22 N23
        have Z23 : n0 ≤ T23.heap.size := Nat.le_trans Z22 K23.1
        show Go p e below _ _ T23 (mkF m 95 #[.val (.long p1), .second, .val (.long p2), .second, .val (.long p3), .second, .val (.int p4), .val (.int p5), .val (.int le), .val (.int oa), .val (.int ob), .val (.int kv), .val (.int dv), .val (.ref b1), .val (.ref b2), .unset, .unset, .unset, .unset, .unset, .unset, .unset, .unset] [])
        refine Go.by (g' := (mkF m 96 #[.val (.long p1), .second, .val (.long p2), .second, .val (.long p3), .second, .val (.int p4), .val (.int p5), .val (.int le), .val (.int oa), .val (.int ob), .val (.int kv), .val (.int dv), .val (.ref b1), .val (.ref b2), .unset, .unset, .unset, .unset, .unset, .unset, .unset, .unset] [(.long p2)])) (fun _ k => XS.lloadN X23.here hx rfl (hb hby at_95) rfl k) ?_
        have f24_W1 := ((Va1.keep K22 nin0).keep K23 (ninS ne_b1_b2 nin0))
        refine Go.callS X23 hx hZ (y := (⟨"com/example/grenoble/grenoble/check/StateStoreHashPinLaw", "fill", "(J)[B"⟩ : MethodName)) hown (hw _ (List.mem_of_getElem? (i := 0) rfl)) (hw _ (List.mem_of_getElem? (i := 1) rfl)) (hw _ (List.mem_of_getElem? (i := 2) rfl)) (hw _ (List.mem_of_getElem? (i := 3) rfl)) (by decide) (W := 0) (argsL := [(.long p2)]) (rest := []) (rm1 l Z a0 hw p2 T23.heap n0 Z23) (by decide) (by decide) (by decide) (by decide) (g := (mkF m 96 #[.val (.long p1), .second, .val (.long p2), .second, .val (.long p3), .second, .val (.int p4), .val (.int p5), .val (.int le), .val (.int oa), .val (.int ob), .val (.int kv), .val (.int dv), .val (.ref b1), .val (.ref b2), .unset, .unset, .unset, .unset, .unset, .unset, .unset, .unset] [(.long p2)])) rfl (by rw [hml]; rfl) (lenOf pd_1 rfl) rfl (by show 2 * 0 + _ ≤ _; exact Nat.le_of_eq rfl) (hb hby at_96) rfl ?_
        rintro T25 L25 _ X25 ⟨b3, kb3, ws3, rfl, N25, K25, sz3, hw3, Vc0⟩
        have M25 := Fr.app M23 N25
        have Z25 : n0 ≤ T25.heap.size := Nat.le_trans Z23 K25.1
        show Go p e below _ _ T25 (mkF m 99 #[.val (.long p1), .second, .val (.long p2), .second, .val (.long p3), .second, .val (.int p4), .val (.int p5), .val (.int le), .val (.int oa), .val (.int ob), .val (.int kv), .val (.int dv), .val (.ref b1), .val (.ref b2), .unset, .unset, .unset, .unset, .unset, .unset, .unset, .unset] [(.ref b3)])
        have ne_b1_b3 : b1 ≠ b3 := Nat.ne_of_lt (Nat.lt_of_lt_of_le f24_W1.lt sz3)
        have ne_b2_b3 : b2 ≠ b3 := Nat.ne_of_lt (Nat.lt_of_lt_of_le Vb1.lt sz3)
        have ge_b3 : n0 ≤ b3 := Nat.le_trans Z23 sz3
        refine Go.by (g' := (mkF m 101 #[.val (.long p1), .second, .val (.long p2), .second, .val (.long p3), .second, .val (.int p4), .val (.int p5), .val (.int le), .val (.int oa), .val (.int ob), .val (.int kv), .val (.int dv), .val (.ref b1), .val (.ref b2), .val (.ref b3), .unset, .unset, .unset, .unset, .unset, .unset, .unset] [])) (fun _ k => XS.astore X25.here hx rfl (hb hby at_99) rfl rfl (l' := #[.val (.long p1), .second, .val (.long p2), .second, .val (.long p3), .second, .val (.int p4), .val (.int p5), .val (.int le), .val (.int oa), .val (.int ob), .val (.int kv), .val (.int dv), .val (.ref b1), .val (.ref b2), .val (.ref b3), .unset, .unset, .unset, .unset, .unset, .unset, .unset]) rfl k) ?_
        refine Go.by (g' := (mkF m 103 #[.val (.long p1), .second, .val (.long p2), .second, .val (.long p3), .second, .val (.int p4), .val (.int p5), .val (.int le), .val (.int oa), .val (.int ob), .val (.int kv), .val (.int dv), .val (.ref b1), .val (.ref b2), .val (.ref b3), .unset, .unset, .unset, .unset, .unset, .unset, .unset] [(.ref b3)])) (fun _ k => XS.aload X25.here hx rfl (hb hby at_101) rfl rfl k) ?_
        refine Go.by (g' := (mkF m 105 #[.val (.long p1), .second, .val (.long p2), .second, .val (.long p3), .second, .val (.int p4), .val (.int p5), .val (.int le), .val (.int oa), .val (.int ob), .val (.int kv), .val (.int dv), .val (.ref b1), .val (.ref b2), .val (.ref b3), .unset, .unset, .unset, .unset, .unset, .unset, .unset] [(.int oa), (.ref b3)])) (fun _ k => XS.iload X25.here hx rfl (hb hby at_103) rfl k) ?_
        refine Go.by (g' := (mkF m 106 #[.val (.long p1), .second, .val (.long p2), .second, .val (.long p3), .second, .val (.int p4), .val (.int p5), .val (.int le), .val (.int oa), .val (.int ob), .val (.int kv), .val (.int dv), .val (.ref b1), .val (.ref b2), .val (.ref b3), .unset, .unset, .unset, .unset, .unset, .unset, .unset] [(.long p1), (.int oa), (.ref b3)])) (fun _ k => XS.lloadN X25.here hx rfl (hb hby at_105) rfl k) ?_
        refine Go.by (g' := (mkF m 108 #[.val (.long p1), .second, .val (.long p2), .second, .val (.long p3), .second, .val (.int p4), .val (.int p5), .val (.int le), .val (.int oa), .val (.int ob), .val (.int kv), .val (.int dv), .val (.ref b1), .val (.ref b2), .val (.ref b3), .unset, .unset, .unset, .unset, .unset, .unset, .unset] [(.int le), (.long p1), (.int oa), (.ref b3)])) (fun _ k => XS.iload X25.here hx rfl (hb hby at_106) rfl k) ?_
        refine Go.callS X25 hx hZ (y := (⟨"com/example/grenoble/grenoble/check/StateStoreHashPinLaw", "place", "([BIJI)V"⟩ : MethodName)) hown (hw _ (List.mem_of_getElem? (i := 5) rfl)) (hw _ (List.mem_of_getElem? (i := 6) rfl)) (hw _ (List.mem_of_getElem? (i := 2) rfl)) (hw _ (List.mem_of_getElem? (i := 7) rfl)) (by decide) (W := 0) (argsL := [(.ref b3), (.int oa), (.long p1), (.int le)]) (rest := []) (rm2 l Z a0 hw b3 oa p1 le T25.heap n0 kb3 ws3 o1 nn Vc0 hw3 ge_b3 hoa ho1 hcase) (by decide) (by decide) (by decide) (by decide) (g := (mkF m 108 #[.val (.long p1), .second, .val (.long p2), .second, .val (.long p3), .second, .val (.int p4), .val (.int p5), .val (.int le), .val (.int oa), .val (.int ob), .val (.int kv), .val (.int dv), .val (.ref b1), .val (.ref b2), .val (.ref b3), .unset, .unset, .unset, .unset, .unset, .unset, .unset] [(.int le), (.long p1), (.int oa), (.ref b3)])) rfl (by rw [hml]; rfl) (lenOf pd_2 rfl) rfl (by show 2 * 0 + _ ≤ _; exact Nat.le_of_eq rfl) (hb hby at_108) rfl ?_
        rintro T26 L26 _ X26 ⟨rfl, N26, K26, Vc1⟩
        have M26 := Fr.app M25 N26
        have Z26 : n0 ≤ T26.heap.size := Nat.le_trans Z25 K26.1
        show Go p e below _ _ T26 (mkF m 111 #[.val (.long p1), .second, .val (.long p2), .second, .val (.long p3), .second, .val (.int p4), .val (.int p5), .val (.int le), .val (.int oa), .val (.int ob), .val (.int kv), .val (.int dv), .val (.ref b1), .val (.ref b2), .val (.ref b3), .unset, .unset, .unset, .unset, .unset, .unset, .unset] [])
        refine Go.by (g' := (mkF m 113 #[.val (.long p1), .second, .val (.long p2), .second, .val (.long p3), .second, .val (.int p4), .val (.int p5), .val (.int le), .val (.int oa), .val (.int ob), .val (.int kv), .val (.int dv), .val (.ref b1), .val (.ref b2), .val (.ref b3), .unset, .unset, .unset, .unset, .unset, .unset, .unset] [(.int le)])) (fun _ k => XS.iload X26.here hx rfl (hb hby at_111) rfl k) ?_
        by_cases h113 : (0 : Int32) < le
        · refine Go.by (g' := (mkF m 116 #[.val (.long p1), .second, .val (.long p2), .second, .val (.long p3), .second, .val (.int p4), .val (.int p5), .val (.int le), .val (.int oa), .val (.int ob), .val (.int kv), .val (.int dv), .val (.ref b1), .val (.ref b2), .val (.ref b3), .unset, .unset, .unset, .unset, .unset, .unset, .unset] [])) (fun _ k => XS.ifNo X26.here hx rfl (hb hby at_113) rfl ((if0 _ _).trans (tlt h113).2.2.2) k) ?_
          obtain ⟨hk1, hk2⟩ := hkv h113
          have hix : (oa + kv).toInt = ((o1 + k1 : Nat) : Int) := ix_add hoa hk1 (by omega)
          refine Go.by (g' := (mkF m 118 #[.val (.long p1), .second, .val (.long p2), .second, .val (.long p3), .second, .val (.int p4), .val (.int p5), .val (.int le), .val (.int oa), .val (.int ob), .val (.int kv), .val (.int dv), .val (.ref b1), .val (.ref b2), .val (.ref b3), .unset, .unset, .unset, .unset, .unset, .unset, .unset] [(.ref b3)])) (fun _ k => XS.aload X26.here hx rfl (hb hby at_116) rfl rfl k) ?_
          refine Go.by (g' := (mkF m 120 #[.val (.long p1), .second, .val (.long p2), .second, .val (.long p3), .second, .val (.int p4), .val (.int p5), .val (.int le), .val (.int oa), .val (.int ob), .val (.int kv), .val (.int dv), .val (.ref b1), .val (.ref b2), .val (.ref b3), .unset, .unset, .unset, .unset, .unset, .unset, .unset] [(.int oa), (.ref b3)])) (fun _ k => XS.iload X26.here hx rfl (hb hby at_118) rfl k) ?_
          refine Go.by (g' := (mkF m 122 #[.val (.long p1), .second, .val (.long p2), .second, .val (.long p3), .second, .val (.int p4), .val (.int p5), .val (.int le), .val (.int oa), .val (.int ob), .val (.int kv), .val (.int dv), .val (.ref b1), .val (.ref b2), .val (.ref b3), .unset, .unset, .unset, .unset, .unset, .unset, .unset] [(.int kv), (.int oa), (.ref b3)])) (fun _ k => XS.iload X26.here hx rfl (hb hby at_120) rfl k) ?_
          refine Go.by (g' := (mkF m 123 #[.val (.long p1), .second, .val (.long p2), .second, .val (.long p3), .second, .val (.int p4), .val (.int p5), .val (.int le), .val (.int oa), .val (.int ob), .val (.int kv), .val (.int dv), .val (.ref b1), .val (.ref b2), .val (.ref b3), .unset, .unset, .unset, .unset, .unset, .unset, .unset] [(.int (oa + kv)), (.ref b3)])) (fun _ k => XS.iadd X26.here hx rfl (hb hby at_122) rfl k) ?_
          refine Go.by (g' := (mkF m 125 #[.val (.long p1), .second, .val (.long p2), .second, .val (.long p3), .second, .val (.int p4), .val (.int p5), .val (.int le), .val (.int oa), .val (.int ob), .val (.int kv), .val (.int dv), .val (.ref b1), .val (.ref b2), .val (.ref b3), .unset, .unset, .unset, .unset, .unset, .unset, .unset] [(.ref b3), (.int (oa + kv)), (.ref b3)])) (fun _ k => XS.aload X26.here hx rfl (hb hby at_123) rfl rfl k) ?_
          refine Go.by (g' := (mkF m 127 #[.val (.long p1), .second, .val (.long p2), .second, .val (.long p3), .second, .val (.int p4), .val (.int p5), .val (.int le), .val (.int oa), .val (.int ob), .val (.int kv), .val (.int dv), .val (.ref b1), .val (.ref b2), .val (.ref b3), .unset, .unset, .unset, .unset, .unset, .unset, .unset] [(.int oa), (.ref b3), (.int (oa + kv)), (.ref b3)])) (fun _ k => XS.iload X26.here hx rfl (hb hby at_125) rfl k) ?_
          refine Go.by (g' := (mkF m 129 #[.val (.long p1), .second, .val (.long p2), .second, .val (.long p3), .second, .val (.int p4), .val (.int p5), .val (.int le), .val (.int oa), .val (.int ob), .val (.int kv), .val (.int dv), .val (.ref b1), .val (.ref b2), .val (.ref b3), .unset, .unset, .unset, .unset, .unset, .unset, .unset] [(.int kv), (.int oa), (.ref b3), (.int (oa + kv)), (.ref b3)])) (fun _ k => XS.iload X26.here hx rfl (hb hby at_127) rfl k) ?_
          refine Go.by (g' := (mkF m 130 #[.val (.long p1), .second, .val (.long p2), .second, .val (.long p3), .second, .val (.int p4), .val (.int p5), .val (.int le), .val (.int oa), .val (.int ob), .val (.int kv), .val (.int dv), .val (.ref b1), .val (.ref b2), .val (.ref b3), .unset, .unset, .unset, .unset, .unset, .unset, .unset] [(.int (oa + kv)), (.ref b3), (.int (oa + kv)), (.ref b3)])) (fun _ k => XS.iadd X26.here hx rfl (hb hby at_129) rfl k) ?_
          refine Go.by (g' := (mkF m 131 #[.val (.long p1), .second, .val (.long p2), .second, .val (.long p3), .second, .val (.int p4), .val (.int p5), .val (.int le), .val (.int oa), .val (.int ob), .val (.int kv), .val (.int dv), .val (.ref b1), .val (.ref b2), .val (.ref b3), .unset, .unset, .unset, .unset, .unset, .unset, .unset] [(.int (ct p1 k1)), (.int (oa + kv)), (.ref b3)])) (ldBA X26 hx hZ rfl Vc1 (v := (.int (ct p1 k1))) (ix_nn hix) (ix_lt hix (by decide : (8 : Int32).toInt = ((8 : Nat) : Int)) (by omega)) (by rw [ix_nat hix]; exact placeL_at p1 _ hw3 nn (by omega) k1 hk2) (g := (mkF m 130 #[.val (.long p1), .second, .val (.long p2), .second, .val (.long p3), .second, .val (.int p4), .val (.int p5), .val (.int le), .val (.int oa), .val (.int ob), .val (.int kv), .val (.int dv), .val (.ref b1), .val (.ref b2), .val (.ref b3), .unset, .unset, .unset, .unset, .unset, .unset, .unset] [(.int (oa + kv)), (.ref b3), (.int (oa + kv)), (.ref b3)])) rfl rfl (hb hby at_130)) ?_
          refine Go.by (g' := (mkF m 133 #[.val (.long p1), .second, .val (.long p2), .second, .val (.long p3), .second, .val (.int p4), .val (.int p5), .val (.int le), .val (.int oa), .val (.int ob), .val (.int kv), .val (.int dv), .val (.ref b1), .val (.ref b2), .val (.ref b3), .unset, .unset, .unset, .unset, .unset, .unset, .unset] [(.int dv), (.int (ct p1 k1)), (.int (oa + kv)), (.ref b3)])) (fun _ k => XS.iload X26.here hx rfl (hb hby at_131) rfl k) ?_
          refine Go.by (g' := (mkF m 134 #[.val (.long p1), .second, .val (.long p2), .second, .val (.long p3), .second, .val (.int p4), .val (.int p5), .val (.int le), .val (.int oa), .val (.int ob), .val (.int kv), .val (.int dv), .val (.ref b1), .val (.ref b2), .val (.ref b3), .unset, .unset, .unset, .unset, .unset, .unset, .unset] [(.int ((ct p1 k1) ^^^ dv)), (.int (oa + kv)), (.ref b3)])) (fun _ k => XS.ixor X26.here hx rfl (hb hby at_133) rfl k) ?_
          refine Go.by (g' := (mkF m 135 #[.val (.long p1), .second, .val (.long p2), .second, .val (.long p3), .second, .val (.int p4), .val (.int p5), .val (.int le), .val (.int oa), .val (.int ob), .val (.int kv), .val (.int dv), .val (.ref b1), .val (.ref b2), .val (.ref b3), .unset, .unset, .unset, .unset, .unset, .unset, .unset] [(.int (((ct p1 k1) ^^^ dv).toInt8.toInt32)), (.int (oa + kv)), (.ref b3)])) (fun _ k => XS.i2b X26.here hx rfl (hb hby at_134) rfl k) ?_
          obtain ⟨T32, h32, X32, e32, W32, V32, st32⟩ := stBA X26 hx hZ rfl Vc1 (o1 + k1) (ix_nat hix) (ix_nn hix) (ix_lt hix (by decide : (8 : Int32).toInt = ((8 : Nat) : Int)) (by omega)) (by rw [placeL_len, hw3]; omega) (g := (mkF m 135 #[.val (.long p1), .second, .val (.long p2), .second, .val (.long p3), .second, .val (.int p4), .val (.int p5), .val (.int le), .val (.int oa), .val (.int ob), .val (.int kv), .val (.int dv), .val (.ref b1), .val (.ref b2), .val (.ref b3), .unset, .unset, .unset, .unset, .unset, .unset, .unset] [(.int (((ct p1 k1) ^^^ dv).toInt8.toInt32)), (.int (oa + kv)), (.ref b3)])) rfl rfl (hb hby at_135)
          have Z32 : n0 ≤ h32.size := Nat.le_trans Z26 (Nat.le_of_eq W32.size.symm)
          have M32 := Fr.snoc X32 M26 ge_b3
          refine Go.by (g' := (mkF m 136 #[.val (.long p1), .second, .val (.long p2), .second, .val (.long p3), .second, .val (.int p4), .val (.int p5), .val (.int le), .val (.int oa), .val (.int ob), .val (.int kv), .val (.int dv), .val (.ref b1), .val (.ref b2), .val (.ref b3), .unset, .unset, .unset, .unset, .unset, .unset, .unset] [])) st32 ?_
          have hat3 : ∀ i, i < nn → ((placeL ws3 o1 p1 nn).set (o1 + k1) (.int (by8 (by8 (ct p1 k1 ^^^ dv))))).getD (o1 + i) (.int 0) = .int ((fun i => if i = k1 then (by8 (by8 (ct p1 k1 ^^^ dv))) else ct p1 i) i) := by
            intro i hi
            rw [getD_set _ _ _ _ _ (by rw [placeL_len, hw3]; omega)]
            show _ = Value.int (if i = k1 then (by8 (by8 (ct p1 k1 ^^^ dv))) else ct p1 i)
            by_cases e : i = k1
            · subst e; rw [if_pos rfl, if_pos rfl]
            · rw [if_neg (by omega), if_neg e]; exact placeL_at p1 _ hw3 nn (by omega) i hi
          have hC : mixH (fnv (fun i => if i = k1 then (by8 (by8 (ct p1 k1 ^^^ dv))) else ct p1 i) nn) ≠ (mixH (fnv (ct p1) nn)) := by
            intro e
            refine fnv_ne (k := k1) ?_ nn hk2 ?_ (mixH_inj e)
            · show ((if k1 = k1 then (by8 (by8 (ct p1 k1 ^^^ dv))) else ct p1 k1) &&& 255) ≠ (ct p1 k1 &&& 255)
              rw [if_pos rfl]; exact xor_turns hdv
            · intro i _ hi
              show (if i = k1 then (by8 (by8 (ct p1 k1 ^^^ dv))) else ct p1 i) = ct p1 i
              rw [if_neg hi]
          refine Go.by (g' := (mkF m 138 #[.val (.long p1), .second, .val (.long p2), .second, .val (.long p3), .second, .val (.int p4), .val (.int p5), .val (.int le), .val (.int oa), .val (.int ob), .val (.int kv), .val (.int dv), .val (.ref b1), .val (.ref b2), .val (.ref b3), .unset, .unset, .unset, .unset, .unset, .unset, .unset] [(.ref b1)])) (fun _ k => XS.aload X32.here hx rfl (hb hby at_136) rfl rfl k) ?_
          refine Go.by (g' := (mkF m 140 #[.val (.long p1), .second, .val (.long p2), .second, .val (.long p3), .second, .val (.int p4), .val (.int p5), .val (.int le), .val (.int oa), .val (.int ob), .val (.int kv), .val (.int dv), .val (.ref b1), .val (.ref b2), .val (.ref b3), .unset, .unset, .unset, .unset, .unset, .unset, .unset] [(.int oa), (.ref b1)])) (fun _ k => XS.iload X32.here hx rfl (hb hby at_138) rfl k) ?_
          refine Go.by (g' := (mkF m 142 #[.val (.long p1), .second, .val (.long p2), .second, .val (.long p3), .second, .val (.int p4), .val (.int p5), .val (.int le), .val (.int oa), .val (.int ob), .val (.int kv), .val (.int dv), .val (.ref b1), .val (.ref b2), .val (.ref b3), .unset, .unset, .unset, .unset, .unset, .unset, .unset] [(.int oa), (.int oa), (.ref b1)])) (fun _ k => XS.iload X32.here hx rfl (hb hby at_140) rfl k) ?_
          refine Go.by (g' := (mkF m 144 #[.val (.long p1), .second, .val (.long p2), .second, .val (.long p3), .second, .val (.int p4), .val (.int p5), .val (.int le), .val (.int oa), .val (.int ob), .val (.int kv), .val (.int dv), .val (.ref b1), .val (.ref b2), .val (.ref b3), .unset, .unset, .unset, .unset, .unset, .unset, .unset] [(.int le), (.int oa), (.int oa), (.ref b1)])) (fun _ k => XS.iload X32.here hx rfl (hb hby at_142) rfl k) ?_
          refine Go.by (g' := (mkF m 145 #[.val (.long p1), .second, .val (.long p2), .second, .val (.long p3), .second, .val (.int p4), .val (.int p5), .val (.int le), .val (.int oa), .val (.int ob), .val (.int kv), .val (.int dv), .val (.ref b1), .val (.ref b2), .val (.ref b3), .unset, .unset, .unset, .unset, .unset, .unset, .unset] [(.int (oa + le)), (.int oa), (.ref b1)])) (fun _ k => XS.iadd X32.here hx rfl (hb hby at_144) rfl k) ?_
          have f33_W1 := (((f24_W1.keep K25 nin0).keep K26 (ninS ne_b1_b3 nin0)).other W32 ne_b1_b3)
          refine Go.callS X32 hx hZ (y := (⟨"com/example/grenoble/grenoble/check/StateStore", "hash", "([BII)J"⟩ : MethodName)) hown (hw _ (List.mem_of_getElem? (i := 8) rfl)) (hw _ (List.mem_of_getElem? (i := 9) rfl)) (hw _ (List.mem_of_getElem? (i := 10) rfl)) (hw _ (List.mem_of_getElem? (i := 11) rfl)) (by decide) (W := 0) (argsL := [(.ref b1), (.int oa), (.int (oa + le))]) (rest := []) (rm3 l Z a0 hw b1 oa (oa + le) h32 n0 kb1 (placeL ws1 o1 p1 nn) (ct p1) o1 nn f33_W1 hoa (ix_add hoa hle (by omega)) (by omega) (fun i hi => placeL_at p1 _ hw1 nn (by omega) i hi)) (by decide) (by decide) (by decide) (by decide) (g := (mkF m 145 #[.val (.long p1), .second, .val (.long p2), .second, .val (.long p3), .second, .val (.int p4), .val (.int p5), .val (.int le), .val (.int oa), .val (.int ob), .val (.int kv), .val (.int dv), .val (.ref b1), .val (.ref b2), .val (.ref b3), .unset, .unset, .unset, .unset, .unset, .unset, .unset] [(.int (oa + le)), (.int oa), (.ref b1)])) rfl (by rw [hml]; rfl) (lenOf pd_3 rfl) rfl (by show 2 * 0 + _ ≤ _; exact Nat.le_of_eq rfl) (hb hby at_145) e32 ?_
          rintro T34 L34 _ X34 ⟨rfl, N34, q34⟩
          have M34 := Fr.app M32 N34
          show Go p e below _ _ T34 (mkF m 148 #[.val (.long p1), .second, .val (.long p2), .second, .val (.long p3), .second, .val (.int p4), .val (.int p5), .val (.int le), .val (.int oa), .val (.int ob), .val (.int kv), .val (.int dv), .val (.ref b1), .val (.ref b2), .val (.ref b3), .unset, .unset, .unset, .unset, .unset, .unset, .unset] [(.long (mixH (fnv (ct p1) nn)))])
          refine Go.by (g' := (mkF m 150 #[.val (.long p1), .second, .val (.long p2), .second, .val (.long p3), .second, .val (.int p4), .val (.int p5), .val (.int le), .val (.int oa), .val (.int ob), .val (.int kv), .val (.int dv), .val (.ref b1), .val (.ref b2), .val (.ref b3), .val (.long (mixH (fnv (ct p1) nn))), .second, .unset, .unset, .unset, .unset, .unset] [])) (fun _ k => XS.lstore X34.here hx rfl (hb hby at_148) rfl (l' := #[.val (.long p1), .second, .val (.long p2), .second, .val (.long p3), .second, .val (.int p4), .val (.int p5), .val (.int le), .val (.int oa), .val (.int ob), .val (.int kv), .val (.int dv), .val (.ref b1), .val (.ref b2), .val (.ref b3), .val (.long (mixH (fnv (ct p1) nn))), .second, .unset, .unset, .unset, .unset, .unset]) rfl k) ?_
          refine Go.by (g' := (mkF m 152 #[.val (.long p1), .second, .val (.long p2), .second, .val (.long p3), .second, .val (.int p4), .val (.int p5), .val (.int le), .val (.int oa), .val (.int ob), .val (.int kv), .val (.int dv), .val (.ref b1), .val (.ref b2), .val (.ref b3), .val (.long (mixH (fnv (ct p1) nn))), .second, .unset, .unset, .unset, .unset, .unset] [(.ref b2)])) (fun _ k => XS.aload X34.here hx rfl (hb hby at_150) rfl rfl k) ?_
          refine Go.by (g' := (mkF m 154 #[.val (.long p1), .second, .val (.long p2), .second, .val (.long p3), .second, .val (.int p4), .val (.int p5), .val (.int le), .val (.int oa), .val (.int ob), .val (.int kv), .val (.int dv), .val (.ref b1), .val (.ref b2), .val (.ref b3), .val (.long (mixH (fnv (ct p1) nn))), .second, .unset, .unset, .unset, .unset, .unset] [(.int ob), (.ref b2)])) (fun _ k => XS.iload X34.here hx rfl (hb hby at_152) rfl k) ?_
          refine Go.by (g' := (mkF m 156 #[.val (.long p1), .second, .val (.long p2), .second, .val (.long p3), .second, .val (.int p4), .val (.int p5), .val (.int le), .val (.int oa), .val (.int ob), .val (.int kv), .val (.int dv), .val (.ref b1), .val (.ref b2), .val (.ref b3), .val (.long (mixH (fnv (ct p1) nn))), .second, .unset, .unset, .unset, .unset, .unset] [(.int ob), (.int ob), (.ref b2)])) (fun _ k => XS.iload X34.here hx rfl (hb hby at_154) rfl k) ?_
          refine Go.by (g' := (mkF m 158 #[.val (.long p1), .second, .val (.long p2), .second, .val (.long p3), .second, .val (.int p4), .val (.int p5), .val (.int le), .val (.int oa), .val (.int ob), .val (.int kv), .val (.int dv), .val (.ref b1), .val (.ref b2), .val (.ref b3), .val (.long (mixH (fnv (ct p1) nn))), .second, .unset, .unset, .unset, .unset, .unset] [(.int le), (.int ob), (.int ob), (.ref b2)])) (fun _ k => XS.iload X34.here hx rfl (hb hby at_156) rfl k) ?_
          refine Go.by (g' := (mkF m 159 #[.val (.long p1), .second, .val (.long p2), .second, .val (.long p3), .second, .val (.int p4), .val (.int p5), .val (.int le), .val (.int oa), .val (.int ob), .val (.int kv), .val (.int dv), .val (.ref b1), .val (.ref b2), .val (.ref b3), .val (.long (mixH (fnv (ct p1) nn))), .second, .unset, .unset, .unset, .unset, .unset] [(.int (ob + le)), (.int ob), (.ref b2)])) (fun _ k => XS.iadd X34.here hx rfl (hb hby at_158) rfl k) ?_
          have f35_W2 := (((Vb1.keep K25 nin0).keep K26 (ninS ne_b2_b3 nin0)).other W32 ne_b2_b3)
          refine Go.callS X34 hx hZ (y := (⟨"com/example/grenoble/grenoble/check/StateStore", "hash", "([BII)J"⟩ : MethodName)) hown (hw _ (List.mem_of_getElem? (i := 8) rfl)) (hw _ (List.mem_of_getElem? (i := 9) rfl)) (hw _ (List.mem_of_getElem? (i := 10) rfl)) (hw _ (List.mem_of_getElem? (i := 11) rfl)) (by decide) (W := 0) (argsL := [(.ref b2), (.int ob), (.int (ob + le))]) (rest := []) (rm3 l Z a0 hw b2 ob (ob + le) h32 n0 kb2 (placeL ws2 o2 p1 nn) (ct p1) o2 nn f35_W2 hob (ix_add hob hle (by omega)) (by omega) (fun i hi => placeL_at p1 _ hw2 nn (by omega) i hi)) (by decide) (by decide) (by decide) (by decide) (g := (mkF m 159 #[.val (.long p1), .second, .val (.long p2), .second, .val (.long p3), .second, .val (.int p4), .val (.int p5), .val (.int le), .val (.int oa), .val (.int ob), .val (.int kv), .val (.int dv), .val (.ref b1), .val (.ref b2), .val (.ref b3), .val (.long (mixH (fnv (ct p1) nn))), .second, .unset, .unset, .unset, .unset, .unset] [(.int (ob + le)), (.int ob), (.ref b2)])) rfl (by rw [hml]; rfl) (lenOf pd_3 rfl) rfl (by show 2 * 0 + _ ≤ _; exact Nat.le_of_eq rfl) (hb hby at_159) q34 ?_
          rintro T36 L36 _ X36 ⟨rfl, N36, q36⟩
          have M36 := Fr.app M34 N36
          show Go p e below _ _ T36 (mkF m 162 #[.val (.long p1), .second, .val (.long p2), .second, .val (.long p3), .second, .val (.int p4), .val (.int p5), .val (.int le), .val (.int oa), .val (.int ob), .val (.int kv), .val (.int dv), .val (.ref b1), .val (.ref b2), .val (.ref b3), .val (.long (mixH (fnv (ct p1) nn))), .second, .unset, .unset, .unset, .unset, .unset] [(.long (mixH (fnv (ct p1) nn)))])
          refine Go.by (g' := (mkF m 164 #[.val (.long p1), .second, .val (.long p2), .second, .val (.long p3), .second, .val (.int p4), .val (.int p5), .val (.int le), .val (.int oa), .val (.int ob), .val (.int kv), .val (.int dv), .val (.ref b1), .val (.ref b2), .val (.ref b3), .val (.long (mixH (fnv (ct p1) nn))), .second, .val (.long (mixH (fnv (ct p1) nn))), .second, .unset, .unset, .unset] [])) (fun _ k => XS.lstore X36.here hx rfl (hb hby at_162) rfl (l' := #[.val (.long p1), .second, .val (.long p2), .second, .val (.long p3), .second, .val (.int p4), .val (.int p5), .val (.int le), .val (.int oa), .val (.int ob), .val (.int kv), .val (.int dv), .val (.ref b1), .val (.ref b2), .val (.ref b3), .val (.long (mixH (fnv (ct p1) nn))), .second, .val (.long (mixH (fnv (ct p1) nn))), .second, .unset, .unset, .unset]) rfl k) ?_
          refine Go.by (g' := (mkF m 166 #[.val (.long p1), .second, .val (.long p2), .second, .val (.long p3), .second, .val (.int p4), .val (.int p5), .val (.int le), .val (.int oa), .val (.int ob), .val (.int kv), .val (.int dv), .val (.ref b1), .val (.ref b2), .val (.ref b3), .val (.long (mixH (fnv (ct p1) nn))), .second, .val (.long (mixH (fnv (ct p1) nn))), .second, .unset, .unset, .unset] [(.ref b3)])) (fun _ k => XS.aload X36.here hx rfl (hb hby at_164) rfl rfl k) ?_
          refine Go.by (g' := (mkF m 168 #[.val (.long p1), .second, .val (.long p2), .second, .val (.long p3), .second, .val (.int p4), .val (.int p5), .val (.int le), .val (.int oa), .val (.int ob), .val (.int kv), .val (.int dv), .val (.ref b1), .val (.ref b2), .val (.ref b3), .val (.long (mixH (fnv (ct p1) nn))), .second, .val (.long (mixH (fnv (ct p1) nn))), .second, .unset, .unset, .unset] [(.int oa), (.ref b3)])) (fun _ k => XS.iload X36.here hx rfl (hb hby at_166) rfl k) ?_
          refine Go.by (g' := (mkF m 170 #[.val (.long p1), .second, .val (.long p2), .second, .val (.long p3), .second, .val (.int p4), .val (.int p5), .val (.int le), .val (.int oa), .val (.int ob), .val (.int kv), .val (.int dv), .val (.ref b1), .val (.ref b2), .val (.ref b3), .val (.long (mixH (fnv (ct p1) nn))), .second, .val (.long (mixH (fnv (ct p1) nn))), .second, .unset, .unset, .unset] [(.int oa), (.int oa), (.ref b3)])) (fun _ k => XS.iload X36.here hx rfl (hb hby at_168) rfl k) ?_
          refine Go.by (g' := (mkF m 172 #[.val (.long p1), .second, .val (.long p2), .second, .val (.long p3), .second, .val (.int p4), .val (.int p5), .val (.int le), .val (.int oa), .val (.int ob), .val (.int kv), .val (.int dv), .val (.ref b1), .val (.ref b2), .val (.ref b3), .val (.long (mixH (fnv (ct p1) nn))), .second, .val (.long (mixH (fnv (ct p1) nn))), .second, .unset, .unset, .unset] [(.int le), (.int oa), (.int oa), (.ref b3)])) (fun _ k => XS.iload X36.here hx rfl (hb hby at_170) rfl k) ?_
          refine Go.by (g' := (mkF m 173 #[.val (.long p1), .second, .val (.long p2), .second, .val (.long p3), .second, .val (.int p4), .val (.int p5), .val (.int le), .val (.int oa), .val (.int ob), .val (.int kv), .val (.int dv), .val (.ref b1), .val (.ref b2), .val (.ref b3), .val (.long (mixH (fnv (ct p1) nn))), .second, .val (.long (mixH (fnv (ct p1) nn))), .second, .unset, .unset, .unset] [(.int (oa + le)), (.int oa), (.ref b3)])) (fun _ k => XS.iadd X36.here hx rfl (hb hby at_172) rfl k) ?_
          refine Go.callS X36 hx hZ (y := (⟨"com/example/grenoble/grenoble/check/StateStore", "hash", "([BII)J"⟩ : MethodName)) hown (hw _ (List.mem_of_getElem? (i := 8) rfl)) (hw _ (List.mem_of_getElem? (i := 9) rfl)) (hw _ (List.mem_of_getElem? (i := 10) rfl)) (hw _ (List.mem_of_getElem? (i := 11) rfl)) (by decide) (W := 0) (argsL := [(.ref b3), (.int oa), (.int (oa + le))]) (rest := []) (rm3 l Z a0 hw b3 oa (oa + le) h32 n0 kb3 ((placeL ws3 o1 p1 nn).set (o1 + k1) (.int (by8 (by8 (ct p1 k1 ^^^ dv))))) (fun i => if i = k1 then (by8 (by8 (ct p1 k1 ^^^ dv))) else ct p1 i) o1 nn V32 hoa (ix_add hoa hle (by omega)) (by omega) hat3) (by decide) (by decide) (by decide) (by decide) (g := (mkF m 173 #[.val (.long p1), .second, .val (.long p2), .second, .val (.long p3), .second, .val (.int p4), .val (.int p5), .val (.int le), .val (.int oa), .val (.int ob), .val (.int kv), .val (.int dv), .val (.ref b1), .val (.ref b2), .val (.ref b3), .val (.long (mixH (fnv (ct p1) nn))), .second, .val (.long (mixH (fnv (ct p1) nn))), .second, .unset, .unset, .unset] [(.int (oa + le)), (.int oa), (.ref b3)])) rfl (by rw [hml]; rfl) (lenOf pd_3 rfl) rfl (by show 2 * 0 + _ ≤ _; exact Nat.le_of_eq rfl) (hb hby at_173) q36 ?_
          rintro T37 L37 _ X37 ⟨rfl, N37, q37⟩
          have M37 := Fr.app M36 N37
          show Go p e below _ _ T37 (mkF m 176 #[.val (.long p1), .second, .val (.long p2), .second, .val (.long p3), .second, .val (.int p4), .val (.int p5), .val (.int le), .val (.int oa), .val (.int ob), .val (.int kv), .val (.int dv), .val (.ref b1), .val (.ref b2), .val (.ref b3), .val (.long (mixH (fnv (ct p1) nn))), .second, .val (.long (mixH (fnv (ct p1) nn))), .second, .unset, .unset, .unset] [(.long (mixH (fnv (fun i => if i = k1 then (by8 (by8 (ct p1 k1 ^^^ dv))) else ct p1 i) nn)))])
          refine Go.by (g' := (mkF m 178 #[.val (.long p1), .second, .val (.long p2), .second, .val (.long p3), .second, .val (.int p4), .val (.int p5), .val (.int le), .val (.int oa), .val (.int ob), .val (.int kv), .val (.int dv), .val (.ref b1), .val (.ref b2), .val (.ref b3), .val (.long (mixH (fnv (ct p1) nn))), .second, .val (.long (mixH (fnv (ct p1) nn))), .second, .val (.long (mixH (fnv (fun i => if i = k1 then (by8 (by8 (ct p1 k1 ^^^ dv))) else ct p1 i) nn))), .second, .unset] [])) (fun _ k => XS.lstore X37.here hx rfl (hb hby at_176) rfl (l' := #[.val (.long p1), .second, .val (.long p2), .second, .val (.long p3), .second, .val (.int p4), .val (.int p5), .val (.int le), .val (.int oa), .val (.int ob), .val (.int kv), .val (.int dv), .val (.ref b1), .val (.ref b2), .val (.ref b3), .val (.long (mixH (fnv (ct p1) nn))), .second, .val (.long (mixH (fnv (ct p1) nn))), .second, .val (.long (mixH (fnv (fun i => if i = k1 then (by8 (by8 (ct p1 k1 ^^^ dv))) else ct p1 i) nn))), .second, .unset]) rfl k) ?_
          refine Go.by (g' := (mkF m 180 #[.val (.long p1), .second, .val (.long p2), .second, .val (.long p3), .second, .val (.int p4), .val (.int p5), .val (.int le), .val (.int oa), .val (.int ob), .val (.int kv), .val (.int dv), .val (.ref b1), .val (.ref b2), .val (.ref b3), .val (.long (mixH (fnv (ct p1) nn))), .second, .val (.long (mixH (fnv (ct p1) nn))), .second, .val (.long (mixH (fnv (fun i => if i = k1 then (by8 (by8 (ct p1 k1 ^^^ dv))) else ct p1 i) nn))), .second, .unset] [(.long (mixH (fnv (ct p1) nn)))])) (fun _ k => XS.lload X37.here hx rfl (hb hby at_178) rfl k) ?_
          refine Go.by (g' := (mkF m 182 #[.val (.long p1), .second, .val (.long p2), .second, .val (.long p3), .second, .val (.int p4), .val (.int p5), .val (.int le), .val (.int oa), .val (.int ob), .val (.int kv), .val (.int dv), .val (.ref b1), .val (.ref b2), .val (.ref b3), .val (.long (mixH (fnv (ct p1) nn))), .second, .val (.long (mixH (fnv (ct p1) nn))), .second, .val (.long (mixH (fnv (fun i => if i = k1 then (by8 (by8 (ct p1 k1 ^^^ dv))) else ct p1 i) nn))), .second, .unset] [(.long (mixH (fnv (ct p1) nn))), (.long (mixH (fnv (ct p1) nn)))])) (fun _ k => XS.lload X37.here hx rfl (hb hby at_180) rfl k) ?_
          refine Go.by (g' := (mkF m 183 #[.val (.long p1), .second, .val (.long p2), .second, .val (.long p3), .second, .val (.int p4), .val (.int p5), .val (.int le), .val (.int oa), .val (.int ob), .val (.int kv), .val (.int dv), .val (.ref b1), .val (.ref b2), .val (.ref b3), .val (.long (mixH (fnv (ct p1) nn))), .second, .val (.long (mixH (fnv (ct p1) nn))), .second, .val (.long (mixH (fnv (fun i => if i = k1 then (by8 (by8 (ct p1 k1 ^^^ dv))) else ct p1 i) nn))), .second, .unset] [(.int (lcmpW (mixH (fnv (ct p1) nn)) (mixH (fnv (ct p1) nn))))])) (fun _ k => XS.lcmp X37.here hx rfl (hb hby at_182) rfl k) ?_
          refine Go.by (g' := (mkF m 186 #[.val (.long p1), .second, .val (.long p2), .second, .val (.long p3), .second, .val (.int p4), .val (.int p5), .val (.int le), .val (.int oa), .val (.int ob), .val (.int kv), .val (.int dv), .val (.ref b1), .val (.ref b2), .val (.ref b3), .val (.long (mixH (fnv (ct p1) nn))), .second, .val (.long (mixH (fnv (ct p1) nn))), .second, .val (.long (mixH (fnv (fun i => if i = k1 then (by8 (by8 (ct p1 k1 ^^^ dv))) else ct p1 i) nn))), .second, .unset] [])) (fun _ k => XS.ifNo X37.here hx rfl (hb hby at_183) rfl ((if0 _ _).trans (teq ((lw_eq _ _).mpr rfl)).2) k) ?_
          refine Go.by (g' := (mkF m 187 #[.val (.long p1), .second, .val (.long p2), .second, .val (.long p3), .second, .val (.int p4), .val (.int p5), .val (.int le), .val (.int oa), .val (.int ob), .val (.int kv), .val (.int dv), .val (.ref b1), .val (.ref b2), .val (.ref b3), .val (.long (mixH (fnv (ct p1) nn))), .second, .val (.long (mixH (fnv (ct p1) nn))), .second, .val (.long (mixH (fnv (fun i => if i = k1 then (by8 (by8 (ct p1 k1 ^^^ dv))) else ct p1 i) nn))), .second, .unset] [(.int (1 : Int32))])) (fun _ k => XS.iconst X37.here hx rfl (hb hby at_186) k) ?_
          refine Go.by (g' := (mkF m 191 #[.val (.long p1), .second, .val (.long p2), .second, .val (.long p3), .second, .val (.int p4), .val (.int p5), .val (.int le), .val (.int oa), .val (.int ob), .val (.int kv), .val (.int dv), .val (.ref b1), .val (.ref b2), .val (.ref b3), .val (.long (mixH (fnv (ct p1) nn))), .second, .val (.long (mixH (fnv (ct p1) nn))), .second, .val (.long (mixH (fnv (fun i => if i = k1 then (by8 (by8 (ct p1 k1 ^^^ dv))) else ct p1 i) nn))), .second, .unset] [(.int (1 : Int32))])) (fun _ k => XS.goto X37.here hx rfl (pc0 := 187) (pc' := 191) rfl (hb hby at_187) (by decide) (by decide) k) ?_
          refine Go.by (g' := (mkF m 193 #[.val (.long p1), .second, .val (.long p2), .second, .val (.long p3), .second, .val (.int p4), .val (.int p5), .val (.int le), .val (.int oa), .val (.int ob), .val (.int kv), .val (.int dv), .val (.ref b1), .val (.ref b2), .val (.ref b3), .val (.long (mixH (fnv (ct p1) nn))), .second, .val (.long (mixH (fnv (ct p1) nn))), .second, .val (.long (mixH (fnv (fun i => if i = k1 then (by8 (by8 (ct p1 k1 ^^^ dv))) else ct p1 i) nn))), .second, .val (.int (1 : Int32))] [])) (fun _ k => XS.istore X37.here hx rfl (hb hby at_191) rfl (l' := #[.val (.long p1), .second, .val (.long p2), .second, .val (.long p3), .second, .val (.int p4), .val (.int p5), .val (.int le), .val (.int oa), .val (.int ob), .val (.int kv), .val (.int dv), .val (.ref b1), .val (.ref b2), .val (.ref b3), .val (.long (mixH (fnv (ct p1) nn))), .second, .val (.long (mixH (fnv (ct p1) nn))), .second, .val (.long (mixH (fnv (fun i => if i = k1 then (by8 (by8 (ct p1 k1 ^^^ dv))) else ct p1 i) nn))), .second, .val (.int (1 : Int32))]) rfl k) ?_
          refine Go.by (g' := (mkF m 195 #[.val (.long p1), .second, .val (.long p2), .second, .val (.long p3), .second, .val (.int p4), .val (.int p5), .val (.int le), .val (.int oa), .val (.int ob), .val (.int kv), .val (.int dv), .val (.ref b1), .val (.ref b2), .val (.ref b3), .val (.long (mixH (fnv (ct p1) nn))), .second, .val (.long (mixH (fnv (ct p1) nn))), .second, .val (.long (mixH (fnv (fun i => if i = k1 then (by8 (by8 (ct p1 k1 ^^^ dv))) else ct p1 i) nn))), .second, .val (.int (1 : Int32))] [(.int le)])) (fun _ k => XS.iload X37.here hx rfl (hb hby at_193) rfl k) ?_
          refine Go.by (g' := (mkF m 198 #[.val (.long p1), .second, .val (.long p2), .second, .val (.long p3), .second, .val (.int p4), .val (.int p5), .val (.int le), .val (.int oa), .val (.int ob), .val (.int kv), .val (.int dv), .val (.ref b1), .val (.ref b2), .val (.ref b3), .val (.long (mixH (fnv (ct p1) nn))), .second, .val (.long (mixH (fnv (ct p1) nn))), .second, .val (.long (mixH (fnv (fun i => if i = k1 then (by8 (by8 (ct p1 k1 ^^^ dv))) else ct p1 i) nn))), .second, .val (.int (1 : Int32))] [])) (fun _ k => XS.ifNo X37.here hx rfl (hb hby at_195) rfl ((if0 _ _).trans (tlt h113).2.2.2) k) ?_
          refine Go.by (g' := (mkF m 200 #[.val (.long p1), .second, .val (.long p2), .second, .val (.long p3), .second, .val (.int p4), .val (.int p5), .val (.int le), .val (.int oa), .val (.int ob), .val (.int kv), .val (.int dv), .val (.ref b1), .val (.ref b2), .val (.ref b3), .val (.long (mixH (fnv (ct p1) nn))), .second, .val (.long (mixH (fnv (ct p1) nn))), .second, .val (.long (mixH (fnv (fun i => if i = k1 then (by8 (by8 (ct p1 k1 ^^^ dv))) else ct p1 i) nn))), .second, .val (.int (1 : Int32))] [(.int (1 : Int32))])) (fun _ k => XS.iload X37.here hx rfl (hb hby at_198) rfl k) ?_
          refine Go.by (g' := (mkF m 203 #[.val (.long p1), .second, .val (.long p2), .second, .val (.long p3), .second, .val (.int p4), .val (.int p5), .val (.int le), .val (.int oa), .val (.int ob), .val (.int kv), .val (.int dv), .val (.ref b1), .val (.ref b2), .val (.ref b3), .val (.long (mixH (fnv (ct p1) nn))), .second, .val (.long (mixH (fnv (ct p1) nn))), .second, .val (.long (mixH (fnv (fun i => if i = k1 then (by8 (by8 (ct p1 k1 ^^^ dv))) else ct p1 i) nn))), .second, .val (.int (1 : Int32))] [])) (fun _ k => XS.ifNo X37.here hx rfl (hb hby at_200) rfl ((if0 _ _).trans (feq (by decide)).1) k) ?_
          refine Go.by (g' := (mkF m 205 #[.val (.long p1), .second, .val (.long p2), .second, .val (.long p3), .second, .val (.int p4), .val (.int p5), .val (.int le), .val (.int oa), .val (.int ob), .val (.int kv), .val (.int dv), .val (.ref b1), .val (.ref b2), .val (.ref b3), .val (.long (mixH (fnv (ct p1) nn))), .second, .val (.long (mixH (fnv (ct p1) nn))), .second, .val (.long (mixH (fnv (fun i => if i = k1 then (by8 (by8 (ct p1 k1 ^^^ dv))) else ct p1 i) nn))), .second, .val (.int (1 : Int32))] [(.long (mixH (fnv (fun i => if i = k1 then (by8 (by8 (ct p1 k1 ^^^ dv))) else ct p1 i) nn)))])) (fun _ k => XS.lload X37.here hx rfl (hb hby at_203) rfl k) ?_
          refine Go.by (g' := (mkF m 207 #[.val (.long p1), .second, .val (.long p2), .second, .val (.long p3), .second, .val (.int p4), .val (.int p5), .val (.int le), .val (.int oa), .val (.int ob), .val (.int kv), .val (.int dv), .val (.ref b1), .val (.ref b2), .val (.ref b3), .val (.long (mixH (fnv (ct p1) nn))), .second, .val (.long (mixH (fnv (ct p1) nn))), .second, .val (.long (mixH (fnv (fun i => if i = k1 then (by8 (by8 (ct p1 k1 ^^^ dv))) else ct p1 i) nn))), .second, .val (.int (1 : Int32))] [(.long (mixH (fnv (ct p1) nn))), (.long (mixH (fnv (fun i => if i = k1 then (by8 (by8 (ct p1 k1 ^^^ dv))) else ct p1 i) nn)))])) (fun _ k => XS.lload X37.here hx rfl (hb hby at_205) rfl k) ?_
          refine Go.by (g' := (mkF m 208 #[.val (.long p1), .second, .val (.long p2), .second, .val (.long p3), .second, .val (.int p4), .val (.int p5), .val (.int le), .val (.int oa), .val (.int ob), .val (.int kv), .val (.int dv), .val (.ref b1), .val (.ref b2), .val (.ref b3), .val (.long (mixH (fnv (ct p1) nn))), .second, .val (.long (mixH (fnv (ct p1) nn))), .second, .val (.long (mixH (fnv (fun i => if i = k1 then (by8 (by8 (ct p1 k1 ^^^ dv))) else ct p1 i) nn))), .second, .val (.int (1 : Int32))] [(.int (lcmpW (mixH (fnv (fun i => if i = k1 then (by8 (by8 (ct p1 k1 ^^^ dv))) else ct p1 i) nn)) (mixH (fnv (ct p1) nn))))])) (fun _ k => XS.lcmp X37.here hx rfl (hb hby at_207) rfl k) ?_
          refine Go.by (g' := (mkF m 211 #[.val (.long p1), .second, .val (.long p2), .second, .val (.long p3), .second, .val (.int p4), .val (.int p5), .val (.int le), .val (.int oa), .val (.int ob), .val (.int kv), .val (.int dv), .val (.ref b1), .val (.ref b2), .val (.ref b3), .val (.long (mixH (fnv (ct p1) nn))), .second, .val (.long (mixH (fnv (ct p1) nn))), .second, .val (.long (mixH (fnv (fun i => if i = k1 then (by8 (by8 (ct p1 k1 ^^^ dv))) else ct p1 i) nn))), .second, .val (.int (1 : Int32))] [])) (fun _ k => XS.ifNo X37.here hx rfl (hb hby at_208) rfl ((if0 _ _).trans (feq (fun e => hC ((lw_eq _ _).mp e))).1) k) ?_
          refine Go.by (g' := (mkF m 212 #[.val (.long p1), .second, .val (.long p2), .second, .val (.long p3), .second, .val (.int p4), .val (.int p5), .val (.int le), .val (.int oa), .val (.int ob), .val (.int kv), .val (.int dv), .val (.ref b1), .val (.ref b2), .val (.ref b3), .val (.long (mixH (fnv (ct p1) nn))), .second, .val (.long (mixH (fnv (ct p1) nn))), .second, .val (.long (mixH (fnv (fun i => if i = k1 then (by8 (by8 (ct p1 k1 ^^^ dv))) else ct p1 i) nn))), .second, .val (.int (1 : Int32))] [(.int (1 : Int32))])) (fun _ k => XS.iconst X37.here hx rfl (hb hby at_211) k) ?_
          refine Go.by (g' := (mkF m 216 #[.val (.long p1), .second, .val (.long p2), .second, .val (.long p3), .second, .val (.int p4), .val (.int p5), .val (.int le), .val (.int oa), .val (.int ob), .val (.int kv), .val (.int dv), .val (.ref b1), .val (.ref b2), .val (.ref b3), .val (.long (mixH (fnv (ct p1) nn))), .second, .val (.long (mixH (fnv (ct p1) nn))), .second, .val (.long (mixH (fnv (fun i => if i = k1 then (by8 (by8 (ct p1 k1 ^^^ dv))) else ct p1 i) nn))), .second, .val (.int (1 : Int32))] [(.int (1 : Int32))])) (fun _ k => XS.goto X37.here hx rfl (pc0 := 212) (pc' := 216) rfl (hb hby at_212) (by decide) (by decide) k) ?_
          exact Go.outZ X37 hx hret (Lv.narrow X37 hlk (by decide) (by decide)) (hb hby at_216) (by decide) ⟨rfl, M37⟩
        · refine Go.by (g' := (mkF m 136 #[.val (.long p1), .second, .val (.long p2), .second, .val (.long p3), .second, .val (.int p4), .val (.int p5), .val (.int le), .val (.int oa), .val (.int ob), .val (.int kv), .val (.int dv), .val (.ref b1), .val (.ref b2), .val (.ref b3), .unset, .unset, .unset, .unset, .unset, .unset, .unset] [])) (fun _ k => XS.ifYes X26.here hx rfl (pc0 := 113) (pc' := 136) rfl (hb hby at_113) rfl ((if0 _ _).trans (flt h113).2.2.2) (by decide) (by decide) k) ?_
          refine Go.by (g' := (mkF m 138 #[.val (.long p1), .second, .val (.long p2), .second, .val (.long p3), .second, .val (.int p4), .val (.int p5), .val (.int le), .val (.int oa), .val (.int ob), .val (.int kv), .val (.int dv), .val (.ref b1), .val (.ref b2), .val (.ref b3), .unset, .unset, .unset, .unset, .unset, .unset, .unset] [(.ref b1)])) (fun _ k => XS.aload X26.here hx rfl (hb hby at_136) rfl rfl k) ?_
          refine Go.by (g' := (mkF m 140 #[.val (.long p1), .second, .val (.long p2), .second, .val (.long p3), .second, .val (.int p4), .val (.int p5), .val (.int le), .val (.int oa), .val (.int ob), .val (.int kv), .val (.int dv), .val (.ref b1), .val (.ref b2), .val (.ref b3), .unset, .unset, .unset, .unset, .unset, .unset, .unset] [(.int oa), (.ref b1)])) (fun _ k => XS.iload X26.here hx rfl (hb hby at_138) rfl k) ?_
          refine Go.by (g' := (mkF m 142 #[.val (.long p1), .second, .val (.long p2), .second, .val (.long p3), .second, .val (.int p4), .val (.int p5), .val (.int le), .val (.int oa), .val (.int ob), .val (.int kv), .val (.int dv), .val (.ref b1), .val (.ref b2), .val (.ref b3), .unset, .unset, .unset, .unset, .unset, .unset, .unset] [(.int oa), (.int oa), (.ref b1)])) (fun _ k => XS.iload X26.here hx rfl (hb hby at_140) rfl k) ?_
          refine Go.by (g' := (mkF m 144 #[.val (.long p1), .second, .val (.long p2), .second, .val (.long p3), .second, .val (.int p4), .val (.int p5), .val (.int le), .val (.int oa), .val (.int ob), .val (.int kv), .val (.int dv), .val (.ref b1), .val (.ref b2), .val (.ref b3), .unset, .unset, .unset, .unset, .unset, .unset, .unset] [(.int le), (.int oa), (.int oa), (.ref b1)])) (fun _ k => XS.iload X26.here hx rfl (hb hby at_142) rfl k) ?_
          refine Go.by (g' := (mkF m 145 #[.val (.long p1), .second, .val (.long p2), .second, .val (.long p3), .second, .val (.int p4), .val (.int p5), .val (.int le), .val (.int oa), .val (.int ob), .val (.int kv), .val (.int dv), .val (.ref b1), .val (.ref b2), .val (.ref b3), .unset, .unset, .unset, .unset, .unset, .unset, .unset] [(.int (oa + le)), (.int oa), (.ref b1)])) (fun _ k => XS.iadd X26.here hx rfl (hb hby at_144) rfl k) ?_
          have f27_W1 := ((f24_W1.keep K25 nin0).keep K26 (ninS ne_b1_b3 nin0))
          refine Go.callS X26 hx hZ (y := (⟨"com/example/grenoble/grenoble/check/StateStore", "hash", "([BII)J"⟩ : MethodName)) hown (hw _ (List.mem_of_getElem? (i := 8) rfl)) (hw _ (List.mem_of_getElem? (i := 9) rfl)) (hw _ (List.mem_of_getElem? (i := 10) rfl)) (hw _ (List.mem_of_getElem? (i := 11) rfl)) (by decide) (W := 0) (argsL := [(.ref b1), (.int oa), (.int (oa + le))]) (rest := []) (rm3 l Z a0 hw b1 oa (oa + le) T26.heap n0 kb1 (placeL ws1 o1 p1 nn) (ct p1) o1 nn f27_W1 hoa (ix_add hoa hle (by omega)) (by omega) (fun i hi => placeL_at p1 _ hw1 nn (by omega) i hi)) (by decide) (by decide) (by decide) (by decide) (g := (mkF m 145 #[.val (.long p1), .second, .val (.long p2), .second, .val (.long p3), .second, .val (.int p4), .val (.int p5), .val (.int le), .val (.int oa), .val (.int ob), .val (.int kv), .val (.int dv), .val (.ref b1), .val (.ref b2), .val (.ref b3), .unset, .unset, .unset, .unset, .unset, .unset, .unset] [(.int (oa + le)), (.int oa), (.ref b1)])) rfl (by rw [hml]; rfl) (lenOf pd_3 rfl) rfl (by show 2 * 0 + _ ≤ _; exact Nat.le_of_eq rfl) (hb hby at_145) rfl ?_
          rintro T28 L28 _ X28 ⟨rfl, N28, q28⟩
          have M28 := Fr.app M26 N28
          show Go p e below _ _ T28 (mkF m 148 #[.val (.long p1), .second, .val (.long p2), .second, .val (.long p3), .second, .val (.int p4), .val (.int p5), .val (.int le), .val (.int oa), .val (.int ob), .val (.int kv), .val (.int dv), .val (.ref b1), .val (.ref b2), .val (.ref b3), .unset, .unset, .unset, .unset, .unset, .unset, .unset] [(.long (mixH (fnv (ct p1) nn)))])
          refine Go.by (g' := (mkF m 150 #[.val (.long p1), .second, .val (.long p2), .second, .val (.long p3), .second, .val (.int p4), .val (.int p5), .val (.int le), .val (.int oa), .val (.int ob), .val (.int kv), .val (.int dv), .val (.ref b1), .val (.ref b2), .val (.ref b3), .val (.long (mixH (fnv (ct p1) nn))), .second, .unset, .unset, .unset, .unset, .unset] [])) (fun _ k => XS.lstore X28.here hx rfl (hb hby at_148) rfl (l' := #[.val (.long p1), .second, .val (.long p2), .second, .val (.long p3), .second, .val (.int p4), .val (.int p5), .val (.int le), .val (.int oa), .val (.int ob), .val (.int kv), .val (.int dv), .val (.ref b1), .val (.ref b2), .val (.ref b3), .val (.long (mixH (fnv (ct p1) nn))), .second, .unset, .unset, .unset, .unset, .unset]) rfl k) ?_
          refine Go.by (g' := (mkF m 152 #[.val (.long p1), .second, .val (.long p2), .second, .val (.long p3), .second, .val (.int p4), .val (.int p5), .val (.int le), .val (.int oa), .val (.int ob), .val (.int kv), .val (.int dv), .val (.ref b1), .val (.ref b2), .val (.ref b3), .val (.long (mixH (fnv (ct p1) nn))), .second, .unset, .unset, .unset, .unset, .unset] [(.ref b2)])) (fun _ k => XS.aload X28.here hx rfl (hb hby at_150) rfl rfl k) ?_
          refine Go.by (g' := (mkF m 154 #[.val (.long p1), .second, .val (.long p2), .second, .val (.long p3), .second, .val (.int p4), .val (.int p5), .val (.int le), .val (.int oa), .val (.int ob), .val (.int kv), .val (.int dv), .val (.ref b1), .val (.ref b2), .val (.ref b3), .val (.long (mixH (fnv (ct p1) nn))), .second, .unset, .unset, .unset, .unset, .unset] [(.int ob), (.ref b2)])) (fun _ k => XS.iload X28.here hx rfl (hb hby at_152) rfl k) ?_
          refine Go.by (g' := (mkF m 156 #[.val (.long p1), .second, .val (.long p2), .second, .val (.long p3), .second, .val (.int p4), .val (.int p5), .val (.int le), .val (.int oa), .val (.int ob), .val (.int kv), .val (.int dv), .val (.ref b1), .val (.ref b2), .val (.ref b3), .val (.long (mixH (fnv (ct p1) nn))), .second, .unset, .unset, .unset, .unset, .unset] [(.int ob), (.int ob), (.ref b2)])) (fun _ k => XS.iload X28.here hx rfl (hb hby at_154) rfl k) ?_
          refine Go.by (g' := (mkF m 158 #[.val (.long p1), .second, .val (.long p2), .second, .val (.long p3), .second, .val (.int p4), .val (.int p5), .val (.int le), .val (.int oa), .val (.int ob), .val (.int kv), .val (.int dv), .val (.ref b1), .val (.ref b2), .val (.ref b3), .val (.long (mixH (fnv (ct p1) nn))), .second, .unset, .unset, .unset, .unset, .unset] [(.int le), (.int ob), (.int ob), (.ref b2)])) (fun _ k => XS.iload X28.here hx rfl (hb hby at_156) rfl k) ?_
          refine Go.by (g' := (mkF m 159 #[.val (.long p1), .second, .val (.long p2), .second, .val (.long p3), .second, .val (.int p4), .val (.int p5), .val (.int le), .val (.int oa), .val (.int ob), .val (.int kv), .val (.int dv), .val (.ref b1), .val (.ref b2), .val (.ref b3), .val (.long (mixH (fnv (ct p1) nn))), .second, .unset, .unset, .unset, .unset, .unset] [(.int (ob + le)), (.int ob), (.ref b2)])) (fun _ k => XS.iadd X28.here hx rfl (hb hby at_158) rfl k) ?_
          have f29_W2 := ((Vb1.keep K25 nin0).keep K26 (ninS ne_b2_b3 nin0))
          refine Go.callS X28 hx hZ (y := (⟨"com/example/grenoble/grenoble/check/StateStore", "hash", "([BII)J"⟩ : MethodName)) hown (hw _ (List.mem_of_getElem? (i := 8) rfl)) (hw _ (List.mem_of_getElem? (i := 9) rfl)) (hw _ (List.mem_of_getElem? (i := 10) rfl)) (hw _ (List.mem_of_getElem? (i := 11) rfl)) (by decide) (W := 0) (argsL := [(.ref b2), (.int ob), (.int (ob + le))]) (rest := []) (rm3 l Z a0 hw b2 ob (ob + le) T26.heap n0 kb2 (placeL ws2 o2 p1 nn) (ct p1) o2 nn f29_W2 hob (ix_add hob hle (by omega)) (by omega) (fun i hi => placeL_at p1 _ hw2 nn (by omega) i hi)) (by decide) (by decide) (by decide) (by decide) (g := (mkF m 159 #[.val (.long p1), .second, .val (.long p2), .second, .val (.long p3), .second, .val (.int p4), .val (.int p5), .val (.int le), .val (.int oa), .val (.int ob), .val (.int kv), .val (.int dv), .val (.ref b1), .val (.ref b2), .val (.ref b3), .val (.long (mixH (fnv (ct p1) nn))), .second, .unset, .unset, .unset, .unset, .unset] [(.int (ob + le)), (.int ob), (.ref b2)])) rfl (by rw [hml]; rfl) (lenOf pd_3 rfl) rfl (by show 2 * 0 + _ ≤ _; exact Nat.le_of_eq rfl) (hb hby at_159) q28 ?_
          rintro T30 L30 _ X30 ⟨rfl, N30, q30⟩
          have M30 := Fr.app M28 N30
          show Go p e below _ _ T30 (mkF m 162 #[.val (.long p1), .second, .val (.long p2), .second, .val (.long p3), .second, .val (.int p4), .val (.int p5), .val (.int le), .val (.int oa), .val (.int ob), .val (.int kv), .val (.int dv), .val (.ref b1), .val (.ref b2), .val (.ref b3), .val (.long (mixH (fnv (ct p1) nn))), .second, .unset, .unset, .unset, .unset, .unset] [(.long (mixH (fnv (ct p1) nn)))])
          refine Go.by (g' := (mkF m 164 #[.val (.long p1), .second, .val (.long p2), .second, .val (.long p3), .second, .val (.int p4), .val (.int p5), .val (.int le), .val (.int oa), .val (.int ob), .val (.int kv), .val (.int dv), .val (.ref b1), .val (.ref b2), .val (.ref b3), .val (.long (mixH (fnv (ct p1) nn))), .second, .val (.long (mixH (fnv (ct p1) nn))), .second, .unset, .unset, .unset] [])) (fun _ k => XS.lstore X30.here hx rfl (hb hby at_162) rfl (l' := #[.val (.long p1), .second, .val (.long p2), .second, .val (.long p3), .second, .val (.int p4), .val (.int p5), .val (.int le), .val (.int oa), .val (.int ob), .val (.int kv), .val (.int dv), .val (.ref b1), .val (.ref b2), .val (.ref b3), .val (.long (mixH (fnv (ct p1) nn))), .second, .val (.long (mixH (fnv (ct p1) nn))), .second, .unset, .unset, .unset]) rfl k) ?_
          refine Go.by (g' := (mkF m 166 #[.val (.long p1), .second, .val (.long p2), .second, .val (.long p3), .second, .val (.int p4), .val (.int p5), .val (.int le), .val (.int oa), .val (.int ob), .val (.int kv), .val (.int dv), .val (.ref b1), .val (.ref b2), .val (.ref b3), .val (.long (mixH (fnv (ct p1) nn))), .second, .val (.long (mixH (fnv (ct p1) nn))), .second, .unset, .unset, .unset] [(.ref b3)])) (fun _ k => XS.aload X30.here hx rfl (hb hby at_164) rfl rfl k) ?_
          refine Go.by (g' := (mkF m 168 #[.val (.long p1), .second, .val (.long p2), .second, .val (.long p3), .second, .val (.int p4), .val (.int p5), .val (.int le), .val (.int oa), .val (.int ob), .val (.int kv), .val (.int dv), .val (.ref b1), .val (.ref b2), .val (.ref b3), .val (.long (mixH (fnv (ct p1) nn))), .second, .val (.long (mixH (fnv (ct p1) nn))), .second, .unset, .unset, .unset] [(.int oa), (.ref b3)])) (fun _ k => XS.iload X30.here hx rfl (hb hby at_166) rfl k) ?_
          refine Go.by (g' := (mkF m 170 #[.val (.long p1), .second, .val (.long p2), .second, .val (.long p3), .second, .val (.int p4), .val (.int p5), .val (.int le), .val (.int oa), .val (.int ob), .val (.int kv), .val (.int dv), .val (.ref b1), .val (.ref b2), .val (.ref b3), .val (.long (mixH (fnv (ct p1) nn))), .second, .val (.long (mixH (fnv (ct p1) nn))), .second, .unset, .unset, .unset] [(.int oa), (.int oa), (.ref b3)])) (fun _ k => XS.iload X30.here hx rfl (hb hby at_168) rfl k) ?_
          refine Go.by (g' := (mkF m 172 #[.val (.long p1), .second, .val (.long p2), .second, .val (.long p3), .second, .val (.int p4), .val (.int p5), .val (.int le), .val (.int oa), .val (.int ob), .val (.int kv), .val (.int dv), .val (.ref b1), .val (.ref b2), .val (.ref b3), .val (.long (mixH (fnv (ct p1) nn))), .second, .val (.long (mixH (fnv (ct p1) nn))), .second, .unset, .unset, .unset] [(.int le), (.int oa), (.int oa), (.ref b3)])) (fun _ k => XS.iload X30.here hx rfl (hb hby at_170) rfl k) ?_
          refine Go.by (g' := (mkF m 173 #[.val (.long p1), .second, .val (.long p2), .second, .val (.long p3), .second, .val (.int p4), .val (.int p5), .val (.int le), .val (.int oa), .val (.int ob), .val (.int kv), .val (.int dv), .val (.ref b1), .val (.ref b2), .val (.ref b3), .val (.long (mixH (fnv (ct p1) nn))), .second, .val (.long (mixH (fnv (ct p1) nn))), .second, .unset, .unset, .unset] [(.int (oa + le)), (.int oa), (.ref b3)])) (fun _ k => XS.iadd X30.here hx rfl (hb hby at_172) rfl k) ?_
          refine Go.callS X30 hx hZ (y := (⟨"com/example/grenoble/grenoble/check/StateStore", "hash", "([BII)J"⟩ : MethodName)) hown (hw _ (List.mem_of_getElem? (i := 8) rfl)) (hw _ (List.mem_of_getElem? (i := 9) rfl)) (hw _ (List.mem_of_getElem? (i := 10) rfl)) (hw _ (List.mem_of_getElem? (i := 11) rfl)) (by decide) (W := 0) (argsL := [(.ref b3), (.int oa), (.int (oa + le))]) (rest := []) (rm3 l Z a0 hw b3 oa (oa + le) T26.heap n0 kb3 (placeL ws3 o1 p1 nn) (ct p1) o1 nn Vc1 hoa (ix_add hoa hle (by omega)) (by omega) (fun i hi => placeL_at p1 _ hw3 nn (by omega) i hi)) (by decide) (by decide) (by decide) (by decide) (g := (mkF m 173 #[.val (.long p1), .second, .val (.long p2), .second, .val (.long p3), .second, .val (.int p4), .val (.int p5), .val (.int le), .val (.int oa), .val (.int ob), .val (.int kv), .val (.int dv), .val (.ref b1), .val (.ref b2), .val (.ref b3), .val (.long (mixH (fnv (ct p1) nn))), .second, .val (.long (mixH (fnv (ct p1) nn))), .second, .unset, .unset, .unset] [(.int (oa + le)), (.int oa), (.ref b3)])) rfl (by rw [hml]; rfl) (lenOf pd_3 rfl) rfl (by show 2 * 0 + _ ≤ _; exact Nat.le_of_eq rfl) (hb hby at_173) q30 ?_
          rintro T31 L31 _ X31 ⟨rfl, N31, q31⟩
          have M31 := Fr.app M30 N31
          show Go p e below _ _ T31 (mkF m 176 #[.val (.long p1), .second, .val (.long p2), .second, .val (.long p3), .second, .val (.int p4), .val (.int p5), .val (.int le), .val (.int oa), .val (.int ob), .val (.int kv), .val (.int dv), .val (.ref b1), .val (.ref b2), .val (.ref b3), .val (.long (mixH (fnv (ct p1) nn))), .second, .val (.long (mixH (fnv (ct p1) nn))), .second, .unset, .unset, .unset] [(.long (mixH (fnv (ct p1) nn)))])
          refine Go.by (g' := (mkF m 178 #[.val (.long p1), .second, .val (.long p2), .second, .val (.long p3), .second, .val (.int p4), .val (.int p5), .val (.int le), .val (.int oa), .val (.int ob), .val (.int kv), .val (.int dv), .val (.ref b1), .val (.ref b2), .val (.ref b3), .val (.long (mixH (fnv (ct p1) nn))), .second, .val (.long (mixH (fnv (ct p1) nn))), .second, .val (.long (mixH (fnv (ct p1) nn))), .second, .unset] [])) (fun _ k => XS.lstore X31.here hx rfl (hb hby at_176) rfl (l' := #[.val (.long p1), .second, .val (.long p2), .second, .val (.long p3), .second, .val (.int p4), .val (.int p5), .val (.int le), .val (.int oa), .val (.int ob), .val (.int kv), .val (.int dv), .val (.ref b1), .val (.ref b2), .val (.ref b3), .val (.long (mixH (fnv (ct p1) nn))), .second, .val (.long (mixH (fnv (ct p1) nn))), .second, .val (.long (mixH (fnv (ct p1) nn))), .second, .unset]) rfl k) ?_
          refine Go.by (g' := (mkF m 180 #[.val (.long p1), .second, .val (.long p2), .second, .val (.long p3), .second, .val (.int p4), .val (.int p5), .val (.int le), .val (.int oa), .val (.int ob), .val (.int kv), .val (.int dv), .val (.ref b1), .val (.ref b2), .val (.ref b3), .val (.long (mixH (fnv (ct p1) nn))), .second, .val (.long (mixH (fnv (ct p1) nn))), .second, .val (.long (mixH (fnv (ct p1) nn))), .second, .unset] [(.long (mixH (fnv (ct p1) nn)))])) (fun _ k => XS.lload X31.here hx rfl (hb hby at_178) rfl k) ?_
          refine Go.by (g' := (mkF m 182 #[.val (.long p1), .second, .val (.long p2), .second, .val (.long p3), .second, .val (.int p4), .val (.int p5), .val (.int le), .val (.int oa), .val (.int ob), .val (.int kv), .val (.int dv), .val (.ref b1), .val (.ref b2), .val (.ref b3), .val (.long (mixH (fnv (ct p1) nn))), .second, .val (.long (mixH (fnv (ct p1) nn))), .second, .val (.long (mixH (fnv (ct p1) nn))), .second, .unset] [(.long (mixH (fnv (ct p1) nn))), (.long (mixH (fnv (ct p1) nn)))])) (fun _ k => XS.lload X31.here hx rfl (hb hby at_180) rfl k) ?_
          refine Go.by (g' := (mkF m 183 #[.val (.long p1), .second, .val (.long p2), .second, .val (.long p3), .second, .val (.int p4), .val (.int p5), .val (.int le), .val (.int oa), .val (.int ob), .val (.int kv), .val (.int dv), .val (.ref b1), .val (.ref b2), .val (.ref b3), .val (.long (mixH (fnv (ct p1) nn))), .second, .val (.long (mixH (fnv (ct p1) nn))), .second, .val (.long (mixH (fnv (ct p1) nn))), .second, .unset] [(.int (lcmpW (mixH (fnv (ct p1) nn)) (mixH (fnv (ct p1) nn))))])) (fun _ k => XS.lcmp X31.here hx rfl (hb hby at_182) rfl k) ?_
          refine Go.by (g' := (mkF m 186 #[.val (.long p1), .second, .val (.long p2), .second, .val (.long p3), .second, .val (.int p4), .val (.int p5), .val (.int le), .val (.int oa), .val (.int ob), .val (.int kv), .val (.int dv), .val (.ref b1), .val (.ref b2), .val (.ref b3), .val (.long (mixH (fnv (ct p1) nn))), .second, .val (.long (mixH (fnv (ct p1) nn))), .second, .val (.long (mixH (fnv (ct p1) nn))), .second, .unset] [])) (fun _ k => XS.ifNo X31.here hx rfl (hb hby at_183) rfl ((if0 _ _).trans (teq ((lw_eq _ _).mpr rfl)).2) k) ?_
          refine Go.by (g' := (mkF m 187 #[.val (.long p1), .second, .val (.long p2), .second, .val (.long p3), .second, .val (.int p4), .val (.int p5), .val (.int le), .val (.int oa), .val (.int ob), .val (.int kv), .val (.int dv), .val (.ref b1), .val (.ref b2), .val (.ref b3), .val (.long (mixH (fnv (ct p1) nn))), .second, .val (.long (mixH (fnv (ct p1) nn))), .second, .val (.long (mixH (fnv (ct p1) nn))), .second, .unset] [(.int (1 : Int32))])) (fun _ k => XS.iconst X31.here hx rfl (hb hby at_186) k) ?_
          refine Go.by (g' := (mkF m 191 #[.val (.long p1), .second, .val (.long p2), .second, .val (.long p3), .second, .val (.int p4), .val (.int p5), .val (.int le), .val (.int oa), .val (.int ob), .val (.int kv), .val (.int dv), .val (.ref b1), .val (.ref b2), .val (.ref b3), .val (.long (mixH (fnv (ct p1) nn))), .second, .val (.long (mixH (fnv (ct p1) nn))), .second, .val (.long (mixH (fnv (ct p1) nn))), .second, .unset] [(.int (1 : Int32))])) (fun _ k => XS.goto X31.here hx rfl (pc0 := 187) (pc' := 191) rfl (hb hby at_187) (by decide) (by decide) k) ?_
          refine Go.by (g' := (mkF m 193 #[.val (.long p1), .second, .val (.long p2), .second, .val (.long p3), .second, .val (.int p4), .val (.int p5), .val (.int le), .val (.int oa), .val (.int ob), .val (.int kv), .val (.int dv), .val (.ref b1), .val (.ref b2), .val (.ref b3), .val (.long (mixH (fnv (ct p1) nn))), .second, .val (.long (mixH (fnv (ct p1) nn))), .second, .val (.long (mixH (fnv (ct p1) nn))), .second, .val (.int (1 : Int32))] [])) (fun _ k => XS.istore X31.here hx rfl (hb hby at_191) rfl (l' := #[.val (.long p1), .second, .val (.long p2), .second, .val (.long p3), .second, .val (.int p4), .val (.int p5), .val (.int le), .val (.int oa), .val (.int ob), .val (.int kv), .val (.int dv), .val (.ref b1), .val (.ref b2), .val (.ref b3), .val (.long (mixH (fnv (ct p1) nn))), .second, .val (.long (mixH (fnv (ct p1) nn))), .second, .val (.long (mixH (fnv (ct p1) nn))), .second, .val (.int (1 : Int32))]) rfl k) ?_
          refine Go.by (g' := (mkF m 195 #[.val (.long p1), .second, .val (.long p2), .second, .val (.long p3), .second, .val (.int p4), .val (.int p5), .val (.int le), .val (.int oa), .val (.int ob), .val (.int kv), .val (.int dv), .val (.ref b1), .val (.ref b2), .val (.ref b3), .val (.long (mixH (fnv (ct p1) nn))), .second, .val (.long (mixH (fnv (ct p1) nn))), .second, .val (.long (mixH (fnv (ct p1) nn))), .second, .val (.int (1 : Int32))] [(.int le)])) (fun _ k => XS.iload X31.here hx rfl (hb hby at_193) rfl k) ?_
          refine Go.by (g' := (mkF m 217 #[.val (.long p1), .second, .val (.long p2), .second, .val (.long p3), .second, .val (.int p4), .val (.int p5), .val (.int le), .val (.int oa), .val (.int ob), .val (.int kv), .val (.int dv), .val (.ref b1), .val (.ref b2), .val (.ref b3), .val (.long (mixH (fnv (ct p1) nn))), .second, .val (.long (mixH (fnv (ct p1) nn))), .second, .val (.long (mixH (fnv (ct p1) nn))), .second, .val (.int (1 : Int32))] [])) (fun _ k => XS.ifYes X31.here hx rfl (pc0 := 195) (pc' := 217) rfl (hb hby at_195) rfl ((if0 _ _).trans (flt h113).2.2.2) (by decide) (by decide) k) ?_
          refine Go.by (g' := (mkF m 219 #[.val (.long p1), .second, .val (.long p2), .second, .val (.long p3), .second, .val (.int p4), .val (.int p5), .val (.int le), .val (.int oa), .val (.int ob), .val (.int kv), .val (.int dv), .val (.ref b1), .val (.ref b2), .val (.ref b3), .val (.long (mixH (fnv (ct p1) nn))), .second, .val (.long (mixH (fnv (ct p1) nn))), .second, .val (.long (mixH (fnv (ct p1) nn))), .second, .val (.int (1 : Int32))] [(.int (1 : Int32))])) (fun _ k => XS.iload X31.here hx rfl (hb hby at_217) rfl k) ?_
          exact Go.outZ X31 hx hret (Lv.narrow X31 hlk (by decide) (by decide)) (hb hby at_219) (by decide) ⟨rfl, M31⟩
      refine Go.by (g' := (mkF m 48 #[.val (.long p1), .second, .val (.long p2), .second, .val (.long p3), .second, .val (.int p4), .val (.int p5), .val (.int le), .val (.int oa), .val (.int ob), .val (.int kv), .unset, .unset, .unset, .unset, .unset, .unset, .unset, .unset, .unset, .unset, .unset] [(.int p5)])) (fun _ k => XS.iload X0.here hx rfl (hb hby at_46) rfl k) ?_
      refine Go.by (g' := (mkF m 51 #[.val (.long p1), .second, .val (.long p2), .second, .val (.long p3), .second, .val (.int p4), .val (.int p5), .val (.int le), .val (.int oa), .val (.int ob), .val (.int kv), .unset, .unset, .unset, .unset, .unset, .unset, .unset, .unset, .unset, .unset, .unset] [(.int (255 : Int32)), (.int p5)])) (fun _ k => XS.sipush X0.here hx rfl (hb hby at_48) k) ?_
      refine Go.by (g' := (mkF m 52 #[.val (.long p1), .second, .val (.long p2), .second, .val (.long p3), .second, .val (.int p4), .val (.int p5), .val (.int le), .val (.int oa), .val (.int ob), .val (.int kv), .unset, .unset, .unset, .unset, .unset, .unset, .unset, .unset, .unset, .unset, .unset] [(.int (p5 &&& (255 : Int32)))])) (fun _ k => XS.iand X0.here hx rfl (hb hby at_51) rfl k) ?_
      refine Go.by (g' := (mkF m 54 #[.val (.long p1), .second, .val (.long p2), .second, .val (.long p3), .second, .val (.int p4), .val (.int p5), .val (.int le), .val (.int oa), .val (.int ob), .val (.int kv), .val (.int (p5 &&& (255 : Int32))), .unset, .unset, .unset, .unset, .unset, .unset, .unset, .unset, .unset, .unset] [])) (fun _ k => XS.istore X0.here hx rfl (hb hby at_52) rfl (l' := #[.val (.long p1), .second, .val (.long p2), .second, .val (.long p3), .second, .val (.int p4), .val (.int p5), .val (.int le), .val (.int oa), .val (.int ob), .val (.int kv), .val (.int (p5 &&& (255 : Int32))), .unset, .unset, .unset, .unset, .unset, .unset, .unset, .unset, .unset, .unset]) rfl k) ?_
      refine Go.by (g' := (mkF m 56 #[.val (.long p1), .second, .val (.long p2), .second, .val (.long p3), .second, .val (.int p4), .val (.int p5), .val (.int le), .val (.int oa), .val (.int ob), .val (.int kv), .val (.int (p5 &&& (255 : Int32))), .unset, .unset, .unset, .unset, .unset, .unset, .unset, .unset, .unset, .unset] [(.int (p5 &&& (255 : Int32)))])) (fun _ k => XS.iload X0.here hx rfl (hb hby at_54) rfl k) ?_
      by_cases h56 : (p5 &&& (255 : Int32)) = (0 : Int32)
      · refine Go.by (g' := (mkF m 59 #[.val (.long p1), .second, .val (.long p2), .second, .val (.long p3), .second, .val (.int p4), .val (.int p5), .val (.int le), .val (.int oa), .val (.int ob), .val (.int kv), .val (.int (p5 &&& (255 : Int32))), .unset, .unset, .unset, .unset, .unset, .unset, .unset, .unset, .unset, .unset] [])) (fun _ k => XS.ifNo X0.here hx rfl (hb hby at_56) rfl ((if0 _ _).trans (teq h56).2) k) ?_
        refine Go.by (g' := (mkF m 60 #[.val (.long p1), .second, .val (.long p2), .second, .val (.long p3), .second, .val (.int p4), .val (.int p5), .val (.int le), .val (.int oa), .val (.int ob), .val (.int kv), .val (.int (p5 &&& (255 : Int32))), .unset, .unset, .unset, .unset, .unset, .unset, .unset, .unset, .unset, .unset] [(.int (1 : Int32))])) (fun _ k => XS.iconst X0.here hx rfl (hb hby at_59) k) ?_
        refine Go.by (g' := (mkF m 62 #[.val (.long p1), .second, .val (.long p2), .second, .val (.long p3), .second, .val (.int p4), .val (.int p5), .val (.int le), .val (.int oa), .val (.int ob), .val (.int kv), .val (.int (1 : Int32)), .unset, .unset, .unset, .unset, .unset, .unset, .unset, .unset, .unset, .unset] [])) (fun _ k => XS.istore X0.here hx rfl (hb hby at_60) rfl (l' := #[.val (.long p1), .second, .val (.long p2), .second, .val (.long p3), .second, .val (.int p4), .val (.int p5), .val (.int le), .val (.int oa), .val (.int ob), .val (.int kv), .val (.int (1 : Int32)), .unset, .unset, .unset, .unset, .unset, .unset, .unset, .unset, .unset, .unset]) rfl k) ?_
        exact k62 1 (by decide)
      · refine Go.by (g' := (mkF m 62 #[.val (.long p1), .second, .val (.long p2), .second, .val (.long p3), .second, .val (.int p4), .val (.int p5), .val (.int le), .val (.int oa), .val (.int ob), .val (.int kv), .val (.int (p5 &&& (255 : Int32))), .unset, .unset, .unset, .unset, .unset, .unset, .unset, .unset, .unset, .unset] [])) (fun _ k => XS.ifYes X0.here hx rfl (pc0 := 56) (pc' := 62) rfl (hb hby at_56) rfl ((if0 _ _).trans (feq h56).2) (by decide) (by decide) k) ?_
        exact k62 _ (by rw [Int32.and_assoc]; exact h56)
    refine Go.by (g' := (mkF m 36 #[.val (.long p1), .second, .val (.long p2), .second, .val (.long p3), .second, .val (.int p4), .val (.int p5), .val (.int le), .val (.int oa), .val (.int ob), .val (.int kk), .unset, .unset, .unset, .unset, .unset, .unset, .unset, .unset, .unset, .unset, .unset] [(.int le)])) (fun _ k => XS.iload X0.here hx rfl (hb hby at_34) rfl k) ?_
    by_cases h36 : (0 : Int32) < le
    · refine Go.by (g' := (mkF m 39 #[.val (.long p1), .second, .val (.long p2), .second, .val (.long p3), .second, .val (.int p4), .val (.int p5), .val (.int le), .val (.int oa), .val (.int ob), .val (.int kk), .unset, .unset, .unset, .unset, .unset, .unset, .unset, .unset, .unset, .unset, .unset] [])) (fun _ k => XS.ifNo X0.here hx rfl (hb hby at_36) rfl ((if0 _ _).trans (tlt h36).2.2.2) k) ?_
      refine Go.by (g' := (mkF m 41 #[.val (.long p1), .second, .val (.long p2), .second, .val (.long p3), .second, .val (.int p4), .val (.int p5), .val (.int le), .val (.int oa), .val (.int ob), .val (.int kk), .unset, .unset, .unset, .unset, .unset, .unset, .unset, .unset, .unset, .unset, .unset] [(.int kk)])) (fun _ k => XS.iload X0.here hx rfl (hb hby at_39) rfl k) ?_
      refine Go.by (g' := (mkF m 43 #[.val (.long p1), .second, .val (.long p2), .second, .val (.long p3), .second, .val (.int p4), .val (.int p5), .val (.int le), .val (.int oa), .val (.int ob), .val (.int kk), .unset, .unset, .unset, .unset, .unset, .unset, .unset, .unset, .unset, .unset, .unset] [(.int le), (.int kk)])) (fun _ k => XS.iload X0.here hx rfl (hb hby at_41) rfl k) ?_
      have hlp : 0 < le.toInt := by
        have e0 : (0 : Int32).toInt = 0 := by decide
        rw [Int32.lt_iff_toInt_lt, e0] at h36
        exact h36
      refine Go.by (g' := (mkF m 44 #[.val (.long p1), .second, .val (.long p2), .second, .val (.long p3), .second, .val (.int p4), .val (.int p5), .val (.int le), .val (.int oa), .val (.int ob), .val (.int kk), .unset, .unset, .unset, .unset, .unset, .unset, .unset, .unset, .unset, .unset, .unset] [(.int (kk % le))])) (fun _ k => iremM X0 hx rfl (hb hby at_43) rfl (fun e => by rw [e] at hlp; exact absurd hlp (by decide)) k) ?_
      refine Go.by (g' := (mkF m 46 #[.val (.long p1), .second, .val (.long p2), .second, .val (.long p3), .second, .val (.int p4), .val (.int p5), .val (.int le), .val (.int oa), .val (.int ob), .val (.int (kk % le)), .unset, .unset, .unset, .unset, .unset, .unset, .unset, .unset, .unset, .unset, .unset] [])) (fun _ k => XS.istore X0.here hx rfl (hb hby at_44) rfl (l' := #[.val (.long p1), .second, .val (.long p2), .second, .val (.long p3), .second, .val (.int p4), .val (.int p5), .val (.int le), .val (.int oa), .val (.int ob), .val (.int (kk % le)), .unset, .unset, .unset, .unset, .unset, .unset, .unset, .unset, .unset, .unset, .unset]) rfl k) ?_
      have hr := (c_iremV kk le).1 (by omega) hlp
      exact k46 _ (kk % le).toInt.toNat (fun _ => ⟨by omega, by omega⟩)
    · refine Go.by (g' := (mkF m 46 #[.val (.long p1), .second, .val (.long p2), .second, .val (.long p3), .second, .val (.int p4), .val (.int p5), .val (.int le), .val (.int oa), .val (.int ob), .val (.int kk), .unset, .unset, .unset, .unset, .unset, .unset, .unset, .unset, .unset, .unset, .unset] [])) (fun _ k => XS.ifYes X0.here hx rfl (pc0 := 36) (pc' := 46) rfl (hb hby at_36) rfl ((if0 _ _).trans (flt h36).2.2.2) (by decide) (by decide) k) ?_
      exact k46 _ 0 (fun h => absurd h h36)
  refine Go.by (g' := (mkF m 2 #[.val (.long p1), .second, .val (.long p2), .second, .val (.long p3), .second, .val (.int p4), .val (.int p5), .unset, .unset, .unset, .unset, .unset, .unset, .unset, .unset, .unset, .unset, .unset, .unset, .unset, .unset, .unset] [(.int p4)])) (fun _ k => XS.iload X0.here hx rfl (hb hby at_0) rfl k) ?_
  refine Go.by (g' := (mkF m 4 #[.val (.long p1), .second, .val (.long p2), .second, .val (.long p3), .second, .val (.int p4), .val (.int p5), .unset, .unset, .unset, .unset, .unset, .unset, .unset, .unset, .unset, .unset, .unset, .unset, .unset, .unset, .unset] [(.int (7 : Int32)), (.int p4)])) (fun _ k => XS.bipush X0.here hx rfl (hb hby at_2) k) ?_
  refine Go.by (g' := (mkF m 5 #[.val (.long p1), .second, .val (.long p2), .second, .val (.long p3), .second, .val (.int p4), .val (.int p5), .unset, .unset, .unset, .unset, .unset, .unset, .unset, .unset, .unset, .unset, .unset, .unset, .unset, .unset, .unset] [(.int (p4 &&& (7 : Int32)))])) (fun _ k => XS.iand X0.here hx rfl (hb hby at_4) rfl k) ?_
  refine Go.by (g' := (mkF m 6 #[.val (.long p1), .second, .val (.long p2), .second, .val (.long p3), .second, .val (.int p4), .val (.int p5), .unset, .unset, .unset, .unset, .unset, .unset, .unset, .unset, .unset, .unset, .unset, .unset, .unset, .unset, .unset] [(.int (5 : Int32)), (.int (p4 &&& (7 : Int32)))])) (fun _ k => XS.iconst X0.here hx rfl (hb hby at_5) k) ?_
  refine Go.by (g' := (mkF m 7 #[.val (.long p1), .second, .val (.long p2), .second, .val (.long p3), .second, .val (.int p4), .val (.int p5), .unset, .unset, .unset, .unset, .unset, .unset, .unset, .unset, .unset, .unset, .unset, .unset, .unset, .unset, .unset] [(.int ((p4 &&& (7 : Int32)) % (5 : Int32)))])) (fun _ k => iremM X0 hx rfl (hb hby at_6) rfl (by decide) k) ?_
  refine Go.by (g' := (mkF m 9 #[.val (.long p1), .second, .val (.long p2), .second, .val (.long p3), .second, .val (.int p4), .val (.int p5), .val (.int ((p4 &&& (7 : Int32)) % (5 : Int32))), .unset, .unset, .unset, .unset, .unset, .unset, .unset, .unset, .unset, .unset, .unset, .unset, .unset, .unset] [])) (fun _ k => XS.istore X0.here hx rfl (hb hby at_7) rfl (l' := #[.val (.long p1), .second, .val (.long p2), .second, .val (.long p3), .second, .val (.int p4), .val (.int p5), .val (.int ((p4 &&& (7 : Int32)) % (5 : Int32))), .unset, .unset, .unset, .unset, .unset, .unset, .unset, .unset, .unset, .unset, .unset, .unset, .unset, .unset]) rfl k) ?_
  refine Go.by (g' := (mkF m 11 #[.val (.long p1), .second, .val (.long p2), .second, .val (.long p3), .second, .val (.int p4), .val (.int p5), .val (.int ((p4 &&& (7 : Int32)) % (5 : Int32))), .unset, .unset, .unset, .unset, .unset, .unset, .unset, .unset, .unset, .unset, .unset, .unset, .unset, .unset] [(.int p4)])) (fun _ k => XS.iload X0.here hx rfl (hb hby at_9) rfl k) ?_
  refine Go.by (g' := (mkF m 12 #[.val (.long p1), .second, .val (.long p2), .second, .val (.long p3), .second, .val (.int p4), .val (.int p5), .val (.int ((p4 &&& (7 : Int32)) % (5 : Int32))), .unset, .unset, .unset, .unset, .unset, .unset, .unset, .unset, .unset, .unset, .unset, .unset, .unset, .unset] [(.int (3 : Int32)), (.int p4)])) (fun _ k => XS.iconst X0.here hx rfl (hb hby at_11) k) ?_
  refine Go.by (g' := (mkF m 13 #[.val (.long p1), .second, .val (.long p2), .second, .val (.long p3), .second, .val (.int p4), .val (.int p5), .val (.int ((p4 &&& (7 : Int32)) % (5 : Int32))), .unset, .unset, .unset, .unset, .unset, .unset, .unset, .unset, .unset, .unset, .unset, .unset, .unset, .unset] [(.int (us p4 (3 : Int32)))])) (fun _ k => XS.iushr X0.here hx rfl (hb hby at_12) rfl k) ?_
  refine Go.by (g' := (mkF m 14 #[.val (.long p1), .second, .val (.long p2), .second, .val (.long p3), .second, .val (.int p4), .val (.int p5), .val (.int ((p4 &&& (7 : Int32)) % (5 : Int32))), .unset, .unset, .unset, .unset, .unset, .unset, .unset, .unset, .unset, .unset, .unset, .unset, .unset, .unset] [(.int (3 : Int32)), (.int (us p4 (3 : Int32)))])) (fun _ k => XS.iconst X0.here hx rfl (hb hby at_13) k) ?_
  refine Go.by (g' := (mkF m 15 #[.val (.long p1), .second, .val (.long p2), .second, .val (.long p3), .second, .val (.int p4), .val (.int p5), .val (.int ((p4 &&& (7 : Int32)) % (5 : Int32))), .unset, .unset, .unset, .unset, .unset, .unset, .unset, .unset, .unset, .unset, .unset, .unset, .unset, .unset] [(.int ((us p4 (3 : Int32)) &&& (3 : Int32)))])) (fun _ k => XS.iand X0.here hx rfl (hb hby at_14) rfl k) ?_
  refine Go.by (g' := (mkF m 17 #[.val (.long p1), .second, .val (.long p2), .second, .val (.long p3), .second, .val (.int p4), .val (.int p5), .val (.int ((p4 &&& (7 : Int32)) % (5 : Int32))), .val (.int ((us p4 (3 : Int32)) &&& (3 : Int32))), .unset, .unset, .unset, .unset, .unset, .unset, .unset, .unset, .unset, .unset, .unset, .unset, .unset] [])) (fun _ k => XS.istore X0.here hx rfl (hb hby at_15) rfl (l' := #[.val (.long p1), .second, .val (.long p2), .second, .val (.long p3), .second, .val (.int p4), .val (.int p5), .val (.int ((p4 &&& (7 : Int32)) % (5 : Int32))), .val (.int ((us p4 (3 : Int32)) &&& (3 : Int32))), .unset, .unset, .unset, .unset, .unset, .unset, .unset, .unset, .unset, .unset, .unset, .unset, .unset]) rfl k) ?_
  refine Go.by (g' := (mkF m 19 #[.val (.long p1), .second, .val (.long p2), .second, .val (.long p3), .second, .val (.int p4), .val (.int p5), .val (.int ((p4 &&& (7 : Int32)) % (5 : Int32))), .val (.int ((us p4 (3 : Int32)) &&& (3 : Int32))), .unset, .unset, .unset, .unset, .unset, .unset, .unset, .unset, .unset, .unset, .unset, .unset, .unset] [(.int p4)])) (fun _ k => XS.iload X0.here hx rfl (hb hby at_17) rfl k) ?_
  refine Go.by (g' := (mkF m 20 #[.val (.long p1), .second, .val (.long p2), .second, .val (.long p3), .second, .val (.int p4), .val (.int p5), .val (.int ((p4 &&& (7 : Int32)) % (5 : Int32))), .val (.int ((us p4 (3 : Int32)) &&& (3 : Int32))), .unset, .unset, .unset, .unset, .unset, .unset, .unset, .unset, .unset, .unset, .unset, .unset, .unset] [(.int (5 : Int32)), (.int p4)])) (fun _ k => XS.iconst X0.here hx rfl (hb hby at_19) k) ?_
  refine Go.by (g' := (mkF m 21 #[.val (.long p1), .second, .val (.long p2), .second, .val (.long p3), .second, .val (.int p4), .val (.int p5), .val (.int ((p4 &&& (7 : Int32)) % (5 : Int32))), .val (.int ((us p4 (3 : Int32)) &&& (3 : Int32))), .unset, .unset, .unset, .unset, .unset, .unset, .unset, .unset, .unset, .unset, .unset, .unset, .unset] [(.int (us p4 (5 : Int32)))])) (fun _ k => XS.iushr X0.here hx rfl (hb hby at_20) rfl k) ?_
  refine Go.by (g' := (mkF m 22 #[.val (.long p1), .second, .val (.long p2), .second, .val (.long p3), .second, .val (.int p4), .val (.int p5), .val (.int ((p4 &&& (7 : Int32)) % (5 : Int32))), .val (.int ((us p4 (3 : Int32)) &&& (3 : Int32))), .unset, .unset, .unset, .unset, .unset, .unset, .unset, .unset, .unset, .unset, .unset, .unset, .unset] [(.int (3 : Int32)), (.int (us p4 (5 : Int32)))])) (fun _ k => XS.iconst X0.here hx rfl (hb hby at_21) k) ?_
  refine Go.by (g' := (mkF m 23 #[.val (.long p1), .second, .val (.long p2), .second, .val (.long p3), .second, .val (.int p4), .val (.int p5), .val (.int ((p4 &&& (7 : Int32)) % (5 : Int32))), .val (.int ((us p4 (3 : Int32)) &&& (3 : Int32))), .unset, .unset, .unset, .unset, .unset, .unset, .unset, .unset, .unset, .unset, .unset, .unset, .unset] [(.int ((us p4 (5 : Int32)) &&& (3 : Int32)))])) (fun _ k => XS.iand X0.here hx rfl (hb hby at_22) rfl k) ?_
  refine Go.by (g' := (mkF m 25 #[.val (.long p1), .second, .val (.long p2), .second, .val (.long p3), .second, .val (.int p4), .val (.int p5), .val (.int ((p4 &&& (7 : Int32)) % (5 : Int32))), .val (.int ((us p4 (3 : Int32)) &&& (3 : Int32))), .val (.int ((us p4 (5 : Int32)) &&& (3 : Int32))), .unset, .unset, .unset, .unset, .unset, .unset, .unset, .unset, .unset, .unset, .unset, .unset] [])) (fun _ k => XS.istore X0.here hx rfl (hb hby at_23) rfl (l' := #[.val (.long p1), .second, .val (.long p2), .second, .val (.long p3), .second, .val (.int p4), .val (.int p5), .val (.int ((p4 &&& (7 : Int32)) % (5 : Int32))), .val (.int ((us p4 (3 : Int32)) &&& (3 : Int32))), .val (.int ((us p4 (5 : Int32)) &&& (3 : Int32))), .unset, .unset, .unset, .unset, .unset, .unset, .unset, .unset, .unset, .unset, .unset, .unset]) rfl k) ?_
  refine Go.by (g' := (mkF m 27 #[.val (.long p1), .second, .val (.long p2), .second, .val (.long p3), .second, .val (.int p4), .val (.int p5), .val (.int ((p4 &&& (7 : Int32)) % (5 : Int32))), .val (.int ((us p4 (3 : Int32)) &&& (3 : Int32))), .val (.int ((us p4 (5 : Int32)) &&& (3 : Int32))), .unset, .unset, .unset, .unset, .unset, .unset, .unset, .unset, .unset, .unset, .unset, .unset] [(.int p4)])) (fun _ k => XS.iload X0.here hx rfl (hb hby at_25) rfl k) ?_
  refine Go.by (g' := (mkF m 29 #[.val (.long p1), .second, .val (.long p2), .second, .val (.long p3), .second, .val (.int p4), .val (.int p5), .val (.int ((p4 &&& (7 : Int32)) % (5 : Int32))), .val (.int ((us p4 (3 : Int32)) &&& (3 : Int32))), .val (.int ((us p4 (5 : Int32)) &&& (3 : Int32))), .unset, .unset, .unset, .unset, .unset, .unset, .unset, .unset, .unset, .unset, .unset, .unset] [(.int (7 : Int32)), (.int p4)])) (fun _ k => XS.bipush X0.here hx rfl (hb hby at_27) k) ?_
  refine Go.by (g' := (mkF m 30 #[.val (.long p1), .second, .val (.long p2), .second, .val (.long p3), .second, .val (.int p4), .val (.int p5), .val (.int ((p4 &&& (7 : Int32)) % (5 : Int32))), .val (.int ((us p4 (3 : Int32)) &&& (3 : Int32))), .val (.int ((us p4 (5 : Int32)) &&& (3 : Int32))), .unset, .unset, .unset, .unset, .unset, .unset, .unset, .unset, .unset, .unset, .unset, .unset] [(.int (us p4 (7 : Int32)))])) (fun _ k => XS.iushr X0.here hx rfl (hb hby at_29) rfl k) ?_
  refine Go.by (g' := (mkF m 31 #[.val (.long p1), .second, .val (.long p2), .second, .val (.long p3), .second, .val (.int p4), .val (.int p5), .val (.int ((p4 &&& (7 : Int32)) % (5 : Int32))), .val (.int ((us p4 (3 : Int32)) &&& (3 : Int32))), .val (.int ((us p4 (5 : Int32)) &&& (3 : Int32))), .unset, .unset, .unset, .unset, .unset, .unset, .unset, .unset, .unset, .unset, .unset, .unset] [(.int (3 : Int32)), (.int (us p4 (7 : Int32)))])) (fun _ k => XS.iconst X0.here hx rfl (hb hby at_30) k) ?_
  refine Go.by (g' := (mkF m 32 #[.val (.long p1), .second, .val (.long p2), .second, .val (.long p3), .second, .val (.int p4), .val (.int p5), .val (.int ((p4 &&& (7 : Int32)) % (5 : Int32))), .val (.int ((us p4 (3 : Int32)) &&& (3 : Int32))), .val (.int ((us p4 (5 : Int32)) &&& (3 : Int32))), .unset, .unset, .unset, .unset, .unset, .unset, .unset, .unset, .unset, .unset, .unset, .unset] [(.int ((us p4 (7 : Int32)) &&& (3 : Int32)))])) (fun _ k => XS.iand X0.here hx rfl (hb hby at_31) rfl k) ?_
  refine Go.by (g' := (mkF m 34 #[.val (.long p1), .second, .val (.long p2), .second, .val (.long p3), .second, .val (.int p4), .val (.int p5), .val (.int ((p4 &&& (7 : Int32)) % (5 : Int32))), .val (.int ((us p4 (3 : Int32)) &&& (3 : Int32))), .val (.int ((us p4 (5 : Int32)) &&& (3 : Int32))), .val (.int ((us p4 (7 : Int32)) &&& (3 : Int32))), .unset, .unset, .unset, .unset, .unset, .unset, .unset, .unset, .unset, .unset, .unset] [])) (fun _ k => XS.istore X0.here hx rfl (hb hby at_32) rfl (l' := #[.val (.long p1), .second, .val (.long p2), .second, .val (.long p3), .second, .val (.int p4), .val (.int p5), .val (.int ((p4 &&& (7 : Int32)) % (5 : Int32))), .val (.int ((us p4 (3 : Int32)) &&& (3 : Int32))), .val (.int ((us p4 (5 : Int32)) &&& (3 : Int32))), .val (.int ((us p4 (7 : Int32)) &&& (3 : Int32))), .unset, .unset, .unset, .unset, .unset, .unset, .unset, .unset, .unset, .unset, .unset]) rfl k) ?_
  have a1 := c_and p4 7 (by decide)
  have a2 := (c_irem (p4 &&& 7) 5 5 (by decide)).1 a1.1
  have a3 := c_and (us p4 3) 3 (by decide)
  have a4 := c_and (us p4 5) 3 (by decide)
  have a5 := c_and (us p4 7) 3 (by decide)
  have c3 : (3 : Int32).toInt = 3 := by decide
  rw [c3] at a3 a4 a5
  exact k34 _ _ _ _ ((p4 &&& 7) % 5).toInt.toNat (us p4 3 &&& 3).toInt.toNat (us p4 5 &&& 3).toInt.toNat (us p4 7 &&& 3).toInt.toNat (by omega) (by omega) (by omega) (by omega) (by omega) (by omega) (by omega)
set_option maxRecDepth 65536 in
set_option maxHeartbeats 40000000 in
theorem comes_1 {Post : Tables → Env → Array Value → State → Outcome → State → Prop} (hpost : ∀ tb e args s v u, (limb_1_1.after args s (.returned v) u = true ∧ limb_1_2.after args s (.returned v) u = true ∧ True) → FrameEnd s (.returned v) u (Jvm.fieldLocs frame_1_writes args s ++ Jvm.arrayLocs frame_1_arrays args s ++ Jvm.staticLocs frame_1_statics s) 16 128 → Post tb e args s (.returned v) u) :
    ArmFor flags0 classFile x code maxLocals ret World_1 tables_1 room_1 Calls_1 rest_1 Pre_1 Post := by
  intro l hfl _ _ p e ha hc hk s m args below hf hA hF happ hP
  obtain ⟨hcalls, hrest, hpre⟩ := hP
  obtain ⟨-, -, -, hnamed, -, -, -, hat⟩ := (Spec.applies_iff hf).mp happ
  obtain ⟨hg, hn⟩ := and_e (Cond.before_iff.mp (show (Jvm.Cond.and given_1 narrow_1).before args s = true from hpre))
  obtain ⟨h1, q0⟩ := and_e hg
  obtain ⟨p0, q1⟩ := and_e q0
  obtain ⟨p1, q2⟩ := and_e q1
  obtain ⟨p2, q3⟩ := and_e q2
  obtain ⟨p3, q4⟩ := and_e q3
  obtain ⟨w0, w1, w2, w3, w4, rfl⟩ : ∃ w0 w1 w2 w3 w4 : Value, args = #[w0, w1, w2, w3, w4] := by
    have hs : args.size = 5 := by simpa [Cond.value, given_1] using h1
    obtain ⟨L⟩ := args
    match L, hs with
    | [w0, w1, w2, w3, w4], _ => exact ⟨w0, w1, w2, w3, w4, rfl⟩
  have hw := fun d (hd : d ∈ tables_1) => atoms_spec (ws := Jvm.Cond.code x code maxLocals ret :: tables_1) hat d (List.mem_cons_of_mem _ hd)
  have hfit : Fit s := fun {y c} hc i hi => by
    obtain ⟨ha, rfl⟩ := Array.getElem?_eq_some_iff.mp hc
    have q := List.all_eq_true.mp ((Array.all_eq_true_iff_forall_mem.mp hF) _ (Array.getElem_mem ha)) i (List.mem_range.mpr hi)
    simpa [Array.getElem?_eq_getElem hi] using q
  obtain ⟨i0, ee0⟩ := isL_v p0
  obtain rfl : w0 = (.long i0) := Option.some.inj ee0
  obtain ⟨i1, ee1⟩ := isL_v p1
  obtain rfl : w1 = (.long i1) := Option.some.inj ee1
  obtain ⟨i2, ee2⟩ := isL_v p2
  obtain rfl : w2 = (.long i2) := Option.some.inj ee2
  obtain ⟨i3, ee3⟩ := is_v p3
  obtain rfl : w3 = (.int i3) := Option.some.inj ee3
  obtain ⟨i4, ee4⟩ := is_v q4
  obtain rfl : w4 = (.int i4) := Option.some.inj ee4
  obtain ⟨n, o, h1, h2, h3, _, L, rfl, ⟨rfl, N⟩, hq⟩ := rm0 l s _ hw i0 i1 i2 i3 i4 s.heap s.heap.size (Nat.le_refl _) tables_1 p e ha hc hk s m _ below hf ((Spec.applies_iff_loose hf).mp happ).1 ⟨rfl, State.Warmed39.refl s, rfl⟩ trivial
  refine ⟨n, _, h1, h2, h3, hpost _ _ _ _ _ _ ⟨Cond.after_iff.mpr rfl, Cond.after_iff.mpr (eq_i res_at (Term.int_eval (1)) rfl), trivial⟩ ⟨hq.1, hq.2.1, (hq.2.2.sift fun y hy => Or.inr (N y hy)).mono (by decide) (by decide)⟩⟩
theorem main_1_1 : Claimed_1_1 := comes_1 fun _ _ _ _ _ _ h hF => ⟨h.1, hF⟩
theorem main_1_2 : Claimed_1_2 := comes_1 fun _ _ _ _ _ _ h hF => ⟨h.2.1, hF⟩
end Jvm.Pilot.@@N@@
namespace Jvm.Pilot.@@N@@
open Jvm Jvm.ClassFile Sem Op Lib Jvm.Free Jvm.Stand Jvm.Pilot.@@N@@.Jvm.D
/-! MADE BY PROGRAM (witnessworld.py) out of the Statement's table words and the real class files: 9 classes; the members and pool entries that the words name. The judged class is class 1, her method 3. -/
namespace start1
open Jvm.ClassFile
def u (s : String) : CpInfo := .utf8 (stringToUtf16 s)
/-- a pool by its gaps: so many unusable entries, then the entry; so many at the end -/
def gap : Nat → List CpInfo → List CpInfo
  | 0, r => r
  | n + 1, r => .unusable :: gap n r
def poolList (es : List (Nat × CpInfo)) (last : Nat) : List CpInfo := es.foldr (fun e r => gap e.1 (e.2 :: r)) (gap last [])
def pool (es : List (Nat × CpInfo)) (last : Nat) : Array CpInfo := ⟨poolList es last⟩
def fileOf (pool : Array CpInfo) (this : Nat) (attrs : Array Attribute := #[]) (ms : Array MethodInfo := #[]) (fl : Nat := 33) (sup : Nat := 0) (ifs : Array Nat := #[]) (fds : Array FieldInfo := #[]) : ClassFile where
  minorVersion := 0
  majorVersion := 65
  constantPool := pool
  accessFlags := fl
  thisClass := this
  superClass := sup
  interfaces := ifs
  fields := fds
  methods := ms
  attributes := attrs
def plain (name : String) (sup : Option ClassId) : Class where
  name := name
  kind := .ordinary
  loader := none
  accessFlags := 33
  super := sup
  interfaces := #[]
  cf := none
  fields := #[]
  methods := #[]
  instanceTypes := #[]
  staticTypes := #[]
  resolved := #[]
  callSites := []
  init := .initialized
  statics := none
  mirror := none

def pool0 : Array CpInfo := pool [(5, u "<init>"), (0, u "()V"), (1, .class_ 10), (1, u "java/lang/Object")] 113

def k0m0 : Method := { name := "<init>", desc := "()V", sig := { parameters := [], returnType := none }, accessFlags := 1, code := none }
/-- java/lang/Object -/
def k0 : Class := { plain "java/lang/Object" none with
  accessFlags := 33
  interfaces := #[]
  cf := some (fileOf pool0 8 #[] #[{ accessFlags := 1, nameIndex := 5, descriptorIndex := 6, attributes := #[] }] 33 0 #[] #[])
  fields := #[]
  methods := #[k0m0]
  instanceTypes := #[]
  staticTypes := #[]
  resolved := Array.replicate 124 none
  statics := none }

def pool1 : Array CpInfo := pool [(2, .class_ 4), (1, u "java/lang/Object"), (0, u "<init>"), (0, u "()V"), (0, .methodref 8 9), (0, .class_ 10), (0, .nameAndType 11 12), (0, u "com/example/grenoble/grenoble/check/StateStoreHashPinLaw"), (0, u "fill"), (0, u "(J)[B"), (0, .methodref 8 14), (0, .nameAndType 15 16), (0, u "place"), (0, u "([BIJI)V"), (0, .methodref 18 19), (0, .class_ 20), (0, .nameAndType 21 22), (0, u "com/example/grenoble/grenoble/check/StateStore"), (0, u "hash"), (0, u "([BII)J"), (3, u "law"), (0, u "(JJJII)Z")] 4

def k1m0 : Method := { name := "<init>", desc := "()V", sig := { parameters := [], returnType := none }, accessFlags := 1, code := none }
def k1c1 : Code := { maxStack := 5, maxLocals := 3, code := method_2_code, exceptionTable := #[], attributes := #[] }
def k1m1 : Method := { name := "fill", desc := "(J)[B", sig := { parameters := [.long], returnType := some (.array .byte) }, accessFlags := 10, code := some k1c1 }
def k1c2 : Code := { maxStack := 5, maxLocals := 5, code := method_3_code, exceptionTable := #[], attributes := #[] }
def k1m2 : Method := { name := "place", desc := "([BIJI)V", sig := { parameters := [(.array .byte), .int, .long, .int], returnType := none }, accessFlags := 10, code := some k1c2 }
def k1c3 : Code := { maxStack := 5, maxLocals := 23, code := code, exceptionTable := #[], attributes := #[] }
def k1m3 : Method := { name := "law", desc := "(JJJII)Z", sig := { parameters := [.long, .long, .long, .int, .int], returnType := some .boolean }, accessFlags := 9, code := some k1c3 }
/-- com/example/grenoble/grenoble/check/StateStoreHashPinLaw -/
def k1 : Class := { plain "com/example/grenoble/grenoble/check/StateStoreHashPinLaw" (some 0) with
  accessFlags := 49
  interfaces := #[]
  cf := some (fileOf pool1 8 #[] #[{ accessFlags := 1, nameIndex := 5, descriptorIndex := 6, attributes := #[] }, { accessFlags := 10, nameIndex := 11, descriptorIndex := 12, attributes := #[] }, { accessFlags := 10, nameIndex := 15, descriptorIndex := 16, attributes := #[] }, { accessFlags := 9, nameIndex := 26, descriptorIndex := 27, attributes := #[] }] 49 2 #[] #[])
  fields := #[]
  methods := #[k1m0, k1m1, k1m2, k1m3]
  instanceTypes := #[]
  staticTypes := #[]
  resolved := Array.replicate 32 none
  statics := none }

def pool2 : Array CpInfo := pool [(1, .class_ 2), (0, u "com/example/grenoble/grenoble/check/StateStore"), (1, .class_ 6), (1, u "java/lang/Object"), (7, u "pages"), (0, u "Ljava/util/List;"), (2, u "index"), (0, u "[J"), (2, u "table"), (2, u "growAt"), (0, u "I"), (2, u "stateParts"), (0, u "Lcom/example/grenoble/grenoble/check/StateParts;"), (4, u "parts"), (1, .class_ 38), (0, u "com/example/grenoble/grenoble/check/StateStore$Parts"), (2, u "[Lcom/example/grenoble/grenoble/check/StateStore$Parts;"), (3, u "mostRecordBytes"), (9, u "pageSize"), (16, u "hash"), (0, u "([BII)J"), (14, u "size"), (27, u "end"), (0, u "J"), (45, .long 14695981039346656037), (1, .long 1099511628211), (1, .long 18397679294719823053), (1, u "PAGE"), (1, u "NUMBER_BYTES"), (1, u "MOST_PART_BYTES"), (1, u "INDEX_SHIFT"), (1, u "POSITION_BITS"), (1, u "POSITION_MASK"), (0, u "FIRST_SLOTS"), (1, u "MOST_SLOTS")] 22

def k2c0 : Code := { maxStack := 5, maxLocals := 6, code := prog_19_method_15_code, exceptionTable := #[], attributes := #[] }
def k2m0 : Method := { name := "hash", desc := "([BII)J", sig := { parameters := [(.array .byte), .int, .int], returnType := some .long }, accessFlags := 8, code := some k2c0 }
/-- com/example/grenoble/grenoble/check/StateStore -/
def k2 : Class := { plain "com/example/grenoble/grenoble/check/StateStore" (some 0) with
  accessFlags := 48
  interfaces := #[]
  cf := some (fileOf pool2 1 #[.nestMembers #[37]] #[{ accessFlags := 8, nameIndex := 72, descriptorIndex := 73, attributes := #[] }] 48 4 #[] #[{ accessFlags := 26, nameIndex := 169, descriptorIndex := 26, attributes := #[] }, { accessFlags := 26, nameIndex := 171, descriptorIndex := 26, attributes := #[] }, { accessFlags := 26, nameIndex := 173, descriptorIndex := 26, attributes := #[] }, { accessFlags := 26, nameIndex := 175, descriptorIndex := 26, attributes := #[] }, { accessFlags := 24, nameIndex := 177, descriptorIndex := 26, attributes := #[] }, { accessFlags := 26, nameIndex := 179, descriptorIndex := 117, attributes := #[] }, { accessFlags := 24, nameIndex := 180, descriptorIndex := 26, attributes := #[] }, { accessFlags := 26, nameIndex := 182, descriptorIndex := 26, attributes := #[] }, { accessFlags := 18, nameIndex := 29, descriptorIndex := 30, attributes := #[] }, { accessFlags := 18, nameIndex := 35, descriptorIndex := 41, attributes := #[] }, { accessFlags := 18, nameIndex := 45, descriptorIndex := 26, attributes := #[] }, { accessFlags := 18, nameIndex := 55, descriptorIndex := 26, attributes := #[] }, { accessFlags := 18, nameIndex := 14, descriptorIndex := 15, attributes := #[] }, { accessFlags := 2, nameIndex := 116, descriptorIndex := 117, attributes := #[] }, { accessFlags := 2, nameIndex := 18, descriptorIndex := 19, attributes := #[] }, { accessFlags := 2, nameIndex := 88, descriptorIndex := 26, attributes := #[] }, { accessFlags := 2, nameIndex := 22, descriptorIndex := 19, attributes := #[] }, { accessFlags := 2, nameIndex := 25, descriptorIndex := 26, attributes := #[] }])
  fields := #[{ name := "PAGE", type := .int, accessFlags := 26, slot := 0, constantValue := 0 }, { name := "NUMBER_BYTES", type := .int, accessFlags := 26, slot := 1, constantValue := 0 }, { name := "MOST_PART_BYTES", type := .int, accessFlags := 26, slot := 2, constantValue := 0 }, { name := "INDEX_SHIFT", type := .int, accessFlags := 26, slot := 3, constantValue := 0 }, { name := "POSITION_BITS", type := .int, accessFlags := 24, slot := 4, constantValue := 0 }, { name := "POSITION_MASK", type := .long, accessFlags := 26, slot := 5, constantValue := 0 }, { name := "FIRST_SLOTS", type := .int, accessFlags := 24, slot := 6, constantValue := 0 }, { name := "MOST_SLOTS", type := .int, accessFlags := 26, slot := 7, constantValue := 0 }, { name := "stateParts", type := (.object "com/example/grenoble/grenoble/check/StateParts"), accessFlags := 18, slot := 0, constantValue := 0 }, { name := "parts", type := (.array (.object "com/example/grenoble/grenoble/check/StateStore$Parts")), accessFlags := 18, slot := 1, constantValue := 0 }, { name := "mostRecordBytes", type := .int, accessFlags := 18, slot := 2, constantValue := 0 }, { name := "pageSize", type := .int, accessFlags := 18, slot := 3, constantValue := 0 }, { name := "pages", type := (.object "java/util/List"), accessFlags := 18, slot := 4, constantValue := 0 }, { name := "end", type := .long, accessFlags := 2, slot := 5, constantValue := 0 }, { name := "index", type := (.array .long), accessFlags := 2, slot := 6, constantValue := 0 }, { name := "size", type := .int, accessFlags := 2, slot := 7, constantValue := 0 }, { name := "table", type := (.array .long), accessFlags := 2, slot := 8, constantValue := 0 }, { name := "growAt", type := .int, accessFlags := 2, slot := 9, constantValue := 0 }]
  methods := #[k2m0]
  instanceTypes := #[(.object "com/example/grenoble/grenoble/check/StateParts"), (.array (.object "com/example/grenoble/grenoble/check/StateStore$Parts")), .int, .int, (.object "java/util/List"), .long, (.array .long), .int, (.array .long), .int]
  staticTypes := #[.int, .int, .int, .int, .int, .long, .int, .int]
  resolved := Array.replicate 205 none
  statics := none }

def pool3 : Array CpInfo := pool [(1, u "java/lang/Cloneable"), (0, .class_ 1), (0, u "java/lang/Object"), (0, .class_ 3)] 3

/-- java/lang/Cloneable -/
def k3 : Class := { plain "java/lang/Cloneable" (some 0) with
  accessFlags := 1537
  interfaces := #[]
  cf := some (fileOf pool3 2 #[] #[] 1537 4 #[] #[])
  fields := #[]
  methods := #[]
  instanceTypes := #[]
  staticTypes := #[]
  resolved := Array.replicate 8 none
  statics := none }

def pool4 : Array CpInfo := pool [(1, u "java/io/Serializable"), (0, .class_ 1), (0, u "java/lang/Object"), (0, .class_ 3)] 3

/-- java/io/Serializable -/
def k4 : Class := { plain "java/io/Serializable" (some 0) with
  accessFlags := 1537
  interfaces := #[]
  cf := some (fileOf pool4 2 #[] #[] 1537 4 #[] #[])
  fields := #[]
  methods := #[]
  instanceTypes := #[]
  staticTypes := #[]
  resolved := Array.replicate 8 none
  statics := none }

/-- the primitive byte -/
def k5 : Class := { plain "byte" none with kind := .primitive 'B', accessFlags := 0x411 }
/-- [B -/
def k6 : Class := { plain "[B" (some 0) with kind := .array 5 .byte, interfaces := #[3, 4], accessFlags := 1041 }

/-- the primitive int -/
def k7 : Class := { plain "int" none with kind := .primitive 'I', accessFlags := 0x411 }
/-- [I -/
def k8 : Class := { plain "[I" (some 0) with kind := .array 7 .int, interfaces := #[3, 4], accessFlags := 1041 }

def heap : Heap := #[]
def classes : Array Class := #[k0, k1, k2, k3, k4, k5, k6, k7, k8]
def interned : List (Array UInt16 × Addr) := []
def slotsUsed : Nat := 0
def theMethod : MethodId := ⟨1, 3⟩
def args0 : Array Value := #[.long 5, .long 6, .long 7, .int 8, .int 9]
def aboutOver (below : List Frame) : State where
  vm := { classes := classes, interned := interned.toArray }
  heap := heap
  slotsUsed := slotsUsed
  threads := #[{ frames := .invoking theMethod args0 :: below }]
def below0 : List Frame := [.native { method := ⟨0, 0⟩, args := #[] }]
def about1 : State := aboutOver below0
def p0 : Program := .bare "" "" ""
def e0 : Env := launch0.env 0 0 0
theorem w_frames : about1.frames = Frame.invoking theMethod args0 :: below0 := rfl
set_option maxRecDepth 65536 in
theorem w_args : argsFit about1.vm theMethod args0 = true := by decide +kernel
set_option maxRecDepth 65536 in
theorem w_heap : heapFits about1 = true := by decide +kernel
set_option maxRecDepth 65536 in
theorem w_runnable : about1.curStatus? = some .runnable := by decide +kernel
set_option maxRecDepth 65536 in
theorem w_alone : about1.alone = true := by decide +kernel
set_option maxRecDepth 65536 in
theorem w_named : about1.methodNamed? x = some theMethod := by decide +kernel
set_option maxRecDepth 65536 in
theorem w_hears : about1.hears theMethod below0 = true := by decide +kernel
set_option maxRecDepth 65536 in
theorem w_ripe : about1.ripe theMethod args0 below0 = true := by decide +kernel
theorem w_running : about1.status = .running := rfl
set_option maxRecDepth 65536 in
theorem w_room : about1.hasRoom e0.platform room_1 = true :=
  launch0.hasRoom_least _ room_1 (by decide +kernel) (by decide +kernel) (by decide +kernel) (by decide +kernel) (by decide +kernel) (by decide +kernel)
theorem allAtoms_all (ts : List Jvm.Cond) (a : Array Jvm.Value) (st : Jvm.State) : (allAtoms ts).before a st = ts.all (fun c => c.before a st) := by
  induction ts with
  | nil => rfl
  | cons c t ih =>
    show (Jvm.Cond.and c (allAtoms t)).before a st = _
    rw [Jvm.Cond.before_and, ih, List.all_cons]
def words1 : List Jvm.Cond := Jvm.Cond.code x code maxLocals ret :: tables_1
/-- a 'code' word, met by the world's own term for the bytes: nothing is compared byte by byte -/
theorem code_word {y : MethodName} {bytes : ByteArray} {mx : Nat} {rt : Option FieldType} {a : Array Value} {s : State} {m : MethodId} {meth : Method} {c : Code} (h1 : s.methodNamed? y = some m) (h2 : s.vm.method? m = some meth) (h3 : meth.code = some c) (h4 : c.code = bytes)
    (h5 : (c.maxLocals == mx && c.exceptionTable.isEmpty && decide (c.maxStack ≤ mostOperands) && decide (meth.sig.returnType = rt) && !meth.locks && decide (parseMethodDescriptor y.desc = some meth.sig)) = true) : (Jvm.Cond.code y bytes mx rt).before a s = true := by
  simp only [Bool.and_eq_true, beq_iff_eq, Bool.not_eq_true', decide_eq_true_eq] at h5
  obtain ⟨⟨⟨⟨⟨g1, g2⟩, g3⟩, g4⟩, g5⟩, g6⟩ := h5
  simp [Cond.before, Cond.holds, Cond.value, h1, h2, h3, h4, g1, g2, g3, g4, g5, g6]
def isCode : Jvm.Cond → Bool
  | .code _ _ _ _ => true
  | _ => false
theorem all_split {L : List Jvm.Cond} {P : Jvm.Cond → Bool} (h1 : L.all (fun c => isCode c || P c) = true) (h2 : ∀ c ∈ L.filter isCode, P c = true) : L.all P = true := by
  refine List.all_eq_true.mpr fun c hc => ?_
  have h := List.all_eq_true.mp h1 c hc
  rcases Bool.eq_false_or_eq_true (isCode c) with hi | hi
  · exact h2 c (List.mem_filter.mpr ⟨hc, hi⟩)
  · simpa [hi] using h
set_option maxRecDepth 65536 in
theorem w_c0 : (Jvm.Cond.code x code maxLocals ret).before args0 about1 = true := code_word (m := ⟨1, 3⟩) (meth := k1m3) (c := k1c3) (by decide +kernel) rfl rfl rfl (by decide +kernel)
set_option maxRecDepth 65536 in
theorem w_c1 : (Jvm.Cond.code ({ cls := "com/example/grenoble/grenoble/check/StateStoreHashPinLaw", name := "fill", desc := "(J)[B" } : Jvm.MethodName) method_2_code (3 : Nat) (Option.some (Jvm.ClassFile.FieldType.array Jvm.ClassFile.FieldType.byte))).before args0 about1 = true := code_word (m := ⟨1, 1⟩) (meth := k1m1) (c := k1c1) (by decide +kernel) rfl rfl rfl (by decide +kernel)
set_option maxRecDepth 65536 in
theorem w_c2 : (Jvm.Cond.code ({ cls := "com/example/grenoble/grenoble/check/StateStoreHashPinLaw", name := "place", desc := "([BIJI)V" } : Jvm.MethodName) method_3_code (5 : Nat) (Option.none : Option Jvm.ClassFile.FieldType)).before args0 about1 = true := code_word (m := ⟨1, 2⟩) (meth := k1m2) (c := k1c2) (by decide +kernel) rfl rfl rfl (by decide +kernel)
set_option maxRecDepth 65536 in
theorem w_c3 : (Jvm.Cond.code ({ cls := "com/example/grenoble/grenoble/check/StateStore", name := "hash", desc := "([BII)J" } : Jvm.MethodName) prog_19_method_15_code (6 : Nat) (Option.some Jvm.ClassFile.FieldType.long)).before args0 about1 = true := code_word (m := ⟨2, 0⟩) (meth := k2m0) (c := k2c0) (by decide +kernel) rfl rfl rfl (by decide +kernel)
def codes1 : List Jvm.Cond := [Jvm.Cond.code x code maxLocals ret, Jvm.Cond.code ({ cls := "com/example/grenoble/grenoble/check/StateStoreHashPinLaw", name := "fill", desc := "(J)[B" } : Jvm.MethodName) method_2_code (3 : Nat) (Option.some (Jvm.ClassFile.FieldType.array Jvm.ClassFile.FieldType.byte)), Jvm.Cond.code ({ cls := "com/example/grenoble/grenoble/check/StateStoreHashPinLaw", name := "place", desc := "([BIJI)V" } : Jvm.MethodName) method_3_code (5 : Nat) (Option.none : Option Jvm.ClassFile.FieldType), Jvm.Cond.code ({ cls := "com/example/grenoble/grenoble/check/StateStore", name := "hash", desc := "([BII)J" } : Jvm.MethodName) prog_19_method_15_code (6 : Nat) (Option.some Jvm.ClassFile.FieldType.long)]
set_option maxRecDepth 65536 in
theorem codes_eq : words1.filter isCode = codes1 := rfl
theorem w_codes : ∀ c ∈ words1.filter isCode, c.before args0 about1 = true := by
  rw [codes_eq]
  intro c hc
  simp only [codes1, List.mem_cons, List.not_mem_nil, or_false] at hc
  rcases hc with rfl | rfl | rfl | rfl
  · exact w_c0
  · exact w_c1
  · exact w_c2
  · exact w_c3
set_option maxRecDepth 65536 in
theorem w_t1 : words1.all (fun c => isCode c || c.before args0 about1) = true := by decide +kernel
theorem w_tables : (allAtoms (Jvm.Cond.code x code maxLocals ret :: tables_1)).before args0 about1 = true := by
  rw [allAtoms_all]
  show words1.all (fun c => c.before args0 about1) = true
  refine all_split ?_ w_codes
  rw [w_t1]
set_option maxRecDepth 65536 in
theorem w_case : (Jvm.Cond.and given_1 narrow_1).before args0 about1 = true := by decide +kernel
theorem w_applies : (headSpec (Jvm.Cond.code x code maxLocals ret :: tables_1) room_1).applies x e0.platform about1 = true :=
  (Spec.applies_iff w_frames).mpr ⟨w_running, w_runnable, w_alone, w_named, w_hears, w_ripe, w_room, w_tables⟩
theorem atStart : AtStart classFile x code maxLocals ret World_1 tables_1 room_1 Calls_1 rest_1 Pre_1 launch0 p0 e0 about1 theMethod args0 below0 :=
  ⟨lists_1, trivial, launch0.admits_env _ _ _, launch0.least_env, fairChoices_fair.cas, fairChoices_fair.clock, w_frames, w_args, w_heap, w_applies, trivial, trivial, w_case⟩
end start1
theorem witness_1 : WitnessClaimed_1 := ⟨start1.p0, start1.e0, start1.about1, start1.theMethod, start1.args0, start1.below0, start1.atStart⟩
end Jvm.Pilot.@@N@@
