import JvmDerived
import JvmDerived.Pilot.@@N@@Statement
import JvmDerived.Pilot.@@N@@Code
set_option linter.unusedVariables false
set_option linter.unusedSimpArgs false
namespace Jvm.OwnGo
open Sem ClassFile Op Lib Jvm.Stand Jvm.Free Jvm.LawKit Jvm.RoadKit
/-- from the state T with the frame g on top the run comes to the body's end, what is left there meets Q, and the end is framed as E says -/
def Go (p : Program) (e : Env) (below : List Frame) (E : Outcome → State → List Loc → Prop) (Q : Option Value → Heap → List Loc → Prop) (T : State) (g : JFrame) : Prop :=
  ∃ s₂ o, Steps p.tables e below (T.setTop g) s₂ ∧ s₂.status = .running ∧ Ended s₂ below o ∧ ∃ v L, o = .returned v ∧ Q v s₂.heap L ∧ E o s₂ L
abbrev En (s : State) (kc ks : Nat) : Outcome → State → List Loc → Prop := fun o t L => FrameEnd s o t L kc ks
/-- the wide end: the run may have interned its literals -/
abbrev EnW (s : State) (kc ks : Nat) : Outcome → State → List Loc → Prop := fun o t L => ReturnedEndW s o t L kc ks
/-- what a body promises, at one heap and one row of arguments -/
def Ctr (l : Launch) (Z : State) (y : MethodName) (bytes : ByteArray) (maxL : Nat) (ret : Option FieldType) (rm : Room) (as : Array Value) (h : Heap) (Q : Option Value → Heap → List Loc → Prop) : Prop :=
  ∀ ws : List Jvm.Cond, MetFree l y (head1 (Jvm.Cond.code y bytes maxL ret :: ws) rm) (fun a U => a = as ∧ Z.Warmed39 U.vm ∧ U.heap = h) (fun _ _ _ _ _ => True) (fun _ U o U' => ∃ v L, o = .returned v ∧ Q v U'.heap L ∧ FrameEnd U o U' L rm.cells rm.slots)
/-- the same of a body that may intern its literals -/
def CtrW (l : Launch) (Z : State) (y : MethodName) (bytes : ByteArray) (maxL : Nat) (ret : Option FieldType) (rm : Room) (as : Array Value) (h : Heap) (Q : Option Value → Heap → List Loc → Prop) : Prop :=
  ∀ ws : List Jvm.Cond, MetFree l y (head1 (Jvm.Cond.code y bytes maxL ret :: ws) rm) (fun a U => a = as ∧ Z.Warmed39 U.vm ∧ U.heap = h) (fun _ _ _ _ _ => True) (fun _ U o U' => ∃ v L, o = .returned v ∧ Q v U'.heap L ∧ ReturnedEndW U o U' L rm.cells rm.slots)
/-- how a walk that stands here may leave -/
def Lv (e : Env) (m : MethodId) (meth : Method) (below : List Frame) (E : Outcome → State → List Loc → Prop) (T : State) (locs : List Loc) : Prop :=
  ∀ v : Option Value, (meth.sig.returnType = none → v = none) → ∃ fs, (∀ (f : JFrame) (acts : List Action), f.method = m → f.locked = none → f.entered = [] → (doReturn e (T.setTop f) acts v).1 = T.setFrames fs) ∧ (T.setFrames fs).status = .running ∧ Ended (T.setFrames fs) below (.returned v) ∧ E (.returned v) (T.setFrames fs) locs
abbrev us (x y : Int32) : Int32 := (x.toUInt32 >>> (y &&& 31).toUInt32).toInt32
abbrev usL (x : Int64) (y : Int32) : Int64 := (x.toUInt64 >>> (y &&& 0x3f).toInt64.toUInt64).toInt64
section G
variable {p : Program} {l : Launch} {e : Env} {R : Room} {s : State} {m : MethodId} {args : Array Value} {below : List Frame} {meth : Method} {c : Code} {T T' : State} {locs : List Loc} {cells slots : Nat} {E : Outcome → State → List Loc → Prop} {Q : Option Value → Heap → List Loc → Prop} {kc ks : Nat} {g g' : JFrame} {Z : State} {a0 : Array Value} {h : Heap}
/-- another state that stands as this one does -/
abbrev Same (X : Stand p l e R s m args below meth c T locs cells slots) (T' : State) : Prop := Stand p l e R s m args below meth c T' locs cells slots
theorem Go.by (st : ∀ t, Steps p.tables e below (T'.setTop g') t → Steps p.tables e below (T.setTop g) t) (k : Go p e below E Q T' g') : Go p e below E Q T g := by
  obtain ⟨s₂, o, h1, h2⟩ := k
  exact ⟨s₂, o, st _ h1, h2⟩
theorem Lv.narrow (X : Stand p l e R s m args below meth c T locs cells slots) (hlk : meth.locks = false) (hc : cells ≤ kc) (hs : slots ≤ ks) : Lv e m meth below (En s kc ks) T locs := by
  intro v hv
  obtain ⟨fs, hr, hrun, hended, hW, hsame⟩ := X.leave (v := v) hv hlk
  exact ⟨fs, hr, hrun, hended, ⟨_, rfl⟩, hW, hsame.mono hc hs⟩
theorem Lv.wide {vm0 : Vm} {k0 : Nat} (X : Stand p l e R (s.setVm vm0) m args below meth c T locs cells slots) (hlk : meth.locks = false) (hS : s.Since vm0 k0) (hk : k0 ≤ T.heap.size) (hc : cells ≤ kc) (hs : slots ≤ ks) : Lv e m meth below (EnW s kc ks) T locs := by
  intro v hv
  obtain ⟨fs, hr, hrun, hended, h1, h2, h3, hsame⟩ := X.leaveW hS hk (v := v) hv hlk
  exact ⟨fs, hr, hrun, hended, h1, h2, h3, hsame.mono hc hs⟩
theorem Go.out (lv : Lv e m meth below E T locs) {v : Option Value} (hv : meth.sig.returnType = none → v = none) (hQ : Q v T.heap locs)
    (st : ∀ fs, (∀ (f : JFrame) (acts : List Action), f.method = m → f.locked = none → f.entered = [] → (doReturn e (T.setTop f) acts v).1 = T.setFrames fs) → Steps p.tables e below (T.setTop g) (T.setFrames fs)) : Go p e below E Q T g := by
  obtain ⟨fs, hr, hrun, hended, hE⟩ := lv v hv
  exact ⟨_, _, st fs hr, hrun, hended, v, locs, rfl, hQ, hE⟩
theorem Go.outV (X : Stand p l e R s m args below meth c T locs cells slots) (hx : p.tables.exec = Jvm.exec) {t : FieldType} {w : Value} {i : Instr} {pc : Nat} {Ls : Array Slot} {rest : List Value} (hret : meth.sig.returnType = some t) (lv : Lv e m meth below E T locs)
    (hn : narrow t w = w)
    (hi : (i = .ireturn ∧ (t = .int ∨ t = .boolean ∨ t = .byte ∨ t = .char ∨ t = .short) ∧ ∃ z, w = .int z) ∨ (i = .lreturn ∧ t = .long ∧ ∃ z, w = .long z) ∨ (i = .dreturn ∧ t = .double ∧ ∃ z, w = .double z) ∨ (i = .freturn ∧ t = .float ∧ ∃ z, w = .float z) ∨ (i = .areturn ∧ t.isReference = true ∧ w.isRef = true))
    (hd : decode c.code pc = .ok (i, 1)) (hQ : Q (some w) T.heap locs) : Go p e below E Q T (mkF m pc Ls (w :: rest)) :=
  Go.out lv (fun h => by rw [hret] at h; cases h) hQ (fun fs hr => retOut X hx hret hn hi hd hr)
theorem Go.outI (X : Stand p l e R s m args below meth c T locs cells slots) (hx : p.tables.exec = Jvm.exec) {z : Int32} {pc : Nat} {Ls : Array Slot} {rest : List Value} (hret : meth.sig.returnType = some .int) (lv : Lv e m meth below E T locs)
    (hd : decode c.code pc = .ok (.ireturn, 1)) (hQ : Q (some (.int z)) T.heap locs) : Go p e below E Q T (mkF m pc Ls (.int z :: rest)) :=
  Go.outV X hx hret lv rfl (Or.inl ⟨rfl, Or.inl rfl, z, rfl⟩) hd hQ
theorem Go.outZ (X : Stand p l e R s m args below meth c T locs cells slots) (hx : p.tables.exec = Jvm.exec) {z : Int32} {pc : Nat} {Ls : Array Slot} {rest : List Value} (hret : meth.sig.returnType = some .boolean) (lv : Lv e m meth below E T locs)
    (hd : decode c.code pc = .ok (.ireturn, 1)) (hz : z = 0 ∨ z = 1) (hQ : Q (some (.int z)) T.heap locs) : Go p e below E Q T (mkF m pc Ls (.int z :: rest)) :=
  Go.outV X hx hret lv (by rcases hz with rfl | rfl <;> rfl) (Or.inl ⟨rfl, Or.inr (Or.inl rfl), z, rfl⟩) hd hQ
theorem Go.outJ (X : Stand p l e R s m args below meth c T locs cells slots) (hx : p.tables.exec = Jvm.exec) {z : Int64} {pc : Nat} {Ls : Array Slot} {rest : List Value} (hret : meth.sig.returnType = some .long) (lv : Lv e m meth below E T locs)
    (hd : decode c.code pc = .ok (.lreturn, 1)) (hQ : Q (some (.long z)) T.heap locs) : Go p e below E Q T (mkF m pc Ls (.long z :: rest)) :=
  Go.outV X hx hret lv rfl (Or.inr (Or.inl ⟨rfl, rfl, z, rfl⟩)) hd hQ
theorem nar_ref {t : FieldType} {w : Value} (ht : t.isReference = true) : narrow t w = w := by cases t <;> first | rfl | (simp [FieldType.isReference] at ht)
theorem Go.outA (X : Stand p l e R s m args below meth c T locs cells slots) (hx : p.tables.exec = Jvm.exec) {w : Value} {t : FieldType} {pc : Nat} {Ls : Array Slot} {rest : List Value} (hret : meth.sig.returnType = some t) (lv : Lv e m meth below E T locs) (ht : t.isReference = true) (hw : w.isRef = true)
    (hd : decode c.code pc = .ok (.areturn, 1)) (hQ : Q (some w) T.heap locs) : Go p e below E Q T (mkF m pc Ls (w :: rest)) :=
  Go.outV X hx hret lv (nar_ref ht) (Or.inr (Or.inr (Or.inr (Or.inr ⟨rfl, ht, hw⟩)))) hd hQ
theorem Go.outN (X : Stand p l e R s m args below meth c T locs cells slots) (hx : p.tables.exec = Jvm.exec) {pc : Nat} {Ls : Array Slot} (hret : meth.sig.returnType = none) (lv : Lv e m meth below E T locs)
    (hd : decode c.code pc = .ok (.return_, 1)) (hQ : Q none T.heap locs) : Go p e below E Q T (mkF m pc Ls []) :=
  Go.out lv (fun _ => rfl) hQ (fun fs hr => X.returnOut hx hret hd hr)
theorem Ctr.of {y : MethodName} {bytes : ByteArray} {maxL : Nat} {ret : Option FieldType} {rm : Room} {as : Array Value} {Ls : Array Slot} (hpn : plainFor y = true) (hef : ∀ m, entryFrame m as maxL = mkF m 0 Ls [])
    (body : ∀ (p : Program) (e : Env) (s : State) (m : MethodId) (below : List Frame) (meth : Method) (c : Code) (T0 : State), p.tables.exec = Jvm.exec → c.code = bytes → c.maxLocals = maxL → meth.sig.returnType = ret → meth.locks = false → meth.name = y.name → Z.Warmed39 s.vm → s.vm.findClass y.cls = some m.cls → T0.heap = h → Stand p l e rm s m as below meth c T0 [] 0 0 → Go p e below (En s rm.cells rm.slots) Q T0 (mkF m 0 Ls [])) :
    Ctr l Z y bytes maxL ret rm as h Q := by
  intro ws
  refine MetFree.of_bodySF hpn hisR ?_
  intro p e s m args below meth c s₁ Bd hml0 hP hK
  obtain ⟨ha, hZ, hh⟩ := hP
  subst ha
  have X0 : Stand p l e rm s m args below meth c s₁ [] 0 0 := Stand.of_body Bd
  obtain ⟨s₂, o, h1, h2⟩ := body p e s m below meth c s₁ Bd.exec Bd.bytes hml0 Bd.returns (BodyLoose.notSynchronized Bd) (name_of_methodNamed Bd.named Bd.method).1 hZ (findClass_of_methodNamed Bd.named) (by rw [← hh, Bd.state]; rfl) X0
  exact ⟨s₂, o, castTop (hef m) h1, h2⟩
theorem CtrW.of {y : MethodName} {bytes : ByteArray} {maxL : Nat} {ret : Option FieldType} {rm : Room} {as : Array Value} {Ls : Array Slot} (hpn : plainFor y = true) (hef : ∀ m, entryFrame m as maxL = mkF m 0 Ls [])
    (body : ∀ (p : Program) (e : Env) (s : State) (vm0 : Vm) (m : MethodId) (below : List Frame) (meth : Method) (c : Code) (T0 : State), p.tables.exec = Jvm.exec → c.code = bytes → c.maxLocals = maxL → meth.sig.returnType = ret → meth.locks = false → meth.name = y.name → s.Since vm0 0 → Z.Warmed39 (s.setVm vm0).vm → (s.setVm vm0).vm.findClass y.cls = some m.cls → T0.heap = h → Stand p l e rm (s.setVm vm0) m as below meth c T0 [] 0 0 → Go p e below (EnW s rm.cells rm.slots) Q T0 (mkF m 0 Ls [])) :
    CtrW l Z y bytes maxL ret rm as h Q := by
  intro ws
  refine MetFree.of_bodySF hpn hisR ?_
  intro p e s m args below meth c s₁ Bd hml0 hP hK
  obtain ⟨ha, hZ, hh⟩ := hP
  subst ha
  have X0 : Stand p l e rm s m args below meth c s₁ [] 0 0 := Stand.of_body Bd
  obtain ⟨s₂, o, h1, h2⟩ := body p e s s.vm m below meth c s₁ Bd.exec Bd.bytes hml0 Bd.returns (BodyLoose.notSynchronized Bd) (name_of_methodNamed Bd.named Bd.method).1 (State.WarmedH.since (State.WarmedH.refl s) 0) hZ (findClass_of_methodNamed Bd.named) (by rw [← hh, Bd.state]; rfl) X0
  exact ⟨s₂, o, castTop (hef m) h1, h2⟩
/-- a contract may promise less -/
theorem Ctr.weaken {y : MethodName} {bytes : ByteArray} {maxL : Nat} {ret : Option FieldType} {rm : Room} {as : Array Value} {Q' : Option Value → Heap → List Loc → Prop} (K : Ctr l Z y bytes maxL ret rm as h Q) (q : ∀ v h' L, Q v h' L → Q' v h' L) : Ctr l Z y bytes maxL ret rm as h Q' := by
  intro ws p e ha hc hk s m args below hf happ hP hK
  obtain ⟨n, o, h1, h2, h3, v, L, h4, h5, h6⟩ := K ws p e ha hc hk s m args below hf happ hP hK
  exact ⟨n, o, h1, h2, h3, v, L, h4, q _ _ _ h5, h6⟩
theorem Go.ldc {vm0 : Vm} {k0 : Nat} (X : Stand p l e R (s.setVm vm0) m args below meth c T locs cells slots) (hx : p.tables.exec = Jvm.exec) (hZ : Z.Warmed39 (s.setVm vm0).vm) {own text : String} {index : Nat} (hown : (s.setVm vm0).vm.findClass own = some m.cls) (w : (Cond.stringLink own index text).before a0 Z = true) (wS : ∀ a ∈ Bundle.stringAtoms, a.before a0 Z = true)
    (eT : T.heap = h) (hS : s.Since vm0 k0) (hk : k0 ≤ h.size) {g : JFrame} (hg : g.method = m) (hd : decode c.code g.pc = .ok (.ldc index, 2)) {n : Nat} (hn : 4 * text.toList.length ≤ n) (hbig : n ≤ 536870912) (hc : cells + 2 ≤ R.cells) (hl : slots + (n + 4) ≤ R.slots)
    (k : ∀ (a : Addr) (T' : State) (h' : Heap) (k1 : Nat), Stand p l e R (s.setVm T'.vm) m args below meth c T' locs (cells + 2) (slots + (n + 4)) → T'.heap = h' → Ext h h' → s.Since T'.vm k1 → k1 ≤ h'.size → Z.Warmed39 (s.setVm T'.vm).vm → (s.setVm T'.vm).vm.findClass own = some m.cls → Go p e below E Q T' { g with pc := g.pc + 2, stack := .ref a :: g.stack }) : Go p e below E Q T g := by
  obtain ⟨a, T', h', k1, X', e', E', hS', hk', hZ', hown', st⟩ := ldcS X hx hZ hown w wS eT hS hk hg hd hn hbig hc hl
  exact Go.by st (k a T' h' k1 X' e' E' hS' hk' hZ' hown')
theorem Go.callS (X : Stand p l e R s m args below meth c T locs cells slots) (hx : p.tables.exec = Jvm.exec) (hZ : Z.Warmed39 s.vm) {own : String} {index : Nat} {y : MethodName} {bytes : ByteArray} {maxL : Nat} {ret : Option FieldType}
    (hown : s.vm.findClass own = some m.cls) (w1 : (Cond.methodLink own index y).before a0 Z = true) (w2 : (Cond.static y).before a0 Z = true) (w3 : (Cond.initialized y.cls).before a0 Z = true)
    (w4 : (Cond.code y bytes maxL ret).before a0 Z = true) (hy : y.cls ≠ "java/lang/invoke/MethodHandle" ∧ y.cls ≠ "java/lang/invoke/VarHandle")
    {W : Nat} {rm : Room} {argsL rest : List Value} {Qc : Option Value → Heap → List Loc → Prop} (hM : Ctr l Z y bytes maxL ret rm argsL.toArray h Qc) (hf : rm.frames + 1 ≤ R.frames) (hl : W + (maxL + 11) + rm.locals ≤ R.locals) (hc : cells + rm.cells ≤ R.cells) (hs : slots + rm.slots ≤ R.slots)
    {g : JFrame} (hg : g.method = m) (hsize : g.locals.size = c.maxLocals) (hlen : ∀ sig, parseMethodDescriptor y.desc = some sig → argsL.length = sig.parameters.length)
    (hstack : g.stack = argsL.reverse ++ rest) (hW : 2 * g.monitorRoom + (rest.map fun v => v.category).sum ≤ W) (hdg : decode c.code g.pc = .ok (.invokestatic index, 3)) (eT : T.heap = h)
    (k : ∀ T' L v, Stand p l e R s m args below meth c T' (locs ++ L) (cells + rm.cells) (slots + rm.slots) → Qc v T'.heap L → Go p e below E Q T' { g with pc := g.pc + 3, stack := v.toList ++ rest }) : Go p e below E Q T g := by
  obtain ⟨v, _, ⟨T3, L3, k3, n3⟩, -, X3, ⟨Lc3, hQ3, l3, y3, z3⟩, st3⟩ := Jvm.LawKit.callS X hx (y := y) hown (mvT hZ w1) (mvT hZ w2) (mvT hZ w3) (mvT hZ w4) hy (backOf (W := W) (hM []) hZ w4 w3 hf hl) (g := g) hg hsize (argsL := argsL) (rest := rest) hlen hstack hW hdg (fun _ _ => ⟨rfl, eT, hc, hs⟩)
  dsimp only [Pt.U, Pt.locs, Pt.cells, Pt.slots] at X3 l3 y3 z3 st3 hQ3
  subst l3 y3 z3
  exact Go.by st3 (k _ _ _ X3 hQ3)
theorem Go.callI (X : Stand p l e R s m args below meth c T locs cells slots) (hx : p.tables.exec = Jvm.exec) (hZ : Z.Warmed39 s.vm) {own : String} {index : Nat} {y : MethodName} {bytes : ByteArray} {maxL : Nat} (hy1 : y.name = "<init>")
    (hown : s.vm.findClass own = some m.cls) (w1 : (Cond.methodLink own index y).before a0 Z = true) (w2 : (Cond.instanceMethod y).before a0 Z = true) (w3 : (Cond.initialized y.cls).before a0 Z = true)
    (w4 : (Cond.code y bytes maxL none).before a0 Z = true) (hy : y.cls ≠ "java/lang/invoke/MethodHandle" ∧ y.cls ≠ "java/lang/invoke/VarHandle")
    {W : Nat} {rm : Room} {a : Addr} {argsL rest : List Value} {Qc : Option Value → Heap → List Loc → Prop} (hM : Ctr l Z y bytes maxL none rm (.ref a :: argsL).toArray h Qc) (hf : rm.frames + 1 ≤ R.frames) (hl : W + (maxL + 11) + rm.locals ≤ R.locals) (hc : cells + rm.cells ≤ R.cells) (hs : slots + rm.slots ≤ R.slots)
    {g : JFrame} (hg : g.method = m) (hsize : g.locals.size = c.maxLocals) (hlen : ∀ sig, parseMethodDescriptor y.desc = some sig → argsL.length = sig.parameters.length)
    (hstack : g.stack = argsL.reverse ++ .ref a :: rest) (hW : 2 * g.monitorRoom + (rest.map fun v => v.category).sum ≤ W) (hdg : decode c.code g.pc = .ok (.invokespecial index, 3)) (eT : T.heap = h)
    (k : ∀ T' L v, Stand p l e R s m args below meth c T' (locs ++ L) (cells + rm.cells) (slots + rm.slots) → Qc v T'.heap L → Go p e below E Q T' { g with pc := g.pc + 3, stack := v.toList ++ rest }) : Go p e below E Q T g := by
  obtain ⟨v, _, ⟨T3, L3, k3, n3⟩, -, X3, ⟨Lc3, hQ3, l3, y3, z3⟩, st3⟩ := X.specialBack hx (y := y) hy1 hown (mvT hZ w1) (mvT hZ w2) (mvT hZ w4) hy (backOf (W := W) (hM []) hZ w4 w3 hf hl) (g := g) hg hsize (Steps.refl _) (a := a) (argsL := argsL) (rest := rest) hlen hstack hW hdg (fun _ _ => ⟨rfl, eT, hc, hs⟩)
  dsimp only [Pt.U, Pt.locs, Pt.cells, Pt.slots] at X3 l3 y3 z3 st3 hQ3
  subst l3 y3 z3
  exact Go.by (fun _ q => st3.trans q) (k _ _ _ X3 hQ3)
/-- invokevirtual, the class that declares the method is a class (hnf) -/
theorem Go.callV (X : Stand p l e R s m args below meth c T locs cells slots) (hx : p.tables.exec = Jvm.exec) (hZ : Z.Warmed39 s.vm) {own C : String} {index : Nat} {y z : MethodName} {bytes : ByteArray} {maxL : Nat} {ret : Option FieldType}
    (hown : s.vm.findClass own = some m.cls) (w1 : (Cond.methodLink own index y).before a0 Z = true) (w2 : (Cond.declares y).before a0 Z = true) (hnf : NotFace s y) (w5 : (Cond.selects C y z).before a0 Z = true) (w6 : (Cond.instanceMethod z).before a0 Z = true) (w3 : (Cond.initialized z.cls).before a0 Z = true)
    (w4 : (Cond.code z bytes maxL ret).before a0 Z = true) (hy : y.cls ≠ "java/lang/invoke/MethodHandle" ∧ y.cls ≠ "java/lang/invoke/VarHandle")
    {W : Nat} {rm : Room} {a : Addr} {argsL rest : List Value} {Qc : Option Value → Heap → List Loc → Prop} (Ex : Exa Z h a C) (hM : Ctr l Z z bytes maxL ret rm (.ref a :: argsL).toArray h Qc) (hf : rm.frames + 1 ≤ R.frames) (hl : W + (maxL + 11) + rm.locals ≤ R.locals) (hc : cells + rm.cells ≤ R.cells) (hs : slots + rm.slots ≤ R.slots)
    {g : JFrame} (hg : g.method = m) (hsize : g.locals.size = c.maxLocals) (hlen : ∀ sig, parseMethodDescriptor y.desc = some sig → argsL.length = sig.parameters.length)
    (hstack : g.stack = argsL.reverse ++ .ref a :: rest) (hW : 2 * g.monitorRoom + (rest.map fun v => v.category).sum ≤ W) (hdg : decode c.code g.pc = .ok (.invokevirtual index, 3)) (eT : T.heap = h)
    (k : ∀ T' L v, Stand p l e R s m args below meth c T' (locs ++ L) (cells + rm.cells) (slots + rm.slots) → Qc v T'.heap L → Go p e below E Q T' { g with pc := g.pc + 3, stack := v.toList ++ rest }) : Go p e below E Q T g := by
  obtain ⟨cq, kq, qa, qb, qc⟩ := isOf hZ eT Ex
  obtain ⟨v, _, ⟨T3, L3, k3, n3⟩, -, X3, ⟨Lc3, hQ3, l3, y3, z3⟩, st3⟩ := X.virtualBack hx (y := y) (z := z) hown (mvT hZ w1) (mvT hZ w2) hnf (mvT hZ w5) (mvT hZ w6) hy (backOf (W := W) (hM []) hZ w4 w3 hf hl) qa qc (g := g) hg hsize (Steps.refl _) (argsL := argsL) (rest := rest) hlen hstack hW hdg (fun _ _ => ⟨rfl, eT, hc, hs⟩)
  dsimp only [Pt.U, Pt.locs, Pt.cells, Pt.slots] at X3 l3 y3 z3 st3 hQ3
  subst l3 y3 z3
  exact Go.by (fun _ q => st3.trans q) (k _ _ _ X3 hQ3)
/-- a private method, by invokevirtual -/
theorem Go.callP (X : Stand p l e R s m args below meth c T locs cells slots) (hx : p.tables.exec = Jvm.exec) (hZ : Z.Warmed39 s.vm) {own C : String} {index : Nat} {y : MethodName} {bytes : ByteArray} {maxL : Nat} {ret : Option FieldType}
    (hown : s.vm.findClass own = some m.cls) (w1 : (Cond.methodLink own index y).before a0 Z = true) (w2 : (Cond.instanceMethod y).before a0 Z = true) (w5 : (Cond.selects y.cls y y).before a0 Z = true) (w6 : (Cond.privateMethod y).before a0 Z = true) (w3 : (Cond.initialized y.cls).before a0 Z = true)
    (w4 : (Cond.code y bytes maxL ret).before a0 Z = true) (hy : y.cls ≠ "java/lang/invoke/MethodHandle" ∧ y.cls ≠ "java/lang/invoke/VarHandle")
    {W : Nat} {rm : Room} {a : Addr} {argsL rest : List Value} {Qc : Option Value → Heap → List Loc → Prop} (Ex : Exa Z h a C) (hM : Ctr l Z y bytes maxL ret rm (.ref a :: argsL).toArray h Qc) (hf : rm.frames + 1 ≤ R.frames) (hl : W + (maxL + 11) + rm.locals ≤ R.locals) (hc : cells + rm.cells ≤ R.cells) (hs : slots + rm.slots ≤ R.slots)
    {g : JFrame} (hg : g.method = m) (hsize : g.locals.size = c.maxLocals) (hlen : ∀ sig, parseMethodDescriptor y.desc = some sig → argsL.length = sig.parameters.length)
    (hstack : g.stack = argsL.reverse ++ .ref a :: rest) (hW : 2 * g.monitorRoom + (rest.map fun v => v.category).sum ≤ W) (hdg : decode c.code g.pc = .ok (.invokevirtual index, 3)) (eT : T.heap = h)
    (k : ∀ T' L v, Stand p l e R s m args below meth c T' (locs ++ L) (cells + rm.cells) (slots + rm.slots) → Qc v T'.heap L → Go p e below E Q T' { g with pc := g.pc + 3, stack := v.toList ++ rest }) : Go p e below E Q T g := by
  obtain ⟨cq, q1, q2⟩ := Ex.cell
  obtain ⟨v, _, ⟨T3, L3, k3, n3⟩, -, X3, ⟨Lc3, hQ3, l3, y3, z3⟩, st3⟩ := X.privateBack hx (y := y) hown (mvT hZ w1) (mvT hZ w2) (mvT hZ w5) (Cond.privateMethod_at (mvP hZ w6 (args := #[]))) (mvT hZ w4) hy (backOf (W := W) (hM []) hZ w4 w3 hf hl) (g := g) hg hsize (Steps.refl _) (a := a) (by rw [eT]; exact q1) q2 (argsL := argsL) (rest := rest) hlen hstack hW hdg (fun _ _ => ⟨rfl, eT, hc, hs⟩)
  dsimp only [Pt.U, Pt.locs, Pt.cells, Pt.slots] at X3 l3 y3 z3 st3 hQ3
  subst l3 y3 z3
  exact Go.by (fun _ q => st3.trans q) (k _ _ _ X3 hQ3)
/-- invokeinterface -/
theorem Go.callF (X : Stand p l e R s m args below meth c T locs cells slots) (hx : p.tables.exec = Jvm.exec) (hZ : Z.Warmed39 s.vm) {own C : String} {index count : Nat} {y z : MethodName} {bytes : ByteArray} {maxL : Nat} {ret : Option FieldType}
    (hown : s.vm.findClass own = some m.cls) (w1 : (Cond.methodLink own index y).before a0 Z = true) (w2 : (Cond.declares y).before a0 Z = true) (w7 : (Cond.interfaceMethod y.cls y.cls y.name y.desc).before args s = true) (w5 : (Cond.selects C y z).before a0 Z = true) (w6 : (Cond.instanceMethod z).before a0 Z = true) (w8 : (Cond.publicMethod z).before a0 Z = true) (w9 : (Cond.unhidden C y.name y.desc).before a0 Z = true) (w10 : (Cond.castable C y.cls).before a0 Z = true) (w3 : (Cond.initialized z.cls).before a0 Z = true)
    (w4 : (Cond.code z bytes maxL ret).before a0 Z = true) (hy : y.cls ≠ "java/lang/invoke/MethodHandle" ∧ y.cls ≠ "java/lang/invoke/VarHandle")
    {W : Nat} {rm : Room} {a : Addr} {argsL rest : List Value} {Qc : Option Value → Heap → List Loc → Prop} (Ex : Exa Z h a C) (hM : Ctr l Z z bytes maxL ret rm (.ref a :: argsL).toArray h Qc) (hf : rm.frames + 1 ≤ R.frames) (hl : W + (maxL + 11) + rm.locals ≤ R.locals) (hc : cells + rm.cells ≤ R.cells) (hs : slots + rm.slots ≤ R.slots)
    {g : JFrame} (hg : g.method = m) (hsize : g.locals.size = c.maxLocals) (hlen : ∀ sig, parseMethodDescriptor y.desc = some sig → argsL.length = sig.parameters.length)
    (hstack : g.stack = argsL.reverse ++ .ref a :: rest) (hW : 2 * g.monitorRoom + (rest.map fun v => v.category).sum ≤ W) (hdg : decode c.code g.pc = .ok (.invokeinterface index count, 5)) (eT : T.heap = h)
    (k : ∀ T' L v, Stand p l e R s m args below meth c T' (locs ++ L) (cells + rm.cells) (slots + rm.slots) → Qc v T'.heap L → Go p e below E Q T' { g with pc := g.pc + 5, stack := v.toList ++ rest }) : Go p e below E Q T g := by
  obtain ⟨cq, kq, qa, qb, qc⟩ := isOf hZ eT Ex
  obtain ⟨v, _, ⟨T3, L3, k3, n3⟩, -, X3, ⟨Lc3, hQ3, l3, y3, z3⟩, st3⟩ := X.interfaceBack hx (xi := y) (y := z) hown (mvT hZ w1) (mvT hZ w2) w7 (mvT hZ w5) (mvT hZ w6) (mvT hZ w8) (mvT hZ w9) (mvT hZ w10) hy (backOf (W := W) (hM []) hZ w4 w3 hf hl) qa qb qc (g := g) hg hsize (Steps.refl _) (argsL := argsL) (rest := rest) hlen hstack hW hdg (fun _ _ => ⟨rfl, eT, hc, hs⟩)
  dsimp only [Pt.U, Pt.locs, Pt.cells, Pt.slots] at X3 l3 y3 z3 st3 hQ3
  subst l3 y3 z3
  exact Go.by (fun _ q => st3.trans q) (k _ _ _ X3 hQ3)
/-- a callee that may intern: invokevirtual -/
theorem Go.callVW {vm0 : Vm} {k0 : Nat} (X : Stand p l e R (s.setVm vm0) m args below meth c T locs cells slots) (hx : p.tables.exec = Jvm.exec) (hS : s.Since vm0 k0) (hk : k0 ≤ h.size) (hZ : Z.Warmed39 (s.setVm vm0).vm) {own C : String} {index : Nat} {y z : MethodName} {bytes : ByteArray} {maxL : Nat} {ret : Option FieldType}
    (hown : (s.setVm vm0).vm.findClass own = some m.cls) (w1 : (Cond.methodLink own index y).before a0 Z = true) (w2 : (Cond.declares y).before a0 Z = true) (hnf : NotFace (s.setVm vm0) y) (w5 : (Cond.selects C y z).before a0 Z = true) (w6 : (Cond.instanceMethod z).before a0 Z = true) (w3 : (Cond.initialized z.cls).before a0 Z = true)
    (w4 : (Cond.code z bytes maxL ret).before a0 Z = true) (hy : y.cls ≠ "java/lang/invoke/MethodHandle" ∧ y.cls ≠ "java/lang/invoke/VarHandle")
    {W : Nat} {rm : Room} {a : Addr} {argsL rest : List Value} {Qc : Option Value → Heap → List Loc → Prop} (Ex : Exa Z h a C) (hM : CtrW l Z z bytes maxL ret rm (.ref a :: argsL).toArray h Qc) (hf : rm.frames + 1 ≤ R.frames) (hl : W + (maxL + 11) + rm.locals ≤ R.locals) (hc : cells + rm.cells ≤ R.cells) (hs : slots + rm.slots ≤ R.slots)
    {g : JFrame} (hg : g.method = m) (hsize : g.locals.size = c.maxLocals) (hlen : ∀ sig, parseMethodDescriptor y.desc = some sig → argsL.length = sig.parameters.length)
    (hstack : g.stack = argsL.reverse ++ .ref a :: rest) (hW : 2 * g.monitorRoom + (rest.map fun v => v.category).sum ≤ W) (hdg : decode c.code g.pc = .ok (.invokevirtual index, 3)) (eT : T.heap = h)
    (k : ∀ T' L v, Stand p l e R (s.setVm T'.vm) m args below meth c T' (locs ++ L) (cells + rm.cells) (slots + rm.slots) → s.Since T'.vm T'.heap.size → Z.Warmed39 (s.setVm T'.vm).vm → (s.setVm T'.vm).vm.findClass own = some m.cls → Qc v T'.heap L → Go p e below E Q T' { g with pc := g.pc + 3, stack := v.toList ++ rest }) : Go p e below E Q T g := by
  obtain ⟨cq, kq, qa, qb, qc⟩ := isOf hZ eT Ex
  obtain ⟨v, _, ⟨T3, L3, k3, n3⟩, -, X3, hS3, hgr, ⟨Lc3, hQ3, l3, y3, z3⟩, st3⟩ := X.virtualBackS hx (y := y) (z := z) hown (mvT hZ w1) (mvT hZ w2) hnf (mvT hZ w5) (mvT hZ w6) hy (backOfS (W := W) (hM []) hZ w4 w3 hf hl) qa qc (g := g) hg hsize (Steps.refl _) (argsL := argsL) (rest := rest) hlen hstack hW hdg (fun _ _ => ⟨rfl, eT, hc, hs⟩)
  dsimp only [Pt.U, Pt.locs, Pt.cells, Pt.slots] at X3 l3 y3 z3 st3 hQ3 hS3 hgr
  subst l3 y3 z3
  obtain ⟨X4, hS4, hZ4, hown4⟩ := rebS hS (by rw [eT]; exact hk) X3 hS3 hgr hZ hown
  exact Go.by (fun _ q => st3.trans q) (k _ _ _ X4 hS4 hZ4 hown4 hQ3)
/-- a callee that may intern: a constructor -/
theorem Go.callIW {vm0 : Vm} {k0 : Nat} (X : Stand p l e R (s.setVm vm0) m args below meth c T locs cells slots) (hx : p.tables.exec = Jvm.exec) (hS : s.Since vm0 k0) (hk : k0 ≤ h.size) (hZ : Z.Warmed39 (s.setVm vm0).vm) {own : String} {index : Nat} {y : MethodName} {bytes : ByteArray} {maxL : Nat} (hy1 : y.name = "<init>")
    (hown : (s.setVm vm0).vm.findClass own = some m.cls) (w1 : (Cond.methodLink own index y).before a0 Z = true) (w2 : (Cond.instanceMethod y).before a0 Z = true) (w3 : (Cond.initialized y.cls).before a0 Z = true)
    (w4 : (Cond.code y bytes maxL none).before a0 Z = true) (hy : y.cls ≠ "java/lang/invoke/MethodHandle" ∧ y.cls ≠ "java/lang/invoke/VarHandle")
    {W : Nat} {rm : Room} {a : Addr} {argsL rest : List Value} {Qc : Option Value → Heap → List Loc → Prop} (hM : CtrW l Z y bytes maxL none rm (.ref a :: argsL).toArray h Qc) (hf : rm.frames + 1 ≤ R.frames) (hl : W + (maxL + 11) + rm.locals ≤ R.locals) (hc : cells + rm.cells ≤ R.cells) (hs : slots + rm.slots ≤ R.slots)
    {g : JFrame} (hg : g.method = m) (hsize : g.locals.size = c.maxLocals) (hlen : ∀ sig, parseMethodDescriptor y.desc = some sig → argsL.length = sig.parameters.length)
    (hstack : g.stack = argsL.reverse ++ .ref a :: rest) (hW : 2 * g.monitorRoom + (rest.map fun v => v.category).sum ≤ W) (hdg : decode c.code g.pc = .ok (.invokespecial index, 3)) (eT : T.heap = h)
    (k : ∀ T' L v, Stand p l e R (s.setVm T'.vm) m args below meth c T' (locs ++ L) (cells + rm.cells) (slots + rm.slots) → s.Since T'.vm T'.heap.size → Z.Warmed39 (s.setVm T'.vm).vm → (s.setVm T'.vm).vm.findClass own = some m.cls → Qc v T'.heap L → Go p e below E Q T' { g with pc := g.pc + 3, stack := v.toList ++ rest }) : Go p e below E Q T g := by
  obtain ⟨v, _, ⟨T3, L3, k3, n3⟩, -, X3, hS3, hgr, ⟨Lc3, hQ3, l3, y3, z3⟩, st3⟩ := X.specialBackS hx (y := y) hy1 hown (mvT hZ w1) (mvT hZ w2) (mvT hZ w4) hy (backOfS (W := W) (hM []) hZ w4 w3 hf hl) (g := g) hg hsize (Steps.refl _) (a := a) (argsL := argsL) (rest := rest) hlen hstack hW hdg (fun _ _ => ⟨rfl, eT, hc, hs⟩)
  dsimp only [Pt.U, Pt.locs, Pt.cells, Pt.slots] at X3 l3 y3 z3 st3 hQ3 hS3 hgr
  subst l3 y3 z3
  obtain ⟨X4, hS4, hZ4, hown4⟩ := rebS hS (by rw [eT]; exact hk) X3 hS3 hgr hZ hown
  exact Go.by (fun _ q => st3.trans q) (k _ _ _ X4 hS4 hZ4 hown4 hQ3)
/-- a callee that may intern: a static method -/
theorem Go.callSW {vm0 : Vm} {k0 : Nat} (X : Stand p l e R (s.setVm vm0) m args below meth c T locs cells slots) (hx : p.tables.exec = Jvm.exec) (hS : s.Since vm0 k0) (hk : k0 ≤ h.size) (hZ : Z.Warmed39 (s.setVm vm0).vm) {own : String} {index : Nat} {y : MethodName} {bytes : ByteArray} {maxL : Nat} {ret : Option FieldType}
    (hown : (s.setVm vm0).vm.findClass own = some m.cls) (w1 : (Cond.methodLink own index y).before a0 Z = true) (w2 : (Cond.static y).before a0 Z = true) (w3 : (Cond.initialized y.cls).before a0 Z = true)
    (w4 : (Cond.code y bytes maxL ret).before a0 Z = true) (hy : y.cls ≠ "java/lang/invoke/MethodHandle" ∧ y.cls ≠ "java/lang/invoke/VarHandle")
    {W : Nat} {rm : Room} {argsL rest : List Value} {Qc : Option Value → Heap → List Loc → Prop} (hM : CtrW l Z y bytes maxL ret rm argsL.toArray h Qc) (hf : rm.frames + 1 ≤ R.frames) (hl : W + (maxL + 11) + rm.locals ≤ R.locals) (hc : cells + rm.cells ≤ R.cells) (hs : slots + rm.slots ≤ R.slots)
    {g : JFrame} (hg : g.method = m) (hsize : g.locals.size = c.maxLocals) (hlen : ∀ sig, parseMethodDescriptor y.desc = some sig → argsL.length = sig.parameters.length)
    (hstack : g.stack = argsL.reverse ++ rest) (hW : 2 * g.monitorRoom + (rest.map fun v => v.category).sum ≤ W) (hdg : decode c.code g.pc = .ok (.invokestatic index, 3)) (eT : T.heap = h)
    (k : ∀ T' L v, Stand p l e R (s.setVm T'.vm) m args below meth c T' (locs ++ L) (cells + rm.cells) (slots + rm.slots) → s.Since T'.vm T'.heap.size → Z.Warmed39 (s.setVm T'.vm).vm → (s.setVm T'.vm).vm.findClass own = some m.cls → Qc v T'.heap L → Go p e below E Q T' { g with pc := g.pc + 3, stack := v.toList ++ rest }) : Go p e below E Q T g := by
  obtain ⟨v, _, ⟨T3, L3, k3, n3⟩, -, X3, hS3, hgr, ⟨Lc3, hQ3, l3, y3, z3⟩, st3⟩ := Jvm.RoadKit.callSS X hx (y := y) hown (mvT hZ w1) (mvT hZ w2) (mvT hZ w3) (mvT hZ w4) hy (backOfS (W := W) (hM []) hZ w4 w3 hf hl) (g := g) hg hsize (argsL := argsL) (rest := rest) hlen hstack hW hdg (fun _ _ => ⟨rfl, eT, hc, hs⟩)
  dsimp only [Pt.U, Pt.locs, Pt.cells, Pt.slots] at X3 l3 y3 z3 st3 hQ3 hS3 hgr
  subst l3 y3 z3
  obtain ⟨X4, hS4, hZ4, hown4⟩ := rebS hS (by rw [eT]; exact hk) X3 hS3 hgr hZ hown
  exact Go.by (fun _ q => st3.trans q) (k _ _ _ X4 hS4 hZ4 hown4 hQ3)
end G
section A
variable {p : Program} {l : Launch} {e : Env} {R : Room} {s : State} {m : MethodId} {args : Array Value} {below : List Frame} {meth : Method} {c : Code} {T : State} {locs : List Loc} {cells slots : Nat} {Z : State} {h : Heap} {a : Addr} {k : ClassId} {n : Int32} {vs : List Value} {d : Value}
theorem stIA (X : Stand p l e R s m args below meth c T locs cells slots) (hx : p.tables.exec = Jvm.exec) (hZ : Z.Warmed39 s.vm) (eT : T.heap = h) (V : Arv Z h a k .int n vs d) {j x : Int32} (i : Nat) (hj : j.toNatClampNeg = i) (hj0 : ¬ j < 0) (hjn : j < n) (hi : i < vs.length) {g : JFrame} (hg : g.method = m) {rest : List Value} (hs : g.stack = .int x :: .int j :: .ref a :: rest) (hd : decode c.code g.pc = .ok (.iastore, 1)) :
    ∃ T' h', Stand p l e R s m args below meth c T' (locs ++ [⟨a, j.toNatClampNeg⟩]) cells slots ∧ T'.heap = h' ∧ Wr h h' a j.toNatClampNeg (.int x) ∧ Arv Z h' a k .int n (vs.set i (.int x)) d ∧ ∀ target, Steps p.tables e below (T'.setTop { g with pc := g.pc + 1, stack := rest }) target → Steps p.tables e below (T.setTop g) target := by
  obtain ⟨cl, Ar, q, S, M, H, U⟩ := V
  obtain ⟨T', h', X', e', W', st'⟩ := stI X hx hZ eT Ar (j := j) (inb_of S ⟨hj0, hjn⟩) hg hs hd
  exact ⟨T', h', X', e', W', Arv.set Ar q S M H U rfl W' i hj hi, st'⟩
theorem stBA (X : Stand p l e R s m args below meth c T locs cells slots) (hx : p.tables.exec = Jvm.exec) (hZ : Z.Warmed39 s.vm) (eT : T.heap = h) (V : Arv Z h a k .byte n vs d) {j x : Int32} (i : Nat) (hj : j.toNatClampNeg = i) (hj0 : ¬ j < 0) (hjn : j < n) (hi : i < vs.length) {g : JFrame} (hg : g.method = m) {rest : List Value} (hs : g.stack = .int x :: .int j :: .ref a :: rest) (hd : decode c.code g.pc = .ok (.bastore, 1)) :
    ∃ T' h', Stand p l e R s m args below meth c T' (locs ++ [⟨a, j.toNatClampNeg⟩]) cells slots ∧ T'.heap = h' ∧ Wr h h' a j.toNatClampNeg (.int x.toInt8.toInt32) ∧ Arv Z h' a k .byte n (vs.set i (.int x.toInt8.toInt32)) d ∧ ∀ target, Steps p.tables e below (T'.setTop { g with pc := g.pc + 1, stack := rest }) target → Steps p.tables e below (T.setTop g) target := by
  obtain ⟨cl, Ar, q, S, M, H, U⟩ := V
  obtain ⟨T', h', X', e', W', st'⟩ := stB X hx hZ eT Ar (j := j) (inb_of S ⟨hj0, hjn⟩) hg hs hd
  exact ⟨T', h', X', e', W', Arv.set Ar q S M H U (fits_nar_byte x) W' i hj hi, st'⟩
theorem ldIA (X : Stand p l e R s m args below meth c T locs cells slots) (hx : p.tables.exec = Jvm.exec) (hZ : Z.Warmed39 s.vm) (eT : T.heap = h) (V : Arv Z h a k .int n vs d) {j : Int32} {v : Value} (hj0 : ¬ j < 0) (hjn : j < n) (hv : vs.getD j.toNatClampNeg d = v) {g : JFrame} (hg : g.method = m) {rest : List Value} (hs : g.stack = .int j :: .ref a :: rest) (hd : decode c.code g.pc = .ok (.iaload, 1)) :
    ∀ target, Steps p.tables e below (T.setTop { g with pc := g.pc + 1, stack := v :: rest }) target → Steps p.tables e below (T.setTop g) target := by
  obtain ⟨cl, Ar, q, S, M, H, U⟩ := V
  have hin := inb_of S ⟨hj0, hjn⟩
  intro target kt
  exact X.iaload hx (j := j) (v := v) (by rw [eT]; exact Ar.1) (State.isArrayOf_alike hZ.alike Ar.2.1) Ar.2.2 hin (H.at hin hv) hg hs hd _ kt
theorem ldBA (X : Stand p l e R s m args below meth c T locs cells slots) (hx : p.tables.exec = Jvm.exec) (hZ : Z.Warmed39 s.vm) (eT : T.heap = h) (V : Arv Z h a k .byte n vs d) {j : Int32} {v : Value} (hj0 : ¬ j < 0) (hjn : j < n) (hv : vs.getD j.toNatClampNeg d = v) {g : JFrame} (hg : g.method = m) {rest : List Value} (hs : g.stack = .int j :: .ref a :: rest) (hd : decode c.code g.pc = .ok (.baload, 1)) :
    ∀ target, Steps p.tables e below (T.setTop { g with pc := g.pc + 1, stack := v :: rest }) target → Steps p.tables e below (T.setTop g) target := by
  obtain ⟨cl, Ar, q, S, M, H, U⟩ := V
  have hin := inb_of S ⟨hj0, hjn⟩
  intro target kt
  exact X.baloadBytes hx (j := j) (v := v) (by rw [eT]; exact Ar.1) (State.isArrayOf_alike hZ.alike Ar.2.1) Ar.2.2 hin (H.at hin hv) hg hs hd _ kt
theorem lnA {ty : FieldType} (X : Stand p l e R s m args below meth c T locs cells slots) (hx : p.tables.exec = Jvm.exec) (hZ : Z.Warmed39 s.vm) (eT : T.heap = h) (V : Arv Z h a k ty n vs d) {g : JFrame} (hg : g.method = m) {rest : List Value} (hs : g.stack = .ref a :: rest) (hd : decode c.code g.pc = .ok (.arraylength, 1)) :
    ∀ target, Steps p.tables e below (T.setTop { g with pc := g.pc + 1, stack := .int n :: rest }) target → Steps p.tables e below (T.setTop g) target := by
  obtain ⟨cl, Ar, q, S, M, H, U⟩ := V
  intro target kt
  refine X.arraylength hx (by rw [eT]; exact Ar.1) (State.isArrayOf_alike hZ.alike Ar.2.1) hg hs hd _ ?_
  rw [len_of S M]
  exact kt
theorem fitsR {ty : FieldType} {y : Addr} (hty : ty.isReference = true) : fits ty (.ref y) = true := by cases ty <;> first | rfl | (simp [FieldType.isReference] at hty)
theorem stRA {ty : FieldType} {C : String} (X : Stand p l e R s m args below meth c T locs cells slots) (hx : p.tables.exec = Jvm.exec) (hZ : Z.Warmed39 s.vm) (eT : T.heap = h) (V : Arv Z h a k ty n vs d) (O : Ovr Z k C) {y : Addr} (I : Ins Z h y C true) (hty : ty.isReference = true) {j : Int32} (i : Nat) (hj : j.toNatClampNeg = i) (hj0 : ¬ j < 0) (hjn : j < n) (hi : i < vs.length) {g : JFrame} (hg : g.method = m) {rest : List Value} (hs : g.stack = .ref y :: .int j :: .ref a :: rest) (hd : decode c.code g.pc = .ok (.aastore, 1)) :
    ∃ T' h', Stand p l e R s m args below meth c T' (locs ++ [⟨a, j.toNatClampNeg⟩]) cells slots ∧ T'.heap = h' ∧ Wr h h' a j.toNatClampNeg (.ref y) ∧ Arv Z h' a k ty n (vs.set i (.ref y)) d ∧ ∀ target, Steps p.tables e below (T'.setTop { g with pc := g.pc + 1, stack := rest }) target → Steps p.tables e below (T.setTop g) target := by
  obtain ⟨cl, Ar, q, S, M, H, U⟩ := V
  obtain ⟨T', h', X', e', W', st'⟩ := stR X hx hZ eT Ar (j := j) (inb_of S ⟨hj0, hjn⟩) hty (Sto.ofV Ar q O I) hg hs hd
  exact ⟨T', h', X', e', W', Arv.set Ar q S M H U (fitsR hty) W' i hj hi, st'⟩
theorem ldRA {ty : FieldType} (X : Stand p l e R s m args below meth c T locs cells slots) (hx : p.tables.exec = Jvm.exec) (hZ : Z.Warmed39 s.vm) (eT : T.heap = h) (V : Arv Z h a k ty n vs d) (hty : ty.isReference = true) {j : Int32} {v : Value} (hj0 : ¬ j < 0) (hjn : j < n) (hv : vs.getD j.toNatClampNeg d = v) {g : JFrame} (hg : g.method = m) {rest : List Value} (hs : g.stack = .int j :: .ref a :: rest) (hd : decode c.code g.pc = .ok (.aaload, 1)) :
    ∀ target, Steps p.tables e below (T.setTop { g with pc := g.pc + 1, stack := v :: rest }) target → Steps p.tables e below (T.setTop g) target := by
  obtain ⟨cl, Ar, q, S, M, H, U⟩ := V
  have hin := inb_of S ⟨hj0, hjn⟩
  intro target kt
  exact X.aaload hx (j := j) (v := v) (by rw [eT]; exact Ar.1) (State.isArrayOf_alike hZ.alike Ar.2.1) hty Ar.2.2 hin (H.at hin hv) hg hs hd _ kt
end A
end Jvm.OwnGo
namespace Jvm.Pilot.@@N@@
open Jvm Jvm.ClassFile Sem Op Lib Jvm.Free Jvm.Stand Jvm.LawKit Jvm.RoadKit Jvm.OwnGo Bundle Jvm.Pilot.@@N@@.Jvm.D

theorem pn_0 : plainName "com/example/grenoble/grenoble/tla/BoolValueOfPinLaw" = true := by first | (simp [plainName, overriddenIn]; done) | decide +kernel
theorem pf_0 : plainFor x = true := plainFor_of_name pn_0
theorem pd_0 : parseMethodDescriptor "(I)Z" = some ⟨[.int], (some .boolean)⟩ := by decide +kernel
theorem d1_0 : decode prog_57_method_2_code 0 = .ok (.getstatic 13, 3) := by decide +kernel
theorem d1_3 : decode prog_57_method_2_code 3 = .ok (.astore_n 1, 1) := by decide +kernel
theorem d1_4 : decode prog_57_method_2_code 4 = .ok (.iload_n 0, 1) := by decide +kernel
theorem d1_5 : decode prog_57_method_2_code 5 = .ok (.ifCond .eq 7, 3) := by decide +kernel
theorem d1_8 : decode prog_57_method_2_code 8 = .ok (.getstatic 17, 3) := by decide +kernel
theorem d1_11 : decode prog_57_method_2_code 11 = .ok (.astore_n 1, 1) := by decide +kernel
theorem d1_12 : decode prog_57_method_2_code 12 = .ok (.aload_n 1, 1) := by decide +kernel
theorem d1_13 : decode prog_57_method_2_code 13 = .ok (.areturn, 1) := by decide +kernel
theorem pn_1 : plainName "com/example/grenoble/grenoble/tla/BoolValue" = true := by first | (simp [plainName, overriddenIn]; done) | decide +kernel
theorem pf_1 : plainFor (⟨"com/example/grenoble/grenoble/tla/BoolValue", "of", "(Z)Lcom/example/grenoble/grenoble/tla/BoolValue;"⟩ : MethodName) = true := plainFor_of_name pn_1
theorem pd_1 : parseMethodDescriptor "(Z)Lcom/example/grenoble/grenoble/tla/BoolValue;" = some ⟨[.boolean], (some (.object "com/example/grenoble/grenoble/tla/BoolValue"))⟩ := by decide +kernel
theorem d2_0 : decode prog_57_method_3_code 0 = .ok (.aload_n 0, 1) := by decide +kernel
theorem d2_1 : decode prog_57_method_3_code 1 = .ok (.getfield 7, 3) := by decide +kernel
theorem d2_4 : decode prog_57_method_3_code 4 = .ok (.ireturn, 1) := by decide +kernel
theorem pn_2 : plainName "com/example/grenoble/grenoble/tla/BoolValue" = true := by first | (simp [plainName, overriddenIn]; done) | decide +kernel
theorem pf_2 : plainFor (⟨"com/example/grenoble/grenoble/tla/BoolValue", "value", "()Z"⟩ : MethodName) = true := plainFor_of_name pn_2
theorem pd_2 : parseMethodDescriptor "()Z" = some ⟨[], (some .boolean)⟩ := by decide +kernel
theorem ef_1a (p1 : Int32) (m : MethodId) : entryFrame m #[(.int p1)] 2 = mkF m 0 #[.val (.int p1), .unset] [] := by first | (simp [entryFrame, mkF, argsToLocals, Value.category]; done) | rfl
set_option maxRecDepth 65536 in
set_option maxHeartbeats 40000000 in
theorem rm1a (l : Launch) (Z : State) (a0 : Array Value) (hw : ∀ d ∈ tables_1, d.before a0 Z = true) (p1 : Int32) (h0 : Heap) (n0 : Nat) (Z0 : n0 ≤ h0.size) (aF aG : Addr) (SF : Sta Z h0 "com/example/grenoble/grenoble/tla/BoolValue" "FALSE" "Lcom/example/grenoble/grenoble/tla/BoolValue;" (.ref aF)) (SG : Sta Z h0 "com/example/grenoble/grenoble/tla/BoolValue" "TRUE" "Lcom/example/grenoble/grenoble/tla/BoolValue;" (.ref aG)) (hz : p1 = 0) :
    Ctr l Z (⟨"com/example/grenoble/grenoble/tla/BoolValue", "of", "(Z)Lcom/example/grenoble/grenoble/tla/BoolValue;"⟩ : MethodName) prog_57_method_2_code 2 (some (.object "com/example/grenoble/grenoble/tla/BoolValue")) ({ frames := 0, cells := 0, slots := 0, locals := 0 } : Room) #[(.int p1)] h0 (fun v h L => v = some (.ref aF) ∧ Fr n0 L ∧ h = h0) := by
  refine Ctr.of pf_1 (ef_1a p1) ?_
  intro p e s m below meth c T0 hx hby hml hret hlk hnm hZ hown e0 X0
  obtain ⟨T1, X1, e1, st1⟩ := getS2 X0 hx hZ hown (host := "") (Or.inl (hw _ (List.mem_of_getElem? (i := 6) rfl))) Via.refl e0 SF (g := (mkF m 0 #[.val (.int p1), .unset] [])) rfl (hb hby d1_0)
  refine Go.by (g' := (mkF m 3 #[.val (.int p1), .unset] [(.ref aF)])) st1 ?_
  refine Go.by (g' := (mkF m 4 #[.val (.int p1), .val (.ref aF)] [])) (fun _ k => XS.astoreN X1.here hx rfl (hb hby d1_3) rfl rfl (l' := #[.val (.int p1), .val (.ref aF)]) rfl k) ?_
  refine Go.by (g' := (mkF m 5 #[.val (.int p1), .val (.ref aF)] [(.int p1)])) (fun _ k => XS.iloadN X1.here hx rfl (hb hby d1_4) rfl k) ?_
  refine Go.by (g' := (mkF m 12 #[.val (.int p1), .val (.ref aF)] [])) (fun _ k => XS.ifYes X1.here hx rfl (pc0 := 5) (pc' := 12) rfl (hb hby d1_5) rfl ((if0 _ _).trans (teq hz).1) (by decide) (by decide) k) ?_
  refine Go.by (g' := (mkF m 13 #[.val (.int p1), .val (.ref aF)] [(.ref aF)])) (fun _ k => XS.aloadN X1.here hx rfl (hb hby d1_12) rfl rfl k) ?_
  exact Go.outA X1 hx hret (Lv.narrow X1 hlk (by decide) (by decide)) rfl rfl (hb hby d1_13) (by rw [e1]; exact ⟨rfl, Fr.nil _, rfl⟩)
theorem ef_1b (p1 : Int32) (m : MethodId) : entryFrame m #[(.int p1)] 2 = mkF m 0 #[.val (.int p1), .unset] [] := by first | (simp [entryFrame, mkF, argsToLocals, Value.category]; done) | rfl
set_option maxRecDepth 65536 in
set_option maxHeartbeats 40000000 in
theorem rm1b (l : Launch) (Z : State) (a0 : Array Value) (hw : ∀ d ∈ tables_1, d.before a0 Z = true) (p1 : Int32) (h0 : Heap) (n0 : Nat) (Z0 : n0 ≤ h0.size) (aF aG : Addr) (SF : Sta Z h0 "com/example/grenoble/grenoble/tla/BoolValue" "FALSE" "Lcom/example/grenoble/grenoble/tla/BoolValue;" (.ref aF)) (SG : Sta Z h0 "com/example/grenoble/grenoble/tla/BoolValue" "TRUE" "Lcom/example/grenoble/grenoble/tla/BoolValue;" (.ref aG)) (hz : ¬ p1 = 0) :
    Ctr l Z (⟨"com/example/grenoble/grenoble/tla/BoolValue", "of", "(Z)Lcom/example/grenoble/grenoble/tla/BoolValue;"⟩ : MethodName) prog_57_method_2_code 2 (some (.object "com/example/grenoble/grenoble/tla/BoolValue")) ({ frames := 0, cells := 0, slots := 0, locals := 0 } : Room) #[(.int p1)] h0 (fun v h L => v = some (.ref aG) ∧ Fr n0 L ∧ h = h0) := by
  refine Ctr.of pf_1 (ef_1b p1) ?_
  intro p e s m below meth c T0 hx hby hml hret hlk hnm hZ hown e0 X0
  obtain ⟨T2, X2, e2, st2⟩ := getS2 X0 hx hZ hown (host := "") (Or.inl (hw _ (List.mem_of_getElem? (i := 6) rfl))) Via.refl e0 SF (g := (mkF m 0 #[.val (.int p1), .unset] [])) rfl (hb hby d1_0)
  refine Go.by (g' := (mkF m 3 #[.val (.int p1), .unset] [(.ref aF)])) st2 ?_
  refine Go.by (g' := (mkF m 4 #[.val (.int p1), .val (.ref aF)] [])) (fun _ k => XS.astoreN X2.here hx rfl (hb hby d1_3) rfl rfl (l' := #[.val (.int p1), .val (.ref aF)]) rfl k) ?_
  refine Go.by (g' := (mkF m 5 #[.val (.int p1), .val (.ref aF)] [(.int p1)])) (fun _ k => XS.iloadN X2.here hx rfl (hb hby d1_4) rfl k) ?_
  refine Go.by (g' := (mkF m 8 #[.val (.int p1), .val (.ref aF)] [])) (fun _ k => XS.ifNo X2.here hx rfl (hb hby d1_5) rfl ((if0 _ _).trans (feq hz).1) k) ?_
  obtain ⟨T3, X3, e3, st3⟩ := getS2 X2 hx hZ hown (host := "") (Or.inl (hw _ (List.mem_of_getElem? (i := 7) rfl))) Via.refl e2 SG (g := (mkF m 8 #[.val (.int p1), .val (.ref aF)] [])) rfl (hb hby d1_8)
  refine Go.by (g' := (mkF m 11 #[.val (.int p1), .val (.ref aF)] [(.ref aG)])) st3 ?_
  refine Go.by (g' := (mkF m 12 #[.val (.int p1), .val (.ref aG)] [])) (fun _ k => XS.astoreN X3.here hx rfl (hb hby d1_11) rfl rfl (l' := #[.val (.int p1), .val (.ref aG)]) rfl k) ?_
  refine Go.by (g' := (mkF m 13 #[.val (.int p1), .val (.ref aG)] [(.ref aG)])) (fun _ k => XS.aloadN X3.here hx rfl (hb hby d1_12) rfl rfl k) ?_
  exact Go.outA X3 hx hret (Lv.narrow X3 hlk (by decide) (by decide)) rfl rfl (hb hby d1_13) (by rw [e3]; exact ⟨rfl, Fr.nil _, rfl⟩)
theorem ef_2 (a1 : Addr) (m : MethodId) : entryFrame m #[(.ref a1)] 1 = mkF m 0 #[.val (.ref a1)] [] := by first | (simp [entryFrame, mkF, argsToLocals, Value.category]; done) | rfl
set_option maxRecDepth 65536 in
set_option maxHeartbeats 40000000 in
theorem rm2 (l : Launch) (Z : State) (a0 : Array Value) (hw : ∀ d ∈ tables_1, d.before a0 Z = true) (a1 : Addr) (h0 : Heap) (n0 : Nat) (Z0 : n0 ≤ h0.size) (p2 : Int32) (F1 : Fld Z h0 a1 "com/example/grenoble/grenoble/tla/BoolValue" "value" "Z" (.int p2)) (hp : p2 = 0 ∨ p2 = 1) :
    Ctr l Z (⟨"com/example/grenoble/grenoble/tla/BoolValue", "value", "()Z"⟩ : MethodName) prog_57_method_3_code 1 (some .boolean) ({ frames := 0, cells := 0, slots := 0, locals := 0 } : Room) #[(.ref a1)] h0 (fun v h L => v = some (.int p2) ∧ Fr n0 L ∧ h = h0) := by
  refine Ctr.of pf_2 (ef_2 a1) ?_
  intro p e s m below meth c T0 hx hby hml hret hlk hnm hZ hown e0 X0
  refine Go.by (g' := (mkF m 1 #[.val (.ref a1)] [(.ref a1)])) (fun _ k => XS.aloadN X0.here hx rfl (hb hby d2_0) rfl rfl k) ?_
  obtain ⟨T4, X4, e4, st4⟩ := getF X0 hx hZ hown (host := "") (Or.inl (hw _ (List.mem_of_getElem? (i := 14) rfl))) Via.refl e0 F1 (g := (mkF m 1 #[.val (.ref a1)] [(.ref a1)])) rfl rfl (hb hby d2_1)
  refine Go.by (g' := (mkF m 4 #[.val (.ref a1)] [(.int p2)])) st4 ?_
  exact Go.outZ X4 hx hret (Lv.narrow X4 hlk (by decide) (by decide)) (hb hby d2_4) hp (by rw [e4]; exact ⟨rfl, Fr.nil _, rfl⟩)
theorem ef_0 (p1 : Int32) (m : MethodId) : entryFrame m #[(.int p1)] maxLocals = mkF m 0 #[.val (.int p1), .unset, .unset, .unset, .unset] [] := by first | (simp [entryFrame, mkF, argsToLocals, Value.category, maxLocals]; done) | rfl
set_option maxRecDepth 65536 in
set_option maxHeartbeats 40000000 in
theorem rm0 (l : Launch) (Z : State) (a0 : Array Value) (hw : ∀ d ∈ tables_1, d.before a0 Z = true) (p1 : Int32) (h0 : Heap) (n0 : Nat) (Z0 : n0 ≤ h0.size) (aF aG : Addr) (SF : Sta Z h0 "com/example/grenoble/grenoble/tla/BoolValue" "FALSE" "Lcom/example/grenoble/grenoble/tla/BoolValue;" (.ref aF)) (SG : Sta Z h0 "com/example/grenoble/grenoble/tla/BoolValue" "TRUE" "Lcom/example/grenoble/grenoble/tla/BoolValue;" (.ref aG)) (EF : Exa Z h0 aF "com/example/grenoble/grenoble/tla/BoolValue") (EG : Exa Z h0 aG "com/example/grenoble/grenoble/tla/BoolValue") (FF : Fld Z h0 aF "com/example/grenoble/grenoble/tla/BoolValue" "value" "Z" (.int 0)) (FG : Fld Z h0 aG "com/example/grenoble/grenoble/tla/BoolValue" "value" "Z" (.int 1)) (hne : ¬ aF = aG) :
    Ctr l Z x code maxLocals ret room_1 #[(.int p1)] h0 (fun v h L => v = some (.int 1) ∧ Fr n0 L) := by
  refine Ctr.of pf_0 (ef_0 p1) ?_
  intro p e s m below meth c T0 hx hby hml hret hlk hnm hZ hown e0 X0
  refine Go.by (g' := (mkF m 1 #[.val (.int p1), .unset, .unset, .unset, .unset] [(.int p1)])) (fun _ k => XS.iloadN X0.here hx rfl (hb hby at_0) rfl k) ?_
  refine Go.by (g' := (mkF m 2 #[.val (.int p1), .unset, .unset, .unset, .unset] [(.int (1 : Int32)), (.int p1)])) (fun _ k => XS.iconst X0.here hx rfl (hb hby at_1) k) ?_
  refine Go.by (g' := (mkF m 3 #[.val (.int p1), .unset, .unset, .unset, .unset] [(.int (p1 &&& (1 : Int32)))])) (fun _ k => XS.iand X0.here hx rfl (hb hby at_2) rfl k) ?_
  by_cases h3 : (p1 &&& (1 : Int32)) = (0 : Int32)
  · refine Go.by (g' := (mkF m 10 #[.val (.int p1), .unset, .unset, .unset, .unset] [])) (fun _ k => XS.ifYes X0.here hx rfl (pc0 := 3) (pc' := 10) rfl (hb hby at_3) rfl ((if0 _ _).trans (teq h3).1) (by decide) (by decide) k) ?_
    refine Go.by (g' := (mkF m 11 #[.val (.int p1), .unset, .unset, .unset, .unset] [(.int (0 : Int32))])) (fun _ k => XS.iconst X0.here hx rfl (hb hby at_10) k) ?_
    refine Go.by (g' := (mkF m 12 #[.val (.int p1), .val (.int (0 : Int32)), .unset, .unset, .unset] [])) (fun _ k => XS.istoreN X0.here hx rfl (hb hby at_11) rfl (l' := #[.val (.int p1), .val (.int (0 : Int32)), .unset, .unset, .unset]) rfl k) ?_
    obtain ⟨T5, X5, e5, st5⟩ := getS2 X0 hx hZ hown (host := "") (Or.inl (hw _ (List.mem_of_getElem? (i := 0) rfl))) Via.refl e0 SF (g := (mkF m 12 #[.val (.int p1), .val (.int (0 : Int32)), .unset, .unset, .unset] [])) rfl (hb hby at_12)
    refine Go.by (g' := (mkF m 15 #[.val (.int p1), .val (.int (0 : Int32)), .unset, .unset, .unset] [(.ref aF)])) st5 ?_
    refine Go.by (g' := (mkF m 16 #[.val (.int p1), .val (.int (0 : Int32)), .val (.ref aF), .unset, .unset] [])) (fun _ k => XS.astoreN X5.here hx rfl (hb hby at_15) rfl rfl (l' := #[.val (.int p1), .val (.int (0 : Int32)), .val (.ref aF), .unset, .unset]) rfl k) ?_
    refine Go.by (g' := (mkF m 17 #[.val (.int p1), .val (.int (0 : Int32)), .val (.ref aF), .unset, .unset] [(.int (0 : Int32))])) (fun _ k => XS.iloadN X5.here hx rfl (hb hby at_16) rfl k) ?_
    refine Go.by (g' := (mkF m 24 #[.val (.int p1), .val (.int (0 : Int32)), .val (.ref aF), .unset, .unset] [])) (fun _ k => XS.ifYes X5.here hx rfl (pc0 := 17) (pc' := 24) rfl (hb hby at_17) rfl ((if0 _ _).trans (teq rfl).1) (by decide) (by decide) k) ?_
    refine Go.by (g' := (mkF m 25 #[.val (.int p1), .val (.int (0 : Int32)), .val (.ref aF), .unset, .unset] [(.int (0 : Int32))])) (fun _ k => XS.iloadN X5.here hx rfl (hb hby at_24) rfl k) ?_
    refine Go.callS X5 hx hZ (y := (⟨"com/example/grenoble/grenoble/tla/BoolValue", "of", "(Z)Lcom/example/grenoble/grenoble/tla/BoolValue;"⟩ : MethodName)) hown (hw _ (List.mem_of_getElem? (i := 3) rfl)) (hw _ (List.mem_of_getElem? (i := 4) rfl)) (hw _ (List.mem_of_getElem? (i := 1) rfl)) (hw _ (List.mem_of_getElem? (i := 5) rfl)) (by decide) (W := 0) (argsL := [(.int (0 : Int32))]) (rest := []) (rm1a l Z a0 hw (0 : Int32) h0 n0 Z0 aF aG SF SG rfl) (by decide) (by decide) (by decide) (by decide) (g := (mkF m 25 #[.val (.int p1), .val (.int (0 : Int32)), .val (.ref aF), .unset, .unset] [(.int (0 : Int32))])) rfl (by rw [hml]; rfl) (lenOf pd_1 rfl) rfl (by show 2 * 0 + _ ≤ _; exact Nat.le_of_eq rfl) (hb hby at_25) e5 ?_
    rintro T6 L6 _ X6 ⟨rfl, N6, q6⟩
    have M6 := Fr.app (Fr.nil n0) N6
    show Go p e below _ _ T6 (mkF m 28 #[.val (.int p1), .val (.int (0 : Int32)), .val (.ref aF), .unset, .unset] [(.ref aF)])
    refine Go.by (g' := (mkF m 29 #[.val (.int p1), .val (.int (0 : Int32)), .val (.ref aF), .val (.ref aF), .unset] [])) (fun _ k => XS.astoreN X6.here hx rfl (hb hby at_28) rfl rfl (l' := #[.val (.int p1), .val (.int (0 : Int32)), .val (.ref aF), .val (.ref aF), .unset]) rfl k) ?_
    refine Go.by (g' := (mkF m 30 #[.val (.int p1), .val (.int (0 : Int32)), .val (.ref aF), .val (.ref aF), .unset] [(.int (0 : Int32))])) (fun _ k => XS.iloadN X6.here hx rfl (hb hby at_29) rfl k) ?_
    refine Go.by (g' := (mkF m 33 #[.val (.int p1), .val (.int (0 : Int32)), .val (.ref aF), .val (.ref aF), .unset] [])) (fun _ k => XS.ifNo X6.here hx rfl (hb hby at_30) rfl ((if0 _ _).trans (teq rfl).2) k) ?_
    refine Go.by (g' := (mkF m 34 #[.val (.int p1), .val (.int (0 : Int32)), .val (.ref aF), .val (.ref aF), .unset] [(.int (1 : Int32))])) (fun _ k => XS.iconst X6.here hx rfl (hb hby at_33) k) ?_
    refine Go.by (g' := (mkF m 38 #[.val (.int p1), .val (.int (0 : Int32)), .val (.ref aF), .val (.ref aF), .unset] [(.int (1 : Int32))])) (fun _ k => XS.goto X6.here hx rfl (pc0 := 34) (pc' := 38) rfl (hb hby at_34) (by decide) (by decide) k) ?_
    refine Go.callS X6 hx hZ (y := (⟨"com/example/grenoble/grenoble/tla/BoolValue", "of", "(Z)Lcom/example/grenoble/grenoble/tla/BoolValue;"⟩ : MethodName)) hown (hw _ (List.mem_of_getElem? (i := 3) rfl)) (hw _ (List.mem_of_getElem? (i := 4) rfl)) (hw _ (List.mem_of_getElem? (i := 1) rfl)) (hw _ (List.mem_of_getElem? (i := 5) rfl)) (by decide) (W := 0) (argsL := [(.int (1 : Int32))]) (rest := []) (rm1b l Z a0 hw (1 : Int32) h0 n0 Z0 aF aG SF SG (by decide)) (by decide) (by decide) (by decide) (by decide) (g := (mkF m 38 #[.val (.int p1), .val (.int (0 : Int32)), .val (.ref aF), .val (.ref aF), .unset] [(.int (1 : Int32))])) rfl (by rw [hml]; rfl) (lenOf pd_1 rfl) rfl (by show 2 * 0 + _ ≤ _; exact Nat.le_of_eq rfl) (hb hby at_38) q6 ?_
    rintro T7 L7 _ X7 ⟨rfl, N7, q7⟩
    have M7 := Fr.app M6 N7
    show Go p e below _ _ T7 (mkF m 41 #[.val (.int p1), .val (.int (0 : Int32)), .val (.ref aF), .val (.ref aF), .unset] [(.ref aG)])
    refine Go.by (g' := (mkF m 43 #[.val (.int p1), .val (.int (0 : Int32)), .val (.ref aF), .val (.ref aF), .val (.ref aG)] [])) (fun _ k => XS.astore X7.here hx rfl (hb hby at_41) rfl rfl (l' := #[.val (.int p1), .val (.int (0 : Int32)), .val (.ref aF), .val (.ref aF), .val (.ref aG)]) rfl k) ?_
    refine Go.by (g' := (mkF m 44 #[.val (.int p1), .val (.int (0 : Int32)), .val (.ref aF), .val (.ref aF), .val (.ref aG)] [(.ref aF)])) (fun _ k => XS.aloadN X7.here hx rfl (hb hby at_43) rfl rfl k) ?_
    refine Go.by (g' := (mkF m 47 #[.val (.int p1), .val (.int (0 : Int32)), .val (.ref aF), .val (.ref aF), .val (.ref aG)] [])) (fun _ k => XS.ifnullNo X7.here hx rfl (hb hby at_44) rfl k) ?_
    refine Go.by (g' := (mkF m 48 #[.val (.int p1), .val (.int (0 : Int32)), .val (.ref aF), .val (.ref aF), .val (.ref aG)] [(.ref aF)])) (fun _ k => XS.aloadN X7.here hx rfl (hb hby at_47) rfl rfl k) ?_
    refine Go.by (g' := (mkF m 49 #[.val (.int p1), .val (.int (0 : Int32)), .val (.ref aF), .val (.ref aF), .val (.ref aG)] [(.ref aF), (.ref aF)])) (fun _ k => XS.aloadN X7.here hx rfl (hb hby at_48) rfl rfl k) ?_
    refine Go.by (g' := (mkF m 52 #[.val (.int p1), .val (.int (0 : Int32)), .val (.ref aF), .val (.ref aF), .val (.ref aG)] [])) (fun _ k => Jvm.RoadKit.acmp (g := (mkF m 49 #[.val (.int p1), .val (.int (0 : Int32)), .val (.ref aF), .val (.ref aF), .val (.ref aG)] [(.ref aF), (.ref aF)])) X7 hx rfl rfl rfl (pc0 := 49) (pc' := 52) (same := true) rfl (hb hby at_49) rfl (decide_eq_true rfl) (by decide) (by decide) k) ?_
    refine Go.by (g' := (mkF m 53 #[.val (.int p1), .val (.int (0 : Int32)), .val (.ref aF), .val (.ref aF), .val (.ref aG)] [(.ref aF)])) (fun _ k => XS.aloadN X7.here hx rfl (hb hby at_52) rfl rfl k) ?_
    refine Go.callV X7 hx hZ (y := (⟨"com/example/grenoble/grenoble/tla/BoolValue", "value", "()Z"⟩ : MethodName)) (z := (⟨"com/example/grenoble/grenoble/tla/BoolValue", "value", "()Z"⟩ : MethodName)) hown (hw _ (List.mem_of_getElem? (i := 9) rfl)) (hw _ (List.mem_of_getElem? (i := 10) rfl)) (notFace_of_selects (args := #[]) (mvT hZ (hw _ (List.mem_of_getElem? (i := 12) rfl)))) (hw _ (List.mem_of_getElem? (i := 12) rfl)) (hw _ (List.mem_of_getElem? (i := 11) rfl)) (hw _ (List.mem_of_getElem? (i := 1) rfl)) (hw _ (List.mem_of_getElem? (i := 13) rfl)) (by decide) (W := 0) (a := aF) (argsL := []) (rest := []) EF (rm2 l Z a0 hw aF h0 n0 Z0 (0 : Int32) FF (by decide)) (by decide) (by decide) (by decide) (by decide) (g := (mkF m 53 #[.val (.int p1), .val (.int (0 : Int32)), .val (.ref aF), .val (.ref aF), .val (.ref aG)] [(.ref aF)])) rfl (by rw [hml]; rfl) (lenOf pd_2 rfl) rfl (by show 2 * 0 + _ ≤ _; exact Nat.le_of_eq rfl) (hb hby at_53) q7 ?_
    rintro T8 L8 _ X8 ⟨rfl, N8, q8⟩
    have M8 := Fr.app M7 N8
    show Go p e below _ _ T8 (mkF m 56 #[.val (.int p1), .val (.int (0 : Int32)), .val (.ref aF), .val (.ref aF), .val (.ref aG)] [(.int (0 : Int32))])
    refine Go.by (g' := (mkF m 57 #[.val (.int p1), .val (.int (0 : Int32)), .val (.ref aF), .val (.ref aF), .val (.ref aG)] [(.int (0 : Int32)), (.int (0 : Int32))])) (fun _ k => XS.iloadN X8.here hx rfl (hb hby at_56) rfl k) ?_
    refine Go.by (g' := (mkF m 60 #[.val (.int p1), .val (.int (0 : Int32)), .val (.ref aF), .val (.ref aF), .val (.ref aG)] [])) (fun _ k => XS.icmpNo X8.here hx rfl (hb hby at_57) rfl (teq rfl).2 k) ?_
    refine Go.by (g' := (mkF m 61 #[.val (.int p1), .val (.int (0 : Int32)), .val (.ref aF), .val (.ref aF), .val (.ref aG)] [(.ref aF)])) (fun _ k => XS.aloadN X8.here hx rfl (hb hby at_60) rfl rfl k) ?_
    refine Go.by (g' := (mkF m 63 #[.val (.int p1), .val (.int (0 : Int32)), .val (.ref aF), .val (.ref aF), .val (.ref aG)] [(.ref aG), (.ref aF)])) (fun _ k => XS.aload X8.here hx rfl (hb hby at_61) rfl rfl k) ?_
    refine Go.by (g' := (mkF m 66 #[.val (.int p1), .val (.int (0 : Int32)), .val (.ref aF), .val (.ref aF), .val (.ref aG)] [])) (fun _ k => Jvm.RoadKit.acmp (g := (mkF m 63 #[.val (.int p1), .val (.int (0 : Int32)), .val (.ref aF), .val (.ref aF), .val (.ref aG)] [(.ref aG), (.ref aF)])) X8 hx rfl rfl rfl (pc0 := 63) (pc' := 66) (same := false) rfl (hb hby at_63) rfl (decide_eq_false fun q => hne (Value.ref.inj q)) (by decide) (by decide) k) ?_
    refine Go.by (g' := (mkF m 67 #[.val (.int p1), .val (.int (0 : Int32)), .val (.ref aF), .val (.ref aF), .val (.ref aG)] [(.int (1 : Int32))])) (fun _ k => XS.iconst X8.here hx rfl (hb hby at_66) k) ?_
    refine Go.by (g' := (mkF m 71 #[.val (.int p1), .val (.int (0 : Int32)), .val (.ref aF), .val (.ref aF), .val (.ref aG)] [(.int (1 : Int32))])) (fun _ k => XS.goto X8.here hx rfl (pc0 := 67) (pc' := 71) rfl (hb hby at_67) (by decide) (by decide) k) ?_
    exact Go.outZ X8 hx hret (Lv.narrow X8 hlk (by decide) (by decide)) (hb hby at_71) (by decide) ⟨rfl, M8⟩
  · refine Go.by (g' := (mkF m 6 #[.val (.int p1), .unset, .unset, .unset, .unset] [])) (fun _ k => XS.ifNo X0.here hx rfl (hb hby at_3) rfl ((if0 _ _).trans (feq h3).1) k) ?_
    refine Go.by (g' := (mkF m 7 #[.val (.int p1), .unset, .unset, .unset, .unset] [(.int (1 : Int32))])) (fun _ k => XS.iconst X0.here hx rfl (hb hby at_6) k) ?_
    refine Go.by (g' := (mkF m 11 #[.val (.int p1), .unset, .unset, .unset, .unset] [(.int (1 : Int32))])) (fun _ k => XS.goto X0.here hx rfl (pc0 := 7) (pc' := 11) rfl (hb hby at_7) (by decide) (by decide) k) ?_
    refine Go.by (g' := (mkF m 12 #[.val (.int p1), .val (.int (1 : Int32)), .unset, .unset, .unset] [])) (fun _ k => XS.istoreN X0.here hx rfl (hb hby at_11) rfl (l' := #[.val (.int p1), .val (.int (1 : Int32)), .unset, .unset, .unset]) rfl k) ?_
    obtain ⟨T9, X9, e9, st9⟩ := getS2 X0 hx hZ hown (host := "") (Or.inl (hw _ (List.mem_of_getElem? (i := 0) rfl))) Via.refl e0 SF (g := (mkF m 12 #[.val (.int p1), .val (.int (1 : Int32)), .unset, .unset, .unset] [])) rfl (hb hby at_12)
    refine Go.by (g' := (mkF m 15 #[.val (.int p1), .val (.int (1 : Int32)), .unset, .unset, .unset] [(.ref aF)])) st9 ?_
    refine Go.by (g' := (mkF m 16 #[.val (.int p1), .val (.int (1 : Int32)), .val (.ref aF), .unset, .unset] [])) (fun _ k => XS.astoreN X9.here hx rfl (hb hby at_15) rfl rfl (l' := #[.val (.int p1), .val (.int (1 : Int32)), .val (.ref aF), .unset, .unset]) rfl k) ?_
    refine Go.by (g' := (mkF m 17 #[.val (.int p1), .val (.int (1 : Int32)), .val (.ref aF), .unset, .unset] [(.int (1 : Int32))])) (fun _ k => XS.iloadN X9.here hx rfl (hb hby at_16) rfl k) ?_
    refine Go.by (g' := (mkF m 20 #[.val (.int p1), .val (.int (1 : Int32)), .val (.ref aF), .unset, .unset] [])) (fun _ k => XS.ifNo X9.here hx rfl (hb hby at_17) rfl ((if0 _ _).trans (feq (by decide)).1) k) ?_
    obtain ⟨T10, X10, e10, st10⟩ := getS2 X9 hx hZ hown (host := "") (Or.inl (hw _ (List.mem_of_getElem? (i := 16) rfl))) Via.refl e9 SG (g := (mkF m 20 #[.val (.int p1), .val (.int (1 : Int32)), .val (.ref aF), .unset, .unset] [])) rfl (hb hby at_20)
    refine Go.by (g' := (mkF m 23 #[.val (.int p1), .val (.int (1 : Int32)), .val (.ref aF), .unset, .unset] [(.ref aG)])) st10 ?_
    refine Go.by (g' := (mkF m 24 #[.val (.int p1), .val (.int (1 : Int32)), .val (.ref aG), .unset, .unset] [])) (fun _ k => XS.astoreN X10.here hx rfl (hb hby at_23) rfl rfl (l' := #[.val (.int p1), .val (.int (1 : Int32)), .val (.ref aG), .unset, .unset]) rfl k) ?_
    refine Go.by (g' := (mkF m 25 #[.val (.int p1), .val (.int (1 : Int32)), .val (.ref aG), .unset, .unset] [(.int (1 : Int32))])) (fun _ k => XS.iloadN X10.here hx rfl (hb hby at_24) rfl k) ?_
    refine Go.callS X10 hx hZ (y := (⟨"com/example/grenoble/grenoble/tla/BoolValue", "of", "(Z)Lcom/example/grenoble/grenoble/tla/BoolValue;"⟩ : MethodName)) hown (hw _ (List.mem_of_getElem? (i := 3) rfl)) (hw _ (List.mem_of_getElem? (i := 4) rfl)) (hw _ (List.mem_of_getElem? (i := 1) rfl)) (hw _ (List.mem_of_getElem? (i := 5) rfl)) (by decide) (W := 0) (argsL := [(.int (1 : Int32))]) (rest := []) (rm1b l Z a0 hw (1 : Int32) h0 n0 Z0 aF aG SF SG (by decide)) (by decide) (by decide) (by decide) (by decide) (g := (mkF m 25 #[.val (.int p1), .val (.int (1 : Int32)), .val (.ref aG), .unset, .unset] [(.int (1 : Int32))])) rfl (by rw [hml]; rfl) (lenOf pd_1 rfl) rfl (by show 2 * 0 + _ ≤ _; exact Nat.le_of_eq rfl) (hb hby at_25) e10 ?_
    rintro T11 L11 _ X11 ⟨rfl, N11, q11⟩
    have M11 := Fr.app (Fr.nil n0) N11
    show Go p e below _ _ T11 (mkF m 28 #[.val (.int p1), .val (.int (1 : Int32)), .val (.ref aG), .unset, .unset] [(.ref aG)])
    refine Go.by (g' := (mkF m 29 #[.val (.int p1), .val (.int (1 : Int32)), .val (.ref aG), .val (.ref aG), .unset] [])) (fun _ k => XS.astoreN X11.here hx rfl (hb hby at_28) rfl rfl (l' := #[.val (.int p1), .val (.int (1 : Int32)), .val (.ref aG), .val (.ref aG), .unset]) rfl k) ?_
    refine Go.by (g' := (mkF m 30 #[.val (.int p1), .val (.int (1 : Int32)), .val (.ref aG), .val (.ref aG), .unset] [(.int (1 : Int32))])) (fun _ k => XS.iloadN X11.here hx rfl (hb hby at_29) rfl k) ?_
    refine Go.by (g' := (mkF m 37 #[.val (.int p1), .val (.int (1 : Int32)), .val (.ref aG), .val (.ref aG), .unset] [])) (fun _ k => XS.ifYes X11.here hx rfl (pc0 := 30) (pc' := 37) rfl (hb hby at_30) rfl ((if0 _ _).trans (feq (by decide)).2) (by decide) (by decide) k) ?_
    refine Go.by (g' := (mkF m 38 #[.val (.int p1), .val (.int (1 : Int32)), .val (.ref aG), .val (.ref aG), .unset] [(.int (0 : Int32))])) (fun _ k => XS.iconst X11.here hx rfl (hb hby at_37) k) ?_
    refine Go.callS X11 hx hZ (y := (⟨"com/example/grenoble/grenoble/tla/BoolValue", "of", "(Z)Lcom/example/grenoble/grenoble/tla/BoolValue;"⟩ : MethodName)) hown (hw _ (List.mem_of_getElem? (i := 3) rfl)) (hw _ (List.mem_of_getElem? (i := 4) rfl)) (hw _ (List.mem_of_getElem? (i := 1) rfl)) (hw _ (List.mem_of_getElem? (i := 5) rfl)) (by decide) (W := 0) (argsL := [(.int (0 : Int32))]) (rest := []) (rm1a l Z a0 hw (0 : Int32) h0 n0 Z0 aF aG SF SG rfl) (by decide) (by decide) (by decide) (by decide) (g := (mkF m 38 #[.val (.int p1), .val (.int (1 : Int32)), .val (.ref aG), .val (.ref aG), .unset] [(.int (0 : Int32))])) rfl (by rw [hml]; rfl) (lenOf pd_1 rfl) rfl (by show 2 * 0 + _ ≤ _; exact Nat.le_of_eq rfl) (hb hby at_38) q11 ?_
    rintro T12 L12 _ X12 ⟨rfl, N12, q12⟩
    have M12 := Fr.app M11 N12
    show Go p e below _ _ T12 (mkF m 41 #[.val (.int p1), .val (.int (1 : Int32)), .val (.ref aG), .val (.ref aG), .unset] [(.ref aF)])
    refine Go.by (g' := (mkF m 43 #[.val (.int p1), .val (.int (1 : Int32)), .val (.ref aG), .val (.ref aG), .val (.ref aF)] [])) (fun _ k => XS.astore X12.here hx rfl (hb hby at_41) rfl rfl (l' := #[.val (.int p1), .val (.int (1 : Int32)), .val (.ref aG), .val (.ref aG), .val (.ref aF)]) rfl k) ?_
    refine Go.by (g' := (mkF m 44 #[.val (.int p1), .val (.int (1 : Int32)), .val (.ref aG), .val (.ref aG), .val (.ref aF)] [(.ref aG)])) (fun _ k => XS.aloadN X12.here hx rfl (hb hby at_43) rfl rfl k) ?_
    refine Go.by (g' := (mkF m 47 #[.val (.int p1), .val (.int (1 : Int32)), .val (.ref aG), .val (.ref aG), .val (.ref aF)] [])) (fun _ k => XS.ifnullNo X12.here hx rfl (hb hby at_44) rfl k) ?_
    refine Go.by (g' := (mkF m 48 #[.val (.int p1), .val (.int (1 : Int32)), .val (.ref aG), .val (.ref aG), .val (.ref aF)] [(.ref aG)])) (fun _ k => XS.aloadN X12.here hx rfl (hb hby at_47) rfl rfl k) ?_
    refine Go.by (g' := (mkF m 49 #[.val (.int p1), .val (.int (1 : Int32)), .val (.ref aG), .val (.ref aG), .val (.ref aF)] [(.ref aG), (.ref aG)])) (fun _ k => XS.aloadN X12.here hx rfl (hb hby at_48) rfl rfl k) ?_
    refine Go.by (g' := (mkF m 52 #[.val (.int p1), .val (.int (1 : Int32)), .val (.ref aG), .val (.ref aG), .val (.ref aF)] [])) (fun _ k => Jvm.RoadKit.acmp (g := (mkF m 49 #[.val (.int p1), .val (.int (1 : Int32)), .val (.ref aG), .val (.ref aG), .val (.ref aF)] [(.ref aG), (.ref aG)])) X12 hx rfl rfl rfl (pc0 := 49) (pc' := 52) (same := true) rfl (hb hby at_49) rfl (decide_eq_true rfl) (by decide) (by decide) k) ?_
    refine Go.by (g' := (mkF m 53 #[.val (.int p1), .val (.int (1 : Int32)), .val (.ref aG), .val (.ref aG), .val (.ref aF)] [(.ref aG)])) (fun _ k => XS.aloadN X12.here hx rfl (hb hby at_52) rfl rfl k) ?_
    refine Go.callV X12 hx hZ (y := (⟨"com/example/grenoble/grenoble/tla/BoolValue", "value", "()Z"⟩ : MethodName)) (z := (⟨"com/example/grenoble/grenoble/tla/BoolValue", "value", "()Z"⟩ : MethodName)) hown (hw _ (List.mem_of_getElem? (i := 9) rfl)) (hw _ (List.mem_of_getElem? (i := 10) rfl)) (notFace_of_selects (args := #[]) (mvT hZ (hw _ (List.mem_of_getElem? (i := 12) rfl)))) (hw _ (List.mem_of_getElem? (i := 12) rfl)) (hw _ (List.mem_of_getElem? (i := 11) rfl)) (hw _ (List.mem_of_getElem? (i := 1) rfl)) (hw _ (List.mem_of_getElem? (i := 13) rfl)) (by decide) (W := 0) (a := aG) (argsL := []) (rest := []) EG (rm2 l Z a0 hw aG h0 n0 Z0 (1 : Int32) FG (by decide)) (by decide) (by decide) (by decide) (by decide) (g := (mkF m 53 #[.val (.int p1), .val (.int (1 : Int32)), .val (.ref aG), .val (.ref aG), .val (.ref aF)] [(.ref aG)])) rfl (by rw [hml]; rfl) (lenOf pd_2 rfl) rfl (by show 2 * 0 + _ ≤ _; exact Nat.le_of_eq rfl) (hb hby at_53) q12 ?_
    rintro T13 L13 _ X13 ⟨rfl, N13, q13⟩
    have M13 := Fr.app M12 N13
    show Go p e below _ _ T13 (mkF m 56 #[.val (.int p1), .val (.int (1 : Int32)), .val (.ref aG), .val (.ref aG), .val (.ref aF)] [(.int (1 : Int32))])
    refine Go.by (g' := (mkF m 57 #[.val (.int p1), .val (.int (1 : Int32)), .val (.ref aG), .val (.ref aG), .val (.ref aF)] [(.int (1 : Int32)), (.int (1 : Int32))])) (fun _ k => XS.iloadN X13.here hx rfl (hb hby at_56) rfl k) ?_
    refine Go.by (g' := (mkF m 60 #[.val (.int p1), .val (.int (1 : Int32)), .val (.ref aG), .val (.ref aG), .val (.ref aF)] [])) (fun _ k => XS.icmpNo X13.here hx rfl (hb hby at_57) rfl (teq rfl).2 k) ?_
    refine Go.by (g' := (mkF m 61 #[.val (.int p1), .val (.int (1 : Int32)), .val (.ref aG), .val (.ref aG), .val (.ref aF)] [(.ref aG)])) (fun _ k => XS.aloadN X13.here hx rfl (hb hby at_60) rfl rfl k) ?_
    refine Go.by (g' := (mkF m 63 #[.val (.int p1), .val (.int (1 : Int32)), .val (.ref aG), .val (.ref aG), .val (.ref aF)] [(.ref aF), (.ref aG)])) (fun _ k => XS.aload X13.here hx rfl (hb hby at_61) rfl rfl k) ?_
    refine Go.by (g' := (mkF m 66 #[.val (.int p1), .val (.int (1 : Int32)), .val (.ref aG), .val (.ref aG), .val (.ref aF)] [])) (fun _ k => Jvm.RoadKit.acmp (g := (mkF m 63 #[.val (.int p1), .val (.int (1 : Int32)), .val (.ref aG), .val (.ref aG), .val (.ref aF)] [(.ref aF), (.ref aG)])) X13 hx rfl rfl rfl (pc0 := 63) (pc' := 66) (same := false) rfl (hb hby at_63) rfl (decide_eq_false fun q => hne (Value.ref.inj q).symm) (by decide) (by decide) k) ?_
    refine Go.by (g' := (mkF m 67 #[.val (.int p1), .val (.int (1 : Int32)), .val (.ref aG), .val (.ref aG), .val (.ref aF)] [(.int (1 : Int32))])) (fun _ k => XS.iconst X13.here hx rfl (hb hby at_66) k) ?_
    refine Go.by (g' := (mkF m 71 #[.val (.int p1), .val (.int (1 : Int32)), .val (.ref aG), .val (.ref aG), .val (.ref aF)] [(.int (1 : Int32))])) (fun _ k => XS.goto X13.here hx rfl (pc0 := 67) (pc' := 71) rfl (hb hby at_67) (by decide) (by decide) k) ?_
    exact Go.outZ X13 hx hret (Lv.narrow X13 hlk (by decide) (by decide)) (hb hby at_71) (by decide) ⟨rfl, M13⟩
set_option maxRecDepth 65536 in
set_option maxHeartbeats 40000000 in
theorem comes_1 {Post : Tables → Env → Array Value → State → Outcome → State → Prop} (hpost : ∀ tb e args s v u, (limb_1_1.after args s (.returned v) u = true ∧ limb_1_2.after args s (.returned v) u = true ∧ True) → FrameEnd s (.returned v) u (Jvm.fieldLocs frame_1_writes args s ++ Jvm.arrayLocs frame_1_arrays args s ++ Jvm.staticLocs frame_1_statics s) 0 0 → Post tb e args s (.returned v) u) :
    ArmFor flags0 classFile x code maxLocals ret World_1 tables_1 room_1 Calls_1 rest_1 Pre_1 Post := by
  intro l hfl _ _ p e ha hc hk s m args below hf hA hF happ hP
  obtain ⟨hcalls, hrest, hpre⟩ := hP
  obtain ⟨-, -, -, hnamed, -, -, -, hat⟩ := (Spec.applies_iff hf).mp happ
  obtain ⟨hg, hn⟩ := and_e (Cond.before_iff.mp (show (Jvm.Cond.and given_1 narrow_1).before args s = true from hpre))
  obtain ⟨h1, q0⟩ := and_e hg
  obtain ⟨w0, rfl⟩ : ∃ w0 : Value, args = #[w0] := by
    have hs : args.size = 1 := by simpa [Cond.value, given_1] using h1
    obtain ⟨L⟩ := args
    match L, hs with
    | [w0], _ => exact ⟨w0, rfl⟩
  have hw := fun d (hd : d ∈ tables_1) => atoms_spec (ws := Jvm.Cond.code x code maxLocals ret :: tables_1) hat d (List.mem_cons_of_mem _ hd)
  have hfit : Fit s := fun {y c} hc i hi => by
    obtain ⟨ha, rfl⟩ := Array.getElem?_eq_some_iff.mp hc
    have q := List.all_eq_true.mp ((Array.all_eq_true_iff_forall_mem.mp hF) _ (Array.getElem_mem ha)) i (List.mem_range.mpr hi)
    simpa [Array.getElem?_eq_getElem hi] using q
  obtain ⟨i0, ee0⟩ := is_v q0
  obtain rfl : w0 = (.int i0) := Option.some.inj ee0
  obtain ⟨m1, r1⟩ := and_e hn
  obtain ⟨m2, r2⟩ := and_e r1
  obtain ⟨m3, r3⟩ := and_e r2
  obtain ⟨m4, m5⟩ := and_e r3
  obtain ⟨aF, eF⟩ := exa_v m1
  obtain ⟨aG, eG⟩ := exa_v m2
  have EF : Exa s s.heap aF "com/example/grenoble/grenoble/tla/BoolValue" := Exa.start eF m1
  have EG : Exa s s.heap aG "com/example/grenoble/grenoble/tla/BoolValue" := Exa.start eG m2
  have SF : Sta s s.heap "com/example/grenoble/grenoble/tla/BoolValue" "FALSE" "Lcom/example/grenoble/grenoble/tla/BoolValue;" (.ref aF) := Sta.start eF (Or.inr ⟨(hw _ (List.mem_of_getElem? (i := 1) rfl)), (hw _ (List.mem_of_getElem? (i := 2) rfl))⟩)
  have SG : Sta s s.heap "com/example/grenoble/grenoble/tla/BoolValue" "TRUE" "Lcom/example/grenoble/grenoble/tla/BoolValue;" (.ref aG) := Sta.start eG (Or.inr ⟨(hw _ (List.mem_of_getElem? (i := 1) rfl)), (hw _ (List.mem_of_getElem? (i := 8) rfl))⟩)
  have FF : Fld s s.heap aF "com/example/grenoble/grenoble/tla/BoolValue" "value" "Z" (.int 0) := Fld.start ((fld_at eF).symm.trans (eqv_i (Term.int_eval (0)) m3))
  have FG : Fld s s.heap aG "com/example/grenoble/grenoble/tla/BoolValue" "value" "Z" (.int 1) := Fld.start ((fld_at eG).symm.trans (eqv_i (Term.int_eval (1)) m5))
  have hne : ¬ aF = aG := fun q => gotF (eq_R eF eG rfl rfl) (not_v m4) (congrArg Value.ref q)
  obtain ⟨n, o, h1, h2, h3, _, L, rfl, ⟨rfl, N⟩, hq⟩ := rm0 l s _ hw i0 s.heap s.heap.size (Nat.le_refl _) aF aG SF SG EF EG FF FG hne tables_1 p e ha hc hk s m _ below hf ((Spec.applies_iff_loose hf).mp happ).1 ⟨rfl, State.Warmed39.refl s, rfl⟩ trivial
  refine ⟨n, _, h1, h2, h3, hpost _ _ _ _ _ _ ⟨Cond.after_iff.mpr rfl, Cond.after_iff.mpr (eq_i res_at (Term.int_eval (1)) rfl), trivial⟩ ⟨hq.1, hq.2.1, (hq.2.2.sift fun y hy => Or.inr (N y hy)).mono (by decide) (by decide)⟩⟩
theorem main_1_1 : Claimed_1_1 := comes_1 fun _ _ _ _ _ _ h hF => ⟨h.1, hF⟩
theorem main_1_2 : Claimed_1_2 := comes_1 fun _ _ _ _ _ _ h hF => ⟨h.2.1, hF⟩
end Jvm.Pilot.@@N@@
namespace Jvm.Pilot.@@N@@
open Jvm Jvm.ClassFile Sem Op Lib Jvm.Free Jvm.Stand Jvm.Pilot.@@N@@.Jvm.D
/-! MADE BY PROGRAM (witnessworld.py) out of the Statement's table words and the real class files: 11 classes; the members and pool entries that the words name. The judged class is class 1, her method 1. -/
namespace start1
open Jvm.ClassFile
def u (s : String) : CpInfo := .utf8 (stringToUtf16 s)
/-- a pool by its gaps: so many unusable entries, then the entry; so many at the end -/
def gap : Nat → List CpInfo → List CpInfo
  | 0, r => r
  | n + 1, r => .unusable :: gap n r
def poolList (es : List (Nat × CpInfo)) (last : Nat) : List CpInfo := es.foldr (fun e r => gap e.1 (e.2 :: r)) (gap last [])
def pool (es : List (Nat × CpInfo)) (last : Nat) : Array CpInfo := ⟨poolList es last⟩
def fileOf (pool : Array CpInfo) (this : Nat) (attrs : Array Attribute := #[]) (ms : Array MethodInfo := #[]) (fl : Nat := 33) (sup : Nat := 0) (ifs : Array Nat := #[]) (fds : Array FieldInfo := #[]) : ClassFile where
  minorVersion := 0
  majorVersion := 65
  constantPool := pool
  accessFlags := fl
  thisClass := this
  superClass := sup
  interfaces := ifs
  fields := fds
  methods := ms
  attributes := attrs
def plain (name : String) (sup : Option ClassId) : Class where
  name := name
  kind := .ordinary
  loader := none
  accessFlags := 33
  super := sup
  interfaces := #[]
  cf := none
  fields := #[]
  methods := #[]
  instanceTypes := #[]
  staticTypes := #[]
  resolved := #[]
  callSites := []
  init := .initialized
  statics := none
  mirror := none

def pool0 : Array CpInfo := pool [(5, u "<init>"), (0, u "()V"), (1, .class_ 10), (1, u "java/lang/Object")] 113

def k0m0 : Method := { name := "<init>", desc := "()V", sig := { parameters := [], returnType := none }, accessFlags := 1, code := none }
/-- java/lang/Object -/
def k0 : Class := { plain "java/lang/Object" none with
  accessFlags := 33
  interfaces := #[]
  cf := some (fileOf pool0 8 #[] #[{ accessFlags := 1, nameIndex := 5, descriptorIndex := 6, attributes := #[] }] 33 0 #[] #[])
  fields := #[]
  methods := #[k0m0]
  instanceTypes := #[]
  staticTypes := #[]
  resolved := Array.replicate 124 none
  statics := none }

def pool1 : Array CpInfo := pool [(2, .class_ 4), (1, u "java/lang/Object"), (0, u "<init>"), (0, u "()V"), (0, .fieldref 8 9), (0, .class_ 10), (0, .nameAndType 11 12), (0, u "com/example/grenoble/grenoble/tla/BoolValue"), (0, u "FALSE"), (0, u "Lcom/example/grenoble/grenoble/tla/BoolValue;"), (0, .fieldref 8 14), (0, .nameAndType 15 12), (0, u "TRUE"), (0, .methodref 8 17), (0, .nameAndType 18 19), (0, u "of"), (0, u "(Z)Lcom/example/grenoble/grenoble/tla/BoolValue;"), (0, .methodref 8 21), (0, .nameAndType 22 23), (0, u "value"), (0, u "()Z"), (0, .class_ 25), (0, u "com/example/grenoble/grenoble/tla/BoolValueOfPinLaw"), (2, u "law"), (0, u "(I)Z")] 3

def k1m0 : Method := { name := "<init>", desc := "()V", sig := { parameters := [], returnType := none }, accessFlags := 1, code := none }
def k1c1 : Code := { maxStack := 2, maxLocals := 5, code := code, exceptionTable := #[], attributes := #[] }
def k1m1 : Method := { name := "law", desc := "(I)Z", sig := { parameters := [.int], returnType := some .boolean }, accessFlags := 9, code := some k1c1 }
/-- com/example/grenoble/grenoble/tla/BoolValueOfPinLaw -/
def k1 : Class := { plain "com/example/grenoble/grenoble/tla/BoolValueOfPinLaw" (some 0) with
  accessFlags := 49
  interfaces := #[]
  cf := some (fileOf pool1 24 #[] #[{ accessFlags := 1, nameIndex := 5, descriptorIndex := 6, attributes := #[] }, { accessFlags := 9, nameIndex := 28, descriptorIndex := 29, attributes := #[] }] 49 2 #[] #[])
  fields := #[]
  methods := #[k1m0, k1m1]
  instanceTypes := #[]
  staticTypes := #[]
  resolved := Array.replicate 33 none
  statics := none }

def pool2 : Array CpInfo := pool [(1, .class_ 2), (0, u "java/lang/Comparable"), (0, .class_ 4), (0, u "java/lang/Object")] 7

/-- java/lang/Comparable -/
def k2 : Class := { plain "java/lang/Comparable" (some 0) with
  accessFlags := 1537
  interfaces := #[]
  cf := some (fileOf pool2 1 #[] #[] 1537 3 #[] #[])
  fields := #[]
  methods := #[]
  instanceTypes := #[]
  staticTypes := #[]
  resolved := Array.replicate 12 none
  statics := none }

def pool3 : Array CpInfo := pool [(2, .class_ 4), (1, u "java/lang/Object"), (0, u "<init>"), (0, u "()V"), (3, .class_ 12), (1, u "com/example/grenoble/grenoble/tla/Value"), (32, .class_ 46), (0, u "java/lang/Comparable")] 19

def k3m0 : Method := { name := "<init>", desc := "()V", sig := { parameters := [], returnType := none }, accessFlags := 0, code := none }
/-- com/example/grenoble/grenoble/tla/Value -/
def k3 : Class := { plain "com/example/grenoble/grenoble/tla/Value" (some 0) with
  accessFlags := 1056
  interfaces := #[2]
  cf := some (fileOf pool3 10 #[] #[{ accessFlags := 0, nameIndex := 5, descriptorIndex := 6, attributes := #[] }] 1056 2 #[45] #[])
  fields := #[]
  methods := #[k3m0]
  instanceTypes := #[]
  staticTypes := #[]
  resolved := Array.replicate 66 none
  statics := none }

def pool4 : Array CpInfo := pool [(2, .class_ 4), (1, u "com/example/grenoble/grenoble/tla/Value"), (2, .fieldref 8 9), (0, .class_ 10), (0, .nameAndType 11 12), (0, u "com/example/grenoble/grenoble/tla/BoolValue"), (0, u "value"), (0, u "Z"), (0, .fieldref 8 14), (0, .nameAndType 15 16), (0, u "FALSE"), (0, u "Lcom/example/grenoble/grenoble/tla/BoolValue;"), (0, .fieldref 8 18), (0, .nameAndType 19 16), (0, u "TRUE"), (25, u "of"), (0, u "(Z)Lcom/example/grenoble/grenoble/tla/BoolValue;"), (1, u "()Z")] 15

def k4c0 : Code := { maxStack := 1, maxLocals := 2, code := prog_57_method_2_code, exceptionTable := #[], attributes := #[] }
def k4m0 : Method := { name := "of", desc := "(Z)Lcom/example/grenoble/grenoble/tla/BoolValue;", sig := { parameters := [.boolean], returnType := some (.object "com/example/grenoble/grenoble/tla/BoolValue") }, accessFlags := 8, code := some k4c0 }
def k4c1 : Code := { maxStack := 1, maxLocals := 1, code := prog_57_method_3_code, exceptionTable := #[], attributes := #[] }
def k4m1 : Method := { name := "value", desc := "()Z", sig := { parameters := [], returnType := some .boolean }, accessFlags := 0, code := some k4c1 }
/-- com/example/grenoble/grenoble/tla/BoolValue -/
def k4 : Class := { plain "com/example/grenoble/grenoble/tla/BoolValue" (some 3) with
  accessFlags := 48
  interfaces := #[]
  cf := some (fileOf pool4 8 #[] #[{ accessFlags := 8, nameIndex := 45, descriptorIndex := 46, attributes := #[] }, { accessFlags := 0, nameIndex := 11, descriptorIndex := 48, attributes := #[] }] 48 2 #[] #[{ accessFlags := 24, nameIndex := 19, descriptorIndex := 16, attributes := #[] }, { accessFlags := 24, nameIndex := 15, descriptorIndex := 16, attributes := #[] }, { accessFlags := 18, nameIndex := 11, descriptorIndex := 12, attributes := #[] }])
  fields := #[{ name := "TRUE", type := (.object "com/example/grenoble/grenoble/tla/BoolValue"), accessFlags := 24, slot := 0, constantValue := 0 }, { name := "FALSE", type := (.object "com/example/grenoble/grenoble/tla/BoolValue"), accessFlags := 24, slot := 1, constantValue := 0 }, { name := "value", type := .boolean, accessFlags := 18, slot := 0, constantValue := 0 }]
  methods := #[k4m0, k4m1]
  instanceTypes := #[.boolean]
  staticTypes := #[(.object "com/example/grenoble/grenoble/tla/BoolValue"), (.object "com/example/grenoble/grenoble/tla/BoolValue")]
  resolved := Array.replicate 64 none
  statics := some 0 }

def pool5 : Array CpInfo := pool [(1, u "java/lang/Cloneable"), (0, .class_ 1), (0, u "java/lang/Object"), (0, .class_ 3)] 3

/-- java/lang/Cloneable -/
def k5 : Class := { plain "java/lang/Cloneable" (some 0) with
  accessFlags := 1537
  interfaces := #[]
  cf := some (fileOf pool5 2 #[] #[] 1537 4 #[] #[])
  fields := #[]
  methods := #[]
  instanceTypes := #[]
  staticTypes := #[]
  resolved := Array.replicate 8 none
  statics := none }

def pool6 : Array CpInfo := pool [(1, u "java/io/Serializable"), (0, .class_ 1), (0, u "java/lang/Object"), (0, .class_ 3)] 3

/-- java/io/Serializable -/
def k6 : Class := { plain "java/io/Serializable" (some 0) with
  accessFlags := 1537
  interfaces := #[]
  cf := some (fileOf pool6 2 #[] #[] 1537 4 #[] #[])
  fields := #[]
  methods := #[]
  instanceTypes := #[]
  staticTypes := #[]
  resolved := Array.replicate 8 none
  statics := none }

/-- the primitive byte -/
def k7 : Class := { plain "byte" none with kind := .primitive 'B', accessFlags := 0x411 }
/-- [B -/
def k8 : Class := { plain "[B" (some 0) with kind := .array 7 .byte, interfaces := #[5, 6], accessFlags := 1041 }

/-- the primitive int -/
def k9 : Class := { plain "int" none with kind := .primitive 'I', accessFlags := 0x411 }
/-- [I -/
def k10 : Class := { plain "[I" (some 0) with kind := .array 9 .int, interfaces := #[5, 6], accessFlags := 1041 }

def heap : Heap := #[{ cls := 4, slots := #[.ref 2, .ref 1], vm := .statics 4 },
  { cls := 4, slots := #[.int 0], vm := .none },
  { cls := 4, slots := #[.int 1], vm := .none }]
def classes : Array Class := #[k0, k1, k2, k3, k4, k5, k6, k7, k8, k9, k10]
def interned : List (Array UInt16 × Addr) := []
def slotsUsed : Nat := 4
def theMethod : MethodId := ⟨1, 1⟩
def args0 : Array Value := #[.int 5]
def aboutOver (below : List Frame) : State where
  vm := { classes := classes, interned := interned.toArray }
  heap := heap
  slotsUsed := slotsUsed
  threads := #[{ frames := .invoking theMethod args0 :: below }]
def below0 : List Frame := [.native { method := ⟨0, 0⟩, args := #[] }]
def about1 : State := aboutOver below0
def p0 : Program := .bare "" "" ""
def e0 : Env := launch0.env 0 0 0
theorem w_frames : about1.frames = Frame.invoking theMethod args0 :: below0 := rfl
set_option maxRecDepth 65536 in
theorem w_args : argsFit about1.vm theMethod args0 = true := by decide +kernel
set_option maxRecDepth 65536 in
theorem w_heap : heapFits about1 = true := by decide +kernel
set_option maxRecDepth 65536 in
theorem w_runnable : about1.curStatus? = some .runnable := by decide +kernel
set_option maxRecDepth 65536 in
theorem w_alone : about1.alone = true := by decide +kernel
set_option maxRecDepth 65536 in
theorem w_named : about1.methodNamed? x = some theMethod := by decide +kernel
set_option maxRecDepth 65536 in
theorem w_hears : about1.hears theMethod below0 = true := by decide +kernel
set_option maxRecDepth 65536 in
theorem w_ripe : about1.ripe theMethod args0 below0 = true := by decide +kernel
theorem w_running : about1.status = .running := rfl
set_option maxRecDepth 65536 in
theorem w_room : about1.hasRoom e0.platform room_1 = true :=
  launch0.hasRoom_least _ room_1 (by decide +kernel) (by decide +kernel) (by decide +kernel) (by decide +kernel) (by decide +kernel) (by decide +kernel)
theorem allAtoms_all (ts : List Jvm.Cond) (a : Array Jvm.Value) (st : Jvm.State) : (allAtoms ts).before a st = ts.all (fun c => c.before a st) := by
  induction ts with
  | nil => rfl
  | cons c t ih =>
    show (Jvm.Cond.and c (allAtoms t)).before a st = _
    rw [Jvm.Cond.before_and, ih, List.all_cons]
def words1 : List Jvm.Cond := Jvm.Cond.code x code maxLocals ret :: tables_1
/-- a 'code' word, met by the world's own term for the bytes: nothing is compared byte by byte -/
theorem code_word {y : MethodName} {bytes : ByteArray} {mx : Nat} {rt : Option FieldType} {a : Array Value} {s : State} {m : MethodId} {meth : Method} {c : Code} (h1 : s.methodNamed? y = some m) (h2 : s.vm.method? m = some meth) (h3 : meth.code = some c) (h4 : c.code = bytes)
    (h5 : (c.maxLocals == mx && c.exceptionTable.isEmpty && decide (c.maxStack ≤ mostOperands) && decide (meth.sig.returnType = rt) && !meth.locks && decide (parseMethodDescriptor y.desc = some meth.sig)) = true) : (Jvm.Cond.code y bytes mx rt).before a s = true := by
  simp only [Bool.and_eq_true, beq_iff_eq, Bool.not_eq_true', decide_eq_true_eq] at h5
  obtain ⟨⟨⟨⟨⟨g1, g2⟩, g3⟩, g4⟩, g5⟩, g6⟩ := h5
  simp [Cond.before, Cond.holds, Cond.value, h1, h2, h3, h4, g1, g2, g3, g4, g5, g6]
def isCode : Jvm.Cond → Bool
  | .code _ _ _ _ => true
  | _ => false
theorem all_split {L : List Jvm.Cond} {P : Jvm.Cond → Bool} (h1 : L.all (fun c => isCode c || P c) = true) (h2 : ∀ c ∈ L.filter isCode, P c = true) : L.all P = true := by
  refine List.all_eq_true.mpr fun c hc => ?_
  have h := List.all_eq_true.mp h1 c hc
  rcases Bool.eq_false_or_eq_true (isCode c) with hi | hi
  · exact h2 c (List.mem_filter.mpr ⟨hc, hi⟩)
  · simpa [hi] using h
set_option maxRecDepth 65536 in
theorem w_c0 : (Jvm.Cond.code x code maxLocals ret).before args0 about1 = true := code_word (m := ⟨1, 1⟩) (meth := k1m1) (c := k1c1) (by decide +kernel) rfl rfl rfl (by decide +kernel)
set_option maxRecDepth 65536 in
theorem w_c1 : (Jvm.Cond.code ({ cls := "com/example/grenoble/grenoble/tla/BoolValue", name := "of", desc := "(Z)Lcom/example/grenoble/grenoble/tla/BoolValue;" } : Jvm.MethodName) prog_57_method_2_code (2 : Nat) (Option.some (Jvm.ClassFile.FieldType.object "com/example/grenoble/grenoble/tla/BoolValue"))).before args0 about1 = true := code_word (m := ⟨4, 0⟩) (meth := k4m0) (c := k4c0) (by decide +kernel) rfl rfl rfl (by decide +kernel)
set_option maxRecDepth 65536 in
theorem w_c2 : (Jvm.Cond.code ({ cls := "com/example/grenoble/grenoble/tla/BoolValue", name := "value", desc := "()Z" } : Jvm.MethodName) prog_57_method_3_code (1 : Nat) (Option.some Jvm.ClassFile.FieldType.boolean)).before args0 about1 = true := code_word (m := ⟨4, 1⟩) (meth := k4m1) (c := k4c1) (by decide +kernel) rfl rfl rfl (by decide +kernel)
def codes1 : List Jvm.Cond := [Jvm.Cond.code x code maxLocals ret, Jvm.Cond.code ({ cls := "com/example/grenoble/grenoble/tla/BoolValue", name := "of", desc := "(Z)Lcom/example/grenoble/grenoble/tla/BoolValue;" } : Jvm.MethodName) prog_57_method_2_code (2 : Nat) (Option.some (Jvm.ClassFile.FieldType.object "com/example/grenoble/grenoble/tla/BoolValue")), Jvm.Cond.code ({ cls := "com/example/grenoble/grenoble/tla/BoolValue", name := "value", desc := "()Z" } : Jvm.MethodName) prog_57_method_3_code (1 : Nat) (Option.some Jvm.ClassFile.FieldType.boolean)]
set_option maxRecDepth 65536 in
theorem codes_eq : words1.filter isCode = codes1 := rfl
theorem w_codes : ∀ c ∈ words1.filter isCode, c.before args0 about1 = true := by
  rw [codes_eq]
  intro c hc
  simp only [codes1, List.mem_cons, List.not_mem_nil, or_false] at hc
  rcases hc with rfl | rfl | rfl
  · exact w_c0
  · exact w_c1
  · exact w_c2
set_option maxRecDepth 65536 in
theorem w_t1 : words1.all (fun c => isCode c || c.before args0 about1) = true := by decide +kernel
theorem w_tables : (allAtoms (Jvm.Cond.code x code maxLocals ret :: tables_1)).before args0 about1 = true := by
  rw [allAtoms_all]
  show words1.all (fun c => c.before args0 about1) = true
  refine all_split ?_ w_codes
  rw [w_t1]
set_option maxRecDepth 65536 in
theorem w_case : (Jvm.Cond.and given_1 narrow_1).before args0 about1 = true := by decide +kernel
theorem w_applies : (headSpec (Jvm.Cond.code x code maxLocals ret :: tables_1) room_1).applies x e0.platform about1 = true :=
  (Spec.applies_iff w_frames).mpr ⟨w_running, w_runnable, w_alone, w_named, w_hears, w_ripe, w_room, w_tables⟩
theorem atStart : AtStart classFile x code maxLocals ret World_1 tables_1 room_1 Calls_1 rest_1 Pre_1 launch0 p0 e0 about1 theMethod args0 below0 :=
  ⟨lists_1, trivial, launch0.admits_env _ _ _, launch0.least_env, fairChoices_fair.cas, fairChoices_fair.clock, w_frames, w_args, w_heap, w_applies, trivial, trivial, w_case⟩
end start1
theorem witness_1 : WitnessClaimed_1 := ⟨start1.p0, start1.e0, start1.about1, start1.theMethod, start1.args0, start1.below0, start1.atStart⟩
end Jvm.Pilot.@@N@@
