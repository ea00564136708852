import JvmDerived
import JvmDerived.Pilot.@@N@@Statement
import JvmDerived.Pilot.@@N@@Code
set_option linter.unusedVariables false
set_option linter.unusedSimpArgs false
namespace Jvm.OwnGo
open Sem ClassFile Op Lib Jvm.Stand Jvm.Free Jvm.LawKit Jvm.RoadKit
/-- from the state T with the frame g on top the run comes to the body's end, what is left there meets Q, and the end is framed as E says -/
def Go (p : Program) (e : Env) (below : List Frame) (E : Outcome → State → List Loc → Prop) (Q : Option Value → Heap → List Loc → Prop) (T : State) (g : JFrame) : Prop :=
  ∃ s₂ o, Steps p.tables e below (T.setTop g) s₂ ∧ s₂.status = .running ∧ Ended s₂ below o ∧ ∃ v L, o = .returned v ∧ Q v s₂.heap L ∧ E o s₂ L
abbrev En (s : State) (kc ks : Nat) : Outcome → State → List Loc → Prop := fun o t L => FrameEnd s o t L kc ks
/-- the wide end: the run may have interned its literals -/
abbrev EnW (s : State) (kc ks : Nat) : Outcome → State → List Loc → Prop := fun o t L => ReturnedEndW s o t L kc ks
/-- what a body promises, at one heap and one row of arguments -/
def Ctr (l : Launch) (Z : State) (y : MethodName) (bytes : ByteArray) (maxL : Nat) (ret : Option FieldType) (rm : Room) (as : Array Value) (h : Heap) (Q : Option Value → Heap → List Loc → Prop) : Prop :=
  ∀ ws : List Jvm.Cond, MetFree l y (head1 (Jvm.Cond.code y bytes maxL ret :: ws) rm) (fun a U => a = as ∧ Z.Warmed39 U.vm ∧ U.heap = h) (fun _ _ _ _ _ => True) (fun _ U o U' => ∃ v L, o = .returned v ∧ Q v U'.heap L ∧ FrameEnd U o U' L rm.cells rm.slots)
/-- the same of a body that may intern its literals -/
def CtrW (l : Launch) (Z : State) (y : MethodName) (bytes : ByteArray) (maxL : Nat) (ret : Option FieldType) (rm : Room) (as : Array Value) (h : Heap) (Q : Option Value → Heap → List Loc → Prop) : Prop :=
  ∀ ws : List Jvm.Cond, MetFree l y (head1 (Jvm.Cond.code y bytes maxL ret :: ws) rm) (fun a U => a = as ∧ Z.Warmed39 U.vm ∧ U.heap = h) (fun _ _ _ _ _ => True) (fun _ U o U' => ∃ v L, o = .returned v ∧ Q v U'.heap L ∧ ReturnedEndW U o U' L rm.cells rm.slots)
/-- how a walk that stands here may leave -/
def Lv (e : Env) (m : MethodId) (meth : Method) (below : List Frame) (E : Outcome → State → List Loc → Prop) (T : State) (locs : List Loc) : Prop :=
  ∀ v : Option Value, (meth.sig.returnType = none → v = none) → ∃ fs, (∀ (f : JFrame) (acts : List Action), f.method = m → f.locked = none → f.entered = [] → (doReturn e (T.setTop f) acts v).1 = T.setFrames fs) ∧ (T.setFrames fs).status = .running ∧ Ended (T.setFrames fs) below (.returned v) ∧ E (.returned v) (T.setFrames fs) locs
abbrev us (x y : Int32) : Int32 := (x.toUInt32 >>> (y &&& 31).toUInt32).toInt32
abbrev usL (x : Int64) (y : Int32) : Int64 := (x.toUInt64 >>> (y &&& 0x3f).toInt64.toUInt64).toInt64
section G
variable {p : Program} {l : Launch} {e : Env} {R : Room} {s : State} {m : MethodId} {args : Array Value} {below : List Frame} {meth : Method} {c : Code} {T T' : State} {locs : List Loc} {cells slots : Nat} {E : Outcome → State → List Loc → Prop} {Q : Option Value → Heap → List Loc → Prop} {kc ks : Nat} {g g' : JFrame} {Z : State} {a0 : Array Value} {h : Heap}
/-- another state that stands as this one does -/
abbrev Same (X : Stand p l e R s m args below meth c T locs cells slots) (T' : State) : Prop := Stand p l e R s m args below meth c T' locs cells slots
theorem Go.by (st : ∀ t, Steps p.tables e below (T'.setTop g') t → Steps p.tables e below (T.setTop g) t) (k : Go p e below E Q T' g') : Go p e below E Q T g := by
  obtain ⟨s₂, o, h1, h2⟩ := k
  exact ⟨s₂, o, st _ h1, h2⟩
theorem Lv.narrow (X : Stand p l e R s m args below meth c T locs cells slots) (hlk : meth.locks = false) (hc : cells ≤ kc) (hs : slots ≤ ks) : Lv e m meth below (En s kc ks) T locs := by
  intro v hv
  obtain ⟨fs, hr, hrun, hended, hW, hsame⟩ := X.leave (v := v) hv hlk
  exact ⟨fs, hr, hrun, hended, ⟨_, rfl⟩, hW, hsame.mono hc hs⟩
theorem Lv.wide {vm0 : Vm} {k0 : Nat} (X : Stand p l e R (s.setVm vm0) m args below meth c T locs cells slots) (hlk : meth.locks = false) (hS : s.Since vm0 k0) (hk : k0 ≤ T.heap.size) (hc : cells ≤ kc) (hs : slots ≤ ks) : Lv e m meth below (EnW s kc ks) T locs := by
  intro v hv
  obtain ⟨fs, hr, hrun, hended, h1, h2, h3, hsame⟩ := X.leaveW hS hk (v := v) hv hlk
  exact ⟨fs, hr, hrun, hended, h1, h2, h3, hsame.mono hc hs⟩
theorem Go.out (lv : Lv e m meth below E T locs) {v : Option Value} (hv : meth.sig.returnType = none → v = none) (hQ : Q v T.heap locs)
    (st : ∀ fs, (∀ (f : JFrame) (acts : List Action), f.method = m → f.locked = none → f.entered = [] → (doReturn e (T.setTop f) acts v).1 = T.setFrames fs) → Steps p.tables e below (T.setTop g) (T.setFrames fs)) : Go p e below E Q T g := by
  obtain ⟨fs, hr, hrun, hended, hE⟩ := lv v hv
  exact ⟨_, _, st fs hr, hrun, hended, v, locs, rfl, hQ, hE⟩
theorem Go.outV (X : Stand p l e R s m args below meth c T locs cells slots) (hx : p.tables.exec = Jvm.exec) {t : FieldType} {w : Value} {i : Instr} {pc : Nat} {Ls : Array Slot} {rest : List Value} (hret : meth.sig.returnType = some t) (lv : Lv e m meth below E T locs)
    (hn : narrow t w = w)
    (hi : (i = .ireturn ∧ (t = .int ∨ t = .boolean ∨ t = .byte ∨ t = .char ∨ t = .short) ∧ ∃ z, w = .int z) ∨ (i = .lreturn ∧ t = .long ∧ ∃ z, w = .long z) ∨ (i = .dreturn ∧ t = .double ∧ ∃ z, w = .double z) ∨ (i = .freturn ∧ t = .float ∧ ∃ z, w = .float z) ∨ (i = .areturn ∧ t.isReference = true ∧ w.isRef = true))
    (hd : decode c.code pc = .ok (i, 1)) (hQ : Q (some w) T.heap locs) : Go p e below E Q T (mkF m pc Ls (w :: rest)) :=
  Go.out lv (fun h => by rw [hret] at h; cases h) hQ (fun fs hr => retOut X hx hret hn hi hd hr)
theorem Go.outI (X : Stand p l e R s m args below meth c T locs cells slots) (hx : p.tables.exec = Jvm.exec) {z : Int32} {pc : Nat} {Ls : Array Slot} {rest : List Value} (hret : meth.sig.returnType = some .int) (lv : Lv e m meth below E T locs)
    (hd : decode c.code pc = .ok (.ireturn, 1)) (hQ : Q (some (.int z)) T.heap locs) : Go p e below E Q T (mkF m pc Ls (.int z :: rest)) :=
  Go.outV X hx hret lv rfl (Or.inl ⟨rfl, Or.inl rfl, z, rfl⟩) hd hQ
theorem Go.outZ (X : Stand p l e R s m args below meth c T locs cells slots) (hx : p.tables.exec = Jvm.exec) {z : Int32} {pc : Nat} {Ls : Array Slot} {rest : List Value} (hret : meth.sig.returnType = some .boolean) (lv : Lv e m meth below E T locs)
    (hd : decode c.code pc = .ok (.ireturn, 1)) (hz : z = 0 ∨ z = 1) (hQ : Q (some (.int z)) T.heap locs) : Go p e below E Q T (mkF m pc Ls (.int z :: rest)) :=
  Go.outV X hx hret lv (by rcases hz with rfl | rfl <;> rfl) (Or.inl ⟨rfl, Or.inr (Or.inl rfl), z, rfl⟩) hd hQ
theorem Go.outJ (X : Stand p l e R s m args below meth c T locs cells slots) (hx : p.tables.exec = Jvm.exec) {z : Int64} {pc : Nat} {Ls : Array Slot} {rest : List Value} (hret : meth.sig.returnType = some .long) (lv : Lv e m meth below E T locs)
    (hd : decode c.code pc = .ok (.lreturn, 1)) (hQ : Q (some (.long z)) T.heap locs) : Go p e below E Q T (mkF m pc Ls (.long z :: rest)) :=
  Go.outV X hx hret lv rfl (Or.inr (Or.inl ⟨rfl, rfl, z, rfl⟩)) hd hQ
theorem nar_ref {t : FieldType} {w : Value} (ht : t.isReference = true) : narrow t w = w := by cases t <;> first | rfl | (simp [FieldType.isReference] at ht)
theorem Go.outA (X : Stand p l e R s m args below meth c T locs cells slots) (hx : p.tables.exec = Jvm.exec) {w : Value} {t : FieldType} {pc : Nat} {Ls : Array Slot} {rest : List Value} (hret : meth.sig.returnType = some t) (lv : Lv e m meth below E T locs) (ht : t.isReference = true) (hw : w.isRef = true)
    (hd : decode c.code pc = .ok (.areturn, 1)) (hQ : Q (some w) T.heap locs) : Go p e below E Q T (mkF m pc Ls (w :: rest)) :=
  Go.outV X hx hret lv (nar_ref ht) (Or.inr (Or.inr (Or.inr (Or.inr ⟨rfl, ht, hw⟩)))) hd hQ
theorem Go.outN (X : Stand p l e R s m args below meth c T locs cells slots) (hx : p.tables.exec = Jvm.exec) {pc : Nat} {Ls : Array Slot} (hret : meth.sig.returnType = none) (lv : Lv e m meth below E T locs)
    (hd : decode c.code pc = .ok (.return_, 1)) (hQ : Q none T.heap locs) : Go p e below E Q T (mkF m pc Ls []) :=
  Go.out lv (fun _ => rfl) hQ (fun fs hr => X.returnOut hx hret hd hr)
theorem Ctr.of {y : MethodName} {bytes : ByteArray} {maxL : Nat} {ret : Option FieldType} {rm : Room} {as : Array Value} {Ls : Array Slot} (hpn : plainFor y = true) (hef : ∀ m, entryFrame m as maxL = mkF m 0 Ls [])
    (body : ∀ (p : Program) (e : Env) (s : State) (m : MethodId) (below : List Frame) (meth : Method) (c : Code) (T0 : State), p.tables.exec = Jvm.exec → c.code = bytes → c.maxLocals = maxL → meth.sig.returnType = ret → meth.locks = false → meth.name = y.name → Z.Warmed39 s.vm → s.vm.findClass y.cls = some m.cls → T0.heap = h → Stand p l e rm s m as below meth c T0 [] 0 0 → Go p e below (En s rm.cells rm.slots) Q T0 (mkF m 0 Ls [])) :
    Ctr l Z y bytes maxL ret rm as h Q := by
  intro ws
  refine MetFree.of_bodySF hpn hisR ?_
  intro p e s m args below meth c s₁ Bd hml0 hP hK
  obtain ⟨ha, hZ, hh⟩ := hP
  subst ha
  have X0 : Stand p l e rm s m args below meth c s₁ [] 0 0 := Stand.of_body Bd
  obtain ⟨s₂, o, h1, h2⟩ := body p e s m below meth c s₁ Bd.exec Bd.bytes hml0 Bd.returns (BodyLoose.notSynchronized Bd) (name_of_methodNamed Bd.named Bd.method).1 hZ (findClass_of_methodNamed Bd.named) (by rw [← hh, Bd.state]; rfl) X0
  exact ⟨s₂, o, castTop (hef m) h1, h2⟩
theorem CtrW.of {y : MethodName} {bytes : ByteArray} {maxL : Nat} {ret : Option FieldType} {rm : Room} {as : Array Value} {Ls : Array Slot} (hpn : plainFor y = true) (hef : ∀ m, entryFrame m as maxL = mkF m 0 Ls [])
    (body : ∀ (p : Program) (e : Env) (s : State) (vm0 : Vm) (m : MethodId) (below : List Frame) (meth : Method) (c : Code) (T0 : State), p.tables.exec = Jvm.exec → c.code = bytes → c.maxLocals = maxL → meth.sig.returnType = ret → meth.locks = false → meth.name = y.name → s.Since vm0 0 → Z.Warmed39 (s.setVm vm0).vm → (s.setVm vm0).vm.findClass y.cls = some m.cls → T0.heap = h → Stand p l e rm (s.setVm vm0) m as below meth c T0 [] 0 0 → Go p e below (EnW s rm.cells rm.slots) Q T0 (mkF m 0 Ls [])) :
    CtrW l Z y bytes maxL ret rm as h Q := by
  intro ws
  refine MetFree.of_bodySF hpn hisR ?_
  intro p e s m args below meth c s₁ Bd hml0 hP hK
  obtain ⟨ha, hZ, hh⟩ := hP
  subst ha
  have X0 : Stand p l e rm s m args below meth c s₁ [] 0 0 := Stand.of_body Bd
  obtain ⟨s₂, o, h1, h2⟩ := body p e s s.vm m below meth c s₁ Bd.exec Bd.bytes hml0 Bd.returns (BodyLoose.notSynchronized Bd) (name_of_methodNamed Bd.named Bd.method).1 (State.WarmedH.since (State.WarmedH.refl s) 0) hZ (findClass_of_methodNamed Bd.named) (by rw [← hh, Bd.state]; rfl) X0
  exact ⟨s₂, o, castTop (hef m) h1, h2⟩
/-- a contract may promise less -/
theorem Ctr.weaken {y : MethodName} {bytes : ByteArray} {maxL : Nat} {ret : Option FieldType} {rm : Room} {as : Array Value} {Q' : Option Value → Heap → List Loc → Prop} (K : Ctr l Z y bytes maxL ret rm as h Q) (q : ∀ v h' L, Q v h' L → Q' v h' L) : Ctr l Z y bytes maxL ret rm as h Q' := by
  intro ws p e ha hc hk s m args below hf happ hP hK
  obtain ⟨n, o, h1, h2, h3, v, L, h4, h5, h6⟩ := K ws p e ha hc hk s m args below hf happ hP hK
  exact ⟨n, o, h1, h2, h3, v, L, h4, q _ _ _ h5, h6⟩
theorem Go.ldc {vm0 : Vm} {k0 : Nat} (X : Stand p l e R (s.setVm vm0) m args below meth c T locs cells slots) (hx : p.tables.exec = Jvm.exec) (hZ : Z.Warmed39 (s.setVm vm0).vm) {own text : String} {index : Nat} (hown : (s.setVm vm0).vm.findClass own = some m.cls) (w : (Cond.stringLink own index text).before a0 Z = true) (wS : ∀ a ∈ Bundle.stringAtoms, a.before a0 Z = true)
    (eT : T.heap = h) (hS : s.Since vm0 k0) (hk : k0 ≤ h.size) {g : JFrame} (hg : g.method = m) (hd : decode c.code g.pc = .ok (.ldc index, 2)) {n : Nat} (hn : 4 * text.toList.length ≤ n) (hbig : n ≤ 536870912) (hc : cells + 2 ≤ R.cells) (hl : slots + (n + 4) ≤ R.slots)
    (k : ∀ (a : Addr) (T' : State) (h' : Heap) (k1 : Nat), Stand p l e R (s.setVm T'.vm) m args below meth c T' locs (cells + 2) (slots + (n + 4)) → T'.heap = h' → Ext h h' → s.Since T'.vm k1 → k1 ≤ h'.size → Z.Warmed39 (s.setVm T'.vm).vm → (s.setVm T'.vm).vm.findClass own = some m.cls → Go p e below E Q T' { g with pc := g.pc + 2, stack := .ref a :: g.stack }) : Go p e below E Q T g := by
  obtain ⟨a, T', h', k1, X', e', E', hS', hk', hZ', hown', st⟩ := ldcS X hx hZ hown w wS eT hS hk hg hd hn hbig hc hl
  exact Go.by st (k a T' h' k1 X' e' E' hS' hk' hZ' hown')
theorem Go.callS (X : Stand p l e R s m args below meth c T locs cells slots) (hx : p.tables.exec = Jvm.exec) (hZ : Z.Warmed39 s.vm) {own : String} {index : Nat} {y : MethodName} {bytes : ByteArray} {maxL : Nat} {ret : Option FieldType}
    (hown : s.vm.findClass own = some m.cls) (w1 : (Cond.methodLink own index y).before a0 Z = true) (w2 : (Cond.static y).before a0 Z = true) (w3 : (Cond.initialized y.cls).before a0 Z = true)
    (w4 : (Cond.code y bytes maxL ret).before a0 Z = true) (hy : y.cls ≠ "java/lang/invoke/MethodHandle" ∧ y.cls ≠ "java/lang/invoke/VarHandle")
    {W : Nat} {rm : Room} {argsL rest : List Value} {Qc : Option Value → Heap → List Loc → Prop} (hM : Ctr l Z y bytes maxL ret rm argsL.toArray h Qc) (hf : rm.frames + 1 ≤ R.frames) (hl : W + (maxL + 11) + rm.locals ≤ R.locals) (hc : cells + rm.cells ≤ R.cells) (hs : slots + rm.slots ≤ R.slots)
    {g : JFrame} (hg : g.method = m) (hsize : g.locals.size = c.maxLocals) (hlen : ∀ sig, parseMethodDescriptor y.desc = some sig → argsL.length = sig.parameters.length)
    (hstack : g.stack = argsL.reverse ++ rest) (hW : 2 * g.monitorRoom + (rest.map fun v => v.category).sum ≤ W) (hdg : decode c.code g.pc = .ok (.invokestatic index, 3)) (eT : T.heap = h)
    (k : ∀ T' L v, Stand p l e R s m args below meth c T' (locs ++ L) (cells + rm.cells) (slots + rm.slots) → Qc v T'.heap L → Go p e below E Q T' { g with pc := g.pc + 3, stack := v.toList ++ rest }) : Go p e below E Q T g := by
  obtain ⟨v, _, ⟨T3, L3, k3, n3⟩, -, X3, ⟨Lc3, hQ3, l3, y3, z3⟩, st3⟩ := Jvm.LawKit.callS X hx (y := y) hown (mvT hZ w1) (mvT hZ w2) (mvT hZ w3) (mvT hZ w4) hy (backOf (W := W) (hM []) hZ w4 w3 hf hl) (g := g) hg hsize (argsL := argsL) (rest := rest) hlen hstack hW hdg (fun _ _ => ⟨rfl, eT, hc, hs⟩)
  dsimp only [Pt.U, Pt.locs, Pt.cells, Pt.slots] at X3 l3 y3 z3 st3 hQ3
  subst l3 y3 z3
  exact Go.by st3 (k _ _ _ X3 hQ3)
theorem Go.callI (X : Stand p l e R s m args below meth c T locs cells slots) (hx : p.tables.exec = Jvm.exec) (hZ : Z.Warmed39 s.vm) {own : String} {index : Nat} {y : MethodName} {bytes : ByteArray} {maxL : Nat} (hy1 : y.name = "<init>")
    (hown : s.vm.findClass own = some m.cls) (w1 : (Cond.methodLink own index y).before a0 Z = true) (w2 : (Cond.instanceMethod y).before a0 Z = true) (w3 : (Cond.initialized y.cls).before a0 Z = true)
    (w4 : (Cond.code y bytes maxL none).before a0 Z = true) (hy : y.cls ≠ "java/lang/invoke/MethodHandle" ∧ y.cls ≠ "java/lang/invoke/VarHandle")
    {W : Nat} {rm : Room} {a : Addr} {argsL rest : List Value} {Qc : Option Value → Heap → List Loc → Prop} (hM : Ctr l Z y bytes maxL none rm (.ref a :: argsL).toArray h Qc) (hf : rm.frames + 1 ≤ R.frames) (hl : W + (maxL + 11) + rm.locals ≤ R.locals) (hc : cells + rm.cells ≤ R.cells) (hs : slots + rm.slots ≤ R.slots)
    {g : JFrame} (hg : g.method = m) (hsize : g.locals.size = c.maxLocals) (hlen : ∀ sig, parseMethodDescriptor y.desc = some sig → argsL.length = sig.parameters.length)
    (hstack : g.stack = argsL.reverse ++ .ref a :: rest) (hW : 2 * g.monitorRoom + (rest.map fun v => v.category).sum ≤ W) (hdg : decode c.code g.pc = .ok (.invokespecial index, 3)) (eT : T.heap = h)
    (k : ∀ T' L v, Stand p l e R s m args below meth c T' (locs ++ L) (cells + rm.cells) (slots + rm.slots) → Qc v T'.heap L → Go p e below E Q T' { g with pc := g.pc + 3, stack := v.toList ++ rest }) : Go p e below E Q T g := by
  obtain ⟨v, _, ⟨T3, L3, k3, n3⟩, -, X3, ⟨Lc3, hQ3, l3, y3, z3⟩, st3⟩ := X.specialBack hx (y := y) hy1 hown (mvT hZ w1) (mvT hZ w2) (mvT hZ w4) hy (backOf (W := W) (hM []) hZ w4 w3 hf hl) (g := g) hg hsize (Steps.refl _) (a := a) (argsL := argsL) (rest := rest) hlen hstack hW hdg (fun _ _ => ⟨rfl, eT, hc, hs⟩)
  dsimp only [Pt.U, Pt.locs, Pt.cells, Pt.slots] at X3 l3 y3 z3 st3 hQ3
  subst l3 y3 z3
  exact Go.by (fun _ q => st3.trans q) (k _ _ _ X3 hQ3)
/-- invokevirtual, the class that declares the method is a class (hnf) -/
theorem Go.callV (X : Stand p l e R s m args below meth c T locs cells slots) (hx : p.tables.exec = Jvm.exec) (hZ : Z.Warmed39 s.vm) {own C : String} {index : Nat} {y z : MethodName} {bytes : ByteArray} {maxL : Nat} {ret : Option FieldType}
    (hown : s.vm.findClass own = some m.cls) (w1 : (Cond.methodLink own index y).before a0 Z = true) (w2 : (Cond.declares y).before a0 Z = true) (hnf : NotFace s y) (w5 : (Cond.selects C y z).before a0 Z = true) (w6 : (Cond.instanceMethod z).before a0 Z = true) (w3 : (Cond.initialized z.cls).before a0 Z = true)
    (w4 : (Cond.code z bytes maxL ret).before a0 Z = true) (hy : y.cls ≠ "java/lang/invoke/MethodHandle" ∧ y.cls ≠ "java/lang/invoke/VarHandle")
    {W : Nat} {rm : Room} {a : Addr} {argsL rest : List Value} {Qc : Option Value → Heap → List Loc → Prop} (Ex : Exa Z h a C) (hM : Ctr l Z z bytes maxL ret rm (.ref a :: argsL).toArray h Qc) (hf : rm.frames + 1 ≤ R.frames) (hl : W + (maxL + 11) + rm.locals ≤ R.locals) (hc : cells + rm.cells ≤ R.cells) (hs : slots + rm.slots ≤ R.slots)
    {g : JFrame} (hg : g.method = m) (hsize : g.locals.size = c.maxLocals) (hlen : ∀ sig, parseMethodDescriptor y.desc = some sig → argsL.length = sig.parameters.length)
    (hstack : g.stack = argsL.reverse ++ .ref a :: rest) (hW : 2 * g.monitorRoom + (rest.map fun v => v.category).sum ≤ W) (hdg : decode c.code g.pc = .ok (.invokevirtual index, 3)) (eT : T.heap = h)
    (k : ∀ T' L v, Stand p l e R s m args below meth c T' (locs ++ L) (cells + rm.cells) (slots + rm.slots) → Qc v T'.heap L → Go p e below E Q T' { g with pc := g.pc + 3, stack := v.toList ++ rest }) : Go p e below E Q T g := by
  obtain ⟨cq, kq, qa, qb, qc⟩ := isOf hZ eT Ex
  obtain ⟨v, _, ⟨T3, L3, k3, n3⟩, -, X3, ⟨Lc3, hQ3, l3, y3, z3⟩, st3⟩ := X.virtualBack hx (y := y) (z := z) hown (mvT hZ w1) (mvT hZ w2) hnf (mvT hZ w5) (mvT hZ w6) hy (backOf (W := W) (hM []) hZ w4 w3 hf hl) qa qc (g := g) hg hsize (Steps.refl _) (argsL := argsL) (rest := rest) hlen hstack hW hdg (fun _ _ => ⟨rfl, eT, hc, hs⟩)
  dsimp only [Pt.U, Pt.locs, Pt.cells, Pt.slots] at X3 l3 y3 z3 st3 hQ3
  subst l3 y3 z3
  exact Go.by (fun _ q => st3.trans q) (k _ _ _ X3 hQ3)
/-- a private method, by invokevirtual -/
theorem Go.callP (X : Stand p l e R s m args below meth c T locs cells slots) (hx : p.tables.exec = Jvm.exec) (hZ : Z.Warmed39 s.vm) {own C : String} {index : Nat} {y : MethodName} {bytes : ByteArray} {maxL : Nat} {ret : Option FieldType}
    (hown : s.vm.findClass own = some m.cls) (w1 : (Cond.methodLink own index y).before a0 Z = true) (w2 : (Cond.instanceMethod y).before a0 Z = true) (w5 : (Cond.selects y.cls y y).before a0 Z = true) (w6 : (Cond.privateMethod y).before a0 Z = true) (w3 : (Cond.initialized y.cls).before a0 Z = true)
    (w4 : (Cond.code y bytes maxL ret).before a0 Z = true) (hy : y.cls ≠ "java/lang/invoke/MethodHandle" ∧ y.cls ≠ "java/lang/invoke/VarHandle")
    {W : Nat} {rm : Room} {a : Addr} {argsL rest : List Value} {Qc : Option Value → Heap → List Loc → Prop} (Ex : Exa Z h a C) (hM : Ctr l Z y bytes maxL ret rm (.ref a :: argsL).toArray h Qc) (hf : rm.frames + 1 ≤ R.frames) (hl : W + (maxL + 11) + rm.locals ≤ R.locals) (hc : cells + rm.cells ≤ R.cells) (hs : slots + rm.slots ≤ R.slots)
    {g : JFrame} (hg : g.method = m) (hsize : g.locals.size = c.maxLocals) (hlen : ∀ sig, parseMethodDescriptor y.desc = some sig → argsL.length = sig.parameters.length)
    (hstack : g.stack = argsL.reverse ++ .ref a :: rest) (hW : 2 * g.monitorRoom + (rest.map fun v => v.category).sum ≤ W) (hdg : decode c.code g.pc = .ok (.invokevirtual index, 3)) (eT : T.heap = h)
    (k : ∀ T' L v, Stand p l e R s m args below meth c T' (locs ++ L) (cells + rm.cells) (slots + rm.slots) → Qc v T'.heap L → Go p e below E Q T' { g with pc := g.pc + 3, stack := v.toList ++ rest }) : Go p e below E Q T g := by
  obtain ⟨cq, q1, q2⟩ := Ex.cell
  obtain ⟨v, _, ⟨T3, L3, k3, n3⟩, -, X3, ⟨Lc3, hQ3, l3, y3, z3⟩, st3⟩ := X.privateBack hx (y := y) hown (mvT hZ w1) (mvT hZ w2) (mvT hZ w5) (Cond.privateMethod_at (mvP hZ w6 (args := #[]))) (mvT hZ w4) hy (backOf (W := W) (hM []) hZ w4 w3 hf hl) (g := g) hg hsize (Steps.refl _) (a := a) (by rw [eT]; exact q1) q2 (argsL := argsL) (rest := rest) hlen hstack hW hdg (fun _ _ => ⟨rfl, eT, hc, hs⟩)
  dsimp only [Pt.U, Pt.locs, Pt.cells, Pt.slots] at X3 l3 y3 z3 st3 hQ3
  subst l3 y3 z3
  exact Go.by (fun _ q => st3.trans q) (k _ _ _ X3 hQ3)
/-- invokeinterface -/
theorem Go.callF (X : Stand p l e R s m args below meth c T locs cells slots) (hx : p.tables.exec = Jvm.exec) (hZ : Z.Warmed39 s.vm) {own C : String} {index count : Nat} {y z : MethodName} {bytes : ByteArray} {maxL : Nat} {ret : Option FieldType}
    (hown : s.vm.findClass own = some m.cls) (w1 : (Cond.methodLink own index y).before a0 Z = true) (w2 : (Cond.declares y).before a0 Z = true) (w7 : (Cond.interfaceMethod y.cls y.cls y.name y.desc).before args s = true) (w5 : (Cond.selects C y z).before a0 Z = true) (w6 : (Cond.instanceMethod z).before a0 Z = true) (w8 : (Cond.publicMethod z).before a0 Z = true) (w9 : (Cond.unhidden C y.name y.desc).before a0 Z = true) (w10 : (Cond.castable C y.cls).before a0 Z = true) (w3 : (Cond.initialized z.cls).before a0 Z = true)
    (w4 : (Cond.code z bytes maxL ret).before a0 Z = true) (hy : y.cls ≠ "java/lang/invoke/MethodHandle" ∧ y.cls ≠ "java/lang/invoke/VarHandle")
    {W : Nat} {rm : Room} {a : Addr} {argsL rest : List Value} {Qc : Option Value → Heap → List Loc → Prop} (Ex : Exa Z h a C) (hM : Ctr l Z z bytes maxL ret rm (.ref a :: argsL).toArray h Qc) (hf : rm.frames + 1 ≤ R.frames) (hl : W + (maxL + 11) + rm.locals ≤ R.locals) (hc : cells + rm.cells ≤ R.cells) (hs : slots + rm.slots ≤ R.slots)
    {g : JFrame} (hg : g.method = m) (hsize : g.locals.size = c.maxLocals) (hlen : ∀ sig, parseMethodDescriptor y.desc = some sig → argsL.length = sig.parameters.length)
    (hstack : g.stack = argsL.reverse ++ .ref a :: rest) (hW : 2 * g.monitorRoom + (rest.map fun v => v.category).sum ≤ W) (hdg : decode c.code g.pc = .ok (.invokeinterface index count, 5)) (eT : T.heap = h)
    (k : ∀ T' L v, Stand p l e R s m args below meth c T' (locs ++ L) (cells + rm.cells) (slots + rm.slots) → Qc v T'.heap L → Go p e below E Q T' { g with pc := g.pc + 5, stack := v.toList ++ rest }) : Go p e below E Q T g := by
  obtain ⟨cq, kq, qa, qb, qc⟩ := isOf hZ eT Ex
  obtain ⟨v, _, ⟨T3, L3, k3, n3⟩, -, X3, ⟨Lc3, hQ3, l3, y3, z3⟩, st3⟩ := X.interfaceBack hx (xi := y) (y := z) hown (mvT hZ w1) (mvT hZ w2) w7 (mvT hZ w5) (mvT hZ w6) (mvT hZ w8) (mvT hZ w9) (mvT hZ w10) hy (backOf (W := W) (hM []) hZ w4 w3 hf hl) qa qb qc (g := g) hg hsize (Steps.refl _) (argsL := argsL) (rest := rest) hlen hstack hW hdg (fun _ _ => ⟨rfl, eT, hc, hs⟩)
  dsimp only [Pt.U, Pt.locs, Pt.cells, Pt.slots] at X3 l3 y3 z3 st3 hQ3
  subst l3 y3 z3
  exact Go.by (fun _ q => st3.trans q) (k _ _ _ X3 hQ3)
/-- a callee that may intern: invokevirtual -/
theorem Go.callVW {vm0 : Vm} {k0 : Nat} (X : Stand p l e R (s.setVm vm0) m args below meth c T locs cells slots) (hx : p.tables.exec = Jvm.exec) (hS : s.Since vm0 k0) (hk : k0 ≤ h.size) (hZ : Z.Warmed39 (s.setVm vm0).vm) {own C : String} {index : Nat} {y z : MethodName} {bytes : ByteArray} {maxL : Nat} {ret : Option FieldType}
    (hown : (s.setVm vm0).vm.findClass own = some m.cls) (w1 : (Cond.methodLink own index y).before a0 Z = true) (w2 : (Cond.declares y).before a0 Z = true) (hnf : NotFace (s.setVm vm0) y) (w5 : (Cond.selects C y z).before a0 Z = true) (w6 : (Cond.instanceMethod z).before a0 Z = true) (w3 : (Cond.initialized z.cls).before a0 Z = true)
    (w4 : (Cond.code z bytes maxL ret).before a0 Z = true) (hy : y.cls ≠ "java/lang/invoke/MethodHandle" ∧ y.cls ≠ "java/lang/invoke/VarHandle")
    {W : Nat} {rm : Room} {a : Addr} {argsL rest : List Value} {Qc : Option Value → Heap → List Loc → Prop} (Ex : Exa Z h a C) (hM : CtrW l Z z bytes maxL ret rm (.ref a :: argsL).toArray h Qc) (hf : rm.frames + 1 ≤ R.frames) (hl : W + (maxL + 11) + rm.locals ≤ R.locals) (hc : cells + rm.cells ≤ R.cells) (hs : slots + rm.slots ≤ R.slots)
    {g : JFrame} (hg : g.method = m) (hsize : g.locals.size = c.maxLocals) (hlen : ∀ sig, parseMethodDescriptor y.desc = some sig → argsL.length = sig.parameters.length)
    (hstack : g.stack = argsL.reverse ++ .ref a :: rest) (hW : 2 * g.monitorRoom + (rest.map fun v => v.category).sum ≤ W) (hdg : decode c.code g.pc = .ok (.invokevirtual index, 3)) (eT : T.heap = h)
    (k : ∀ T' L v, Stand p l e R (s.setVm T'.vm) m args below meth c T' (locs ++ L) (cells + rm.cells) (slots + rm.slots) → s.Since T'.vm T'.heap.size → Z.Warmed39 (s.setVm T'.vm).vm → (s.setVm T'.vm).vm.findClass own = some m.cls → Qc v T'.heap L → Go p e below E Q T' { g with pc := g.pc + 3, stack := v.toList ++ rest }) : Go p e below E Q T g := by
  obtain ⟨cq, kq, qa, qb, qc⟩ := isOf hZ eT Ex
  obtain ⟨v, _, ⟨T3, L3, k3, n3⟩, -, X3, hS3, hgr, ⟨Lc3, hQ3, l3, y3, z3⟩, st3⟩ := X.virtualBackS hx (y := y) (z := z) hown (mvT hZ w1) (mvT hZ w2) hnf (mvT hZ w5) (mvT hZ w6) hy (backOfS (W := W) (hM []) hZ w4 w3 hf hl) qa qc (g := g) hg hsize (Steps.refl _) (argsL := argsL) (rest := rest) hlen hstack hW hdg (fun _ _ => ⟨rfl, eT, hc, hs⟩)
  dsimp only [Pt.U, Pt.locs, Pt.cells, Pt.slots] at X3 l3 y3 z3 st3 hQ3 hS3 hgr
  subst l3 y3 z3
  obtain ⟨X4, hS4, hZ4, hown4⟩ := rebS hS (by rw [eT]; exact hk) X3 hS3 hgr hZ hown
  exact Go.by (fun _ q => st3.trans q) (k _ _ _ X4 hS4 hZ4 hown4 hQ3)
/-- a callee that may intern: a constructor -/
theorem Go.callIW {vm0 : Vm} {k0 : Nat} (X : Stand p l e R (s.setVm vm0) m args below meth c T locs cells slots) (hx : p.tables.exec = Jvm.exec) (hS : s.Since vm0 k0) (hk : k0 ≤ h.size) (hZ : Z.Warmed39 (s.setVm vm0).vm) {own : String} {index : Nat} {y : MethodName} {bytes : ByteArray} {maxL : Nat} (hy1 : y.name = "<init>")
    (hown : (s.setVm vm0).vm.findClass own = some m.cls) (w1 : (Cond.methodLink own index y).before a0 Z = true) (w2 : (Cond.instanceMethod y).before a0 Z = true) (w3 : (Cond.initialized y.cls).before a0 Z = true)
    (w4 : (Cond.code y bytes maxL none).before a0 Z = true) (hy : y.cls ≠ "java/lang/invoke/MethodHandle" ∧ y.cls ≠ "java/lang/invoke/VarHandle")
    {W : Nat} {rm : Room} {a : Addr} {argsL rest : List Value} {Qc : Option Value → Heap → List Loc → Prop} (hM : CtrW l Z y bytes maxL none rm (.ref a :: argsL).toArray h Qc) (hf : rm.frames + 1 ≤ R.frames) (hl : W + (maxL + 11) + rm.locals ≤ R.locals) (hc : cells + rm.cells ≤ R.cells) (hs : slots + rm.slots ≤ R.slots)
    {g : JFrame} (hg : g.method = m) (hsize : g.locals.size = c.maxLocals) (hlen : ∀ sig, parseMethodDescriptor y.desc = some sig → argsL.length = sig.parameters.length)
    (hstack : g.stack = argsL.reverse ++ .ref a :: rest) (hW : 2 * g.monitorRoom + (rest.map fun v => v.category).sum ≤ W) (hdg : decode c.code g.pc = .ok (.invokespecial index, 3)) (eT : T.heap = h)
    (k : ∀ T' L v, Stand p l e R (s.setVm T'.vm) m args below meth c T' (locs ++ L) (cells + rm.cells) (slots + rm.slots) → s.Since T'.vm T'.heap.size → Z.Warmed39 (s.setVm T'.vm).vm → (s.setVm T'.vm).vm.findClass own = some m.cls → Qc v T'.heap L → Go p e below E Q T' { g with pc := g.pc + 3, stack := v.toList ++ rest }) : Go p e below E Q T g := by
  obtain ⟨v, _, ⟨T3, L3, k3, n3⟩, -, X3, hS3, hgr, ⟨Lc3, hQ3, l3, y3, z3⟩, st3⟩ := X.specialBackS hx (y := y) hy1 hown (mvT hZ w1) (mvT hZ w2) (mvT hZ w4) hy (backOfS (W := W) (hM []) hZ w4 w3 hf hl) (g := g) hg hsize (Steps.refl _) (a := a) (argsL := argsL) (rest := rest) hlen hstack hW hdg (fun _ _ => ⟨rfl, eT, hc, hs⟩)
  dsimp only [Pt.U, Pt.locs, Pt.cells, Pt.slots] at X3 l3 y3 z3 st3 hQ3 hS3 hgr
  subst l3 y3 z3
  obtain ⟨X4, hS4, hZ4, hown4⟩ := rebS hS (by rw [eT]; exact hk) X3 hS3 hgr hZ hown
  exact Go.by (fun _ q => st3.trans q) (k _ _ _ X4 hS4 hZ4 hown4 hQ3)
/-- a callee that may intern: a static method -/
theorem Go.callSW {vm0 : Vm} {k0 : Nat} (X : Stand p l e R (s.setVm vm0) m args below meth c T locs cells slots) (hx : p.tables.exec = Jvm.exec) (hS : s.Since vm0 k0) (hk : k0 ≤ h.size) (hZ : Z.Warmed39 (s.setVm vm0).vm) {own : String} {index : Nat} {y : MethodName} {bytes : ByteArray} {maxL : Nat} {ret : Option FieldType}
    (hown : (s.setVm vm0).vm.findClass own = some m.cls) (w1 : (Cond.methodLink own index y).before a0 Z = true) (w2 : (Cond.static y).before a0 Z = true) (w3 : (Cond.initialized y.cls).before a0 Z = true)
    (w4 : (Cond.code y bytes maxL ret).before a0 Z = true) (hy : y.cls ≠ "java/lang/invoke/MethodHandle" ∧ y.cls ≠ "java/lang/invoke/VarHandle")
    {W : Nat} {rm : Room} {argsL rest : List Value} {Qc : Option Value → Heap → List Loc → Prop} (hM : CtrW l Z y bytes maxL ret rm argsL.toArray h Qc) (hf : rm.frames + 1 ≤ R.frames) (hl : W + (maxL + 11) + rm.locals ≤ R.locals) (hc : cells + rm.cells ≤ R.cells) (hs : slots + rm.slots ≤ R.slots)
    {g : JFrame} (hg : g.method = m) (hsize : g.locals.size = c.maxLocals) (hlen : ∀ sig, parseMethodDescriptor y.desc = some sig → argsL.length = sig.parameters.length)
    (hstack : g.stack = argsL.reverse ++ rest) (hW : 2 * g.monitorRoom + (rest.map fun v => v.category).sum ≤ W) (hdg : decode c.code g.pc = .ok (.invokestatic index, 3)) (eT : T.heap = h)
    (k : ∀ T' L v, Stand p l e R (s.setVm T'.vm) m args below meth c T' (locs ++ L) (cells + rm.cells) (slots + rm.slots) → s.Since T'.vm T'.heap.size → Z.Warmed39 (s.setVm T'.vm).vm → (s.setVm T'.vm).vm.findClass own = some m.cls → Qc v T'.heap L → Go p e below E Q T' { g with pc := g.pc + 3, stack := v.toList ++ rest }) : Go p e below E Q T g := by
  obtain ⟨v, _, ⟨T3, L3, k3, n3⟩, -, X3, hS3, hgr, ⟨Lc3, hQ3, l3, y3, z3⟩, st3⟩ := Jvm.RoadKit.callSS X hx (y := y) hown (mvT hZ w1) (mvT hZ w2) (mvT hZ w3) (mvT hZ w4) hy (backOfS (W := W) (hM []) hZ w4 w3 hf hl) (g := g) hg hsize (argsL := argsL) (rest := rest) hlen hstack hW hdg (fun _ _ => ⟨rfl, eT, hc, hs⟩)
  dsimp only [Pt.U, Pt.locs, Pt.cells, Pt.slots] at X3 l3 y3 z3 st3 hQ3 hS3 hgr
  subst l3 y3 z3
  obtain ⟨X4, hS4, hZ4, hown4⟩ := rebS hS (by rw [eT]; exact hk) X3 hS3 hgr hZ hown
  exact Go.by (fun _ q => st3.trans q) (k _ _ _ X4 hS4 hZ4 hown4 hQ3)
end G
section A
variable {p : Program} {l : Launch} {e : Env} {R : Room} {s : State} {m : MethodId} {args : Array Value} {below : List Frame} {meth : Method} {c : Code} {T : State} {locs : List Loc} {cells slots : Nat} {Z : State} {h : Heap} {a : Addr} {k : ClassId} {n : Int32} {vs : List Value} {d : Value}
theorem stIA (X : Stand p l e R s m args below meth c T locs cells slots) (hx : p.tables.exec = Jvm.exec) (hZ : Z.Warmed39 s.vm) (eT : T.heap = h) (V : Arv Z h a k .int n vs d) {j x : Int32} (i : Nat) (hj : j.toNatClampNeg = i) (hj0 : ¬ j < 0) (hjn : j < n) (hi : i < vs.length) {g : JFrame} (hg : g.method = m) {rest : List Value} (hs : g.stack = .int x :: .int j :: .ref a :: rest) (hd : decode c.code g.pc = .ok (.iastore, 1)) :
    ∃ T' h', Stand p l e R s m args below meth c T' (locs ++ [⟨a, j.toNatClampNeg⟩]) cells slots ∧ T'.heap = h' ∧ Wr h h' a j.toNatClampNeg (.int x) ∧ Arv Z h' a k .int n (vs.set i (.int x)) d ∧ ∀ target, Steps p.tables e below (T'.setTop { g with pc := g.pc + 1, stack := rest }) target → Steps p.tables e below (T.setTop g) target := by
  obtain ⟨cl, Ar, q, S, M, H, U⟩ := V
  obtain ⟨T', h', X', e', W', st'⟩ := stI X hx hZ eT Ar (j := j) (inb_of S ⟨hj0, hjn⟩) hg hs hd
  exact ⟨T', h', X', e', W', Arv.set Ar q S M H U rfl W' i hj hi, st'⟩
theorem stBA (X : Stand p l e R s m args below meth c T locs cells slots) (hx : p.tables.exec = Jvm.exec) (hZ : Z.Warmed39 s.vm) (eT : T.heap = h) (V : Arv Z h a k .byte n vs d) {j x : Int32} (i : Nat) (hj : j.toNatClampNeg = i) (hj0 : ¬ j < 0) (hjn : j < n) (hi : i < vs.length) {g : JFrame} (hg : g.method = m) {rest : List Value} (hs : g.stack = .int x :: .int j :: .ref a :: rest) (hd : decode c.code g.pc = .ok (.bastore, 1)) :
    ∃ T' h', Stand p l e R s m args below meth c T' (locs ++ [⟨a, j.toNatClampNeg⟩]) cells slots ∧ T'.heap = h' ∧ Wr h h' a j.toNatClampNeg (.int x.toInt8.toInt32) ∧ Arv Z h' a k .byte n (vs.set i (.int x.toInt8.toInt32)) d ∧ ∀ target, Steps p.tables e below (T'.setTop { g with pc := g.pc + 1, stack := rest }) target → Steps p.tables e below (T.setTop g) target := by
  obtain ⟨cl, Ar, q, S, M, H, U⟩ := V
  obtain ⟨T', h', X', e', W', st'⟩ := stB X hx hZ eT Ar (j := j) (inb_of S ⟨hj0, hjn⟩) hg hs hd
  exact ⟨T', h', X', e', W', Arv.set Ar q S M H U (fits_nar_byte x) W' i hj hi, st'⟩
theorem ldIA (X : Stand p l e R s m args below meth c T locs cells slots) (hx : p.tables.exec = Jvm.exec) (hZ : Z.Warmed39 s.vm) (eT : T.heap = h) (V : Arv Z h a k .int n vs d) {j : Int32} {v : Value} (hj0 : ¬ j < 0) (hjn : j < n) (hv : vs.getD j.toNatClampNeg d = v) {g : JFrame} (hg : g.method = m) {rest : List Value} (hs : g.stack = .int j :: .ref a :: rest) (hd : decode c.code g.pc = .ok (.iaload, 1)) :
    ∀ target, Steps p.tables e below (T.setTop { g with pc := g.pc + 1, stack := v :: rest }) target → Steps p.tables e below (T.setTop g) target := by
  obtain ⟨cl, Ar, q, S, M, H, U⟩ := V
  have hin := inb_of S ⟨hj0, hjn⟩
  intro target kt
  exact X.iaload hx (j := j) (v := v) (by rw [eT]; exact Ar.1) (State.isArrayOf_alike hZ.alike Ar.2.1) Ar.2.2 hin (H.at hin hv) hg hs hd _ kt
theorem ldBA (X : Stand p l e R s m args below meth c T locs cells slots) (hx : p.tables.exec = Jvm.exec) (hZ : Z.Warmed39 s.vm) (eT : T.heap = h) (V : Arv Z h a k .byte n vs d) {j : Int32} {v : Value} (hj0 : ¬ j < 0) (hjn : j < n) (hv : vs.getD j.toNatClampNeg d = v) {g : JFrame} (hg : g.method = m) {rest : List Value} (hs : g.stack = .int j :: .ref a :: rest) (hd : decode c.code g.pc = .ok (.baload, 1)) :
    ∀ target, Steps p.tables e below (T.setTop { g with pc := g.pc + 1, stack := v :: rest }) target → Steps p.tables e below (T.setTop g) target := by
  obtain ⟨cl, Ar, q, S, M, H, U⟩ := V
  have hin := inb_of S ⟨hj0, hjn⟩
  intro target kt
  exact X.baloadBytes hx (j := j) (v := v) (by rw [eT]; exact Ar.1) (State.isArrayOf_alike hZ.alike Ar.2.1) Ar.2.2 hin (H.at hin hv) hg hs hd _ kt
theorem lnA {ty : FieldType} (X : Stand p l e R s m args below meth c T locs cells slots) (hx : p.tables.exec = Jvm.exec) (hZ : Z.Warmed39 s.vm) (eT : T.heap = h) (V : Arv Z h a k ty n vs d) {g : JFrame} (hg : g.method = m) {rest : List Value} (hs : g.stack = .ref a :: rest) (hd : decode c.code g.pc = .ok (.arraylength, 1)) :
    ∀ target, Steps p.tables e below (T.setTop { g with pc := g.pc + 1, stack := .int n :: rest }) target → Steps p.tables e below (T.setTop g) target := by
  obtain ⟨cl, Ar, q, S, M, H, U⟩ := V
  intro target kt
  refine X.arraylength hx (by rw [eT]; exact Ar.1) (State.isArrayOf_alike hZ.alike Ar.2.1) hg hs hd _ ?_
  rw [len_of S M]
  exact kt
theorem fitsR {ty : FieldType} {y : Addr} (hty : ty.isReference = true) : fits ty (.ref y) = true := by cases ty <;> first | rfl | (simp [FieldType.isReference] at hty)
theorem stRA {ty : FieldType} {C : String} (X : Stand p l e R s m args below meth c T locs cells slots) (hx : p.tables.exec = Jvm.exec) (hZ : Z.Warmed39 s.vm) (eT : T.heap = h) (V : Arv Z h a k ty n vs d) (O : Ovr Z k C) {y : Addr} (I : Ins Z h y C true) (hty : ty.isReference = true) {j : Int32} (i : Nat) (hj : j.toNatClampNeg = i) (hj0 : ¬ j < 0) (hjn : j < n) (hi : i < vs.length) {g : JFrame} (hg : g.method = m) {rest : List Value} (hs : g.stack = .ref y :: .int j :: .ref a :: rest) (hd : decode c.code g.pc = .ok (.aastore, 1)) :
    ∃ T' h', Stand p l e R s m args below meth c T' (locs ++ [⟨a, j.toNatClampNeg⟩]) cells slots ∧ T'.heap = h' ∧ Wr h h' a j.toNatClampNeg (.ref y) ∧ Arv Z h' a k ty n (vs.set i (.ref y)) d ∧ ∀ target, Steps p.tables e below (T'.setTop { g with pc := g.pc + 1, stack := rest }) target → Steps p.tables e below (T.setTop g) target := by
  obtain ⟨cl, Ar, q, S, M, H, U⟩ := V
  obtain ⟨T', h', X', e', W', st'⟩ := stR X hx hZ eT Ar (j := j) (inb_of S ⟨hj0, hjn⟩) hty (Sto.ofV Ar q O I) hg hs hd
  exact ⟨T', h', X', e', W', Arv.set Ar q S M H U (fitsR hty) W' i hj hi, st'⟩
theorem ldRA {ty : FieldType} (X : Stand p l e R s m args below meth c T locs cells slots) (hx : p.tables.exec = Jvm.exec) (hZ : Z.Warmed39 s.vm) (eT : T.heap = h) (V : Arv Z h a k ty n vs d) (hty : ty.isReference = true) {j : Int32} {v : Value} (hj0 : ¬ j < 0) (hjn : j < n) (hv : vs.getD j.toNatClampNeg d = v) {g : JFrame} (hg : g.method = m) {rest : List Value} (hs : g.stack = .int j :: .ref a :: rest) (hd : decode c.code g.pc = .ok (.aaload, 1)) :
    ∀ target, Steps p.tables e below (T.setTop { g with pc := g.pc + 1, stack := v :: rest }) target → Steps p.tables e below (T.setTop g) target := by
  obtain ⟨cl, Ar, q, S, M, H, U⟩ := V
  have hin := inb_of S ⟨hj0, hjn⟩
  intro target kt
  exact X.aaload hx (j := j) (v := v) (by rw [eT]; exact Ar.1) (State.isArrayOf_alike hZ.alike Ar.2.1) hty Ar.2.2 hin (H.at hin hv) hg hs hd _ kt
end A
end Jvm.OwnGo
namespace Jvm.Pilot.@@N@@
open Jvm Jvm.ClassFile Sem Op Lib Jvm.Free Jvm.Stand Jvm.LawKit Jvm.RoadKit Jvm.OwnGo Bundle Jvm.Pilot.@@N@@.Jvm.D

theorem pn_0 : plainName "com/example/grenoble/grenoble/tla/TokenCursorFencePinLaw" = true := by first | (simp [plainName, overriddenIn]; done) | decide +kernel
theorem pf_0 : plainFor x = true := plainFor_of_name pn_0
theorem pd_0 : parseMethodDescriptor "(IIII)Z" = some ⟨[.int, .int, .int, .int], (some .boolean)⟩ := by decide +kernel
theorem d5_0 : decode prog_150_method_1_code 0 = .ok (.aload_n 0, 1) := by decide +kernel
theorem d5_1 : decode prog_150_method_1_code 1 = .ok (.invokespecial 1, 3) := by decide +kernel
theorem d5_4 : decode prog_150_method_1_code 4 = .ok (.aload_n 0, 1) := by decide +kernel
theorem d5_5 : decode prog_150_method_1_code 5 = .ok (.aload_n 1, 1) := by decide +kernel
theorem d5_6 : decode prog_150_method_1_code 6 = .ok (.putfield 7, 3) := by decide +kernel
theorem d5_9 : decode prog_150_method_1_code 9 = .ok (.aload_n 0, 1) := by decide +kernel
theorem d5_10 : decode prog_150_method_1_code 10 = .ok (.aload_n 2, 1) := by decide +kernel
theorem d5_11 : decode prog_150_method_1_code 11 = .ok (.putfield 13, 3) := by decide +kernel
theorem d5_14 : decode prog_150_method_1_code 14 = .ok (.aload_n 0, 1) := by decide +kernel
theorem d5_15 : decode prog_150_method_1_code 15 = .ok (.iload_n 3, 1) := by decide +kernel
theorem d5_16 : decode prog_150_method_1_code 16 = .ok (.putfield 17, 3) := by decide +kernel
theorem d5_19 : decode prog_150_method_1_code 19 = .ok (.aload_n 0, 1) := by decide +kernel
theorem d5_20 : decode prog_150_method_1_code 20 = .ok (.iload 4, 2) := by decide +kernel
theorem d5_22 : decode prog_150_method_1_code 22 = .ok (.putfield 21, 3) := by decide +kernel
theorem d5_25 : decode prog_150_method_1_code 25 = .ok (.return_, 1) := by decide +kernel
theorem pn_5 : plainName "com/example/grenoble/grenoble/tla/Token" = true := by first | (simp [plainName, overriddenIn]; done) | decide +kernel
theorem pf_5 : plainFor (⟨"com/example/grenoble/grenoble/tla/Token", "<init>", "(Lcom/example/grenoble/grenoble/tla/Token$Kind;Ljava/lang/String;II)V"⟩ : MethodName) = true := plainFor_of_name pn_5
theorem pd_5 : parseMethodDescriptor "(Lcom/example/grenoble/grenoble/tla/Token$Kind;Ljava/lang/String;II)V" = some ⟨[(.object "com/example/grenoble/grenoble/tla/Token$Kind"), (.object "java/lang/String"), .int, .int], none⟩ := by decide +kernel
theorem d11_0 : decode prog_152_method_1_code 0 = .ok (.aload_n 0, 1) := by decide +kernel
theorem d11_1 : decode prog_152_method_1_code 1 = .ok (.invokespecial 1, 3) := by decide +kernel
theorem d11_4 : decode prog_152_method_1_code 4 = .ok (.aload_n 0, 1) := by decide +kernel
theorem d11_5 : decode prog_152_method_1_code 5 = .ok (.iconst (-1), 1) := by decide +kernel
theorem d11_6 : decode prog_152_method_1_code 6 = .ok (.putfield 7, 3) := by decide +kernel
theorem d11_9 : decode prog_152_method_1_code 9 = .ok (.aload_n 0, 1) := by decide +kernel
theorem d11_10 : decode prog_152_method_1_code 10 = .ok (.aload_n 1, 1) := by decide +kernel
theorem d11_11 : decode prog_152_method_1_code 11 = .ok (.putfield 13, 3) := by decide +kernel
theorem d11_14 : decode prog_152_method_1_code 14 = .ok (.aload_n 0, 1) := by decide +kernel
theorem d11_15 : decode prog_152_method_1_code 15 = .ok (.aload_n 2, 1) := by decide +kernel
theorem d11_16 : decode prog_152_method_1_code 16 = .ok (.putfield 17, 3) := by decide +kernel
theorem d11_19 : decode prog_152_method_1_code 19 = .ok (.return_, 1) := by decide +kernel
theorem pn_11 : plainName "com/example/grenoble/grenoble/tla/TokenCursor" = true := by first | (simp [plainName, overriddenIn]; done) | decide +kernel
theorem pf_11 : plainFor (⟨"com/example/grenoble/grenoble/tla/TokenCursor", "<init>", "(Ljava/lang/String;Ljava/util/List;)V"⟩ : MethodName) = true := plainFor_of_name pn_11
theorem pd_11 : parseMethodDescriptor "(Ljava/lang/String;Ljava/util/List;)V" = some ⟨[(.object "java/lang/String"), (.object "java/util/List")], none⟩ := by decide +kernel
theorem d12_0 : decode prog_152_method_8_code 0 = .ok (.aload_n 0, 1) := by decide +kernel
theorem d12_1 : decode prog_152_method_8_code 1 = .ok (.getfield 7, 3) := by decide +kernel
theorem d12_4 : decode prog_152_method_8_code 4 = .ok (.istore_n 2, 1) := by decide +kernel
theorem d12_5 : decode prog_152_method_8_code 5 = .ok (.aload_n 0, 1) := by decide +kernel
theorem d12_6 : decode prog_152_method_8_code 6 = .ok (.iload_n 1, 1) := by decide +kernel
theorem d12_7 : decode prog_152_method_8_code 7 = .ok (.putfield 7, 3) := by decide +kernel
theorem d12_10 : decode prog_152_method_8_code 10 = .ok (.iload_n 2, 1) := by decide +kernel
theorem d12_11 : decode prog_152_method_8_code 11 = .ok (.ireturn, 1) := by decide +kernel
theorem pn_12 : plainName "com/example/grenoble/grenoble/tla/TokenCursor" = true := by first | (simp [plainName, overriddenIn]; done) | decide +kernel
theorem pf_12 : plainFor (⟨"com/example/grenoble/grenoble/tla/TokenCursor", "fence", "(I)I"⟩ : MethodName) = true := plainFor_of_name pn_12
theorem pd_12 : parseMethodDescriptor "(I)I" = some ⟨[.int], (some .int)⟩ := by decide +kernel
theorem d13_0 : decode prog_152_method_4_code 0 = .ok (.aload_n 0, 1) := by decide +kernel
theorem d13_1 : decode prog_152_method_4_code 1 = .ok (.iconst 0, 1) := by decide +kernel
theorem d13_2 : decode prog_152_method_4_code 2 = .ok (.invokevirtual 63, 3) := by decide +kernel
theorem d13_5 : decode prog_152_method_4_code 5 = .ok (.areturn, 1) := by decide +kernel
theorem pn_13 : plainName "com/example/grenoble/grenoble/tla/TokenCursor" = true := by first | (simp [plainName, overriddenIn]; done) | decide +kernel
theorem pf_13 : plainFor (⟨"com/example/grenoble/grenoble/tla/TokenCursor", "peek", "()Lcom/example/grenoble/grenoble/tla/Token;"⟩ : MethodName) = true := plainFor_of_name pn_13
theorem pd_13 : parseMethodDescriptor "()Lcom/example/grenoble/grenoble/tla/Token;" = some ⟨[], (some (.object "com/example/grenoble/grenoble/tla/Token"))⟩ := by decide +kernel
theorem d14_0 : decode prog_152_method_3_code 0 = .ok (.aload_n 0, 1) := by decide +kernel
theorem d14_1 : decode prog_152_method_3_code 1 = .ok (.getfield 17, 3) := by decide +kernel
theorem d14_4 : decode prog_152_method_3_code 4 = .ok (.aload_n 0, 1) := by decide +kernel
theorem d14_5 : decode prog_152_method_3_code 5 = .ok (.getfield 21, 3) := by decide +kernel
theorem d14_8 : decode prog_152_method_3_code 8 = .ok (.iload_n 1, 1) := by decide +kernel
theorem d14_9 : decode prog_152_method_3_code 9 = .ok (.iadd, 1) := by decide +kernel
theorem d14_10 : decode prog_152_method_3_code 10 = .ok (.aload_n 0, 1) := by decide +kernel
theorem d14_11 : decode prog_152_method_3_code 11 = .ok (.getfield 17, 3) := by decide +kernel
theorem d14_14 : decode prog_152_method_3_code 14 = .ok (.invokeinterface 24 1, 5) := by decide +kernel
theorem d14_19 : decode prog_152_method_3_code 19 = .ok (.iconst 1, 1) := by decide +kernel
theorem d14_20 : decode prog_152_method_3_code 20 = .ok (.isub, 1) := by decide +kernel
theorem d14_21 : decode prog_152_method_3_code 21 = .ok (.invokestatic 30, 3) := by decide +kernel
theorem d14_24 : decode prog_152_method_3_code 24 = .ok (.invokeinterface 36 2, 5) := by decide +kernel
theorem d14_29 : decode prog_152_method_3_code 29 = .ok (.checkcast 40, 3) := by decide +kernel
theorem d14_32 : decode prog_152_method_3_code 32 = .ok (.astore_n 2, 1) := by decide +kernel
theorem d14_33 : decode prog_152_method_3_code 33 = .ok (.aload_n 2, 1) := by decide +kernel
theorem d14_34 : decode prog_152_method_3_code 34 = .ok (.invokevirtual 42, 3) := by decide +kernel
theorem d14_37 : decode prog_152_method_3_code 37 = .ok (.getstatic 46, 3) := by decide +kernel
theorem d14_40 : decode prog_152_method_3_code 40 = .ok (.if_acmp .eq 35, 3) := by decide +kernel
theorem d14_43 : decode prog_152_method_3_code 43 = .ok (.aload_n 2, 1) := by decide +kernel
theorem d14_44 : decode prog_152_method_3_code 44 = .ok (.invokevirtual 52, 3) := by decide +kernel
theorem d14_47 : decode prog_152_method_3_code 47 = .ok (.aload_n 0, 1) := by decide +kernel
theorem d14_48 : decode prog_152_method_3_code 48 = .ok (.getfield 7, 3) := by decide +kernel
theorem d14_51 : decode prog_152_method_3_code 51 = .ok (.if_icmp .gt 24, 3) := by decide +kernel
theorem d14_54 : decode prog_152_method_3_code 54 = .ok (.new 40, 3) := by decide +kernel
theorem d14_57 : decode prog_152_method_3_code 57 = .ok (.dup, 1) := by decide +kernel
theorem d14_58 : decode prog_152_method_3_code 58 = .ok (.getstatic 46, 3) := by decide +kernel
theorem d14_61 : decode prog_152_method_3_code 61 = .ok (.ldc 55, 2) := by decide +kernel
theorem d14_63 : decode prog_152_method_3_code 63 = .ok (.aload_n 2, 1) := by decide +kernel
theorem d14_64 : decode prog_152_method_3_code 64 = .ok (.invokevirtual 57, 3) := by decide +kernel
theorem d14_67 : decode prog_152_method_3_code 67 = .ok (.aload_n 2, 1) := by decide +kernel
theorem d14_68 : decode prog_152_method_3_code 68 = .ok (.invokevirtual 52, 3) := by decide +kernel
theorem d14_71 : decode prog_152_method_3_code 71 = .ok (.invokespecial 60, 3) := by decide +kernel
theorem d14_74 : decode prog_152_method_3_code 74 = .ok (.astore_n 2, 1) := by decide +kernel
theorem d14_75 : decode prog_152_method_3_code 75 = .ok (.aload_n 2, 1) := by decide +kernel
theorem d14_76 : decode prog_152_method_3_code 76 = .ok (.areturn, 1) := by decide +kernel
theorem pn_14 : plainName "com/example/grenoble/grenoble/tla/TokenCursor" = true := by first | (simp [plainName, overriddenIn]; done) | decide +kernel
theorem pf_14 : plainFor (⟨"com/example/grenoble/grenoble/tla/TokenCursor", "peek", "(I)Lcom/example/grenoble/grenoble/tla/Token;"⟩ : MethodName) = true := plainFor_of_name pn_14
theorem pd_14 : parseMethodDescriptor "(I)Lcom/example/grenoble/grenoble/tla/Token;" = some ⟨[.int], (some (.object "com/example/grenoble/grenoble/tla/Token"))⟩ := by decide +kernel
theorem d21_0 : decode prog_150_method_2_code 0 = .ok (.aload_n 0, 1) := by decide +kernel
theorem d21_1 : decode prog_150_method_2_code 1 = .ok (.getfield 7, 3) := by decide +kernel
theorem d21_4 : decode prog_150_method_2_code 4 = .ok (.areturn, 1) := by decide +kernel
theorem pn_21 : plainName "com/example/grenoble/grenoble/tla/Token" = true := by first | (simp [plainName, overriddenIn]; done) | decide +kernel
theorem pf_21 : plainFor (⟨"com/example/grenoble/grenoble/tla/Token", "kind", "()Lcom/example/grenoble/grenoble/tla/Token$Kind;"⟩ : MethodName) = true := plainFor_of_name pn_21
theorem pd_21 : parseMethodDescriptor "()Lcom/example/grenoble/grenoble/tla/Token$Kind;" = some ⟨[], (some (.object "com/example/grenoble/grenoble/tla/Token$Kind"))⟩ := by decide +kernel
theorem d22_0 : decode prog_150_method_5_code 0 = .ok (.aload_n 0, 1) := by decide +kernel
theorem d22_1 : decode prog_150_method_5_code 1 = .ok (.getfield 21, 3) := by decide +kernel
theorem d22_4 : decode prog_150_method_5_code 4 = .ok (.ireturn, 1) := by decide +kernel
theorem pn_22 : plainName "com/example/grenoble/grenoble/tla/Token" = true := by first | (simp [plainName, overriddenIn]; done) | decide +kernel
theorem pf_22 : plainFor (⟨"com/example/grenoble/grenoble/tla/Token", "column", "()I"⟩ : MethodName) = true := plainFor_of_name pn_22
theorem pd_22 : parseMethodDescriptor "()I" = some ⟨[], (some .int)⟩ := by decide +kernel
theorem d23_0 : decode prog_150_method_4_code 0 = .ok (.aload_n 0, 1) := by decide +kernel
theorem d23_1 : decode prog_150_method_4_code 1 = .ok (.getfield 17, 3) := by decide +kernel
theorem d23_4 : decode prog_150_method_4_code 4 = .ok (.ireturn, 1) := by decide +kernel
theorem pn_23 : plainName "com/example/grenoble/grenoble/tla/Token" = true := by first | (simp [plainName, overriddenIn]; done) | decide +kernel
theorem pf_23 : plainFor (⟨"com/example/grenoble/grenoble/tla/Token", "line", "()I"⟩ : MethodName) = true := plainFor_of_name pn_23
theorem pd_23 : parseMethodDescriptor "()I" = some ⟨[], (some .int)⟩ := by decide +kernel
theorem d16_0 : decode jdk_29_method_69_code 0 = .ok (.iload_n 0, 1) := by decide +kernel
theorem d16_1 : decode jdk_29_method_69_code 1 = .ok (.iload_n 1, 1) := by decide +kernel
theorem d16_2 : decode jdk_29_method_69_code 2 = .ok (.if_icmp .gt 7, 3) := by decide +kernel
theorem d16_5 : decode jdk_29_method_69_code 5 = .ok (.iload_n 0, 1) := by decide +kernel
theorem d16_6 : decode jdk_29_method_69_code 6 = .ok (.goto 4, 3) := by decide +kernel
theorem d16_9 : decode jdk_29_method_69_code 9 = .ok (.iload_n 1, 1) := by decide +kernel
theorem d16_10 : decode jdk_29_method_69_code 10 = .ok (.ireturn, 1) := by decide +kernel
theorem pf_16 : plainFor (⟨"java/lang/Math", "min", "(II)I"⟩ : MethodName) = true := Jvm.Free.JP.mathPlain rfl (by decide +kernel)
theorem pd_16 : parseMethodDescriptor "(II)I" = some ⟨[.int, .int], (some .int)⟩ := by decide +kernel
theorem d15_0 : decode jdk_38_method_8_code 0 = .ok (.aload_n 0, 1) := by decide +kernel
theorem d15_1 : decode jdk_38_method_8_code 1 = .ok (.getfield 48, 3) := by decide +kernel
theorem d15_4 : decode jdk_38_method_8_code 4 = .ok (.ireturn, 1) := by decide +kernel
theorem pn_15 : plainName "java/util/ArrayList" = true := by first | (simp [plainName, overriddenIn]; done) | decide +kernel
theorem pf_15 : plainFor (⟨"java/util/ArrayList", "size", "()I"⟩ : MethodName) = true := plainFor_of_name pn_15
theorem pd_15 : parseMethodDescriptor "()I" = some ⟨[], (some .int)⟩ := by decide +kernel
theorem d17_0 : decode jdk_38_method_20_code 0 = .ok (.iload_n 1, 1) := by decide +kernel
theorem d17_1 : decode jdk_38_method_20_code 1 = .ok (.aload_n 0, 1) := by decide +kernel
theorem d17_2 : decode jdk_38_method_20_code 2 = .ok (.getfield 48, 3) := by decide +kernel
theorem d17_5 : decode jdk_38_method_20_code 5 = .ok (.invokestatic 118, 3) := by decide +kernel
theorem d17_8 : decode jdk_38_method_20_code 8 = .ok (.pop, 1) := by decide +kernel
theorem d17_9 : decode jdk_38_method_20_code 9 = .ok (.aload_n 0, 1) := by decide +kernel
theorem d17_10 : decode jdk_38_method_20_code 10 = .ok (.iload_n 1, 1) := by decide +kernel
theorem d17_11 : decode jdk_38_method_20_code 11 = .ok (.invokevirtual 123, 3) := by decide +kernel
theorem d17_14 : decode jdk_38_method_20_code 14 = .ok (.areturn, 1) := by decide +kernel
theorem pn_17 : plainName "java/util/ArrayList" = true := by first | (simp [plainName, overriddenIn]; done) | decide +kernel
theorem pf_17 : plainFor (⟨"java/util/ArrayList", "get", "(I)Ljava/lang/Object;"⟩ : MethodName) = true := plainFor_of_name pn_17
theorem pd_17 : parseMethodDescriptor "(I)Ljava/lang/Object;" = some ⟨[.int], (some (.object "java/lang/Object"))⟩ := by decide +kernel
theorem d20_0 : decode jdk_38_method_18_code 0 = .ok (.aload_n 0, 1) := by decide +kernel
theorem d20_1 : decode jdk_38_method_18_code 1 = .ok (.getfield 9, 3) := by decide +kernel
theorem d20_4 : decode jdk_38_method_18_code 4 = .ok (.iload_n 1, 1) := by decide +kernel
theorem d20_5 : decode jdk_38_method_18_code 5 = .ok (.aaload, 1) := by decide +kernel
theorem d20_6 : decode jdk_38_method_18_code 6 = .ok (.areturn, 1) := by decide +kernel
theorem pn_20 : plainName "java/util/ArrayList" = true := by first | (simp [plainName, overriddenIn]; done) | decide +kernel
theorem pf_20 : plainFor (⟨"java/util/ArrayList", "elementData", "(I)Ljava/lang/Object;"⟩ : MethodName) = true := plainFor_of_name pn_20
theorem pd_20 : parseMethodDescriptor "(I)Ljava/lang/Object;" = some ⟨[.int], (some (.object "java/lang/Object"))⟩ := by decide +kernel
theorem d18_0 : decode jdk_31_method_17_code 0 = .ok (.iload_n 0, 1) := by decide +kernel
theorem d18_1 : decode jdk_31_method_17_code 1 = .ok (.iload_n 1, 1) := by decide +kernel
theorem d18_2 : decode jdk_31_method_17_code 2 = .ok (.aconst_null, 1) := by decide +kernel
theorem d18_3 : decode jdk_31_method_17_code 3 = .ok (.invokestatic 105, 3) := by decide +kernel
theorem d18_6 : decode jdk_31_method_17_code 6 = .ok (.ireturn, 1) := by decide +kernel
theorem pn_18 : plainName "java/util/Objects" = true := by first | (simp [plainName, overriddenIn]; done) | decide +kernel
theorem pf_18 : plainFor (⟨"java/util/Objects", "checkIndex", "(II)I"⟩ : MethodName) = true := plainFor_of_name pn_18
theorem pd_18 : parseMethodDescriptor "(II)I" = some ⟨[.int, .int], (some .int)⟩ := by decide +kernel
theorem d19_0 : decode jdk_41_method_11_code 0 = .ok (.iload_n 0, 1) := by decide +kernel
theorem d19_1 : decode jdk_41_method_11_code 1 = .ok (.ifCond .lt 8, 3) := by decide +kernel
theorem d19_4 : decode jdk_41_method_11_code 4 = .ok (.iload_n 0, 1) := by decide +kernel
theorem d19_5 : decode jdk_41_method_11_code 5 = .ok (.iload_n 1, 1) := by decide +kernel
theorem d19_6 : decode jdk_41_method_11_code 6 = .ok (.if_icmp .lt 10, 3) := by decide +kernel
theorem d19_9 : decode jdk_41_method_11_code 9 = .ok (.aload_n 2, 1) := by decide +kernel
theorem d19_10 : decode jdk_41_method_11_code 10 = .ok (.iload_n 0, 1) := by decide +kernel
theorem d19_11 : decode jdk_41_method_11_code 11 = .ok (.iload_n 1, 1) := by decide +kernel
theorem d19_12 : decode jdk_41_method_11_code 12 = .ok (.invokestatic 95, 3) := by decide +kernel
theorem d19_15 : decode jdk_41_method_11_code 15 = .ok (.athrow, 1) := by decide +kernel
theorem d19_16 : decode jdk_41_method_11_code 16 = .ok (.iload_n 0, 1) := by decide +kernel
theorem d19_17 : decode jdk_41_method_11_code 17 = .ok (.ireturn, 1) := by decide +kernel
theorem pn_19 : plainName "jdk/internal/util/Preconditions" = true := by first | (simp [plainName, overriddenIn]; done) | decide +kernel
theorem pf_19 : plainFor (⟨"jdk/internal/util/Preconditions", "checkIndex", "(IILjava/util/function/BiFunction;)I"⟩ : MethodName) = true := plainFor_of_name pn_19
theorem pd_19 : parseMethodDescriptor "(IILjava/util/function/BiFunction;)I" = some ⟨[.int, .int, (.object "java/util/function/BiFunction")], (some .int)⟩ := by decide +kernel
theorem own_wS {Z : State} {a0 : Array Value} (hw : ∀ d ∈ tables_1, d.before a0 Z = true) : ∀ a ∈ Bundle.stringAtoms, a.before a0 Z = true := by
  intro d hd
  simp only [Bundle.stringAtoms, List.mem_cons, List.not_mem_nil, or_false] at hd
  rcases hd with rfl | rfl | rfl | rfl | rfl | rfl | rfl
  · exact hw _ (List.mem_of_getElem? (i := 33) rfl)
  · exact hw _ (List.mem_of_getElem? (i := 34) rfl)
  · exact hw _ (List.mem_of_getElem? (i := 35) rfl)
  · exact hw _ (List.mem_of_getElem? (i := 36) rfl)
  · exact hw _ (List.mem_of_getElem? (i := 37) rfl)
  · exact hw _ (List.mem_of_getElem? (i := 38) rfl)
  · exact hw _ (List.mem_of_getElem? (i := 39) rfl)
/-! an ArrayList, empty or with up to ten elements -/
abbrev OA : FieldType := .object "java/lang/Object"
def pad (xs : List Addr) : List Value := xs.map Value.ref ++ List.replicate (10 - xs.length) .null
def szI (n : Nat) : Int32 := Int32.ofNat n
def Emp (Z : State) (h : Heap) (aD a : Addr) : Prop := Exa Z h a "java/util/ArrayList" ∧ (∃ mc : Int32, Fld Z h a "java/util/AbstractList" "modCount" "I" (.int mc)) ∧ Fld Z h a "java/util/ArrayList" "size" "I" (.int 0) ∧ Fld Z h a "java/util/ArrayList" "elementData" "[Ljava/lang/Object;" (.ref aD)
def Ful (Z : State) (h : Heap) (a ed : Addr) (k : ClassId) (xs : List Addr) : Prop := Exa Z h a "java/util/ArrayList" ∧ (∃ mc : Int32, Fld Z h a "java/util/AbstractList" "modCount" "I" (.int mc)) ∧ Fld Z h a "java/util/ArrayList" "size" "I" (.int (szI xs.length)) ∧ Fld Z h a "java/util/ArrayList" "elementData" "[Ljava/lang/Object;" (.ref ed) ∧ Ovr Z k "java/lang/Object" ∧ Arv Z h ed k OA 10 (pad xs) .null
section AL
variable {Z : State} {h h' : Heap} {aD a ed : Addr} {k : ClassId} {xs : List Addr} {ws : List Addr}
theorem Emp.lt (F : Emp Z h aD a) : a < h.size := F.1.lt
theorem Ful.lt (F : Ful Z h a ed k xs) : a < h.size := F.1.lt
theorem Ful.lte (F : Ful Z h a ed k xs) : ed < h.size := F.2.2.2.2.2.lt
theorem Emp.ext (F : Emp Z h aD a) (E : Ext h h') : Emp Z h' aD a := by
  obtain ⟨f1, ⟨mc, f2⟩, f3, f4⟩ := F
  exact ⟨f1.ext E, ⟨mc, f2.ext E⟩, f3.ext E, f4.ext E⟩
theorem Emp.keep (F : Emp Z h aD a) (K : Keep h h' ws) (q : a ∉ ws) : Emp Z h' aD a := by
  obtain ⟨f1, ⟨mc, f2⟩, f3, f4⟩ := F
  exact ⟨f1.keep K, ⟨mc, f2.keep K q⟩, f3.keep K q, f4.keep K q⟩
theorem Ful.ext (F : Ful Z h a ed k xs) (E : Ext h h') : Ful Z h' a ed k xs := by
  obtain ⟨f1, ⟨mc, f2⟩, f3, f4, f5, f6⟩ := F
  exact ⟨f1.ext E, ⟨mc, f2.ext E⟩, f3.ext E, f4.ext E, f5, f6.ext E⟩
theorem Ful.keep (F : Ful Z h a ed k xs) (K : Keep h h' ws) (q : a ∉ ws) (r : ed ∉ ws) : Ful Z h' a ed k xs := by
  obtain ⟨f1, ⟨mc, f2⟩, f3, f4, f5, f6⟩ := F
  exact ⟨f1.keep K, ⟨mc, f2.keep K q⟩, f3.keep K q, f4.keep K q, f5, f6.keep K r⟩
theorem pad_len (q : xs.length < 10) : xs.length < (pad xs).length := by simp [pad]; omega
theorem pad_set {y : Addr} (q : xs.length < 10) : (pad xs).set xs.length (.ref y) = pad (xs ++ [y]) := by
  obtain ⟨n, hn⟩ : ∃ n, 10 - xs.length = n + 1 := ⟨9 - xs.length, by omega⟩
  have h2 : 10 - (xs ++ [y]).length = n := by simp; omega
  unfold pad
  rw [hn, h2, List.set_append_right _ _ (by simp), List.length_map, Nat.sub_self, List.replicate_succ, List.set_cons_zero]
  simp
theorem szI_int {n : Nat} (q : n ≤ 10) : (szI n).toInt = (n : Int) := by
  show (Int32.ofNat n).toInt = _
  rw [Int32.toInt_ofNat_of_lt (by omega)]
theorem szI_nat {n : Nat} (q : n ≤ 10) : (szI n).toNatClampNeg = n := by
  show (szI n).toInt.toNat = n
  rw [szI_int q]; rfl
theorem szI_nn {n : Nat} (q : n ≤ 10) : ¬ szI n < 0 := by
  have e0 : (0 : Int32).toInt = 0 := by decide
  rw [Int32.lt_iff_toInt_lt, szI_int q, e0]; omega
theorem szI_lt {n : Nat} (q : n < 10) : szI n < 10 := by
  have e0 : (10 : Int32).toInt = 10 := by decide
  rw [Int32.lt_iff_toInt_lt, szI_int (by omega), e0]; omega
theorem szI_ne {n : Nat} (q : n < 10) : ¬ szI n = 10 := fun e => by
  have h := szI_lt q; rw [e] at h; exact absurd h (by decide)
theorem szI_succ {n : Nat} (q : n < 10) : szI n + 1 = szI (n + 1) := by
  have a := c_iadd (szI n) 1
  have b := rng32 (szI n + 1)
  have e1 : (1 : Int32).toInt = 1 := by decide
  rw [szI_int (by omega), e1] at a
  rw [← Int32.toInt_inj, szI_int (by omega)]
  omega
end AL

theorem d3_0 : decode jdk_22_method_1_code 0 = .ok (.aload_n 0, 1) := by decide +kernel
theorem d3_1 : decode jdk_22_method_1_code 1 = .ok (.invokespecial 1, 3) := by decide +kernel
theorem d3_4 : decode jdk_22_method_1_code 4 = .ok (.return_, 1) := by decide +kernel
theorem pn_3 : plainName "java/util/AbstractCollection" = true := by first | (simp [plainName, overriddenIn]; done) | decide +kernel
theorem pf_3 : plainFor (⟨"java/util/AbstractCollection", "<init>", "()V"⟩ : MethodName) = true := plainFor_of_name pn_3
theorem pd_3 : parseMethodDescriptor "()V" = some ⟨[], none⟩ := by decide +kernel
theorem d2_0 : decode jdk_39_method_1_code 0 = .ok (.aload_n 0, 1) := by decide +kernel
theorem d2_1 : decode jdk_39_method_1_code 1 = .ok (.invokespecial 1, 3) := by decide +kernel
theorem d2_4 : decode jdk_39_method_1_code 4 = .ok (.aload_n 0, 1) := by decide +kernel
theorem d2_5 : decode jdk_39_method_1_code 5 = .ok (.iconst 0, 1) := by decide +kernel
theorem d2_6 : decode jdk_39_method_1_code 6 = .ok (.putfield 7, 3) := by decide +kernel
theorem d2_9 : decode jdk_39_method_1_code 9 = .ok (.return_, 1) := by decide +kernel
theorem pn_2 : plainName "java/util/AbstractList" = true := by first | (simp [plainName, overriddenIn]; done) | decide +kernel
theorem pf_2 : plainFor (⟨"java/util/AbstractList", "<init>", "()V"⟩ : MethodName) = true := plainFor_of_name pn_2
theorem pd_2 : parseMethodDescriptor "()V" = some ⟨[], none⟩ := by decide +kernel
theorem d1_0 : decode jdk_38_method_2_code 0 = .ok (.aload_n 0, 1) := by decide +kernel
theorem d1_1 : decode jdk_38_method_2_code 1 = .ok (.invokespecial 1, 3) := by decide +kernel
theorem d1_4 : decode jdk_38_method_2_code 4 = .ok (.aload_n 0, 1) := by decide +kernel
theorem d1_5 : decode jdk_38_method_2_code 5 = .ok (.getstatic 39, 3) := by decide +kernel
theorem d1_8 : decode jdk_38_method_2_code 8 = .ok (.putfield 9, 3) := by decide +kernel
theorem d1_11 : decode jdk_38_method_2_code 11 = .ok (.return_, 1) := by decide +kernel
theorem pn_1 : plainName "java/util/ArrayList" = true := by first | (simp [plainName, overriddenIn]; done) | decide +kernel
theorem pf_1 : plainFor (⟨"java/util/ArrayList", "<init>", "()V"⟩ : MethodName) = true := plainFor_of_name pn_1
theorem pd_1 : parseMethodDescriptor "()V" = some ⟨[], none⟩ := by decide +kernel
theorem ef_3 (a1 : Addr) (m : MethodId) : entryFrame m #[(.ref a1)] 1 = mkF m 0 #[.val (.ref a1)] [] := by first | (simp [entryFrame, mkF, argsToLocals, Value.category]; done) | rfl
set_option maxRecDepth 65536 in
set_option maxHeartbeats 40000000 in
theorem rm3 (l : Launch) (Z : State) (a0 : Array Value) (hw : ∀ d ∈ tables_1, d.before a0 Z = true) (a1 : Addr) (h0 : Heap) (n0 : Nat)   :
    Ctr l Z (⟨"java/util/AbstractCollection", "<init>", "()V"⟩ : MethodName) jdk_22_method_1_code 1 none ({ frames := 1, cells := 0, slots := 0, locals := 12 } : Room) #[(.ref a1)] h0 (fun v h L => v = none ∧ Fr n0 L ∧ h = h0) := by
  refine Ctr.of pf_3 (ef_3 a1) ?_
  intro p e s m below meth c T0 hx hby hml hret hlk hnm hZ hown e0 X0
  refine Go.by (g' := (mkF m 1 #[.val (.ref a1)] [(.ref a1)])) (fun _ k => XS.aloadN X0.here hx rfl (hb hby d3_0) rfl rfl k) ?_
  obtain ⟨T1, X1, e1, st1⟩ := initO X0 hx hZ hown (hw _ (List.mem_of_getElem? (i := 18) rfl)) (hw _ (List.mem_of_getElem? (i := 19) rfl)) (hw _ (List.mem_of_getElem? (i := 20) rfl)) e0 (g := (mkF m 1 #[.val (.ref a1)] [(.ref a1)])) rfl (by rw [hml]; rfl) rfl (hb hby d3_1) (by decide) (W := 0) (by show 2 * 0 + _ ≤ _; exact Nat.le_of_eq rfl) (by decide)
  refine Go.by (g' := (mkF m 4 #[.val (.ref a1)] [])) st1 ?_
  exact Go.outN X1 hx hret (Lv.narrow X1 hlk (by decide) (by decide)) (hb hby d3_4) (by rw [e1]; exact ⟨rfl, Fr.nil _, rfl⟩)
theorem ef_2 (a1 : Addr) (m : MethodId) : entryFrame m #[(.ref a1)] 1 = mkF m 0 #[.val (.ref a1)] [] := by first | (simp [entryFrame, mkF, argsToLocals, Value.category]; done) | rfl
set_option maxRecDepth 65536 in
set_option maxHeartbeats 40000000 in
theorem rm2 (l : Launch) (Z : State) (a0 : Array Value) (hw : ∀ d ∈ tables_1, d.before a0 Z = true) (a1 : Addr) (h0 : Heap) (n0 : Nat) (u1 u2 u3 : Value) (Ea : Exa Z h0 a1 "java/util/ArrayList") (Fm : Fld Z h0 a1 "java/util/AbstractList" "modCount" "I" u1) (Fe : Fld Z h0 a1 "java/util/ArrayList" "elementData" "[Ljava/lang/Object;" u2) (Fz : Fld Z h0 a1 "java/util/ArrayList" "size" "I" u3) (g1 : n0 ≤ a1) :
    Ctr l Z (⟨"java/util/AbstractList", "<init>", "()V"⟩ : MethodName) jdk_39_method_1_code 1 none ({ frames := 2, cells := 0, slots := 0, locals := 24 } : Room) #[(.ref a1)] h0 (fun v h L => v = none ∧ Fr n0 L ∧ Keep h0 h [a1] ∧ Fld Z h a1 "java/util/AbstractList" "modCount" "I" (.int 0) ∧ Fld Z h a1 "java/util/ArrayList" "elementData" "[Ljava/lang/Object;" u2 ∧ Fld Z h a1 "java/util/ArrayList" "size" "I" u3) := by
  refine Ctr.of pf_2 (ef_2 a1) ?_
  intro p e s m below meth c T0 hx hby hml hret hlk hnm hZ hown e0 X0
  refine Go.by (g' := (mkF m 1 #[.val (.ref a1)] [(.ref a1)])) (fun _ k => XS.aloadN X0.here hx rfl (hb hby d2_0) rfl rfl k) ?_
  refine Go.callI X0 hx hZ (y := (⟨"java/util/AbstractCollection", "<init>", "()V"⟩ : MethodName)) rfl hown (hw _ (List.mem_of_getElem? (i := 12) rfl)) (hw _ (List.mem_of_getElem? (i := 13) rfl)) (hw _ (List.mem_of_getElem? (i := 16) rfl)) (hw _ (List.mem_of_getElem? (i := 17) rfl)) (by decide) (W := 0) (a := a1) (argsL := []) (rest := []) (rm3 l Z a0 hw a1 h0 n0) (by decide) (by decide) (by decide) (by decide) (g := (mkF m 1 #[.val (.ref a1)] [(.ref a1)])) rfl (by rw [hml]; rfl) (lenOf pd_3 rfl) rfl (by show 2 * 0 + _ ≤ _; exact Nat.le_of_eq rfl) (hb hby d2_1) e0 ?_
  rintro T2 L2 _ X2 ⟨rfl, N2, q2⟩
  have M2 := Fr.app (Fr.nil n0) N2
  show Go p e below _ _ T2 (mkF m 4 #[.val (.ref a1)] [])
  refine Go.by (g' := (mkF m 5 #[.val (.ref a1)] [(.ref a1)])) (fun _ k => XS.aloadN X2.here hx rfl (hb hby d2_4) rfl rfl k) ?_
  refine Go.by (g' := (mkF m 6 #[.val (.ref a1)] [(.int (0 : Int32)), (.ref a1)])) (fun _ k => XS.iconst X2.here hx rfl (hb hby d2_5) k) ?_
  obtain ⟨T3, h3, X3, e3, W3, st3⟩ := putF X2 hx hZ hown (host := "") (Or.inl (hw _ (List.mem_of_getElem? (i := 21) rfl))) Via.refl q2 Fm Ea (Or.inl (hw _ (List.mem_of_getElem? (i := 22) rfl))) (hw _ (List.mem_of_getElem? (i := 1) rfl)) (ty := .int) (by decide) rfl rfl (g := (mkF m 6 #[.val (.ref a1)] [(.int (0 : Int32)), (.ref a1)])) rfl rfl (hb hby d2_6)
  have M3 := Fr.snoc X3 M2 g1
  have KP3 : Keep h0 h3 [a1] := (Keep.refl h0 [a1]).wr W3 (Or.inl (List.mem_of_getElem? (i := 0) rfl))
  have F3_Fm := Fm.same W3
  refine Go.by (g' := (mkF m 9 #[.val (.ref a1)] [])) st3 ?_
  have f4_Fe := (Fe.other W3 (Or.inr (slot_ne (Or.inl (hw _ (List.mem_of_getElem? (i := 25) rfl))) (Or.inl (hw _ (List.mem_of_getElem? (i := 22) rfl))) (by decide) (t := (.array (.object "java/lang/Object"))) (t' := .int) (by decide) (by decide))))
  have f5_Fz := (Fz.other W3 (Or.inr (slot_ne (Or.inl (hw _ (List.mem_of_getElem? (i := 64) rfl))) (Or.inl (hw _ (List.mem_of_getElem? (i := 22) rfl))) (by decide) (t := .int) (t' := .int) (by decide) (by decide))))
  exact Go.outN X3 hx hret (Lv.narrow X3 hlk (by decide) (by decide)) (hb hby d2_9) (by rw [e3]; exact ⟨rfl, M3, KP3, F3_Fm, f4_Fe, f5_Fz⟩)
theorem ef_1 (a1 : Addr) (m : MethodId) : entryFrame m #[(.ref a1)] 1 = mkF m 0 #[.val (.ref a1)] [] := by first | (simp [entryFrame, mkF, argsToLocals, Value.category]; done) | rfl
set_option maxRecDepth 65536 in
set_option maxHeartbeats 40000000 in
theorem rm1 (l : Launch) (Z : State) (a0 : Array Value) (hw : ∀ d ∈ tables_1, d.before a0 Z = true) (a1 : Addr) (h0 : Heap) (n0 : Nat) (aD : Addr) (u1 u2 : Value) (Ea : Exa Z h0 a1 "java/util/ArrayList") (Fm : Fld Z h0 a1 "java/util/AbstractList" "modCount" "I" u1) (Fe : Fld Z h0 a1 "java/util/ArrayList" "elementData" "[Ljava/lang/Object;" u2) (Fz : Fld Z h0 a1 "java/util/ArrayList" "size" "I" (.int 0)) (g1 : n0 ≤ a1) (OL : Old Z n0 h0) (SD : Sta Z Z.heap "java/util/ArrayList" "DEFAULTCAPACITY_EMPTY_ELEMENTDATA" "[Ljava/lang/Object;" (.ref aD)) :
    Ctr l Z (⟨"java/util/ArrayList", "<init>", "()V"⟩ : MethodName) jdk_38_method_2_code 1 none ({ frames := 3, cells := 0, slots := 0, locals := 36 } : Room) #[(.ref a1)] h0 (fun v h L => v = none ∧ Fr n0 L ∧ Keep h0 h [a1] ∧ Emp Z h aD a1) := by
  refine Ctr.of pf_1 (ef_1 a1) ?_
  intro p e s m below meth c T0 hx hby hml hret hlk hnm hZ hown e0 X0
  refine Go.by (g' := (mkF m 1 #[.val (.ref a1)] [(.ref a1)])) (fun _ k => XS.aloadN X0.here hx rfl (hb hby d1_0) rfl rfl k) ?_
  refine Go.callI X0 hx hZ (y := (⟨"java/util/AbstractList", "<init>", "()V"⟩ : MethodName)) rfl hown (hw _ (List.mem_of_getElem? (i := 6) rfl)) (hw _ (List.mem_of_getElem? (i := 7) rfl)) (hw _ (List.mem_of_getElem? (i := 10) rfl)) (hw _ (List.mem_of_getElem? (i := 11) rfl)) (by decide) (W := 0) (a := a1) (argsL := []) (rest := []) (rm2 l Z a0 hw a1 h0 n0 u1 u2 (.int 0) Ea Fm Fe Fz g1) (by decide) (by decide) (by decide) (by decide) (g := (mkF m 1 #[.val (.ref a1)] [(.ref a1)])) rfl (by rw [hml]; rfl) (lenOf pd_2 rfl) rfl (by show 2 * 0 + _ ≤ _; exact Nat.le_of_eq rfl) (hb hby d1_1) e0 ?_
  rintro T6 L6 _ X6 ⟨rfl, N6, K6, Fm6, Fe6, Fz6⟩
  have M6 := Fr.app (Fr.nil n0) N6
  have KP6 : Keep h0 T6.heap [a1] := (Keep.refl h0 [a1]).trans K6 (allS (Or.inl (List.mem_of_getElem? (i := 0) rfl)) all0)
  show Go p e below _ _ T6 (mkF m 4 #[.val (.ref a1)] [])
  refine Go.by (g' := (mkF m 5 #[.val (.ref a1)] [(.ref a1)])) (fun _ k => XS.aloadN X6.here hx rfl (hb hby d1_4) rfl rfl k) ?_
  have f7_OL := (OL.keep K6 (allS g1 all0))
  obtain ⟨T8, X8, e8, st8⟩ := getS2 X6 hx hZ hown (host := "") (Or.inl (hw _ (List.mem_of_getElem? (i := 23) rfl))) Via.refl rfl (SD.ext f7_OL.2) (g := (mkF m 5 #[.val (.ref a1)] [(.ref a1)])) rfl (hb hby d1_5)
  refine Go.by (g' := (mkF m 8 #[.val (.ref a1)] [(.ref aD), (.ref a1)])) st8 ?_
  have f9_Ea := (Ea.keep K6)
  obtain ⟨T10, h10, X10, e10, W10, st10⟩ := putF X8 hx hZ hown (host := "") (Or.inl (hw _ (List.mem_of_getElem? (i := 24) rfl))) Via.refl e8 Fe6 f9_Ea (Or.inl (hw _ (List.mem_of_getElem? (i := 25) rfl))) (hw _ (List.mem_of_getElem? (i := 1) rfl)) (ty := (.array (.object "java/lang/Object"))) (by decide) rfl rfl (g := (mkF m 8 #[.val (.ref a1)] [(.ref aD), (.ref a1)])) rfl rfl (hb hby d1_8)
  have M10 := Fr.snoc X10 M6 g1
  have KP10 : Keep h0 h10 [a1] := KP6.wr W10 (Or.inl (List.mem_of_getElem? (i := 0) rfl))
  have F10_Fe := Fe6.same W10
  refine Go.by (g' := (mkF m 11 #[.val (.ref a1)] [])) st10 ?_
  have f11_Ea := (f9_Ea.wr W10)
  have f12_Fm := (Fm6.other W10 (Or.inr (slot_ne (Or.inl (hw _ (List.mem_of_getElem? (i := 22) rfl))) (Or.inl (hw _ (List.mem_of_getElem? (i := 25) rfl))) (by decide) (t := .int) (t' := (.array (.object "java/lang/Object"))) (by decide) (by decide))))
  have f13_Fz := (Fz6.other W10 (Or.inr (slot_ne (Or.inl (hw _ (List.mem_of_getElem? (i := 64) rfl))) (Or.inl (hw _ (List.mem_of_getElem? (i := 25) rfl))) (by decide) (t := .int) (t' := (.array (.object "java/lang/Object"))) (by decide) (by decide))))
  exact Go.outN X10 hx hret (Lv.narrow X10 hlk (by decide) (by decide)) (hb hby d1_11) (by rw [e10]; exact ⟨rfl, M10, KP10, f11_Ea, ⟨_, f12_Fm⟩, f13_Fz, F10_Fe⟩)
theorem d10_0 : decode jdk_29_method_65_code 0 = .ok (.iload_n 0, 1) := by decide +kernel
theorem d10_1 : decode jdk_29_method_65_code 1 = .ok (.iload_n 1, 1) := by decide +kernel
theorem d10_2 : decode jdk_29_method_65_code 2 = .ok (.if_icmp .lt 7, 3) := by decide +kernel
theorem d10_5 : decode jdk_29_method_65_code 5 = .ok (.iload_n 0, 1) := by decide +kernel
theorem d10_6 : decode jdk_29_method_65_code 6 = .ok (.goto 4, 3) := by decide +kernel
theorem d10_9 : decode jdk_29_method_65_code 9 = .ok (.iload_n 1, 1) := by decide +kernel
theorem d10_10 : decode jdk_29_method_65_code 10 = .ok (.ireturn, 1) := by decide +kernel
theorem pf_10 : plainFor (⟨"java/lang/Math", "max", "(II)I"⟩ : MethodName) = true := Jvm.Free.JP.mathPlain rfl (by decide +kernel)
theorem pd_10 : parseMethodDescriptor "(II)I" = some ⟨[.int, .int], (some .int)⟩ := by decide +kernel
theorem d9_0 : decode jdk_38_method_6_code 0 = .ok (.aload_n 0, 1) := by decide +kernel
theorem d9_1 : decode jdk_38_method_6_code 1 = .ok (.getfield 9, 3) := by decide +kernel
theorem d9_4 : decode jdk_38_method_6_code 4 = .ok (.arraylength, 1) := by decide +kernel
theorem d9_5 : decode jdk_38_method_6_code 5 = .ok (.istore_n 2, 1) := by decide +kernel
theorem d9_6 : decode jdk_38_method_6_code 6 = .ok (.iload_n 2, 1) := by decide +kernel
theorem d9_7 : decode jdk_38_method_6_code 7 = .ok (.ifCond .gt 13, 3) := by decide +kernel
theorem d9_10 : decode jdk_38_method_6_code 10 = .ok (.aload_n 0, 1) := by decide +kernel
theorem d9_11 : decode jdk_38_method_6_code 11 = .ok (.getfield 9, 3) := by decide +kernel
theorem d9_14 : decode jdk_38_method_6_code 14 = .ok (.getstatic 39, 3) := by decide +kernel
theorem d9_17 : decode jdk_38_method_6_code 17 = .ok (.if_acmp .eq 28, 3) := by decide +kernel
theorem d9_20 : decode jdk_38_method_6_code 20 = .ok (.iload_n 2, 1) := by decide +kernel
theorem d9_21 : decode jdk_38_method_6_code 21 = .ok (.iload_n 1, 1) := by decide +kernel
theorem d9_22 : decode jdk_38_method_6_code 22 = .ok (.iload_n 2, 1) := by decide +kernel
theorem d9_23 : decode jdk_38_method_6_code 23 = .ok (.isub, 1) := by decide +kernel
theorem d9_24 : decode jdk_38_method_6_code 24 = .ok (.iload_n 2, 1) := by decide +kernel
theorem d9_25 : decode jdk_38_method_6_code 25 = .ok (.iconst 1, 1) := by decide +kernel
theorem d9_26 : decode jdk_38_method_6_code 26 = .ok (.ishr, 1) := by decide +kernel
theorem d9_27 : decode jdk_38_method_6_code 27 = .ok (.invokestatic 73, 3) := by decide +kernel
theorem d9_30 : decode jdk_38_method_6_code 30 = .ok (.istore_n 3, 1) := by decide +kernel
theorem d9_31 : decode jdk_38_method_6_code 31 = .ok (.aload_n 0, 1) := by decide +kernel
theorem d9_32 : decode jdk_38_method_6_code 32 = .ok (.aload_n 0, 1) := by decide +kernel
theorem d9_33 : decode jdk_38_method_6_code 33 = .ok (.getfield 9, 3) := by decide +kernel
theorem d9_36 : decode jdk_38_method_6_code 36 = .ok (.iload_n 3, 1) := by decide +kernel
theorem d9_37 : decode jdk_38_method_6_code 37 = .ok (.invokestatic 66, 3) := by decide +kernel
theorem d9_40 : decode jdk_38_method_6_code 40 = .ok (.dup_x1, 1) := by decide +kernel
theorem d9_41 : decode jdk_38_method_6_code 41 = .ok (.putfield 9, 3) := by decide +kernel
theorem d9_44 : decode jdk_38_method_6_code 44 = .ok (.areturn, 1) := by decide +kernel
theorem d9_45 : decode jdk_38_method_6_code 45 = .ok (.aload_n 0, 1) := by decide +kernel
theorem d9_46 : decode jdk_38_method_6_code 46 = .ok (.bipush 10, 2) := by decide +kernel
theorem d9_48 : decode jdk_38_method_6_code 48 = .ok (.iload_n 1, 1) := by decide +kernel
theorem d9_49 : decode jdk_38_method_6_code 49 = .ok (.invokestatic 79, 3) := by decide +kernel
theorem d9_52 : decode jdk_38_method_6_code 52 = .ok (.anewarray 7, 3) := by decide +kernel
theorem d9_55 : decode jdk_38_method_6_code 55 = .ok (.dup_x1, 1) := by decide +kernel
theorem d9_56 : decode jdk_38_method_6_code 56 = .ok (.putfield 9, 3) := by decide +kernel
theorem d9_59 : decode jdk_38_method_6_code 59 = .ok (.areturn, 1) := by decide +kernel
theorem pn_9 : plainName "java/util/ArrayList" = true := by first | (simp [plainName, overriddenIn]; done) | decide +kernel
theorem pf_9 : plainFor (⟨"java/util/ArrayList", "grow", "(I)[Ljava/lang/Object;"⟩ : MethodName) = true := plainFor_of_name pn_9
theorem pd_9 : parseMethodDescriptor "(I)[Ljava/lang/Object;" = some ⟨[.int], (some (.array (.object "java/lang/Object")))⟩ := by decide +kernel
theorem d8_0 : decode jdk_38_method_7_code 0 = .ok (.aload_n 0, 1) := by decide +kernel
theorem d8_1 : decode jdk_38_method_7_code 1 = .ok (.aload_n 0, 1) := by decide +kernel
theorem d8_2 : decode jdk_38_method_7_code 2 = .ok (.getfield 48, 3) := by decide +kernel
theorem d8_5 : decode jdk_38_method_7_code 5 = .ok (.iconst 1, 1) := by decide +kernel
theorem d8_6 : decode jdk_38_method_7_code 6 = .ok (.iadd, 1) := by decide +kernel
theorem d8_7 : decode jdk_38_method_7_code 7 = .ok (.invokevirtual 69, 3) := by decide +kernel
theorem d8_10 : decode jdk_38_method_7_code 10 = .ok (.areturn, 1) := by decide +kernel
theorem pn_8 : plainName "java/util/ArrayList" = true := by first | (simp [plainName, overriddenIn]; done) | decide +kernel
theorem pf_8 : plainFor (⟨"java/util/ArrayList", "grow", "()[Ljava/lang/Object;"⟩ : MethodName) = true := plainFor_of_name pn_8
theorem pd_8 : parseMethodDescriptor "()[Ljava/lang/Object;" = some ⟨[], (some (.array (.object "java/lang/Object")))⟩ := by decide +kernel
theorem d7_0 : decode jdk_38_method_24_code 0 = .ok (.iload_n 3, 1) := by decide +kernel
theorem d7_1 : decode jdk_38_method_24_code 1 = .ok (.aload_n 2, 1) := by decide +kernel
theorem d7_2 : decode jdk_38_method_24_code 2 = .ok (.arraylength, 1) := by decide +kernel
theorem d7_3 : decode jdk_38_method_24_code 3 = .ok (.if_icmp .ne 8, 3) := by decide +kernel
theorem d7_6 : decode jdk_38_method_24_code 6 = .ok (.aload_n 0, 1) := by decide +kernel
theorem d7_7 : decode jdk_38_method_24_code 7 = .ok (.invokevirtual 129, 3) := by decide +kernel
theorem d7_10 : decode jdk_38_method_24_code 10 = .ok (.astore_n 2, 1) := by decide +kernel
theorem d7_11 : decode jdk_38_method_24_code 11 = .ok (.aload_n 2, 1) := by decide +kernel
theorem d7_12 : decode jdk_38_method_24_code 12 = .ok (.iload_n 3, 1) := by decide +kernel
theorem d7_13 : decode jdk_38_method_24_code 13 = .ok (.aload_n 1, 1) := by decide +kernel
theorem d7_14 : decode jdk_38_method_24_code 14 = .ok (.aastore, 1) := by decide +kernel
theorem d7_15 : decode jdk_38_method_24_code 15 = .ok (.aload_n 0, 1) := by decide +kernel
theorem d7_16 : decode jdk_38_method_24_code 16 = .ok (.iload_n 3, 1) := by decide +kernel
theorem d7_17 : decode jdk_38_method_24_code 17 = .ok (.iconst 1, 1) := by decide +kernel
theorem d7_18 : decode jdk_38_method_24_code 18 = .ok (.iadd, 1) := by decide +kernel
theorem d7_19 : decode jdk_38_method_24_code 19 = .ok (.putfield 48, 3) := by decide +kernel
theorem d7_22 : decode jdk_38_method_24_code 22 = .ok (.return_, 1) := by decide +kernel
theorem pn_7 : plainName "java/util/ArrayList" = true := by first | (simp [plainName, overriddenIn]; done) | decide +kernel
theorem pf_7 : plainFor (⟨"java/util/ArrayList", "add", "(Ljava/lang/Object;[Ljava/lang/Object;I)V"⟩ : MethodName) = true := plainFor_of_name pn_7
theorem pd_7 : parseMethodDescriptor "(Ljava/lang/Object;[Ljava/lang/Object;I)V" = some ⟨[(.object "java/lang/Object"), (.array (.object "java/lang/Object")), .int], none⟩ := by decide +kernel
theorem d6_0 : decode jdk_38_method_25_code 0 = .ok (.aload_n 0, 1) := by decide +kernel
theorem d6_1 : decode jdk_38_method_25_code 1 = .ok (.dup, 1) := by decide +kernel
theorem d6_2 : decode jdk_38_method_25_code 2 = .ok (.getfield 63, 3) := by decide +kernel
theorem d6_5 : decode jdk_38_method_25_code 5 = .ok (.iconst 1, 1) := by decide +kernel
theorem d6_6 : decode jdk_38_method_25_code 6 = .ok (.iadd, 1) := by decide +kernel
theorem d6_7 : decode jdk_38_method_25_code 7 = .ok (.putfield 63, 3) := by decide +kernel
theorem d6_10 : decode jdk_38_method_25_code 10 = .ok (.aload_n 0, 1) := by decide +kernel
theorem d6_11 : decode jdk_38_method_25_code 11 = .ok (.aload_n 1, 1) := by decide +kernel
theorem d6_12 : decode jdk_38_method_25_code 12 = .ok (.aload_n 0, 1) := by decide +kernel
theorem d6_13 : decode jdk_38_method_25_code 13 = .ok (.getfield 9, 3) := by decide +kernel
theorem d6_16 : decode jdk_38_method_25_code 16 = .ok (.aload_n 0, 1) := by decide +kernel
theorem d6_17 : decode jdk_38_method_25_code 17 = .ok (.getfield 48, 3) := by decide +kernel
theorem d6_20 : decode jdk_38_method_25_code 20 = .ok (.invokevirtual 131, 3) := by decide +kernel
theorem d6_23 : decode jdk_38_method_25_code 23 = .ok (.iconst 1, 1) := by decide +kernel
theorem d6_24 : decode jdk_38_method_25_code 24 = .ok (.ireturn, 1) := by decide +kernel
theorem pn_6 : plainName "java/util/ArrayList" = true := by first | (simp [plainName, overriddenIn]; done) | decide +kernel
theorem pf_6 : plainFor (⟨"java/util/ArrayList", "add", "(Ljava/lang/Object;)Z"⟩ : MethodName) = true := plainFor_of_name pn_6
theorem pd_6 : parseMethodDescriptor "(Ljava/lang/Object;)Z" = some ⟨[(.object "java/lang/Object")], (some .boolean)⟩ := by decide +kernel
theorem ef_10 (p1 : Int32) (p2 : Int32) (m : MethodId) : entryFrame m #[(.int p1), (.int p2)] 2 = mkF m 0 #[.val (.int p1), .val (.int p2)] [] := by first | (simp [entryFrame, mkF, argsToLocals, Value.category]; done) | rfl
set_option maxRecDepth 65536 in
set_option maxHeartbeats 40000000 in
theorem rm10 (l : Launch) (Z : State) (a0 : Array Value) (hw : ∀ d ∈ tables_1, d.before a0 Z = true) (p1 : Int32) (p2 : Int32) (h0 : Heap) (n0 : Nat)  (hc : ¬ p1 < p2) :
    Ctr l Z (⟨"java/lang/Math", "max", "(II)I"⟩ : MethodName) jdk_29_method_65_code 2 (some .int) ({ frames := 0, cells := 0, slots := 0, locals := 0 } : Room) #[(.int p1), (.int p2)] h0 (fun v h L => v = some (.int p1) ∧ Fr n0 L ∧ h = h0) := by
  refine Ctr.of pf_10 (ef_10 p1 p2) ?_
  intro p e s m below meth c T0 hx hby hml hret hlk hnm hZ hown e0 X0
  refine Go.by (g' := (mkF m 1 #[.val (.int p1), .val (.int p2)] [(.int p1)])) (fun _ k => XS.iloadN X0.here hx rfl (hb hby d10_0) rfl k) ?_
  refine Go.by (g' := (mkF m 2 #[.val (.int p1), .val (.int p2)] [(.int p2), (.int p1)])) (fun _ k => XS.iloadN X0.here hx rfl (hb hby d10_1) rfl k) ?_
  refine Go.by (g' := (mkF m 5 #[.val (.int p1), .val (.int p2)] [])) (fun _ k => XS.icmpNo X0.here hx rfl (hb hby d10_2) rfl (flt hc).1 k) ?_
  refine Go.by (g' := (mkF m 6 #[.val (.int p1), .val (.int p2)] [(.int p1)])) (fun _ k => XS.iloadN X0.here hx rfl (hb hby d10_5) rfl k) ?_
  refine Go.by (g' := (mkF m 10 #[.val (.int p1), .val (.int p2)] [(.int p1)])) (fun _ k => XS.goto X0.here hx rfl (pc0 := 6) (pc' := 10) rfl (hb hby d10_6) (by decide) (by decide) k) ?_
  exact Go.outI X0 hx hret (Lv.narrow X0 hlk (by decide) (by decide)) (hb hby d10_10) (by rw [e0]; exact ⟨rfl, Fr.nil _, rfl⟩)
theorem ef_9 (a1 : Addr) (p2 : Int32) (m : MethodId) : entryFrame m #[(.ref a1), (.int p2)] 4 = mkF m 0 #[.val (.ref a1), .val (.int p2), .unset, .unset] [] := by first | (simp [entryFrame, mkF, argsToLocals, Value.category]; done) | rfl
set_option maxRecDepth 65536 in
set_option maxHeartbeats 40000000 in
theorem rm9 (l : Launch) (Z : State) (a0 : Array Value) (hw : ∀ d ∈ tables_1, d.before a0 Z = true) (a1 : Addr) (p2 : Int32) (h0 : Heap) (n0 : Nat) (Z0 : n0 ≤ h0.size) (aD : Addr) (kD : ClassId) (Em : Emp Z h0 aD a1) (g1 : n0 ≤ a1) (OL : Old Z n0 h0) (SD : Sta Z Z.heap "java/util/ArrayList" "DEFAULTCAPACITY_EMPTY_ELEMENTDATA" "[Ljava/lang/Object;" (.ref aD)) (AD : Arv Z Z.heap aD kD OA 0 [] .null) (hp : p2 = 1) :
    Ctr l Z (⟨"java/util/ArrayList", "grow", "(I)[Ljava/lang/Object;"⟩ : MethodName) jdk_38_method_6_code 4 (some (.array (.object "java/lang/Object"))) ({ frames := 1, cells := 1, slots := 10, locals := 14 } : Room) #[(.ref a1), (.int p2)] h0 (fun v h L => ∃ b k, v = some (.ref b) ∧ Fr n0 L ∧ Keep h0 h [a1] ∧ h0.size ≤ b ∧ Ful Z h a1 b k []) := by
  refine Ctr.of pf_9 (ef_9 a1 p2) ?_
  intro p e s m below meth c T0 hx hby hml hret hlk hnm hZ hown e0 X0
  subst hp
  obtain ⟨Ea, ⟨mc, Fm⟩, Fz, Fe⟩ := Em
  have ADh := AD.ext OL.2
  refine Go.by (g' := (mkF m 1 #[.val (.ref a1), .val (.int (1 : Int32)), .unset, .unset] [(.ref a1)])) (fun _ k => XS.aloadN X0.here hx rfl (hb hby d9_0) rfl rfl k) ?_
  obtain ⟨T14, X14, e14, st14⟩ := getF X0 hx hZ hown (host := "") (Or.inl (hw _ (List.mem_of_getElem? (i := 24) rfl))) Via.refl e0 Fe (g := (mkF m 1 #[.val (.ref a1), .val (.int (1 : Int32)), .unset, .unset] [(.ref a1)])) rfl rfl (hb hby d9_1)
  refine Go.by (g' := (mkF m 4 #[.val (.ref a1), .val (.int (1 : Int32)), .unset, .unset] [(.ref aD)])) st14 ?_
  refine Go.by (g' := (mkF m 5 #[.val (.ref a1), .val (.int (1 : Int32)), .unset, .unset] [(.int (0 : Int32))])) (lnA X14 hx hZ e14 ADh (g := (mkF m 4 #[.val (.ref a1), .val (.int (1 : Int32)), .unset, .unset] [(.ref aD)])) rfl rfl (hb hby d9_4)) ?_
  refine Go.by (g' := (mkF m 6 #[.val (.ref a1), .val (.int (1 : Int32)), .val (.int (0 : Int32)), .unset] [])) (fun _ k => XS.istoreN X14.here hx rfl (hb hby d9_5) rfl (l' := #[.val (.ref a1), .val (.int (1 : Int32)), .val (.int (0 : Int32)), .unset]) rfl k) ?_
  refine Go.by (g' := (mkF m 7 #[.val (.ref a1), .val (.int (1 : Int32)), .val (.int (0 : Int32)), .unset] [(.int (0 : Int32))])) (fun _ k => XS.iloadN X14.here hx rfl (hb hby d9_6) rfl k) ?_
  refine Go.by (g' := (mkF m 10 #[.val (.ref a1), .val (.int (1 : Int32)), .val (.int (0 : Int32)), .unset] [])) (fun _ k => XS.ifNo X14.here hx rfl (hb hby d9_7) rfl ((if0 _ _).trans (flt (by decide)).2.2.1) k) ?_
  refine Go.by (g' := (mkF m 11 #[.val (.ref a1), .val (.int (1 : Int32)), .val (.int (0 : Int32)), .unset] [(.ref a1)])) (fun _ k => XS.aloadN X14.here hx rfl (hb hby d9_10) rfl rfl k) ?_
  obtain ⟨T15, X15, e15, st15⟩ := getF X14 hx hZ hown (host := "") (Or.inl (hw _ (List.mem_of_getElem? (i := 24) rfl))) Via.refl e14 Fe (g := (mkF m 11 #[.val (.ref a1), .val (.int (1 : Int32)), .val (.int (0 : Int32)), .unset] [(.ref a1)])) rfl rfl (hb hby d9_11)
  refine Go.by (g' := (mkF m 14 #[.val (.ref a1), .val (.int (1 : Int32)), .val (.int (0 : Int32)), .unset] [(.ref aD)])) st15 ?_
  obtain ⟨T16, X16, e16, st16⟩ := getS2 X15 hx hZ hown (host := "") (Or.inl (hw _ (List.mem_of_getElem? (i := 23) rfl))) Via.refl e15 (SD.ext OL.2) (g := (mkF m 14 #[.val (.ref a1), .val (.int (1 : Int32)), .val (.int (0 : Int32)), .unset] [(.ref aD)])) rfl (hb hby d9_14)
  refine Go.by (g' := (mkF m 17 #[.val (.ref a1), .val (.int (1 : Int32)), .val (.int (0 : Int32)), .unset] [(.ref aD), (.ref aD)])) st16 ?_
  refine Go.by (g' := (mkF m 45 #[.val (.ref a1), .val (.int (1 : Int32)), .val (.int (0 : Int32)), .unset] [])) (fun _ k => Jvm.RoadKit.acmp (g := (mkF m 17 #[.val (.ref a1), .val (.int (1 : Int32)), .val (.int (0 : Int32)), .unset] [(.ref aD), (.ref aD)])) X16 hx rfl rfl rfl (pc0 := 17) (pc' := 45) (same := true) rfl (hb hby d9_17) rfl (decide_eq_true rfl) (by decide) (by decide) k) ?_
  refine Go.by (g' := (mkF m 46 #[.val (.ref a1), .val (.int (1 : Int32)), .val (.int (0 : Int32)), .unset] [(.ref a1)])) (fun _ k => XS.aloadN X16.here hx rfl (hb hby d9_45) rfl rfl k) ?_
  refine Go.by (g' := (mkF m 48 #[.val (.ref a1), .val (.int (1 : Int32)), .val (.int (0 : Int32)), .unset] [(.int (10 : Int32)), (.ref a1)])) (fun _ k => XS.bipush X16.here hx rfl (hb hby d9_46) k) ?_
  refine Go.by (g' := (mkF m 49 #[.val (.ref a1), .val (.int (1 : Int32)), .val (.int (0 : Int32)), .unset] [(.int (1 : Int32)), (.int (10 : Int32)), (.ref a1)])) (fun _ k => XS.iloadN X16.here hx rfl (hb hby d9_48) rfl k) ?_
  refine Go.callS X16 hx hZ (y := (⟨"java/lang/Math", "max", "(II)I"⟩ : MethodName)) hown (hw _ (List.mem_of_getElem? (i := 80) rfl)) (hw _ (List.mem_of_getElem? (i := 81) rfl)) (hw _ (List.mem_of_getElem? (i := 82) rfl)) (hw _ (List.mem_of_getElem? (i := 83) rfl)) (by decide) (W := 1) (argsL := [(.int (10 : Int32)), (.int (1 : Int32))]) (rest := [(.ref a1)]) (rm10 l Z a0 hw (10 : Int32) (1 : Int32) h0 n0 (by decide)) (by decide) (by decide) (by decide) (by decide) (g := (mkF m 49 #[.val (.ref a1), .val (.int (1 : Int32)), .val (.int (0 : Int32)), .unset] [(.int (1 : Int32)), (.int (10 : Int32)), (.ref a1)])) rfl (by rw [hml]; rfl) (lenOf pd_10 rfl) rfl (by show 2 * 0 + _ ≤ _; exact Nat.le_of_eq rfl) (hb hby d9_49) e16 ?_
  rintro T17 L17 _ X17 ⟨rfl, N17, q17⟩
  have M17 := Fr.app (Fr.nil n0) N17
  show Go p e below _ _ T17 (mkF m 52 #[.val (.ref a1), .val (.int (1 : Int32)), .val (.int (0 : Int32)), .unset] [(.int (10 : Int32)), (.ref a1)])
  obtain ⟨T18, h18, k18, X18, e18, E18, A18, O18, st18⟩ := newR X17 hx hZ hown (hw _ (List.mem_of_getElem? (i := 84) rfl)) (hw _ (List.mem_of_getElem? (i := 85) rfl)) q17 (g := (mkF m 52 #[.val (.ref a1), .val (.int (1 : Int32)), .val (.int (0 : Int32)), .unset] [(.int (10 : Int32)), (.ref a1)])) rfl (hb hby d9_52) rfl (by decide) (cap := 10) (by decide) (by decide) (by decide) (by decide)
  obtain ⟨b, g18⟩ : ∃ z, z = h0.size := ⟨_, rfl⟩
  rw [← g18] at A18 st18
  have ne_a1_b : a1 ≠ b := Nat.ne_of_lt (by rw [g18]; exact Ea.lt)
  have ne_aD_b : aD ≠ b := Nat.ne_of_lt (by rw [g18]; exact ADh.lt)
  have ge_b : n0 ≤ b := Nat.le_trans Z0 (Nat.le_of_eq g18.symm)
  have sz_b : h0.size ≤ b := Nat.le_trans (Keep.refl h0 [a1]).1 (Nat.le_of_eq g18.symm)
  have Z18 : n0 ≤ h18.size := Nat.le_trans Z0 E18.1
  have KP18 : Keep h0 h18 [a1] := (Keep.refl h0 [a1]).ext E18
  refine Go.by (g' := (mkF m 55 #[.val (.ref a1), .val (.int (1 : Int32)), .val (.int (0 : Int32)), .unset] [(.ref b), (.ref a1)])) st18 ?_
  have V0 : Arv Z h18 b k18 OA 10 (pad []) .null := (Arv.new A18 (by decide)).pad (pad_rep [] _ 10)
  refine Go.by (g' := (mkF m 56 #[.val (.ref a1), .val (.int (1 : Int32)), .val (.int (0 : Int32)), .unset] [(.ref b), (.ref a1), (.ref b)])) (fun _ k => XS.dupX1 X18.here hx rfl (hb hby d9_55) rfl rfl rfl k) ?_
  have f19_Fe := (Fe.ext E18)
  have f20_Ea := (Ea.ext E18)
  obtain ⟨T21, h21, X21, e21, W21, st21⟩ := putF X18 hx hZ hown (host := "") (Or.inl (hw _ (List.mem_of_getElem? (i := 24) rfl))) Via.refl e18 f19_Fe f20_Ea (Or.inl (hw _ (List.mem_of_getElem? (i := 25) rfl))) (hw _ (List.mem_of_getElem? (i := 1) rfl)) (ty := (.array (.object "java/lang/Object"))) (by decide) rfl rfl (g := (mkF m 56 #[.val (.ref a1), .val (.int (1 : Int32)), .val (.int (0 : Int32)), .unset] [(.ref b), (.ref a1), (.ref b)])) rfl rfl (hb hby d9_56)
  have Z21 : n0 ≤ h21.size := Nat.le_trans Z18 (Nat.le_of_eq W21.size.symm)
  have M21 := Fr.snoc X21 M17 g1
  have KP21 : Keep h0 h21 [a1] := KP18.wr W21 (Or.inl (List.mem_of_getElem? (i := 0) rfl))
  have F21_Fe := f19_Fe.same W21
  refine Go.by (g' := (mkF m 59 #[.val (.ref a1), .val (.int (1 : Int32)), .val (.int (0 : Int32)), .unset] [(.ref b)])) st21 ?_
  have f22_Ea := (f20_Ea.wr W21)
  have f23_Fm := ((Fm.ext E18).other W21 (Or.inr (slot_ne (Or.inl (hw _ (List.mem_of_getElem? (i := 22) rfl))) (Or.inl (hw _ (List.mem_of_getElem? (i := 25) rfl))) (by decide) (t := .int) (t' := (.array (.object "java/lang/Object"))) (by decide) (by decide))))
  have f24_Fz := ((Fz.ext E18).other W21 (Or.inr (slot_ne (Or.inl (hw _ (List.mem_of_getElem? (i := 64) rfl))) (Or.inl (hw _ (List.mem_of_getElem? (i := 25) rfl))) (by decide) (t := .int) (t' := (.array (.object "java/lang/Object"))) (by decide) (by decide))))
  have f25_V0 := (V0.other W21 (Ne.symm ne_a1_b))
  exact Go.outA X21 hx hret (Lv.narrow X21 hlk (by decide) (by decide)) rfl rfl (hb hby d9_59) (by rw [e21]; exact ⟨b, k18, rfl, M21, KP21, sz_b, f22_Ea, ⟨_, f23_Fm⟩, f24_Fz, F21_Fe, O18, f25_V0⟩)
theorem ef_8 (a1 : Addr) (m : MethodId) : entryFrame m #[(.ref a1)] 1 = mkF m 0 #[.val (.ref a1)] [] := by first | (simp [entryFrame, mkF, argsToLocals, Value.category]; done) | rfl
set_option maxRecDepth 65536 in
set_option maxHeartbeats 40000000 in
theorem rm8 (l : Launch) (Z : State) (a0 : Array Value) (hw : ∀ d ∈ tables_1, d.before a0 Z = true) (a1 : Addr) (h0 : Heap) (n0 : Nat) (Z0 : n0 ≤ h0.size) (aD : Addr) (kD : ClassId) (Em : Emp Z h0 aD a1) (g1 : n0 ≤ a1) (OL : Old Z n0 h0) (SD : Sta Z Z.heap "java/util/ArrayList" "DEFAULTCAPACITY_EMPTY_ELEMENTDATA" "[Ljava/lang/Object;" (.ref aD)) (AD : Arv Z Z.heap aD kD OA 0 [] .null) :
    Ctr l Z (⟨"java/util/ArrayList", "grow", "()[Ljava/lang/Object;"⟩ : MethodName) jdk_38_method_7_code 1 (some (.array (.object "java/lang/Object"))) ({ frames := 2, cells := 1, slots := 10, locals := 29 } : Room) #[(.ref a1)] h0 (fun v h L => ∃ b k, v = some (.ref b) ∧ Fr n0 L ∧ Keep h0 h [a1] ∧ h0.size ≤ b ∧ Ful Z h a1 b k []) := by
  refine Ctr.of pf_8 (ef_8 a1) ?_
  intro p e s m below meth c T0 hx hby hml hret hlk hnm hZ hown e0 X0
  refine Go.by (g' := (mkF m 1 #[.val (.ref a1)] [(.ref a1)])) (fun _ k => XS.aloadN X0.here hx rfl (hb hby d8_0) rfl rfl k) ?_
  refine Go.by (g' := (mkF m 2 #[.val (.ref a1)] [(.ref a1), (.ref a1)])) (fun _ k => XS.aloadN X0.here hx rfl (hb hby d8_1) rfl rfl k) ?_
  obtain ⟨T26, X26, e26, st26⟩ := getF X0 hx hZ hown (host := "") (Or.inl (hw _ (List.mem_of_getElem? (i := 63) rfl))) Via.refl e0 Em.2.2.1 (g := (mkF m 2 #[.val (.ref a1)] [(.ref a1), (.ref a1)])) rfl rfl (hb hby d8_2)
  refine Go.by (g' := (mkF m 5 #[.val (.ref a1)] [(.int (0 : Int32)), (.ref a1)])) st26 ?_
  refine Go.by (g' := (mkF m 6 #[.val (.ref a1)] [(.int (1 : Int32)), (.int (0 : Int32)), (.ref a1)])) (fun _ k => XS.iconst X26.here hx rfl (hb hby d8_5) k) ?_
  refine Go.by (g' := (mkF m 7 #[.val (.ref a1)] [(.int ((0 : Int32) + (1 : Int32))), (.ref a1)])) (fun _ k => XS.iadd X26.here hx rfl (hb hby d8_6) rfl k) ?_
  refine Go.callP X26 hx hZ (y := (⟨"java/util/ArrayList", "grow", "(I)[Ljava/lang/Object;"⟩ : MethodName)) hown (hw _ (List.mem_of_getElem? (i := 75) rfl)) (hw _ (List.mem_of_getElem? (i := 76) rfl)) (hw _ (List.mem_of_getElem? (i := 78) rfl)) (hw _ (List.mem_of_getElem? (i := 77) rfl)) (hw _ (List.mem_of_getElem? (i := 2) rfl)) (hw _ (List.mem_of_getElem? (i := 79) rfl)) (by decide) (W := 0) (a := a1) (argsL := [(.int ((0 : Int32) + (1 : Int32)))]) (rest := []) Em.1 (rm9 l Z a0 hw a1 ((0 : Int32) + (1 : Int32)) h0 n0 Z0 aD kD Em g1 OL SD AD (by decide)) (by decide) (by decide) (by decide) (by decide) (g := (mkF m 7 #[.val (.ref a1)] [(.int ((0 : Int32) + (1 : Int32))), (.ref a1)])) rfl (by rw [hml]; rfl) (lenOf pd_9 rfl) rfl (by show 2 * 0 + _ ≤ _; exact Nat.le_of_eq rfl) (hb hby d8_7) e26 ?_
  rintro T27 L27 _ X27 ⟨b, k, rfl, N27, K27, sz, Fu⟩
  have M27 := Fr.app (Fr.nil n0) N27
  have Z27 : n0 ≤ T27.heap.size := Nat.le_trans Z0 K27.1
  have KP27 : Keep h0 T27.heap [a1] := (Keep.refl h0 [a1]).trans K27 (allS (Or.inl (List.mem_of_getElem? (i := 0) rfl)) all0)
  show Go p e below _ _ T27 (mkF m 10 #[.val (.ref a1)] [(.ref b)])
  exact Go.outA X27 hx hret (Lv.narrow X27 hlk (by decide) (by decide)) rfl rfl (hb hby d8_10) ⟨b, k, rfl, M27, KP27, sz, Fu⟩
theorem ef_7E (a1 : Addr) (a2 : Addr) (a3 : Addr) (p4 : Int32) (m : MethodId) : entryFrame m #[(.ref a1), (.ref a2), (.ref a3), (.int p4)] 4 = mkF m 0 #[.val (.ref a1), .val (.ref a2), .val (.ref a3), .val (.int p4)] [] := by first | (simp [entryFrame, mkF, argsToLocals, Value.category]; done) | rfl
set_option maxRecDepth 65536 in
set_option maxHeartbeats 40000000 in
theorem rm7E (l : Launch) (Z : State) (a0 : Array Value) (hw : ∀ d ∈ tables_1, d.before a0 Z = true) (a1 : Addr) (a2 : Addr) (a3 : Addr) (p4 : Int32) (h0 : Heap) (n0 : Nat) (Z0 : n0 ≤ h0.size) (aD : Addr) (kD : ClassId) (KE : String) (Em : Emp Z h0 aD a1) (g1 : n0 ≤ a1) (OL : Old Z n0 h0) (SD : Sta Z Z.heap "java/util/ArrayList" "DEFAULTCAPACITY_EMPTY_ELEMENTDATA" "[Ljava/lang/Object;" (.ref aD)) (AD : Arv Z Z.heap aD kD OA 0 [] .null) (E2 : Exa Z h0 a2 KE) (wc : (Cond.castable KE "java/lang/Object").before a0 Z = true) (hp : p4 = 0) (ha : a3 = aD) :
    Ctr l Z (⟨"java/util/ArrayList", "add", "(Ljava/lang/Object;[Ljava/lang/Object;I)V"⟩ : MethodName) jdk_38_method_24_code 4 none ({ frames := 3, cells := 1, slots := 10, locals := 41 } : Room) #[(.ref a1), (.ref a2), (.ref a3), (.int p4)] h0 (fun v h L => ∃ b k, v = none ∧ Fr n0 L ∧ Keep h0 h [a1] ∧ h0.size ≤ b ∧ Ful Z h a1 b k [a2]) := by
  refine Ctr.of pf_7 (ef_7E a1 a2 a3 p4) ?_
  intro p e s m below meth c T0 hx hby hml hret hlk hnm hZ hown e0 X0
  subst hp ha
  have ADh := AD.ext OL.2
  refine Go.by (g' := (mkF m 1 #[.val (.ref a1), .val (.ref a2), .val (.ref a3), .val (.int (0 : Int32))] [(.int (0 : Int32))])) (fun _ k => XS.iloadN X0.here hx rfl (hb hby d7_0) rfl k) ?_
  refine Go.by (g' := (mkF m 2 #[.val (.ref a1), .val (.ref a2), .val (.ref a3), .val (.int (0 : Int32))] [(.ref a3), (.int (0 : Int32))])) (fun _ k => XS.aloadN X0.here hx rfl (hb hby d7_1) rfl rfl k) ?_
  refine Go.by (g' := (mkF m 3 #[.val (.ref a1), .val (.ref a2), .val (.ref a3), .val (.int (0 : Int32))] [(.int (0 : Int32)), (.int (0 : Int32))])) (lnA X0 hx hZ e0 ADh (g := (mkF m 2 #[.val (.ref a1), .val (.ref a2), .val (.ref a3), .val (.int (0 : Int32))] [(.ref a3), (.int (0 : Int32))])) rfl rfl (hb hby d7_2)) ?_
  refine Go.by (g' := (mkF m 6 #[.val (.ref a1), .val (.ref a2), .val (.ref a3), .val (.int (0 : Int32))] [])) (fun _ k => XS.icmpNo X0.here hx rfl (hb hby d7_3) rfl (teq rfl).2 k) ?_
  refine Go.by (g' := (mkF m 7 #[.val (.ref a1), .val (.ref a2), .val (.ref a3), .val (.int (0 : Int32))] [(.ref a1)])) (fun _ k => XS.aloadN X0.here hx rfl (hb hby d7_6) rfl rfl k) ?_
  refine Go.callP X0 hx hZ (y := (⟨"java/util/ArrayList", "grow", "()[Ljava/lang/Object;"⟩ : MethodName)) hown (hw _ (List.mem_of_getElem? (i := 70) rfl)) (hw _ (List.mem_of_getElem? (i := 71) rfl)) (hw _ (List.mem_of_getElem? (i := 73) rfl)) (hw _ (List.mem_of_getElem? (i := 72) rfl)) (hw _ (List.mem_of_getElem? (i := 2) rfl)) (hw _ (List.mem_of_getElem? (i := 74) rfl)) (by decide) (W := 0) (a := a1) (argsL := []) (rest := []) Em.1 (rm8 l Z a0 hw a1 h0 n0 Z0 a3 kD Em g1 OL SD AD) (by decide) (by decide) (by decide) (by decide) (g := (mkF m 7 #[.val (.ref a1), .val (.ref a2), .val (.ref a3), .val (.int (0 : Int32))] [(.ref a1)])) rfl (by rw [hml]; rfl) (lenOf pd_8 rfl) rfl (by show 2 * 0 + _ ≤ _; exact Nat.le_of_eq rfl) (hb hby d7_7) e0 ?_
  rintro T28 L28 _ X28 ⟨b, k, rfl, N28, K28, sz, Fu⟩
  have M28 := Fr.app (Fr.nil n0) N28
  have Z28 : n0 ≤ T28.heap.size := Nat.le_trans Z0 K28.1
  have KP28 : Keep h0 T28.heap [a1] := (Keep.refl h0 [a1]).trans K28 (allS (Or.inl (List.mem_of_getElem? (i := 0) rfl)) all0)
  show Go p e below _ _ T28 (mkF m 10 #[.val (.ref a1), .val (.ref a2), .val (.ref a3), .val (.int (0 : Int32))] [(.ref b)])
  have ne_a1_b : a1 ≠ b := Nat.ne_of_lt (Nat.lt_of_lt_of_le Em.lt sz)
  have ne_a2_b : a2 ≠ b := Nat.ne_of_lt (Nat.lt_of_lt_of_le E2.lt sz)
  have ge_b : n0 ≤ b := Nat.le_trans Z0 sz
  obtain ⟨Ea, ⟨mc, Fm⟩, Fz, Fe, Ov, V⟩ := Fu
  refine Go.by (g' := (mkF m 11 #[.val (.ref a1), .val (.ref a2), .val (.ref b), .val (.int (0 : Int32))] [])) (fun _ k => XS.astoreN X28.here hx rfl (hb hby d7_10) rfl rfl (l' := #[.val (.ref a1), .val (.ref a2), .val (.ref b), .val (.int (0 : Int32))]) rfl k) ?_
  refine Go.by (g' := (mkF m 12 #[.val (.ref a1), .val (.ref a2), .val (.ref b), .val (.int (0 : Int32))] [(.ref b)])) (fun _ k => XS.aloadN X28.here hx rfl (hb hby d7_11) rfl rfl k) ?_
  refine Go.by (g' := (mkF m 13 #[.val (.ref a1), .val (.ref a2), .val (.ref b), .val (.int (0 : Int32))] [(.int (0 : Int32)), (.ref b)])) (fun _ k => XS.iloadN X28.here hx rfl (hb hby d7_12) rfl k) ?_
  refine Go.by (g' := (mkF m 14 #[.val (.ref a1), .val (.ref a2), .val (.ref b), .val (.int (0 : Int32))] [(.ref a2), (.int (0 : Int32)), (.ref b)])) (fun _ k => XS.aloadN X28.here hx rfl (hb hby d7_13) rfl rfl k) ?_
  have f29_E2 := (E2.keep K28)
  obtain ⟨T30, h30, X30, e30, W30, V30, st30⟩ := stRA X28 hx hZ rfl V Ov (Ins.of_exa f29_E2 wc) rfl ([] : List Addr).length rfl (by decide) (by decide) (pad_len (by decide)) (g := (mkF m 14 #[.val (.ref a1), .val (.ref a2), .val (.ref b), .val (.int (0 : Int32))] [(.ref a2), (.int (0 : Int32)), (.ref b)])) rfl rfl (hb hby d7_14)
  have Z30 : n0 ≤ h30.size := Nat.le_trans Z28 (Nat.le_of_eq W30.size.symm)
  have M30 := Fr.snoc X30 M28 ge_b
  have KP30 : Keep h0 h30 [a1] := KP28.wr W30 (Or.inr sz)
  refine Go.by (g' := (mkF m 15 #[.val (.ref a1), .val (.ref a2), .val (.ref b), .val (.int (0 : Int32))] [])) st30 ?_
  have U30 : Arv Z h30 b k OA 10 (pad [a2]) .null := by have q := V30; rw [pad_set (by decide)] at q; exact q
  refine Go.by (g' := (mkF m 16 #[.val (.ref a1), .val (.ref a2), .val (.ref b), .val (.int (0 : Int32))] [(.ref a1)])) (fun _ k => XS.aloadN X30.here hx rfl (hb hby d7_15) rfl rfl k) ?_
  refine Go.by (g' := (mkF m 17 #[.val (.ref a1), .val (.ref a2), .val (.ref b), .val (.int (0 : Int32))] [(.int (0 : Int32)), (.ref a1)])) (fun _ k => XS.iloadN X30.here hx rfl (hb hby d7_16) rfl k) ?_
  refine Go.by (g' := (mkF m 18 #[.val (.ref a1), .val (.ref a2), .val (.ref b), .val (.int (0 : Int32))] [(.int (1 : Int32)), (.int (0 : Int32)), (.ref a1)])) (fun _ k => XS.iconst X30.here hx rfl (hb hby d7_17) k) ?_
  refine Go.by (g' := (mkF m 19 #[.val (.ref a1), .val (.ref a2), .val (.ref b), .val (.int (0 : Int32))] [(.int ((0 : Int32) + (1 : Int32))), (.ref a1)])) (fun _ k => XS.iadd X30.here hx rfl (hb hby d7_18) rfl k) ?_
  have f31_Fz := (Fz.other W30 (Or.inl ne_a1_b))
  have f32_Ea := (Ea.wr W30)
  obtain ⟨T33, h33, X33, e33, W33, st33⟩ := putF X30 hx hZ hown (host := "") (Or.inl (hw _ (List.mem_of_getElem? (i := 63) rfl))) Via.refl e30 f31_Fz f32_Ea (Or.inl (hw _ (List.mem_of_getElem? (i := 64) rfl))) (hw _ (List.mem_of_getElem? (i := 1) rfl)) (ty := .int) (by decide) rfl rfl (g := (mkF m 19 #[.val (.ref a1), .val (.ref a2), .val (.ref b), .val (.int (0 : Int32))] [(.int ((0 : Int32) + (1 : Int32))), (.ref a1)])) rfl rfl (hb hby d7_19)
  have Z33 : n0 ≤ h33.size := Nat.le_trans Z30 (Nat.le_of_eq W33.size.symm)
  have M33 := Fr.snoc X33 M30 g1
  have KP33 : Keep h0 h33 [a1] := KP30.wr W33 (Or.inl (List.mem_of_getElem? (i := 0) rfl))
  have F33_Fz := f31_Fz.same W33
  refine Go.by (g' := (mkF m 22 #[.val (.ref a1), .val (.ref a2), .val (.ref b), .val (.int (0 : Int32))] [])) st33 ?_
  have f34_Ea := (f32_Ea.wr W33)
  have f35_Fm := ((Fm.other W30 (Or.inl ne_a1_b)).other W33 (Or.inr (slot_ne (Or.inl (hw _ (List.mem_of_getElem? (i := 22) rfl))) (Or.inl (hw _ (List.mem_of_getElem? (i := 64) rfl))) (by decide) (t := .int) (t' := .int) (by decide) (by decide))))
  have f36_Fe := ((Fe.other W30 (Or.inl ne_a1_b)).other W33 (Or.inr (slot_ne (Or.inl (hw _ (List.mem_of_getElem? (i := 25) rfl))) (Or.inl (hw _ (List.mem_of_getElem? (i := 64) rfl))) (by decide) (t := (.array (.object "java/lang/Object"))) (t' := .int) (by decide) (by decide))))
  have f37_V := (U30.other W33 (Ne.symm ne_a1_b))
  exact Go.outN X33 hx hret (Lv.narrow X33 hlk (by decide) (by decide)) (hb hby d7_22) (by rw [e33]; exact ⟨b, k, rfl, M33, KP33, sz, f34_Ea, ⟨_, f35_Fm⟩, F33_Fz, f36_Fe, Ov, f37_V⟩)
theorem ef_6E (a1 : Addr) (a2 : Addr) (m : MethodId) : entryFrame m #[(.ref a1), (.ref a2)] 2 = mkF m 0 #[.val (.ref a1), .val (.ref a2)] [] := by first | (simp [entryFrame, mkF, argsToLocals, Value.category]; done) | rfl
set_option maxRecDepth 65536 in
set_option maxHeartbeats 40000000 in
theorem rm6E (l : Launch) (Z : State) (a0 : Array Value) (hw : ∀ d ∈ tables_1, d.before a0 Z = true) (a1 : Addr) (a2 : Addr) (h0 : Heap) (n0 : Nat) (Z0 : n0 ≤ h0.size) (aD : Addr) (kD : ClassId) (KE : String) (Em : Emp Z h0 aD a1) (g1 : n0 ≤ a1) (OL : Old Z n0 h0) (SD : Sta Z Z.heap "java/util/ArrayList" "DEFAULTCAPACITY_EMPTY_ELEMENTDATA" "[Ljava/lang/Object;" (.ref aD)) (AD : Arv Z Z.heap aD kD OA 0 [] .null) (E2 : Exa Z h0 a2 KE) (wc : (Cond.castable KE "java/lang/Object").before a0 Z = true) :
    Ctr l Z (⟨"java/util/ArrayList", "add", "(Ljava/lang/Object;)Z"⟩ : MethodName) jdk_38_method_25_code 2 (some .boolean) ({ frames := 4, cells := 1, slots := 10, locals := 56 } : Room) #[(.ref a1), (.ref a2)] h0 (fun v h L => ∃ b k, v = some (.int 1) ∧ Fr n0 L ∧ Keep h0 h [a1] ∧ h0.size ≤ b ∧ Ful Z h a1 b k [a2]) := by
  refine Ctr.of pf_6 (ef_6E a1 a2) ?_
  intro p e s m below meth c T0 hx hby hml hret hlk hnm hZ hown e0 X0
  obtain ⟨Ea, ⟨mc, Fm⟩, Fz, Fe⟩ := Em
  refine Go.by (g' := (mkF m 1 #[.val (.ref a1), .val (.ref a2)] [(.ref a1)])) (fun _ k => XS.aloadN X0.here hx rfl (hb hby d6_0) rfl rfl k) ?_
  refine Go.by (g' := (mkF m 2 #[.val (.ref a1), .val (.ref a2)] [(.ref a1), (.ref a1)])) (fun _ k => XS.dup X0.here hx rfl (hb hby d6_1) rfl rfl k) ?_
  obtain ⟨T38, X38, e38, st38⟩ := getF X0 hx hZ hown (host := "") (Or.inl (hw _ (List.mem_of_getElem? (i := 61) rfl))) (Via.of (hw _ (List.mem_of_getElem? (i := 62) rfl))) e0 Fm (g := (mkF m 2 #[.val (.ref a1), .val (.ref a2)] [(.ref a1), (.ref a1)])) rfl rfl (hb hby d6_2)
  refine Go.by (g' := (mkF m 5 #[.val (.ref a1), .val (.ref a2)] [(.int mc), (.ref a1)])) st38 ?_
  refine Go.by (g' := (mkF m 6 #[.val (.ref a1), .val (.ref a2)] [(.int (1 : Int32)), (.int mc), (.ref a1)])) (fun _ k => XS.iconst X38.here hx rfl (hb hby d6_5) k) ?_
  refine Go.by (g' := (mkF m 7 #[.val (.ref a1), .val (.ref a2)] [(.int (mc + (1 : Int32))), (.ref a1)])) (fun _ k => XS.iadd X38.here hx rfl (hb hby d6_6) rfl k) ?_
  obtain ⟨T39, h39, X39, e39, W39, st39⟩ := putF X38 hx hZ hown (host := "") (Or.inl (hw _ (List.mem_of_getElem? (i := 61) rfl))) (Via.of (hw _ (List.mem_of_getElem? (i := 62) rfl))) e38 Fm Ea (Or.inl (hw _ (List.mem_of_getElem? (i := 22) rfl))) (hw _ (List.mem_of_getElem? (i := 1) rfl)) (ty := .int) (by decide) rfl rfl (g := (mkF m 7 #[.val (.ref a1), .val (.ref a2)] [(.int (mc + (1 : Int32))), (.ref a1)])) rfl rfl (hb hby d6_7)
  have Z39 : n0 ≤ h39.size := Nat.le_trans Z0 (Nat.le_of_eq W39.size.symm)
  have M39 := Fr.snoc X39 (Fr.nil n0) g1
  have KP39 : Keep h0 h39 [a1] := (Keep.refl h0 [a1]).wr W39 (Or.inl (List.mem_of_getElem? (i := 0) rfl))
  have F39_Fm := Fm.same W39
  refine Go.by (g' := (mkF m 10 #[.val (.ref a1), .val (.ref a2)] [])) st39 ?_
  refine Go.by (g' := (mkF m 11 #[.val (.ref a1), .val (.ref a2)] [(.ref a1)])) (fun _ k => XS.aloadN X39.here hx rfl (hb hby d6_10) rfl rfl k) ?_
  refine Go.by (g' := (mkF m 12 #[.val (.ref a1), .val (.ref a2)] [(.ref a2), (.ref a1)])) (fun _ k => XS.aloadN X39.here hx rfl (hb hby d6_11) rfl rfl k) ?_
  refine Go.by (g' := (mkF m 13 #[.val (.ref a1), .val (.ref a2)] [(.ref a1), (.ref a2), (.ref a1)])) (fun _ k => XS.aloadN X39.here hx rfl (hb hby d6_12) rfl rfl k) ?_
  have f40_Fe := (Fe.other W39 (Or.inr (slot_ne (Or.inl (hw _ (List.mem_of_getElem? (i := 25) rfl))) (Or.inl (hw _ (List.mem_of_getElem? (i := 22) rfl))) (by decide) (t := (.array (.object "java/lang/Object"))) (t' := .int) (by decide) (by decide))))
  obtain ⟨T41, X41, e41, st41⟩ := getF X39 hx hZ hown (host := "") (Or.inl (hw _ (List.mem_of_getElem? (i := 24) rfl))) Via.refl e39 f40_Fe (g := (mkF m 13 #[.val (.ref a1), .val (.ref a2)] [(.ref a1), (.ref a2), (.ref a1)])) rfl rfl (hb hby d6_13)
  refine Go.by (g' := (mkF m 16 #[.val (.ref a1), .val (.ref a2)] [(.ref aD), (.ref a2), (.ref a1)])) st41 ?_
  refine Go.by (g' := (mkF m 17 #[.val (.ref a1), .val (.ref a2)] [(.ref a1), (.ref aD), (.ref a2), (.ref a1)])) (fun _ k => XS.aloadN X41.here hx rfl (hb hby d6_16) rfl rfl k) ?_
  have f42_Fz := (Fz.other W39 (Or.inr (slot_ne (Or.inl (hw _ (List.mem_of_getElem? (i := 64) rfl))) (Or.inl (hw _ (List.mem_of_getElem? (i := 22) rfl))) (by decide) (t := .int) (t' := .int) (by decide) (by decide))))
  obtain ⟨T43, X43, e43, st43⟩ := getF X41 hx hZ hown (host := "") (Or.inl (hw _ (List.mem_of_getElem? (i := 63) rfl))) Via.refl e41 f42_Fz (g := (mkF m 17 #[.val (.ref a1), .val (.ref a2)] [(.ref a1), (.ref aD), (.ref a2), (.ref a1)])) rfl rfl (hb hby d6_17)
  refine Go.by (g' := (mkF m 20 #[.val (.ref a1), .val (.ref a2)] [(.int (0 : Int32)), (.ref aD), (.ref a2), (.ref a1)])) st43 ?_
  have f44_Ea := (Ea.wr W39)
  have Em : Emp Z h39 aD a1 := ⟨f44_Ea, ⟨_, F39_Fm⟩, f42_Fz, f40_Fe⟩
  have f45_OL := (OL.wr W39 g1)
  have f46_E2 := (E2.wr W39)
  refine Go.callP X43 hx hZ (y := (⟨"java/util/ArrayList", "add", "(Ljava/lang/Object;[Ljava/lang/Object;I)V"⟩ : MethodName)) hown (hw _ (List.mem_of_getElem? (i := 65) rfl)) (hw _ (List.mem_of_getElem? (i := 66) rfl)) (hw _ (List.mem_of_getElem? (i := 68) rfl)) (hw _ (List.mem_of_getElem? (i := 67) rfl)) (hw _ (List.mem_of_getElem? (i := 2) rfl)) (hw _ (List.mem_of_getElem? (i := 69) rfl)) (by decide) (W := 0) (a := a1) (argsL := [(.ref a2), (.ref aD), (.int (0 : Int32))]) (rest := []) f44_Ea (rm7E l Z a0 hw a1 a2 aD (0 : Int32) h39 n0 Z39 aD kD KE Em g1 f45_OL SD AD f46_E2 wc rfl rfl) (by decide) (by decide) (by decide) (by decide) (g := (mkF m 20 #[.val (.ref a1), .val (.ref a2)] [(.int (0 : Int32)), (.ref aD), (.ref a2), (.ref a1)])) rfl (by rw [hml]; rfl) (lenOf pd_7 rfl) rfl (by show 2 * 0 + _ ≤ _; exact Nat.le_of_eq rfl) (hb hby d6_20) e43 ?_
  rintro T47 L47 _ X47 ⟨b, k, rfl, N47, K47, sz, Fu⟩
  have M47 := Fr.app M39 N47
  have Z47 : n0 ≤ T47.heap.size := Nat.le_trans Z39 K47.1
  have KP47 : Keep h0 T47.heap [a1] := KP39.trans K47 (allS (Or.inl (List.mem_of_getElem? (i := 0) rfl)) all0)
  show Go p e below _ _ T47 (mkF m 23 #[.val (.ref a1), .val (.ref a2)] [])
  refine Go.by (g' := (mkF m 24 #[.val (.ref a1), .val (.ref a2)] [(.int (1 : Int32))])) (fun _ k => XS.iconst X47.here hx rfl (hb hby d6_23) k) ?_
  exact Go.outZ X47 hx hret (Lv.narrow X47 hlk (by decide) (by decide)) (hb hby d6_24) (Or.inr rfl) ⟨b, k, rfl, M47, KP47, Nat.le_trans (Nat.le_of_eq W39.size.symm) sz, Fu⟩
theorem ef_7F (a1 : Addr) (a2 : Addr) (a3 : Addr) (p4 : Int32) (m : MethodId) : entryFrame m #[(.ref a1), (.ref a2), (.ref a3), (.int p4)] 4 = mkF m 0 #[.val (.ref a1), .val (.ref a2), .val (.ref a3), .val (.int p4)] [] := by first | (simp [entryFrame, mkF, argsToLocals, Value.category]; done) | rfl
set_option maxRecDepth 65536 in
set_option maxHeartbeats 40000000 in
theorem rm7F (l : Launch) (Z : State) (a0 : Array Value) (hw : ∀ d ∈ tables_1, d.before a0 Z = true) (a1 : Addr) (a2 : Addr) (a3 : Addr) (p4 : Int32) (h0 : Heap) (n0 : Nat) (k : ClassId) (xs : List Addr) (KE : String) (Fu : Ful Z h0 a1 a3 k xs) (hx10 : xs.length < 10) (g1 : n0 ≤ a1) (g3 : n0 ≤ a3) (E2 : Exa Z h0 a2 KE) (wc : (Cond.castable KE "java/lang/Object").before a0 Z = true) (hp : p4 = szI xs.length) :
    Ctr l Z (⟨"java/util/ArrayList", "add", "(Ljava/lang/Object;[Ljava/lang/Object;I)V"⟩ : MethodName) jdk_38_method_24_code 4 none ({ frames := 0, cells := 0, slots := 0, locals := 0 } : Room) #[(.ref a1), (.ref a2), (.ref a3), (.int p4)] h0 (fun v h L => v = none ∧ Fr n0 L ∧ Keep h0 h [a1, a3] ∧ Ful Z h a1 a3 k (xs ++ [a2])) := by
  refine Ctr.of pf_7 (ef_7F a1 a2 a3 p4) ?_
  intro p e s m below meth c T0 hx hby hml hret hlk hnm hZ hown e0 X0
  subst hp
  obtain ⟨Ea, ⟨mc, Fm⟩, Fz, Fe, Ov, V⟩ := Fu
  have ne_a1_a3 : a1 ≠ a3 := Exa.neArv Ea V (hw _ (List.mem_of_getElem? (i := 1) rfl))
  refine Go.by (g' := (mkF m 1 #[.val (.ref a1), .val (.ref a2), .val (.ref a3), .val (.int (szI xs.length))] [(.int (szI xs.length))])) (fun _ k => XS.iloadN X0.here hx rfl (hb hby d7_0) rfl k) ?_
  refine Go.by (g' := (mkF m 2 #[.val (.ref a1), .val (.ref a2), .val (.ref a3), .val (.int (szI xs.length))] [(.ref a3), (.int (szI xs.length))])) (fun _ k => XS.aloadN X0.here hx rfl (hb hby d7_1) rfl rfl k) ?_
  refine Go.by (g' := (mkF m 3 #[.val (.ref a1), .val (.ref a2), .val (.ref a3), .val (.int (szI xs.length))] [(.int (10 : Int32)), (.int (szI xs.length))])) (lnA X0 hx hZ e0 V (g := (mkF m 2 #[.val (.ref a1), .val (.ref a2), .val (.ref a3), .val (.int (szI xs.length))] [(.ref a3), (.int (szI xs.length))])) rfl rfl (hb hby d7_2)) ?_
  refine Go.by (g' := (mkF m 11 #[.val (.ref a1), .val (.ref a2), .val (.ref a3), .val (.int (szI xs.length))] [])) (fun _ k => XS.icmpYes X0.here hx rfl (pc0 := 3) (pc' := 11) rfl (hb hby d7_3) rfl (feq (szI_ne hx10)).2 (by decide) (by decide) k) ?_
  refine Go.by (g' := (mkF m 12 #[.val (.ref a1), .val (.ref a2), .val (.ref a3), .val (.int (szI xs.length))] [(.ref a3)])) (fun _ k => XS.aloadN X0.here hx rfl (hb hby d7_11) rfl rfl k) ?_
  refine Go.by (g' := (mkF m 13 #[.val (.ref a1), .val (.ref a2), .val (.ref a3), .val (.int (szI xs.length))] [(.int (szI xs.length)), (.ref a3)])) (fun _ k => XS.iloadN X0.here hx rfl (hb hby d7_12) rfl k) ?_
  refine Go.by (g' := (mkF m 14 #[.val (.ref a1), .val (.ref a2), .val (.ref a3), .val (.int (szI xs.length))] [(.ref a2), (.int (szI xs.length)), (.ref a3)])) (fun _ k => XS.aloadN X0.here hx rfl (hb hby d7_13) rfl rfl k) ?_
  obtain ⟨T48, h48, X48, e48, W48, V48, st48⟩ := stRA X0 hx hZ e0 V Ov (Ins.of_exa E2 wc) rfl xs.length (szI_nat (by omega)) (szI_nn (by omega)) (szI_lt hx10) (pad_len hx10) (g := (mkF m 14 #[.val (.ref a1), .val (.ref a2), .val (.ref a3), .val (.int (szI xs.length))] [(.ref a2), (.int (szI xs.length)), (.ref a3)])) rfl rfl (hb hby d7_14)
  have M48 := Fr.snoc X48 (Fr.nil n0) g3
  have KP48 : Keep h0 h48 [a1, a3] := (Keep.refl h0 [a1, a3]).wr W48 (Or.inl (List.mem_of_getElem? (i := 1) rfl))
  refine Go.by (g' := (mkF m 15 #[.val (.ref a1), .val (.ref a2), .val (.ref a3), .val (.int (szI xs.length))] [])) st48 ?_
  have U48 : Arv Z h48 a3 k OA 10 (pad (xs ++ [a2])) .null := by have q := V48; rw [pad_set hx10] at q; exact q
  refine Go.by (g' := (mkF m 16 #[.val (.ref a1), .val (.ref a2), .val (.ref a3), .val (.int (szI xs.length))] [(.ref a1)])) (fun _ k => XS.aloadN X48.here hx rfl (hb hby d7_15) rfl rfl k) ?_
  refine Go.by (g' := (mkF m 17 #[.val (.ref a1), .val (.ref a2), .val (.ref a3), .val (.int (szI xs.length))] [(.int (szI xs.length)), (.ref a1)])) (fun _ k => XS.iloadN X48.here hx rfl (hb hby d7_16) rfl k) ?_
  refine Go.by (g' := (mkF m 18 #[.val (.ref a1), .val (.ref a2), .val (.ref a3), .val (.int (szI xs.length))] [(.int (1 : Int32)), (.int (szI xs.length)), (.ref a1)])) (fun _ k => XS.iconst X48.here hx rfl (hb hby d7_17) k) ?_
  refine Go.by (g' := (mkF m 19 #[.val (.ref a1), .val (.ref a2), .val (.ref a3), .val (.int (szI xs.length))] [(.int ((szI xs.length) + (1 : Int32))), (.ref a1)])) (fun _ k => XS.iadd X48.here hx rfl (hb hby d7_18) rfl k) ?_
  have f49_Fz := (Fz.other W48 (Or.inl ne_a1_a3))
  have f50_Ea := (Ea.wr W48)
  obtain ⟨T51, h51, X51, e51, W51, st51⟩ := putF X48 hx hZ hown (host := "") (Or.inl (hw _ (List.mem_of_getElem? (i := 63) rfl))) Via.refl e48 f49_Fz f50_Ea (Or.inl (hw _ (List.mem_of_getElem? (i := 64) rfl))) (hw _ (List.mem_of_getElem? (i := 1) rfl)) (ty := .int) (by decide) rfl rfl (g := (mkF m 19 #[.val (.ref a1), .val (.ref a2), .val (.ref a3), .val (.int (szI xs.length))] [(.int ((szI xs.length) + (1 : Int32))), (.ref a1)])) rfl rfl (hb hby d7_19)
  have M51 := Fr.snoc X51 M48 g1
  have KP51 : Keep h0 h51 [a1, a3] := KP48.wr W51 (Or.inl (List.mem_of_getElem? (i := 0) rfl))
  have F51_Fz := f49_Fz.same W51
  refine Go.by (g' := (mkF m 22 #[.val (.ref a1), .val (.ref a2), .val (.ref a3), .val (.int (szI xs.length))] [])) st51 ?_
  have f52_Ea := (f50_Ea.wr W51)
  have f53_Fm := ((Fm.other W48 (Or.inl ne_a1_a3)).other W51 (Or.inr (slot_ne (Or.inl (hw _ (List.mem_of_getElem? (i := 22) rfl))) (Or.inl (hw _ (List.mem_of_getElem? (i := 64) rfl))) (by decide) (t := .int) (t' := .int) (by decide) (by decide))))
  have f54_Fe := ((Fe.other W48 (Or.inl ne_a1_a3)).other W51 (Or.inr (slot_ne (Or.inl (hw _ (List.mem_of_getElem? (i := 25) rfl))) (Or.inl (hw _ (List.mem_of_getElem? (i := 64) rfl))) (by decide) (t := (.array (.object "java/lang/Object"))) (t' := .int) (by decide) (by decide))))
  have f55_V := (U48.other W51 (Ne.symm ne_a1_a3))
  exact Go.outN X51 hx hret (Lv.narrow X51 hlk (by decide) (by decide)) (hb hby d7_22) (by rw [e51]; exact ⟨rfl, M51, KP51, f52_Ea, ⟨_, f53_Fm⟩, (by have q := F51_Fz; rw [szI_succ hx10] at q; rw [List.length_append]; exact q), f54_Fe, Ov, f55_V⟩)
theorem ef_6F (a1 : Addr) (a2 : Addr) (m : MethodId) : entryFrame m #[(.ref a1), (.ref a2)] 2 = mkF m 0 #[.val (.ref a1), .val (.ref a2)] [] := by first | (simp [entryFrame, mkF, argsToLocals, Value.category]; done) | rfl
set_option maxRecDepth 65536 in
set_option maxHeartbeats 40000000 in
theorem rm6F (l : Launch) (Z : State) (a0 : Array Value) (hw : ∀ d ∈ tables_1, d.before a0 Z = true) (a1 : Addr) (a2 : Addr) (h0 : Heap) (n0 : Nat) (a3 : Addr) (k : ClassId) (xs : List Addr) (KE : String) (Fu : Ful Z h0 a1 a3 k xs) (hx10 : xs.length < 10) (g1 : n0 ≤ a1) (g3 : n0 ≤ a3) (E2 : Exa Z h0 a2 KE) (wc : (Cond.castable KE "java/lang/Object").before a0 Z = true) :
    Ctr l Z (⟨"java/util/ArrayList", "add", "(Ljava/lang/Object;)Z"⟩ : MethodName) jdk_38_method_25_code 2 (some .boolean) ({ frames := 1, cells := 0, slots := 0, locals := 15 } : Room) #[(.ref a1), (.ref a2)] h0 (fun v h L => v = some (.int 1) ∧ Fr n0 L ∧ Keep h0 h [a1, a3] ∧ Ful Z h a1 a3 k (xs ++ [a2])) := by
  refine Ctr.of pf_6 (ef_6F a1 a2) ?_
  intro p e s m below meth c T0 hx hby hml hret hlk hnm hZ hown e0 X0
  obtain ⟨Ea, ⟨mc, Fm⟩, Fz, Fe, Ov, V⟩ := Fu
  have ne_a1_a3 : a1 ≠ a3 := Exa.neArv Ea V (hw _ (List.mem_of_getElem? (i := 1) rfl))
  refine Go.by (g' := (mkF m 1 #[.val (.ref a1), .val (.ref a2)] [(.ref a1)])) (fun _ k => XS.aloadN X0.here hx rfl (hb hby d6_0) rfl rfl k) ?_
  refine Go.by (g' := (mkF m 2 #[.val (.ref a1), .val (.ref a2)] [(.ref a1), (.ref a1)])) (fun _ k => XS.dup X0.here hx rfl (hb hby d6_1) rfl rfl k) ?_
  obtain ⟨T56, X56, e56, st56⟩ := getF X0 hx hZ hown (host := "") (Or.inl (hw _ (List.mem_of_getElem? (i := 61) rfl))) (Via.of (hw _ (List.mem_of_getElem? (i := 62) rfl))) e0 Fm (g := (mkF m 2 #[.val (.ref a1), .val (.ref a2)] [(.ref a1), (.ref a1)])) rfl rfl (hb hby d6_2)
  refine Go.by (g' := (mkF m 5 #[.val (.ref a1), .val (.ref a2)] [(.int mc), (.ref a1)])) st56 ?_
  refine Go.by (g' := (mkF m 6 #[.val (.ref a1), .val (.ref a2)] [(.int (1 : Int32)), (.int mc), (.ref a1)])) (fun _ k => XS.iconst X56.here hx rfl (hb hby d6_5) k) ?_
  refine Go.by (g' := (mkF m 7 #[.val (.ref a1), .val (.ref a2)] [(.int (mc + (1 : Int32))), (.ref a1)])) (fun _ k => XS.iadd X56.here hx rfl (hb hby d6_6) rfl k) ?_
  obtain ⟨T57, h57, X57, e57, W57, st57⟩ := putF X56 hx hZ hown (host := "") (Or.inl (hw _ (List.mem_of_getElem? (i := 61) rfl))) (Via.of (hw _ (List.mem_of_getElem? (i := 62) rfl))) e56 Fm Ea (Or.inl (hw _ (List.mem_of_getElem? (i := 22) rfl))) (hw _ (List.mem_of_getElem? (i := 1) rfl)) (ty := .int) (by decide) rfl rfl (g := (mkF m 7 #[.val (.ref a1), .val (.ref a2)] [(.int (mc + (1 : Int32))), (.ref a1)])) rfl rfl (hb hby d6_7)
  have M57 := Fr.snoc X57 (Fr.nil n0) g1
  have KP57 : Keep h0 h57 [a1, a3] := (Keep.refl h0 [a1, a3]).wr W57 (Or.inl (List.mem_of_getElem? (i := 0) rfl))
  have F57_Fm := Fm.same W57
  refine Go.by (g' := (mkF m 10 #[.val (.ref a1), .val (.ref a2)] [])) st57 ?_
  refine Go.by (g' := (mkF m 11 #[.val (.ref a1), .val (.ref a2)] [(.ref a1)])) (fun _ k => XS.aloadN X57.here hx rfl (hb hby d6_10) rfl rfl k) ?_
  refine Go.by (g' := (mkF m 12 #[.val (.ref a1), .val (.ref a2)] [(.ref a2), (.ref a1)])) (fun _ k => XS.aloadN X57.here hx rfl (hb hby d6_11) rfl rfl k) ?_
  refine Go.by (g' := (mkF m 13 #[.val (.ref a1), .val (.ref a2)] [(.ref a1), (.ref a2), (.ref a1)])) (fun _ k => XS.aloadN X57.here hx rfl (hb hby d6_12) rfl rfl k) ?_
  have f58_Fe := (Fe.other W57 (Or.inr (slot_ne (Or.inl (hw _ (List.mem_of_getElem? (i := 25) rfl))) (Or.inl (hw _ (List.mem_of_getElem? (i := 22) rfl))) (by decide) (t := (.array (.object "java/lang/Object"))) (t' := .int) (by decide) (by decide))))
  obtain ⟨T59, X59, e59, st59⟩ := getF X57 hx hZ hown (host := "") (Or.inl (hw _ (List.mem_of_getElem? (i := 24) rfl))) Via.refl e57 f58_Fe (g := (mkF m 13 #[.val (.ref a1), .val (.ref a2)] [(.ref a1), (.ref a2), (.ref a1)])) rfl rfl (hb hby d6_13)
  refine Go.by (g' := (mkF m 16 #[.val (.ref a1), .val (.ref a2)] [(.ref a3), (.ref a2), (.ref a1)])) st59 ?_
  refine Go.by (g' := (mkF m 17 #[.val (.ref a1), .val (.ref a2)] [(.ref a1), (.ref a3), (.ref a2), (.ref a1)])) (fun _ k => XS.aloadN X59.here hx rfl (hb hby d6_16) rfl rfl k) ?_
  have f60_Fz := (Fz.other W57 (Or.inr (slot_ne (Or.inl (hw _ (List.mem_of_getElem? (i := 64) rfl))) (Or.inl (hw _ (List.mem_of_getElem? (i := 22) rfl))) (by decide) (t := .int) (t' := .int) (by decide) (by decide))))
  obtain ⟨T61, X61, e61, st61⟩ := getF X59 hx hZ hown (host := "") (Or.inl (hw _ (List.mem_of_getElem? (i := 63) rfl))) Via.refl e59 f60_Fz (g := (mkF m 17 #[.val (.ref a1), .val (.ref a2)] [(.ref a1), (.ref a3), (.ref a2), (.ref a1)])) rfl rfl (hb hby d6_17)
  refine Go.by (g' := (mkF m 20 #[.val (.ref a1), .val (.ref a2)] [(.int (szI xs.length)), (.ref a3), (.ref a2), (.ref a1)])) st61 ?_
  have f62_Ea := (Ea.wr W57)
  have f63_V := (V.other W57 (Ne.symm ne_a1_a3))
  have Fu : Ful Z h57 a1 a3 k xs := ⟨f62_Ea, ⟨_, F57_Fm⟩, f60_Fz, f58_Fe, Ov, f63_V⟩
  have f64_E2 := (E2.wr W57)
  refine Go.callP X61 hx hZ (y := (⟨"java/util/ArrayList", "add", "(Ljava/lang/Object;[Ljava/lang/Object;I)V"⟩ : MethodName)) hown (hw _ (List.mem_of_getElem? (i := 65) rfl)) (hw _ (List.mem_of_getElem? (i := 66) rfl)) (hw _ (List.mem_of_getElem? (i := 68) rfl)) (hw _ (List.mem_of_getElem? (i := 67) rfl)) (hw _ (List.mem_of_getElem? (i := 2) rfl)) (hw _ (List.mem_of_getElem? (i := 69) rfl)) (by decide) (W := 0) (a := a1) (argsL := [(.ref a2), (.ref a3), (.int (szI xs.length))]) (rest := []) f62_Ea (rm7F l Z a0 hw a1 a2 a3 (szI xs.length) h57 n0 k xs KE Fu hx10 g1 g3 f64_E2 wc rfl) (by decide) (by decide) (by decide) (by decide) (g := (mkF m 20 #[.val (.ref a1), .val (.ref a2)] [(.int (szI xs.length)), (.ref a3), (.ref a2), (.ref a1)])) rfl (by rw [hml]; rfl) (lenOf pd_7 rfl) rfl (by show 2 * 0 + _ ≤ _; exact Nat.le_of_eq rfl) (hb hby d6_20) e61 ?_
  rintro T65 L65 _ X65 ⟨rfl, N65, K65, Fv⟩
  have M65 := Fr.app M57 N65
  have KP65 : Keep h0 T65.heap [a1, a3] := KP57.trans K65 (allS (Or.inl (List.mem_of_getElem? (i := 0) rfl)) (allS (Or.inl (List.mem_of_getElem? (i := 1) rfl)) all0))
  show Go p e below _ _ T65 (mkF m 23 #[.val (.ref a1), .val (.ref a2)] [])
  refine Go.by (g' := (mkF m 24 #[.val (.ref a1), .val (.ref a2)] [(.int (1 : Int32))])) (fun _ k => XS.iconst X65.here hx rfl (hb hby d6_23) k) ?_
  exact Go.outZ X65 hx hret (Lv.narrow X65 hlk (by decide) (by decide)) (hb hby d6_24) (Or.inr rfl) ⟨rfl, M65, KP65, Fv⟩
theorem ef_5 (a1 : Addr) (a2 : Addr) (a3 : Addr) (p4 : Int32) (p5 : Int32) (m : MethodId) : entryFrame m #[(.ref a1), (.ref a2), (.ref a3), (.int p4), (.int p5)] 5 = mkF m 0 #[.val (.ref a1), .val (.ref a2), .val (.ref a3), .val (.int p4), .val (.int p5)] [] := by first | (simp [entryFrame, mkF, argsToLocals, Value.category]; done) | rfl
set_option maxRecDepth 65536 in
set_option maxHeartbeats 40000000 in
theorem rm5 (l : Launch) (Z : State) (a0 : Array Value) (hw : ∀ d ∈ tables_1, d.before a0 Z = true) (a1 : Addr) (a2 : Addr) (a3 : Addr) (p4 : Int32) (p5 : Int32) (h0 : Heap) (n0 : Nat) (u1 u2 u3 u4 : Value) (Ea : Exa Z h0 a1 "com/example/grenoble/grenoble/tla/Token") (F1 : Fld Z h0 a1 "com/example/grenoble/grenoble/tla/Token" "kind" "Lcom/example/grenoble/grenoble/tla/Token$Kind;" u1) (F2 : Fld Z h0 a1 "com/example/grenoble/grenoble/tla/Token" "text" "Ljava/lang/String;" u2) (F3 : Fld Z h0 a1 "com/example/grenoble/grenoble/tla/Token" "line" "I" u3) (F4 : Fld Z h0 a1 "com/example/grenoble/grenoble/tla/Token" "column" "I" u4) (g1 : n0 ≤ a1) :
    Ctr l Z (⟨"com/example/grenoble/grenoble/tla/Token", "<init>", "(Lcom/example/grenoble/grenoble/tla/Token$Kind;Ljava/lang/String;II)V"⟩ : MethodName) prog_150_method_1_code 5 none ({ frames := 1, cells := 0, slots := 0, locals := 12 } : Room) #[(.ref a1), (.ref a2), (.ref a3), (.int p4), (.int p5)] h0 (fun v h L => v = none ∧ Fr n0 L ∧ Keep h0 h [a1] ∧ Fld Z h a1 "com/example/grenoble/grenoble/tla/Token" "kind" "Lcom/example/grenoble/grenoble/tla/Token$Kind;" (.ref a2) ∧ Fld Z h a1 "com/example/grenoble/grenoble/tla/Token" "line" "I" (.int p4) ∧ Fld Z h a1 "com/example/grenoble/grenoble/tla/Token" "column" "I" (.int p5)) := by
  refine Ctr.of pf_5 (ef_5 a1 a2 a3 p4 p5) ?_
  intro p e s m below meth c T0 hx hby hml hret hlk hnm hZ hown e0 X0
  refine Go.by (g' := (mkF m 1 #[.val (.ref a1), .val (.ref a2), .val (.ref a3), .val (.int p4), .val (.int p5)] [(.ref a1)])) (fun _ k => XS.aloadN X0.here hx rfl (hb hby d5_0) rfl rfl k) ?_
  obtain ⟨T66, X66, e66, st66⟩ := initO X0 hx hZ hown (hw _ (List.mem_of_getElem? (i := 43) rfl)) (hw _ (List.mem_of_getElem? (i := 19) rfl)) (hw _ (List.mem_of_getElem? (i := 20) rfl)) e0 (g := (mkF m 1 #[.val (.ref a1), .val (.ref a2), .val (.ref a3), .val (.int p4), .val (.int p5)] [(.ref a1)])) rfl (by rw [hml]; rfl) rfl (hb hby d5_1) (by decide) (W := 0) (by show 2 * 0 + _ ≤ _; exact Nat.le_of_eq rfl) (by decide)
  refine Go.by (g' := (mkF m 4 #[.val (.ref a1), .val (.ref a2), .val (.ref a3), .val (.int p4), .val (.int p5)] [])) st66 ?_
  refine Go.by (g' := (mkF m 5 #[.val (.ref a1), .val (.ref a2), .val (.ref a3), .val (.int p4), .val (.int p5)] [(.ref a1)])) (fun _ k => XS.aloadN X66.here hx rfl (hb hby d5_4) rfl rfl k) ?_
  refine Go.by (g' := (mkF m 6 #[.val (.ref a1), .val (.ref a2), .val (.ref a3), .val (.int p4), .val (.int p5)] [(.ref a2), (.ref a1)])) (fun _ k => XS.aloadN X66.here hx rfl (hb hby d5_5) rfl rfl k) ?_
  obtain ⟨T67, h67, X67, e67, W67, st67⟩ := putF X66 hx hZ hown (host := "") (Or.inl (hw _ (List.mem_of_getElem? (i := 44) rfl))) Via.refl e66 F1 Ea (Or.inr ⟨(hw _ (List.mem_of_getElem? (i := 45) rfl)), rfl, hnm⟩) (hw _ (List.mem_of_getElem? (i := 27) rfl)) (ty := (.object "com/example/grenoble/grenoble/tla/Token$Kind")) (by decide) rfl rfl (g := (mkF m 6 #[.val (.ref a1), .val (.ref a2), .val (.ref a3), .val (.int p4), .val (.int p5)] [(.ref a2), (.ref a1)])) rfl rfl (hb hby d5_6)
  have M67 := Fr.snoc X67 (Fr.nil n0) g1
  have KP67 : Keep h0 h67 [a1] := (Keep.refl h0 [a1]).wr W67 (Or.inl (List.mem_of_getElem? (i := 0) rfl))
  have F67_F1 := F1.same W67
  refine Go.by (g' := (mkF m 9 #[.val (.ref a1), .val (.ref a2), .val (.ref a3), .val (.int p4), .val (.int p5)] [])) st67 ?_
  refine Go.by (g' := (mkF m 10 #[.val (.ref a1), .val (.ref a2), .val (.ref a3), .val (.int p4), .val (.int p5)] [(.ref a1)])) (fun _ k => XS.aloadN X67.here hx rfl (hb hby d5_9) rfl rfl k) ?_
  refine Go.by (g' := (mkF m 11 #[.val (.ref a1), .val (.ref a2), .val (.ref a3), .val (.int p4), .val (.int p5)] [(.ref a3), (.ref a1)])) (fun _ k => XS.aloadN X67.here hx rfl (hb hby d5_10) rfl rfl k) ?_
  have f68_F2 := (F2.other W67 (Or.inr (slot_ne (Or.inr (hw _ (List.mem_of_getElem? (i := 47) rfl))) (Or.inr (hw _ (List.mem_of_getElem? (i := 45) rfl))) (by decide) (t := (.object "java/lang/String")) (t' := (.object "com/example/grenoble/grenoble/tla/Token$Kind")) (by decide) (by decide))))
  have f69_Ea := (Ea.wr W67)
  obtain ⟨T70, h70, X70, e70, W70, st70⟩ := putF X67 hx hZ hown (host := "") (Or.inl (hw _ (List.mem_of_getElem? (i := 46) rfl))) Via.refl e67 f68_F2 f69_Ea (Or.inr ⟨(hw _ (List.mem_of_getElem? (i := 47) rfl)), rfl, hnm⟩) (hw _ (List.mem_of_getElem? (i := 27) rfl)) (ty := (.object "java/lang/String")) (by decide) rfl rfl (g := (mkF m 11 #[.val (.ref a1), .val (.ref a2), .val (.ref a3), .val (.int p4), .val (.int p5)] [(.ref a3), (.ref a1)])) rfl rfl (hb hby d5_11)
  have M70 := Fr.snoc X70 M67 g1
  have KP70 : Keep h0 h70 [a1] := KP67.wr W70 (Or.inl (List.mem_of_getElem? (i := 0) rfl))
  have F70_F2 := f68_F2.same W70
  refine Go.by (g' := (mkF m 14 #[.val (.ref a1), .val (.ref a2), .val (.ref a3), .val (.int p4), .val (.int p5)] [])) st70 ?_
  refine Go.by (g' := (mkF m 15 #[.val (.ref a1), .val (.ref a2), .val (.ref a3), .val (.int p4), .val (.int p5)] [(.ref a1)])) (fun _ k => XS.aloadN X70.here hx rfl (hb hby d5_14) rfl rfl k) ?_
  refine Go.by (g' := (mkF m 16 #[.val (.ref a1), .val (.ref a2), .val (.ref a3), .val (.int p4), .val (.int p5)] [(.int p4), (.ref a1)])) (fun _ k => XS.iloadN X70.here hx rfl (hb hby d5_15) rfl k) ?_
  have f71_F3 := ((F3.other W67 (Or.inr (slot_ne (Or.inr (hw _ (List.mem_of_getElem? (i := 49) rfl))) (Or.inr (hw _ (List.mem_of_getElem? (i := 45) rfl))) (by decide) (t := .int) (t' := (.object "com/example/grenoble/grenoble/tla/Token$Kind")) (by decide) (by decide)))).other W70 (Or.inr (slot_ne (Or.inr (hw _ (List.mem_of_getElem? (i := 49) rfl))) (Or.inr (hw _ (List.mem_of_getElem? (i := 47) rfl))) (by decide) (t := .int) (t' := (.object "java/lang/String")) (by decide) (by decide))))
  have f72_Ea := (f69_Ea.wr W70)
  obtain ⟨T73, h73, X73, e73, W73, st73⟩ := putF X70 hx hZ hown (host := "") (Or.inl (hw _ (List.mem_of_getElem? (i := 48) rfl))) Via.refl e70 f71_F3 f72_Ea (Or.inr ⟨(hw _ (List.mem_of_getElem? (i := 49) rfl)), rfl, hnm⟩) (hw _ (List.mem_of_getElem? (i := 27) rfl)) (ty := .int) (by decide) rfl rfl (g := (mkF m 16 #[.val (.ref a1), .val (.ref a2), .val (.ref a3), .val (.int p4), .val (.int p5)] [(.int p4), (.ref a1)])) rfl rfl (hb hby d5_16)
  have M73 := Fr.snoc X73 M70 g1
  have KP73 : Keep h0 h73 [a1] := KP70.wr W73 (Or.inl (List.mem_of_getElem? (i := 0) rfl))
  have F73_F3 := f71_F3.same W73
  refine Go.by (g' := (mkF m 19 #[.val (.ref a1), .val (.ref a2), .val (.ref a3), .val (.int p4), .val (.int p5)] [])) st73 ?_
  refine Go.by (g' := (mkF m 20 #[.val (.ref a1), .val (.ref a2), .val (.ref a3), .val (.int p4), .val (.int p5)] [(.ref a1)])) (fun _ k => XS.aloadN X73.here hx rfl (hb hby d5_19) rfl rfl k) ?_
  refine Go.by (g' := (mkF m 22 #[.val (.ref a1), .val (.ref a2), .val (.ref a3), .val (.int p4), .val (.int p5)] [(.int p5), (.ref a1)])) (fun _ k => XS.iload X73.here hx rfl (hb hby d5_20) rfl k) ?_
  have f74_F4 := (((F4.other W67 (Or.inr (slot_ne (Or.inr (hw _ (List.mem_of_getElem? (i := 51) rfl))) (Or.inr (hw _ (List.mem_of_getElem? (i := 45) rfl))) (by decide) (t := .int) (t' := (.object "com/example/grenoble/grenoble/tla/Token$Kind")) (by decide) (by decide)))).other W70 (Or.inr (slot_ne (Or.inr (hw _ (List.mem_of_getElem? (i := 51) rfl))) (Or.inr (hw _ (List.mem_of_getElem? (i := 47) rfl))) (by decide) (t := .int) (t' := (.object "java/lang/String")) (by decide) (by decide)))).other W73 (Or.inr (slot_ne (Or.inr (hw _ (List.mem_of_getElem? (i := 51) rfl))) (Or.inr (hw _ (List.mem_of_getElem? (i := 49) rfl))) (by decide) (t := .int) (t' := .int) (by decide) (by decide))))
  have f75_Ea := (f72_Ea.wr W73)
  obtain ⟨T76, h76, X76, e76, W76, st76⟩ := putF X73 hx hZ hown (host := "") (Or.inl (hw _ (List.mem_of_getElem? (i := 50) rfl))) Via.refl e73 f74_F4 f75_Ea (Or.inr ⟨(hw _ (List.mem_of_getElem? (i := 51) rfl)), rfl, hnm⟩) (hw _ (List.mem_of_getElem? (i := 27) rfl)) (ty := .int) (by decide) rfl rfl (g := (mkF m 22 #[.val (.ref a1), .val (.ref a2), .val (.ref a3), .val (.int p4), .val (.int p5)] [(.int p5), (.ref a1)])) rfl rfl (hb hby d5_22)
  have M76 := Fr.snoc X76 M73 g1
  have KP76 : Keep h0 h76 [a1] := KP73.wr W76 (Or.inl (List.mem_of_getElem? (i := 0) rfl))
  have F76_F4 := f74_F4.same W76
  refine Go.by (g' := (mkF m 25 #[.val (.ref a1), .val (.ref a2), .val (.ref a3), .val (.int p4), .val (.int p5)] [])) st76 ?_
  have f77_F1 := (((F67_F1.other W70 (Or.inr (slot_ne (Or.inr (hw _ (List.mem_of_getElem? (i := 45) rfl))) (Or.inr (hw _ (List.mem_of_getElem? (i := 47) rfl))) (by decide) (t := (.object "com/example/grenoble/grenoble/tla/Token$Kind")) (t' := (.object "java/lang/String")) (by decide) (by decide)))).other W73 (Or.inr (slot_ne (Or.inr (hw _ (List.mem_of_getElem? (i := 45) rfl))) (Or.inr (hw _ (List.mem_of_getElem? (i := 49) rfl))) (by decide) (t := (.object "com/example/grenoble/grenoble/tla/Token$Kind")) (t' := .int) (by decide) (by decide)))).other W76 (Or.inr (slot_ne (Or.inr (hw _ (List.mem_of_getElem? (i := 45) rfl))) (Or.inr (hw _ (List.mem_of_getElem? (i := 51) rfl))) (by decide) (t := (.object "com/example/grenoble/grenoble/tla/Token$Kind")) (t' := .int) (by decide) (by decide))))
  have f78_F3 := (F73_F3.other W76 (Or.inr (slot_ne (Or.inr (hw _ (List.mem_of_getElem? (i := 49) rfl))) (Or.inr (hw _ (List.mem_of_getElem? (i := 51) rfl))) (by decide) (t := .int) (t' := .int) (by decide) (by decide))))
  exact Go.outN X76 hx hret (Lv.narrow X76 hlk (by decide) (by decide)) (hb hby d5_25) (by rw [e76]; exact ⟨rfl, M76, KP76, f77_F1, f78_F3, F76_F4⟩)
theorem ef_21 (a1 : Addr) (m : MethodId) : entryFrame m #[(.ref a1)] 1 = mkF m 0 #[.val (.ref a1)] [] := by first | (simp [entryFrame, mkF, argsToLocals, Value.category]; done) | rfl
set_option maxRecDepth 65536 in
set_option maxHeartbeats 40000000 in
theorem rm21 (l : Launch) (Z : State) (a0 : Array Value) (hw : ∀ d ∈ tables_1, d.before a0 Z = true) (a1 : Addr) (h0 : Heap) (n0 : Nat) (y : Addr) (F1 : Fld Z h0 a1 "com/example/grenoble/grenoble/tla/Token" "kind" "Lcom/example/grenoble/grenoble/tla/Token$Kind;" (.ref y)) :
    Ctr l Z (⟨"com/example/grenoble/grenoble/tla/Token", "kind", "()Lcom/example/grenoble/grenoble/tla/Token$Kind;"⟩ : MethodName) prog_150_method_2_code 1 (some (.object "com/example/grenoble/grenoble/tla/Token$Kind")) ({ frames := 0, cells := 0, slots := 0, locals := 0 } : Room) #[(.ref a1)] h0 (fun v h L => v = some (.ref y) ∧ Fr n0 L ∧ h = h0) := by
  refine Ctr.of pf_21 (ef_21 a1) ?_
  intro p e s m below meth c T0 hx hby hml hret hlk hnm hZ hown e0 X0
  refine Go.by (g' := (mkF m 1 #[.val (.ref a1)] [(.ref a1)])) (fun _ k => XS.aloadN X0.here hx rfl (hb hby d21_0) rfl rfl k) ?_
  obtain ⟨T79, X79, e79, st79⟩ := getF X0 hx hZ hown (host := "") (Or.inl (hw _ (List.mem_of_getElem? (i := 44) rfl))) Via.refl e0 F1 (g := (mkF m 1 #[.val (.ref a1)] [(.ref a1)])) rfl rfl (hb hby d21_1)
  refine Go.by (g' := (mkF m 4 #[.val (.ref a1)] [(.ref y)])) st79 ?_
  exact Go.outA X79 hx hret (Lv.narrow X79 hlk (by decide) (by decide)) rfl rfl (hb hby d21_4) (by rw [e79]; exact ⟨rfl, Fr.nil _, rfl⟩)
theorem ef_22 (a1 : Addr) (m : MethodId) : entryFrame m #[(.ref a1)] 1 = mkF m 0 #[.val (.ref a1)] [] := by first | (simp [entryFrame, mkF, argsToLocals, Value.category]; done) | rfl
set_option maxRecDepth 65536 in
set_option maxHeartbeats 40000000 in
theorem rm22 (l : Launch) (Z : State) (a0 : Array Value) (hw : ∀ d ∈ tables_1, d.before a0 Z = true) (a1 : Addr) (h0 : Heap) (n0 : Nat) (y : Int32) (F1 : Fld Z h0 a1 "com/example/grenoble/grenoble/tla/Token" "column" "I" (.int y)) :
    Ctr l Z (⟨"com/example/grenoble/grenoble/tla/Token", "column", "()I"⟩ : MethodName) prog_150_method_5_code 1 (some .int) ({ frames := 0, cells := 0, slots := 0, locals := 0 } : Room) #[(.ref a1)] h0 (fun v h L => v = some (.int y) ∧ Fr n0 L ∧ h = h0) := by
  refine Ctr.of pf_22 (ef_22 a1) ?_
  intro p e s m below meth c T0 hx hby hml hret hlk hnm hZ hown e0 X0
  refine Go.by (g' := (mkF m 1 #[.val (.ref a1)] [(.ref a1)])) (fun _ k => XS.aloadN X0.here hx rfl (hb hby d22_0) rfl rfl k) ?_
  obtain ⟨T80, X80, e80, st80⟩ := getF X0 hx hZ hown (host := "") (Or.inl (hw _ (List.mem_of_getElem? (i := 50) rfl))) Via.refl e0 F1 (g := (mkF m 1 #[.val (.ref a1)] [(.ref a1)])) rfl rfl (hb hby d22_1)
  refine Go.by (g' := (mkF m 4 #[.val (.ref a1)] [(.int y)])) st80 ?_
  exact Go.outI X80 hx hret (Lv.narrow X80 hlk (by decide) (by decide)) (hb hby d22_4) (by rw [e80]; exact ⟨rfl, Fr.nil _, rfl⟩)
theorem ef_23 (a1 : Addr) (m : MethodId) : entryFrame m #[(.ref a1)] 1 = mkF m 0 #[.val (.ref a1)] [] := by first | (simp [entryFrame, mkF, argsToLocals, Value.category]; done) | rfl
set_option maxRecDepth 65536 in
set_option maxHeartbeats 40000000 in
theorem rm23 (l : Launch) (Z : State) (a0 : Array Value) (hw : ∀ d ∈ tables_1, d.before a0 Z = true) (a1 : Addr) (h0 : Heap) (n0 : Nat) (y : Int32) (F1 : Fld Z h0 a1 "com/example/grenoble/grenoble/tla/Token" "line" "I" (.int y)) :
    Ctr l Z (⟨"com/example/grenoble/grenoble/tla/Token", "line", "()I"⟩ : MethodName) prog_150_method_4_code 1 (some .int) ({ frames := 0, cells := 0, slots := 0, locals := 0 } : Room) #[(.ref a1)] h0 (fun v h L => v = some (.int y) ∧ Fr n0 L ∧ h = h0) := by
  refine Ctr.of pf_23 (ef_23 a1) ?_
  intro p e s m below meth c T0 hx hby hml hret hlk hnm hZ hown e0 X0
  refine Go.by (g' := (mkF m 1 #[.val (.ref a1)] [(.ref a1)])) (fun _ k => XS.aloadN X0.here hx rfl (hb hby d23_0) rfl rfl k) ?_
  obtain ⟨T81, X81, e81, st81⟩ := getF X0 hx hZ hown (host := "") (Or.inl (hw _ (List.mem_of_getElem? (i := 48) rfl))) Via.refl e0 F1 (g := (mkF m 1 #[.val (.ref a1)] [(.ref a1)])) rfl rfl (hb hby d23_1)
  refine Go.by (g' := (mkF m 4 #[.val (.ref a1)] [(.int y)])) st81 ?_
  exact Go.outI X81 hx hret (Lv.narrow X81 hlk (by decide) (by decide)) (hb hby d23_4) (by rw [e81]; exact ⟨rfl, Fr.nil _, rfl⟩)
theorem ef_11 (a1 : Addr) (a2 : Addr) (a3 : Addr) (m : MethodId) : entryFrame m #[(.ref a1), (.ref a2), (.ref a3)] 3 = mkF m 0 #[.val (.ref a1), .val (.ref a2), .val (.ref a3)] [] := by first | (simp [entryFrame, mkF, argsToLocals, Value.category]; done) | rfl
set_option maxRecDepth 65536 in
set_option maxHeartbeats 40000000 in
theorem rm11 (l : Launch) (Z : State) (a0 : Array Value) (hw : ∀ d ∈ tables_1, d.before a0 Z = true) (a1 : Addr) (a2 : Addr) (a3 : Addr) (h0 : Heap) (n0 : Nat) (u1 u2 u3 u4 : Value) (Ec : Exa Z h0 a1 "com/example/grenoble/grenoble/tla/TokenCursor") (Cfence : Fld Z h0 a1 "com/example/grenoble/grenoble/tla/TokenCursor" "fence" "I" u1) (Cfile : Fld Z h0 a1 "com/example/grenoble/grenoble/tla/TokenCursor" "file" "Ljava/lang/String;" u2) (Ctokens : Fld Z h0 a1 "com/example/grenoble/grenoble/tla/TokenCursor" "tokens" "Ljava/util/List;" u3) (Cnext : Fld Z h0 a1 "com/example/grenoble/grenoble/tla/TokenCursor" "next" "I" u4) (g1 : n0 ≤ a1) :
    Ctr l Z (⟨"com/example/grenoble/grenoble/tla/TokenCursor", "<init>", "(Ljava/lang/String;Ljava/util/List;)V"⟩ : MethodName) prog_152_method_1_code 3 none ({ frames := 1, cells := 0, slots := 0, locals := 12 } : Room) #[(.ref a1), (.ref a2), (.ref a3)] h0 (fun v h L => v = none ∧ Fr n0 L ∧ Keep h0 h [a1] ∧ Fld Z h a1 "com/example/grenoble/grenoble/tla/TokenCursor" "fence" "I" (.int (-1)) ∧ Fld Z h a1 "com/example/grenoble/grenoble/tla/TokenCursor" "tokens" "Ljava/util/List;" (.ref a3) ∧ Fld Z h a1 "com/example/grenoble/grenoble/tla/TokenCursor" "next" "I" u4) := by
  refine Ctr.of pf_11 (ef_11 a1 a2 a3) ?_
  intro p e s m below meth c T0 hx hby hml hret hlk hnm hZ hown e0 X0
  refine Go.by (g' := (mkF m 1 #[.val (.ref a1), .val (.ref a2), .val (.ref a3)] [(.ref a1)])) (fun _ k => XS.aloadN X0.here hx rfl (hb hby d11_0) rfl rfl k) ?_
  obtain ⟨T82, X82, e82, st82⟩ := initO X0 hx hZ hown (hw _ (List.mem_of_getElem? (i := 97) rfl)) (hw _ (List.mem_of_getElem? (i := 19) rfl)) (hw _ (List.mem_of_getElem? (i := 20) rfl)) e0 (g := (mkF m 1 #[.val (.ref a1), .val (.ref a2), .val (.ref a3)] [(.ref a1)])) rfl (by rw [hml]; rfl) rfl (hb hby d11_1) (by decide) (W := 0) (by show 2 * 0 + _ ≤ _; exact Nat.le_of_eq rfl) (by decide)
  refine Go.by (g' := (mkF m 4 #[.val (.ref a1), .val (.ref a2), .val (.ref a3)] [])) st82 ?_
  refine Go.by (g' := (mkF m 5 #[.val (.ref a1), .val (.ref a2), .val (.ref a3)] [(.ref a1)])) (fun _ k => XS.aloadN X82.here hx rfl (hb hby d11_4) rfl rfl k) ?_
  refine Go.by (g' := (mkF m 6 #[.val (.ref a1), .val (.ref a2), .val (.ref a3)] [(.int (-1 : Int32)), (.ref a1)])) (fun _ k => XS.iconst X82.here hx rfl (hb hby d11_5) k) ?_
  obtain ⟨T83, h83, X83, e83, W83, st83⟩ := putF X82 hx hZ hown (host := "") (Or.inl (hw _ (List.mem_of_getElem? (i := 98) rfl))) Via.refl e82 Cfence Ec (Or.inl (hw _ (List.mem_of_getElem? (i := 99) rfl))) (hw _ (List.mem_of_getElem? (i := 91) rfl)) (ty := .int) (by decide) rfl rfl (g := (mkF m 6 #[.val (.ref a1), .val (.ref a2), .val (.ref a3)] [(.int (-1 : Int32)), (.ref a1)])) rfl rfl (hb hby d11_6)
  have M83 := Fr.snoc X83 (Fr.nil n0) g1
  have KP83 : Keep h0 h83 [a1] := (Keep.refl h0 [a1]).wr W83 (Or.inl (List.mem_of_getElem? (i := 0) rfl))
  have F83_Cfence := Cfence.same W83
  refine Go.by (g' := (mkF m 9 #[.val (.ref a1), .val (.ref a2), .val (.ref a3)] [])) st83 ?_
  refine Go.by (g' := (mkF m 10 #[.val (.ref a1), .val (.ref a2), .val (.ref a3)] [(.ref a1)])) (fun _ k => XS.aloadN X83.here hx rfl (hb hby d11_9) rfl rfl k) ?_
  refine Go.by (g' := (mkF m 11 #[.val (.ref a1), .val (.ref a2), .val (.ref a3)] [(.ref a2), (.ref a1)])) (fun _ k => XS.aloadN X83.here hx rfl (hb hby d11_10) rfl rfl k) ?_
  have f84_Cfile := (Cfile.other W83 (Or.inr (slot_ne (Or.inr (hw _ (List.mem_of_getElem? (i := 101) rfl))) (Or.inl (hw _ (List.mem_of_getElem? (i := 99) rfl))) (by decide) (t := (.object "java/lang/String")) (t' := .int) (by decide) (by decide))))
  have f85_Ec := (Ec.wr W83)
  obtain ⟨T86, h86, X86, e86, W86, st86⟩ := putF X83 hx hZ hown (host := "") (Or.inl (hw _ (List.mem_of_getElem? (i := 100) rfl))) Via.refl e83 f84_Cfile f85_Ec (Or.inr ⟨(hw _ (List.mem_of_getElem? (i := 101) rfl)), rfl, hnm⟩) (hw _ (List.mem_of_getElem? (i := 91) rfl)) (ty := (.object "java/lang/String")) (by decide) rfl rfl (g := (mkF m 11 #[.val (.ref a1), .val (.ref a2), .val (.ref a3)] [(.ref a2), (.ref a1)])) rfl rfl (hb hby d11_11)
  have M86 := Fr.snoc X86 M83 g1
  have KP86 : Keep h0 h86 [a1] := KP83.wr W86 (Or.inl (List.mem_of_getElem? (i := 0) rfl))
  have F86_Cfile := f84_Cfile.same W86
  refine Go.by (g' := (mkF m 14 #[.val (.ref a1), .val (.ref a2), .val (.ref a3)] [])) st86 ?_
  refine Go.by (g' := (mkF m 15 #[.val (.ref a1), .val (.ref a2), .val (.ref a3)] [(.ref a1)])) (fun _ k => XS.aloadN X86.here hx rfl (hb hby d11_14) rfl rfl k) ?_
  refine Go.by (g' := (mkF m 16 #[.val (.ref a1), .val (.ref a2), .val (.ref a3)] [(.ref a3), (.ref a1)])) (fun _ k => XS.aloadN X86.here hx rfl (hb hby d11_15) rfl rfl k) ?_
  have f87_Ctokens := ((Ctokens.other W83 (Or.inr (slot_ne (Or.inr (hw _ (List.mem_of_getElem? (i := 103) rfl))) (Or.inl (hw _ (List.mem_of_getElem? (i := 99) rfl))) (by decide) (t := (.object "java/util/List")) (t' := .int) (by decide) (by decide)))).other W86 (Or.inr (slot_ne (Or.inr (hw _ (List.mem_of_getElem? (i := 103) rfl))) (Or.inr (hw _ (List.mem_of_getElem? (i := 101) rfl))) (by decide) (t := (.object "java/util/List")) (t' := (.object "java/lang/String")) (by decide) (by decide))))
  have f88_Ec := (f85_Ec.wr W86)
  obtain ⟨T89, h89, X89, e89, W89, st89⟩ := putF X86 hx hZ hown (host := "") (Or.inl (hw _ (List.mem_of_getElem? (i := 102) rfl))) Via.refl e86 f87_Ctokens f88_Ec (Or.inr ⟨(hw _ (List.mem_of_getElem? (i := 103) rfl)), rfl, hnm⟩) (hw _ (List.mem_of_getElem? (i := 91) rfl)) (ty := (.object "java/util/List")) (by decide) rfl rfl (g := (mkF m 16 #[.val (.ref a1), .val (.ref a2), .val (.ref a3)] [(.ref a3), (.ref a1)])) rfl rfl (hb hby d11_16)
  have M89 := Fr.snoc X89 M86 g1
  have KP89 : Keep h0 h89 [a1] := KP86.wr W89 (Or.inl (List.mem_of_getElem? (i := 0) rfl))
  have F89_Ctokens := f87_Ctokens.same W89
  refine Go.by (g' := (mkF m 19 #[.val (.ref a1), .val (.ref a2), .val (.ref a3)] [])) st89 ?_
  have f90_Cfence := ((F83_Cfence.other W86 (Or.inr (slot_ne (Or.inl (hw _ (List.mem_of_getElem? (i := 99) rfl))) (Or.inr (hw _ (List.mem_of_getElem? (i := 101) rfl))) (by decide) (t := .int) (t' := (.object "java/lang/String")) (by decide) (by decide)))).other W89 (Or.inr (slot_ne (Or.inl (hw _ (List.mem_of_getElem? (i := 99) rfl))) (Or.inr (hw _ (List.mem_of_getElem? (i := 103) rfl))) (by decide) (t := .int) (t' := (.object "java/util/List")) (by decide) (by decide))))
  have f91_Cnext := (((Cnext.other W83 (Or.inr (slot_ne (Or.inl (hw _ (List.mem_of_getElem? (i := 120) rfl))) (Or.inl (hw _ (List.mem_of_getElem? (i := 99) rfl))) (by decide) (t := .int) (t' := .int) (by decide) (by decide)))).other W86 (Or.inr (slot_ne (Or.inl (hw _ (List.mem_of_getElem? (i := 120) rfl))) (Or.inr (hw _ (List.mem_of_getElem? (i := 101) rfl))) (by decide) (t := .int) (t' := (.object "java/lang/String")) (by decide) (by decide)))).other W89 (Or.inr (slot_ne (Or.inl (hw _ (List.mem_of_getElem? (i := 120) rfl))) (Or.inr (hw _ (List.mem_of_getElem? (i := 103) rfl))) (by decide) (t := .int) (t' := (.object "java/util/List")) (by decide) (by decide))))
  exact Go.outN X89 hx hret (Lv.narrow X89 hlk (by decide) (by decide)) (hb hby d11_19) (by rw [e89]; exact ⟨rfl, M89, KP89, f90_Cfence, F89_Ctokens, f91_Cnext⟩)
theorem ef_12 (a1 : Addr) (p2 : Int32) (m : MethodId) : entryFrame m #[(.ref a1), (.int p2)] 3 = mkF m 0 #[.val (.ref a1), .val (.int p2), .unset] [] := by first | (simp [entryFrame, mkF, argsToLocals, Value.category]; done) | rfl
set_option maxRecDepth 65536 in
set_option maxHeartbeats 40000000 in
theorem rm12 (l : Launch) (Z : State) (a0 : Array Value) (hw : ∀ d ∈ tables_1, d.before a0 Z = true) (a1 : Addr) (p2 : Int32) (h0 : Heap) (n0 : Nat) (q : Int32) (u3 u4 : Value) (Ec : Exa Z h0 a1 "com/example/grenoble/grenoble/tla/TokenCursor") (Cfence : Fld Z h0 a1 "com/example/grenoble/grenoble/tla/TokenCursor" "fence" "I" (.int q)) (Ctokens : Fld Z h0 a1 "com/example/grenoble/grenoble/tla/TokenCursor" "tokens" "Ljava/util/List;" u3) (Cnext : Fld Z h0 a1 "com/example/grenoble/grenoble/tla/TokenCursor" "next" "I" u4) (g1 : n0 ≤ a1) :
    Ctr l Z (⟨"com/example/grenoble/grenoble/tla/TokenCursor", "fence", "(I)I"⟩ : MethodName) prog_152_method_8_code 3 (some .int) ({ frames := 0, cells := 0, slots := 0, locals := 0 } : Room) #[(.ref a1), (.int p2)] h0 (fun v h L => v = some (.int q) ∧ Fr n0 L ∧ Keep h0 h [a1] ∧ Fld Z h a1 "com/example/grenoble/grenoble/tla/TokenCursor" "fence" "I" (.int p2) ∧ Fld Z h a1 "com/example/grenoble/grenoble/tla/TokenCursor" "tokens" "Ljava/util/List;" u3 ∧ Fld Z h a1 "com/example/grenoble/grenoble/tla/TokenCursor" "next" "I" u4) := by
  refine Ctr.of pf_12 (ef_12 a1 p2) ?_
  intro p e s m below meth c T0 hx hby hml hret hlk hnm hZ hown e0 X0
  refine Go.by (g' := (mkF m 1 #[.val (.ref a1), .val (.int p2), .unset] [(.ref a1)])) (fun _ k => XS.aloadN X0.here hx rfl (hb hby d12_0) rfl rfl k) ?_
  obtain ⟨T92, X92, e92, st92⟩ := getF X0 hx hZ hown (host := "") (Or.inl (hw _ (List.mem_of_getElem? (i := 98) rfl))) Via.refl e0 Cfence (g := (mkF m 1 #[.val (.ref a1), .val (.int p2), .unset] [(.ref a1)])) rfl rfl (hb hby d12_1)
  refine Go.by (g' := (mkF m 4 #[.val (.ref a1), .val (.int p2), .unset] [(.int q)])) st92 ?_
  refine Go.by (g' := (mkF m 5 #[.val (.ref a1), .val (.int p2), .val (.int q)] [])) (fun _ k => XS.istoreN X92.here hx rfl (hb hby d12_4) rfl (l' := #[.val (.ref a1), .val (.int p2), .val (.int q)]) rfl k) ?_
  refine Go.by (g' := (mkF m 6 #[.val (.ref a1), .val (.int p2), .val (.int q)] [(.ref a1)])) (fun _ k => XS.aloadN X92.here hx rfl (hb hby d12_5) rfl rfl k) ?_
  refine Go.by (g' := (mkF m 7 #[.val (.ref a1), .val (.int p2), .val (.int q)] [(.int p2), (.ref a1)])) (fun _ k => XS.iloadN X92.here hx rfl (hb hby d12_6) rfl k) ?_
  obtain ⟨T93, h93, X93, e93, W93, st93⟩ := putF X92 hx hZ hown (host := "") (Or.inl (hw _ (List.mem_of_getElem? (i := 98) rfl))) Via.refl e92 Cfence Ec (Or.inl (hw _ (List.mem_of_getElem? (i := 99) rfl))) (hw _ (List.mem_of_getElem? (i := 91) rfl)) (ty := .int) (by decide) rfl rfl (g := (mkF m 7 #[.val (.ref a1), .val (.int p2), .val (.int q)] [(.int p2), (.ref a1)])) rfl rfl (hb hby d12_7)
  have M93 := Fr.snoc X93 (Fr.nil n0) g1
  have KP93 : Keep h0 h93 [a1] := (Keep.refl h0 [a1]).wr W93 (Or.inl (List.mem_of_getElem? (i := 0) rfl))
  have F93_Cfence := Cfence.same W93
  refine Go.by (g' := (mkF m 10 #[.val (.ref a1), .val (.int p2), .val (.int q)] [])) st93 ?_
  refine Go.by (g' := (mkF m 11 #[.val (.ref a1), .val (.int p2), .val (.int q)] [(.int q)])) (fun _ k => XS.iloadN X93.here hx rfl (hb hby d12_10) rfl k) ?_
  have f94_Ctokens := (Ctokens.other W93 (Or.inr (slot_ne (Or.inr (hw _ (List.mem_of_getElem? (i := 103) rfl))) (Or.inl (hw _ (List.mem_of_getElem? (i := 99) rfl))) (by decide) (t := (.object "java/util/List")) (t' := .int) (by decide) (by decide))))
  have f95_Cnext := (Cnext.other W93 (Or.inr (slot_ne (Or.inl (hw _ (List.mem_of_getElem? (i := 120) rfl))) (Or.inl (hw _ (List.mem_of_getElem? (i := 99) rfl))) (by decide) (t := .int) (t' := .int) (by decide) (by decide))))
  exact Go.outI X93 hx hret (Lv.narrow X93 hlk (by decide) (by decide)) (hb hby d12_11) (by rw [e93]; exact ⟨rfl, M93, KP93, F93_Cfence, f94_Ctokens, f95_Cnext⟩)
theorem ef_16 (p1 : Int32) (p2 : Int32) (m : MethodId) : entryFrame m #[(.int p1), (.int p2)] 2 = mkF m 0 #[.val (.int p1), .val (.int p2)] [] := by first | (simp [entryFrame, mkF, argsToLocals, Value.category]; done) | rfl
set_option maxRecDepth 65536 in
set_option maxHeartbeats 40000000 in
theorem rm16 (l : Launch) (Z : State) (a0 : Array Value) (hw : ∀ d ∈ tables_1, d.before a0 Z = true) (p1 : Int32) (p2 : Int32) (h0 : Heap) (n0 : Nat)  (hc : ¬ p2 < p1) :
    Ctr l Z (⟨"java/lang/Math", "min", "(II)I"⟩ : MethodName) jdk_29_method_69_code 2 (some .int) ({ frames := 0, cells := 0, slots := 0, locals := 0 } : Room) #[(.int p1), (.int p2)] h0 (fun v h L => v = some (.int p1) ∧ Fr n0 L ∧ h = h0) := by
  refine Ctr.of pf_16 (ef_16 p1 p2) ?_
  intro p e s m below meth c T0 hx hby hml hret hlk hnm hZ hown e0 X0
  refine Go.by (g' := (mkF m 1 #[.val (.int p1), .val (.int p2)] [(.int p1)])) (fun _ k => XS.iloadN X0.here hx rfl (hb hby d16_0) rfl k) ?_
  refine Go.by (g' := (mkF m 2 #[.val (.int p1), .val (.int p2)] [(.int p2), (.int p1)])) (fun _ k => XS.iloadN X0.here hx rfl (hb hby d16_1) rfl k) ?_
  refine Go.by (g' := (mkF m 5 #[.val (.int p1), .val (.int p2)] [])) (fun _ k => XS.icmpNo X0.here hx rfl (hb hby d16_2) rfl (flt hc).2.2.1 k) ?_
  refine Go.by (g' := (mkF m 6 #[.val (.int p1), .val (.int p2)] [(.int p1)])) (fun _ k => XS.iloadN X0.here hx rfl (hb hby d16_5) rfl k) ?_
  refine Go.by (g' := (mkF m 10 #[.val (.int p1), .val (.int p2)] [(.int p1)])) (fun _ k => XS.goto X0.here hx rfl (pc0 := 6) (pc' := 10) rfl (hb hby d16_6) (by decide) (by decide) k) ?_
  exact Go.outI X0 hx hret (Lv.narrow X0 hlk (by decide) (by decide)) (hb hby d16_10) (by rw [e0]; exact ⟨rfl, Fr.nil _, rfl⟩)
theorem ef_15 (a1 : Addr) (m : MethodId) : entryFrame m #[(.ref a1)] 1 = mkF m 0 #[.val (.ref a1)] [] := by first | (simp [entryFrame, mkF, argsToLocals, Value.category]; done) | rfl
set_option maxRecDepth 65536 in
set_option maxHeartbeats 40000000 in
theorem rm15 (l : Launch) (Z : State) (a0 : Array Value) (hw : ∀ d ∈ tables_1, d.before a0 Z = true) (a1 : Addr) (h0 : Heap) (n0 : Nat) (q : Int32) (Fz : Fld Z h0 a1 "java/util/ArrayList" "size" "I" (.int q)) :
    Ctr l Z (⟨"java/util/ArrayList", "size", "()I"⟩ : MethodName) jdk_38_method_8_code 1 (some .int) ({ frames := 0, cells := 0, slots := 0, locals := 0 } : Room) #[(.ref a1)] h0 (fun v h L => v = some (.int q) ∧ Fr n0 L ∧ h = h0) := by
  refine Ctr.of pf_15 (ef_15 a1) ?_
  intro p e s m below meth c T0 hx hby hml hret hlk hnm hZ hown e0 X0
  refine Go.by (g' := (mkF m 1 #[.val (.ref a1)] [(.ref a1)])) (fun _ k => XS.aloadN X0.here hx rfl (hb hby d15_0) rfl rfl k) ?_
  obtain ⟨T96, X96, e96, st96⟩ := getF X0 hx hZ hown (host := "") (Or.inl (hw _ (List.mem_of_getElem? (i := 63) rfl))) Via.refl e0 Fz (g := (mkF m 1 #[.val (.ref a1)] [(.ref a1)])) rfl rfl (hb hby d15_1)
  refine Go.by (g' := (mkF m 4 #[.val (.ref a1)] [(.int q)])) st96 ?_
  exact Go.outI X96 hx hret (Lv.narrow X96 hlk (by decide) (by decide)) (hb hby d15_4) (by rw [e96]; exact ⟨rfl, Fr.nil _, rfl⟩)
theorem ef_20 (a1 : Addr) (p2 : Int32) (m : MethodId) : entryFrame m #[(.ref a1), (.int p2)] 2 = mkF m 0 #[.val (.ref a1), .val (.int p2)] [] := by first | (simp [entryFrame, mkF, argsToLocals, Value.category]; done) | rfl
set_option maxRecDepth 65536 in
set_option maxHeartbeats 40000000 in
theorem rm20 (l : Launch) (Z : State) (a0 : Array Value) (hw : ∀ d ∈ tables_1, d.before a0 Z = true) (a1 : Addr) (p2 : Int32) (h0 : Heap) (n0 : Nat) (ed y : Addr) (k : ClassId) (vs : List Value) (Fe : Fld Z h0 a1 "java/util/ArrayList" "elementData" "[Ljava/lang/Object;" (.ref ed)) (V : Arv Z h0 ed k OA 10 vs .null) (hj0 : ¬ p2 < 0) (hjn : p2 < 10) (hv : vs.getD p2.toNatClampNeg .null = .ref y) :
    Ctr l Z (⟨"java/util/ArrayList", "elementData", "(I)Ljava/lang/Object;"⟩ : MethodName) jdk_38_method_18_code 2 (some (.object "java/lang/Object")) ({ frames := 0, cells := 0, slots := 0, locals := 0 } : Room) #[(.ref a1), (.int p2)] h0 (fun v h L => v = some (.ref y) ∧ Fr n0 L ∧ h = h0) := by
  refine Ctr.of pf_20 (ef_20 a1 p2) ?_
  intro p e s m below meth c T0 hx hby hml hret hlk hnm hZ hown e0 X0
  refine Go.by (g' := (mkF m 1 #[.val (.ref a1), .val (.int p2)] [(.ref a1)])) (fun _ k => XS.aloadN X0.here hx rfl (hb hby d20_0) rfl rfl k) ?_
  obtain ⟨T97, X97, e97, st97⟩ := getF X0 hx hZ hown (host := "") (Or.inl (hw _ (List.mem_of_getElem? (i := 24) rfl))) Via.refl e0 Fe (g := (mkF m 1 #[.val (.ref a1), .val (.int p2)] [(.ref a1)])) rfl rfl (hb hby d20_1)
  refine Go.by (g' := (mkF m 4 #[.val (.ref a1), .val (.int p2)] [(.ref ed)])) st97 ?_
  refine Go.by (g' := (mkF m 5 #[.val (.ref a1), .val (.int p2)] [(.int p2), (.ref ed)])) (fun _ k => XS.iloadN X97.here hx rfl (hb hby d20_4) rfl k) ?_
  refine Go.by (g' := (mkF m 6 #[.val (.ref a1), .val (.int p2)] [(.ref y)])) (ldRA X97 hx hZ e97 V rfl (v := (.ref y)) hj0 hjn hv (g := (mkF m 5 #[.val (.ref a1), .val (.int p2)] [(.int p2), (.ref ed)])) rfl rfl (hb hby d20_5)) ?_
  exact Go.outA X97 hx hret (Lv.narrow X97 hlk (by decide) (by decide)) rfl rfl (hb hby d20_6) (by rw [e97]; exact ⟨rfl, Fr.nil _, rfl⟩)
theorem ef_19 (p1 : Int32) (p2 : Int32) (m : MethodId) : entryFrame m #[(.int p1), (.int p2), .null] 3 = mkF m 0 #[.val (.int p1), .val (.int p2), .val .null] [] := by first | (simp [entryFrame, mkF, argsToLocals, Value.category]; done) | rfl
set_option maxRecDepth 65536 in
set_option maxHeartbeats 40000000 in
theorem rm19 (l : Launch) (Z : State) (a0 : Array Value) (hw : ∀ d ∈ tables_1, d.before a0 Z = true) (p1 : Int32) (p2 : Int32) (h0 : Heap) (n0 : Nat)  (h1 : ¬ p1 < 0) (h2 : p1 < p2) :
    Ctr l Z (⟨"jdk/internal/util/Preconditions", "checkIndex", "(IILjava/util/function/BiFunction;)I"⟩ : MethodName) jdk_41_method_11_code 3 (some .int) ({ frames := 0, cells := 0, slots := 0, locals := 0 } : Room) #[(.int p1), (.int p2), .null] h0 (fun v h L => v = some (.int p1) ∧ Fr n0 L ∧ h = h0) := by
  refine Ctr.of pf_19 (ef_19 p1 p2) ?_
  intro p e s m below meth c T0 hx hby hml hret hlk hnm hZ hown e0 X0
  refine Go.by (g' := (mkF m 1 #[.val (.int p1), .val (.int p2), .val .null] [(.int p1)])) (fun _ k => XS.iloadN X0.here hx rfl (hb hby d19_0) rfl k) ?_
  refine Go.by (g' := (mkF m 4 #[.val (.int p1), .val (.int p2), .val .null] [])) (fun _ k => XS.ifNo X0.here hx rfl (hb hby d19_1) rfl ((if0 _ _).trans (flt h1).1) k) ?_
  refine Go.by (g' := (mkF m 5 #[.val (.int p1), .val (.int p2), .val .null] [(.int p1)])) (fun _ k => XS.iloadN X0.here hx rfl (hb hby d19_4) rfl k) ?_
  refine Go.by (g' := (mkF m 6 #[.val (.int p1), .val (.int p2), .val .null] [(.int p2), (.int p1)])) (fun _ k => XS.iloadN X0.here hx rfl (hb hby d19_5) rfl k) ?_
  refine Go.by (g' := (mkF m 16 #[.val (.int p1), .val (.int p2), .val .null] [])) (fun _ k => XS.icmpYes X0.here hx rfl (pc0 := 6) (pc' := 16) rfl (hb hby d19_6) rfl (tlt h2).1 (by decide) (by decide) k) ?_
  refine Go.by (g' := (mkF m 17 #[.val (.int p1), .val (.int p2), .val .null] [(.int p1)])) (fun _ k => XS.iloadN X0.here hx rfl (hb hby d19_16) rfl k) ?_
  exact Go.outI X0 hx hret (Lv.narrow X0 hlk (by decide) (by decide)) (hb hby d19_17) (by rw [e0]; exact ⟨rfl, Fr.nil _, rfl⟩)
theorem ef_18 (p1 : Int32) (p2 : Int32) (m : MethodId) : entryFrame m #[(.int p1), (.int p2)] 2 = mkF m 0 #[.val (.int p1), .val (.int p2)] [] := by first | (simp [entryFrame, mkF, argsToLocals, Value.category]; done) | rfl
set_option maxRecDepth 65536 in
set_option maxHeartbeats 40000000 in
theorem rm18 (l : Launch) (Z : State) (a0 : Array Value) (hw : ∀ d ∈ tables_1, d.before a0 Z = true) (p1 : Int32) (p2 : Int32) (h0 : Heap) (n0 : Nat)  (h1 : ¬ p1 < 0) (h2 : p1 < p2) :
    Ctr l Z (⟨"java/util/Objects", "checkIndex", "(II)I"⟩ : MethodName) jdk_31_method_17_code 2 (some .int) ({ frames := 1, cells := 0, slots := 0, locals := 14 } : Room) #[(.int p1), (.int p2)] h0 (fun v h L => v = some (.int p1) ∧ Fr n0 L ∧ h = h0) := by
  refine Ctr.of pf_18 (ef_18 p1 p2) ?_
  intro p e s m below meth c T0 hx hby hml hret hlk hnm hZ hown e0 X0
  refine Go.by (g' := (mkF m 1 #[.val (.int p1), .val (.int p2)] [(.int p1)])) (fun _ k => XS.iloadN X0.here hx rfl (hb hby d18_0) rfl k) ?_
  refine Go.by (g' := (mkF m 2 #[.val (.int p1), .val (.int p2)] [(.int p2), (.int p1)])) (fun _ k => XS.iloadN X0.here hx rfl (hb hby d18_1) rfl k) ?_
  refine Go.by (g' := (mkF m 3 #[.val (.int p1), .val (.int p2)] [.null, (.int p2), (.int p1)])) (fun _ k => XS.aconstNull X0.here hx rfl (hb hby d18_2) k) ?_
  refine Go.callS X0 hx hZ (y := (⟨"jdk/internal/util/Preconditions", "checkIndex", "(IILjava/util/function/BiFunction;)I"⟩ : MethodName)) hown (hw _ (List.mem_of_getElem? (i := 144) rfl)) (hw _ (List.mem_of_getElem? (i := 145) rfl)) (hw _ (List.mem_of_getElem? (i := 146) rfl)) (hw _ (List.mem_of_getElem? (i := 147) rfl)) (by decide) (W := 0) (argsL := [(.int p1), (.int p2), .null]) (rest := []) (rm19 l Z a0 hw p1 p2 h0 n0 h1 h2) (by decide) (by decide) (by decide) (by decide) (g := (mkF m 3 #[.val (.int p1), .val (.int p2)] [.null, (.int p2), (.int p1)])) rfl (by rw [hml]; rfl) (lenOf pd_19 rfl) rfl (by show 2 * 0 + _ ≤ _; exact Nat.le_of_eq rfl) (hb hby d18_3) e0 ?_
  rintro T98 L98 _ X98 ⟨rfl, N98, q98⟩
  have M98 := Fr.app (Fr.nil n0) N98
  show Go p e below _ _ T98 (mkF m 6 #[.val (.int p1), .val (.int p2)] [(.int p1)])
  exact Go.outI X98 hx hret (Lv.narrow X98 hlk (by decide) (by decide)) (hb hby d18_6) (by rw [q98]; exact ⟨rfl, M98, rfl⟩)
theorem ef_17 (a1 : Addr) (p2 : Int32) (m : MethodId) : entryFrame m #[(.ref a1), (.int p2)] 2 = mkF m 0 #[.val (.ref a1), .val (.int p2)] [] := by first | (simp [entryFrame, mkF, argsToLocals, Value.category]; done) | rfl
set_option maxRecDepth 65536 in
set_option maxHeartbeats 40000000 in
theorem rm17 (l : Launch) (Z : State) (a0 : Array Value) (hw : ∀ d ∈ tables_1, d.before a0 Z = true) (a1 : Addr) (p2 : Int32) (h0 : Heap) (n0 : Nat) (ed y : Addr) (k : ClassId) (xs : List Addr) (Fu : Ful Z h0 a1 ed k xs) (hj0 : ¬ p2 < 0) (hjn : p2 < 10) (hjs : p2 < szI xs.length) (hv : (pad xs).getD p2.toNatClampNeg .null = .ref y) :
    Ctr l Z (⟨"java/util/ArrayList", "get", "(I)Ljava/lang/Object;"⟩ : MethodName) jdk_38_method_20_code 2 (some (.object "java/lang/Object")) ({ frames := 2, cells := 0, slots := 0, locals := 27 } : Room) #[(.ref a1), (.int p2)] h0 (fun v h L => v = some (.ref y) ∧ Fr n0 L ∧ h = h0) := by
  refine Ctr.of pf_17 (ef_17 a1 p2) ?_
  intro p e s m below meth c T0 hx hby hml hret hlk hnm hZ hown e0 X0
  refine Go.by (g' := (mkF m 1 #[.val (.ref a1), .val (.int p2)] [(.int p2)])) (fun _ k => XS.iloadN X0.here hx rfl (hb hby d17_0) rfl k) ?_
  refine Go.by (g' := (mkF m 2 #[.val (.ref a1), .val (.int p2)] [(.ref a1), (.int p2)])) (fun _ k => XS.aloadN X0.here hx rfl (hb hby d17_1) rfl rfl k) ?_
  obtain ⟨T99, X99, e99, st99⟩ := getF X0 hx hZ hown (host := "") (Or.inl (hw _ (List.mem_of_getElem? (i := 63) rfl))) Via.refl e0 Fu.2.2.1 (g := (mkF m 2 #[.val (.ref a1), .val (.int p2)] [(.ref a1), (.int p2)])) rfl rfl (hb hby d17_2)
  refine Go.by (g' := (mkF m 5 #[.val (.ref a1), .val (.int p2)] [(.int (szI xs.length)), (.int p2)])) st99 ?_
  refine Go.callS X99 hx hZ (y := (⟨"java/util/Objects", "checkIndex", "(II)I"⟩ : MethodName)) hown (hw _ (List.mem_of_getElem? (i := 140) rfl)) (hw _ (List.mem_of_getElem? (i := 141) rfl)) (hw _ (List.mem_of_getElem? (i := 142) rfl)) (hw _ (List.mem_of_getElem? (i := 143) rfl)) (by decide) (W := 0) (argsL := [(.int p2), (.int (szI xs.length))]) (rest := []) (rm18 l Z a0 hw p2 (szI xs.length) h0 n0 hj0 hjs) (by decide) (by decide) (by decide) (by decide) (g := (mkF m 5 #[.val (.ref a1), .val (.int p2)] [(.int (szI xs.length)), (.int p2)])) rfl (by rw [hml]; rfl) (lenOf pd_18 rfl) rfl (by show 2 * 0 + _ ≤ _; exact Nat.le_of_eq rfl) (hb hby d17_5) e99 ?_
  rintro T100 L100 _ X100 ⟨rfl, N100, q100⟩
  have M100 := Fr.app (Fr.nil n0) N100
  show Go p e below _ _ T100 (mkF m 8 #[.val (.ref a1), .val (.int p2)] [(.int p2)])
  refine Go.by (g' := (mkF m 9 #[.val (.ref a1), .val (.int p2)] [])) (fun _ k => XS.pop X100.here hx rfl (hb hby d17_8) rfl rfl k) ?_
  refine Go.by (g' := (mkF m 10 #[.val (.ref a1), .val (.int p2)] [(.ref a1)])) (fun _ k => XS.aloadN X100.here hx rfl (hb hby d17_9) rfl rfl k) ?_
  refine Go.by (g' := (mkF m 11 #[.val (.ref a1), .val (.int p2)] [(.int p2), (.ref a1)])) (fun _ k => XS.iloadN X100.here hx rfl (hb hby d17_10) rfl k) ?_
  refine Go.callV X100 hx hZ (y := (⟨"java/util/ArrayList", "elementData", "(I)Ljava/lang/Object;"⟩ : MethodName)) (z := (⟨"java/util/ArrayList", "elementData", "(I)Ljava/lang/Object;"⟩ : MethodName)) hown (hw _ (List.mem_of_getElem? (i := 148) rfl)) (hw _ (List.mem_of_getElem? (i := 149) rfl)) (notFace_of_selects (args := #[]) (mvT hZ (hw _ (List.mem_of_getElem? (i := 151) rfl)))) (hw _ (List.mem_of_getElem? (i := 151) rfl)) (hw _ (List.mem_of_getElem? (i := 150) rfl)) (hw _ (List.mem_of_getElem? (i := 2) rfl)) (hw _ (List.mem_of_getElem? (i := 152) rfl)) (by decide) (W := 0) (a := a1) (argsL := [(.int p2)]) (rest := []) Fu.1 (rm20 l Z a0 hw a1 p2 h0 n0 ed y k (pad xs) Fu.2.2.2.1 Fu.2.2.2.2.2 hj0 hjn hv) (by decide) (by decide) (by decide) (by decide) (g := (mkF m 11 #[.val (.ref a1), .val (.int p2)] [(.int p2), (.ref a1)])) rfl (by rw [hml]; rfl) (lenOf pd_20 rfl) rfl (by show 2 * 0 + _ ≤ _; exact Nat.le_of_eq rfl) (hb hby d17_11) q100 ?_
  rintro T101 L101 _ X101 ⟨rfl, N101, q101⟩
  have M101 := Fr.app M100 N101
  show Go p e below _ _ T101 (mkF m 14 #[.val (.ref a1), .val (.int p2)] [(.ref y)])
  exact Go.outA X101 hx hret (Lv.narrow X101 hlk (by decide) (by decide)) rfl rfl (hb hby d17_14) (by rw [q101]; exact ⟨rfl, M101, rfl⟩)
theorem ef_14 (a1 : Addr) (p2 : Int32) (m : MethodId) : entryFrame m #[(.ref a1), (.int p2)] 3 = mkF m 0 #[.val (.ref a1), .val (.int p2), .unset] [] := by first | (simp [entryFrame, mkF, argsToLocals, Value.category]; done) | rfl
set_option maxRecDepth 65536 in
set_option maxHeartbeats 40000000 in
theorem rm14 (l : Launch) (Z : State) (a0 : Array Value) (hw : ∀ d ∈ tables_1, d.before a0 Z = true) (a1 : Addr) (p2 : Int32) (h0 : Heap) (n0 : Nat) (Z0 : n0 ≤ h0.size) (aE aN a4 ed t1 t2 : Addr) (k : ClassId) (q pl pc : Int32) (OL : Old Z n0 h0) (SE : Sta Z Z.heap "com/example/grenoble/grenoble/tla/Token$Kind" "END" "Lcom/example/grenoble/grenoble/tla/Token$Kind;" (.ref aE)) (Ec : Exa Z h0 a1 "com/example/grenoble/grenoble/tla/TokenCursor") (Cfence : Fld Z h0 a1 "com/example/grenoble/grenoble/tla/TokenCursor" "fence" "I" (.int q)) (Ctokens : Fld Z h0 a1 "com/example/grenoble/grenoble/tla/TokenCursor" "tokens" "Ljava/util/List;" (.ref a4)) (Cnext : Fld Z h0 a1 "com/example/grenoble/grenoble/tla/TokenCursor" "next" "I" (.int 0)) (Fu : Ful Z h0 a4 ed k [t1, t2]) (E1 : Exa Z h0 t1 "com/example/grenoble/grenoble/tla/Token") (Fk : Fld Z h0 t1 "com/example/grenoble/grenoble/tla/Token" "kind" "Lcom/example/grenoble/grenoble/tla/Token$Kind;" (.ref aN)) (Fl : Fld Z h0 t1 "com/example/grenoble/grenoble/tla/Token" "line" "I" (.int pl)) (Fc : Fld Z h0 t1 "com/example/grenoble/grenoble/tla/Token" "column" "I" (.int pc)) (hne : ¬ aN = aE) (hp : p2 = 0) :
    CtrW l Z (⟨"com/example/grenoble/grenoble/tla/TokenCursor", "peek", "(I)Lcom/example/grenoble/grenoble/tla/Token;"⟩ : MethodName) prog_152_method_3_code 3 (some (.object "com/example/grenoble/grenoble/tla/Token")) ({ frames := 3, cells := 3, slots := 44, locals := 45 } : Room) #[(.ref a1), (.int p2)] h0 (fun v h L => ∃ y, v = some (.ref y) ∧ Fr n0 L ∧ Keep h0 h [] ∧ Exa Z h y "com/example/grenoble/grenoble/tla/Token" ∧ Fld Z h y "com/example/grenoble/grenoble/tla/Token" "kind" "Lcom/example/grenoble/grenoble/tla/Token$Kind;" (.ref (if q < pc then aN else aE))) := by
  refine CtrW.of pf_14 (ef_14 a1 p2) ?_
  intro p e s vm0 m below meth c T0 hx hby hml hret hlk hnm hS hZ hown e0 X0
  subst hp
  refine Go.by (g' := (mkF m 1 #[.val (.ref a1), .val (.int (0 : Int32)), .unset] [(.ref a1)])) (fun _ k => XS.aloadN X0.here hx rfl (hb hby d14_0) rfl rfl k) ?_
  obtain ⟨T102, X102, e102, st102⟩ := getF X0 hx hZ hown (host := "") (Or.inl (hw _ (List.mem_of_getElem? (i := 102) rfl))) Via.refl e0 Ctokens (g := (mkF m 1 #[.val (.ref a1), .val (.int (0 : Int32)), .unset] [(.ref a1)])) rfl rfl (hb hby d14_1)
  refine Go.by (g' := (mkF m 4 #[.val (.ref a1), .val (.int (0 : Int32)), .unset] [(.ref a4)])) st102 ?_
  refine Go.by (g' := (mkF m 5 #[.val (.ref a1), .val (.int (0 : Int32)), .unset] [(.ref a1), (.ref a4)])) (fun _ k => XS.aloadN X102.here hx rfl (hb hby d14_4) rfl rfl k) ?_
  obtain ⟨T103, X103, e103, st103⟩ := getF X102 hx hZ hown (host := "") (Or.inl (hw _ (List.mem_of_getElem? (i := 119) rfl))) Via.refl e102 Cnext (g := (mkF m 5 #[.val (.ref a1), .val (.int (0 : Int32)), .unset] [(.ref a1), (.ref a4)])) rfl rfl (hb hby d14_5)
  refine Go.by (g' := (mkF m 8 #[.val (.ref a1), .val (.int (0 : Int32)), .unset] [(.int (0 : Int32)), (.ref a4)])) st103 ?_
  refine Go.by (g' := (mkF m 9 #[.val (.ref a1), .val (.int (0 : Int32)), .unset] [(.int (0 : Int32)), (.int (0 : Int32)), (.ref a4)])) (fun _ k => XS.iloadN X103.here hx rfl (hb hby d14_8) rfl k) ?_
  refine Go.by (g' := (mkF m 10 #[.val (.ref a1), .val (.int (0 : Int32)), .unset] [(.int ((0 : Int32) + (0 : Int32))), (.ref a4)])) (fun _ k => XS.iadd X103.here hx rfl (hb hby d14_9) rfl k) ?_
  refine Go.by (g' := (mkF m 11 #[.val (.ref a1), .val (.int (0 : Int32)), .unset] [(.ref a1), (.int ((0 : Int32) + (0 : Int32))), (.ref a4)])) (fun _ k => XS.aloadN X103.here hx rfl (hb hby d14_10) rfl rfl k) ?_
  obtain ⟨T104, X104, e104, st104⟩ := getF X103 hx hZ hown (host := "") (Or.inl (hw _ (List.mem_of_getElem? (i := 102) rfl))) Via.refl e103 Ctokens (g := (mkF m 11 #[.val (.ref a1), .val (.int (0 : Int32)), .unset] [(.ref a1), (.int ((0 : Int32) + (0 : Int32))), (.ref a4)])) rfl rfl (hb hby d14_11)
  refine Go.by (g' := (mkF m 14 #[.val (.ref a1), .val (.int (0 : Int32)), .unset] [(.ref a4), (.int ((0 : Int32) + (0 : Int32))), (.ref a4)])) st104 ?_
  refine Go.callF X104 hx hZ (y := (⟨"java/util/List", "size", "()I"⟩ : MethodName)) (z := (⟨"java/util/ArrayList", "size", "()I"⟩ : MethodName)) hown (hw _ (List.mem_of_getElem? (i := 121) rfl)) (hw _ (List.mem_of_getElem? (i := 122) rfl)) (mvT hZ (hw _ (List.mem_of_getElem? (i := 123) rfl))) (hw _ (List.mem_of_getElem? (i := 124) rfl)) (hw _ (List.mem_of_getElem? (i := 125) rfl)) (hw _ (List.mem_of_getElem? (i := 126) rfl)) (hw _ (List.mem_of_getElem? (i := 127) rfl)) (hw _ (List.mem_of_getElem? (i := 59) rfl)) (hw _ (List.mem_of_getElem? (i := 2) rfl)) (hw _ (List.mem_of_getElem? (i := 128) rfl)) (by decide) (W := 2) (a := a4) (argsL := []) (rest := [(.int ((0 : Int32) + (0 : Int32))), (.ref a4)]) Fu.1 (rm15 l Z a0 hw a4 h0 n0 (szI 2) Fu.2.2.1) (by decide) (by decide) (by decide) (by decide) (g := (mkF m 14 #[.val (.ref a1), .val (.int (0 : Int32)), .unset] [(.ref a4), (.int ((0 : Int32) + (0 : Int32))), (.ref a4)])) rfl (by rw [hml]; rfl) (lenOf pd_15 rfl) rfl (by show 2 * 0 + _ ≤ _; exact Nat.le_of_eq rfl) (hb hby d14_14) e104 ?_
  rintro T105 L105 _ X105 ⟨rfl, N105, q105⟩
  have M105 := Fr.app (Fr.nil n0) N105
  show Go p e below _ _ T105 (mkF m 19 #[.val (.ref a1), .val (.int (0 : Int32)), .unset] [(.int (szI 2)), (.int ((0 : Int32) + (0 : Int32))), (.ref a4)])
  refine Go.by (g' := (mkF m 20 #[.val (.ref a1), .val (.int (0 : Int32)), .unset] [(.int (1 : Int32)), (.int (szI 2)), (.int ((0 : Int32) + (0 : Int32))), (.ref a4)])) (fun _ k => XS.iconst X105.here hx rfl (hb hby d14_19) k) ?_
  refine Go.by (g' := (mkF m 21 #[.val (.ref a1), .val (.int (0 : Int32)), .unset] [(.int ((szI 2) - (1 : Int32))), (.int ((0 : Int32) + (0 : Int32))), (.ref a4)])) (fun _ k => XS.isub X105.here hx rfl (hb hby d14_20) rfl k) ?_
  refine Go.callS X105 hx hZ (y := (⟨"java/lang/Math", "min", "(II)I"⟩ : MethodName)) hown (hw _ (List.mem_of_getElem? (i := 129) rfl)) (hw _ (List.mem_of_getElem? (i := 130) rfl)) (hw _ (List.mem_of_getElem? (i := 82) rfl)) (hw _ (List.mem_of_getElem? (i := 131) rfl)) (by decide) (W := 1) (argsL := [(.int ((0 : Int32) + (0 : Int32))), (.int ((szI 2) - (1 : Int32)))]) (rest := [(.ref a4)]) (rm16 l Z a0 hw ((0 : Int32) + (0 : Int32)) (szI 2 - (1 : Int32)) h0 n0 (by decide)) (by decide) (by decide) (by decide) (by decide) (g := (mkF m 21 #[.val (.ref a1), .val (.int (0 : Int32)), .unset] [(.int ((szI 2) - (1 : Int32))), (.int ((0 : Int32) + (0 : Int32))), (.ref a4)])) rfl (by rw [hml]; rfl) (lenOf pd_16 rfl) rfl (by show 2 * 0 + _ ≤ _; exact Nat.le_of_eq rfl) (hb hby d14_21) q105 ?_
  rintro T106 L106 _ X106 ⟨rfl, N106, q106⟩
  have M106 := Fr.app M105 N106
  show Go p e below _ _ T106 (mkF m 24 #[.val (.ref a1), .val (.int (0 : Int32)), .unset] [(.int ((0 : Int32) + (0 : Int32))), (.ref a4)])
  refine Go.callF X106 hx hZ (y := (⟨"java/util/List", "get", "(I)Ljava/lang/Object;"⟩ : MethodName)) (z := (⟨"java/util/ArrayList", "get", "(I)Ljava/lang/Object;"⟩ : MethodName)) hown (hw _ (List.mem_of_getElem? (i := 132) rfl)) (hw _ (List.mem_of_getElem? (i := 133) rfl)) (mvT hZ (hw _ (List.mem_of_getElem? (i := 134) rfl))) (hw _ (List.mem_of_getElem? (i := 135) rfl)) (hw _ (List.mem_of_getElem? (i := 136) rfl)) (hw _ (List.mem_of_getElem? (i := 137) rfl)) (hw _ (List.mem_of_getElem? (i := 138) rfl)) (hw _ (List.mem_of_getElem? (i := 59) rfl)) (hw _ (List.mem_of_getElem? (i := 2) rfl)) (hw _ (List.mem_of_getElem? (i := 139) rfl)) (by decide) (W := 0) (a := a4) (argsL := [(.int ((0 : Int32) + (0 : Int32)))]) (rest := []) Fu.1 (rm17 l Z a0 hw a4 ((0 : Int32) + (0 : Int32)) h0 n0 ed t1 k [t1, t2] Fu (by decide) (by decide) (by decide : ((0 : Int32) + (0 : Int32)) < szI 2) rfl) (by decide) (by decide) (by decide) (by decide) (g := (mkF m 24 #[.val (.ref a1), .val (.int (0 : Int32)), .unset] [(.int ((0 : Int32) + (0 : Int32))), (.ref a4)])) rfl (by rw [hml]; rfl) (lenOf pd_17 rfl) rfl (by show 2 * 0 + _ ≤ _; exact Nat.le_of_eq rfl) (hb hby d14_24) q106 ?_
  rintro T107 L107 _ X107 ⟨rfl, N107, q107⟩
  have M107 := Fr.app M106 N107
  show Go p e below _ _ T107 (mkF m 29 #[.val (.ref a1), .val (.int (0 : Int32)), .unset] [(.ref t1)])
  obtain ⟨T108, X108, e108, st108⟩ := castY X107 hx hZ hown (hw _ (List.mem_of_getElem? (i := 153) rfl)) q107 (Ins.self E1) (g := (mkF m 29 #[.val (.ref a1), .val (.int (0 : Int32)), .unset] [(.ref t1)])) rfl rfl (hb hby d14_29)
  refine Go.by (g' := (mkF m 32 #[.val (.ref a1), .val (.int (0 : Int32)), .unset] [(.ref t1)])) st108 ?_
  refine Go.by (g' := (mkF m 33 #[.val (.ref a1), .val (.int (0 : Int32)), .val (.ref t1)] [])) (fun _ k => XS.astoreN X108.here hx rfl (hb hby d14_32) rfl rfl (l' := #[.val (.ref a1), .val (.int (0 : Int32)), .val (.ref t1)]) rfl k) ?_
  refine Go.by (g' := (mkF m 34 #[.val (.ref a1), .val (.int (0 : Int32)), .val (.ref t1)] [(.ref t1)])) (fun _ k => XS.aloadN X108.here hx rfl (hb hby d14_33) rfl rfl k) ?_
  refine Go.callV X108 hx hZ (y := (⟨"com/example/grenoble/grenoble/tla/Token", "kind", "()Lcom/example/grenoble/grenoble/tla/Token$Kind;"⟩ : MethodName)) (z := (⟨"com/example/grenoble/grenoble/tla/Token", "kind", "()Lcom/example/grenoble/grenoble/tla/Token$Kind;"⟩ : MethodName)) hown (hw _ (List.mem_of_getElem? (i := 155) rfl)) (hw _ (List.mem_of_getElem? (i := 156) rfl)) (notFace_of_selects (args := #[]) (mvT hZ (hw _ (List.mem_of_getElem? (i := 158) rfl)))) (hw _ (List.mem_of_getElem? (i := 158) rfl)) (hw _ (List.mem_of_getElem? (i := 157) rfl)) (hw _ (List.mem_of_getElem? (i := 28) rfl)) (hw _ (List.mem_of_getElem? (i := 159) rfl)) (by decide) (W := 0) (a := t1) (argsL := []) (rest := []) E1 (rm21 l Z a0 hw t1 h0 n0 aN Fk) (by decide) (by decide) (by decide) (by decide) (g := (mkF m 34 #[.val (.ref a1), .val (.int (0 : Int32)), .val (.ref t1)] [(.ref t1)])) rfl (by rw [hml]; rfl) (lenOf pd_21 rfl) rfl (by show 2 * 0 + _ ≤ _; exact Nat.le_of_eq rfl) (hb hby d14_34) e108 ?_
  rintro T109 L109 _ X109 ⟨rfl, N109, q109⟩
  have M109 := Fr.app M107 N109
  show Go p e below _ _ T109 (mkF m 37 #[.val (.ref a1), .val (.int (0 : Int32)), .val (.ref t1)] [(.ref aN)])
  obtain ⟨T110, X110, e110, st110⟩ := getS2 X109 hx hZ hown (host := "") (Or.inl (hw _ (List.mem_of_getElem? (i := 160) rfl))) Via.refl q109 (SE.ext OL.2) (g := (mkF m 37 #[.val (.ref a1), .val (.int (0 : Int32)), .val (.ref t1)] [(.ref aN)])) rfl (hb hby d14_37)
  refine Go.by (g' := (mkF m 40 #[.val (.ref a1), .val (.int (0 : Int32)), .val (.ref t1)] [(.ref aE), (.ref aN)])) st110 ?_
  refine Go.by (g' := (mkF m 43 #[.val (.ref a1), .val (.int (0 : Int32)), .val (.ref t1)] [])) (fun _ k => Jvm.RoadKit.acmp (g := (mkF m 40 #[.val (.ref a1), .val (.int (0 : Int32)), .val (.ref t1)] [(.ref aE), (.ref aN)])) X110 hx rfl rfl rfl (pc0 := 40) (pc' := 43) (same := false) rfl (hb hby d14_40) rfl (decide_eq_false fun z => hne (Value.ref.inj z)) (by decide) (by decide) k) ?_
  refine Go.by (g' := (mkF m 44 #[.val (.ref a1), .val (.int (0 : Int32)), .val (.ref t1)] [(.ref t1)])) (fun _ k => XS.aloadN X110.here hx rfl (hb hby d14_43) rfl rfl k) ?_
  refine Go.callV X110 hx hZ (y := (⟨"com/example/grenoble/grenoble/tla/Token", "column", "()I"⟩ : MethodName)) (z := (⟨"com/example/grenoble/grenoble/tla/Token", "column", "()I"⟩ : MethodName)) hown (hw _ (List.mem_of_getElem? (i := 161) rfl)) (hw _ (List.mem_of_getElem? (i := 162) rfl)) (notFace_of_selects (args := #[]) (mvT hZ (hw _ (List.mem_of_getElem? (i := 164) rfl)))) (hw _ (List.mem_of_getElem? (i := 164) rfl)) (hw _ (List.mem_of_getElem? (i := 163) rfl)) (hw _ (List.mem_of_getElem? (i := 28) rfl)) (hw _ (List.mem_of_getElem? (i := 165) rfl)) (by decide) (W := 0) (a := t1) (argsL := []) (rest := []) E1 (rm22 l Z a0 hw t1 h0 n0 pc Fc) (by decide) (by decide) (by decide) (by decide) (g := (mkF m 44 #[.val (.ref a1), .val (.int (0 : Int32)), .val (.ref t1)] [(.ref t1)])) rfl (by rw [hml]; rfl) (lenOf pd_22 rfl) rfl (by show 2 * 0 + _ ≤ _; exact Nat.le_of_eq rfl) (hb hby d14_44) e110 ?_
  rintro T111 L111 _ X111 ⟨rfl, N111, q111⟩
  have M111 := Fr.app M109 N111
  show Go p e below _ _ T111 (mkF m 47 #[.val (.ref a1), .val (.int (0 : Int32)), .val (.ref t1)] [(.int pc)])
  refine Go.by (g' := (mkF m 48 #[.val (.ref a1), .val (.int (0 : Int32)), .val (.ref t1)] [(.ref a1), (.int pc)])) (fun _ k => XS.aloadN X111.here hx rfl (hb hby d14_47) rfl rfl k) ?_
  obtain ⟨T112, X112, e112, st112⟩ := getF X111 hx hZ hown (host := "") (Or.inl (hw _ (List.mem_of_getElem? (i := 98) rfl))) Via.refl q111 Cfence (g := (mkF m 48 #[.val (.ref a1), .val (.int (0 : Int32)), .val (.ref t1)] [(.ref a1), (.int pc)])) rfl rfl (hb hby d14_48)
  refine Go.by (g' := (mkF m 51 #[.val (.ref a1), .val (.int (0 : Int32)), .val (.ref t1)] [(.int q), (.int pc)])) st112 ?_
  by_cases hq : q < pc
  · refine Go.by (g' := (mkF m 75 #[.val (.ref a1), .val (.int (0 : Int32)), .val (.ref t1)] [])) (fun _ k => XS.icmpYes X112.here hx rfl (pc0 := 51) (pc' := 75) rfl (hb hby d14_51) rfl (tlt hq).2.2.1 (by decide) (by decide) k) ?_
    refine Go.by (g' := (mkF m 76 #[.val (.ref a1), .val (.int (0 : Int32)), .val (.ref t1)] [(.ref t1)])) (fun _ k => XS.aloadN X112.here hx rfl (hb hby d14_75) rfl rfl k) ?_
    exact Go.outA X112 hx hret (Lv.wide X112 hlk hS (by rw [e112]; exact (Nat.zero_le _)) (by decide) (by decide)) rfl rfl (hb hby d14_76) (by rw [e112]; exact ⟨t1, rfl, M111, Keep.refl _ _, E1, by rw [if_pos hq]; exact Fk⟩)
  · refine Go.by (g' := (mkF m 54 #[.val (.ref a1), .val (.int (0 : Int32)), .val (.ref t1)] [])) (fun _ k => XS.icmpNo X112.here hx rfl (hb hby d14_51) rfl (flt hq).2.2.1 k) ?_
    obtain ⟨T113, h113, X113, e113, E113, A113, D113, -, st113⟩ := newO X112 hx hZ hown (hw _ (List.mem_of_getElem? (i := 153) rfl)) (hw _ (List.mem_of_getElem? (i := 27) rfl)) (hw _ (List.mem_of_getElem? (i := 28) rfl)) e112 (g := (mkF m 54 #[.val (.ref a1), .val (.int (0 : Int32)), .val (.ref t1)] [])) rfl (hb hby d14_54) (by decide) (by decide)
    obtain ⟨b, g113⟩ : ∃ z, z = h0.size := ⟨_, rfl⟩
    rw [← g113] at A113 D113 st113
    have ne_a1_b : a1 ≠ b := Nat.ne_of_lt (by rw [g113]; exact Ec.lt)
    have ne_a4_b : a4 ≠ b := Nat.ne_of_lt (by rw [g113]; exact Fu.lt)
    have ne_ed_b : ed ≠ b := Nat.ne_of_lt (by rw [g113]; exact Fu.lte)
    have ne_t1_b : t1 ≠ b := Nat.ne_of_lt (by rw [g113]; exact E1.lt)
    have ge_b : n0 ≤ b := Nat.le_trans Z0 (Nat.le_of_eq g113.symm)
    have sz_b : h0.size ≤ b := Nat.le_trans (Keep.refl h0 []).1 (Nat.le_of_eq g113.symm)
    have Z113 : n0 ≤ h113.size := Nat.le_trans Z0 E113.1
    have hk113 := Nat.le_trans (Nat.zero_le _) E113.1
    have KP113 : Keep h0 h113 [] := (Keep.refl h0 []).ext E113
    refine Go.by (g' := (mkF m 57 #[.val (.ref a1), .val (.int (0 : Int32)), .val (.ref t1)] [(.ref b)])) st113 ?_
    have B1 : Fld Z h113 b "com/example/grenoble/grenoble/tla/Token" "kind" "Lcom/example/grenoble/grenoble/tla/Token$Kind;" .null := (D113 (Or.inr (hw _ (List.mem_of_getElem? (i := 45) rfl))) (ty := (.object "com/example/grenoble/grenoble/tla/Token$Kind")) (by decide))
    have B2 : Fld Z h113 b "com/example/grenoble/grenoble/tla/Token" "text" "Ljava/lang/String;" .null := (D113 (Or.inr (hw _ (List.mem_of_getElem? (i := 47) rfl))) (ty := (.object "java/lang/String")) (by decide))
    have B3 : Fld Z h113 b "com/example/grenoble/grenoble/tla/Token" "line" "I" (.int 0) := (D113 (Or.inr (hw _ (List.mem_of_getElem? (i := 49) rfl))) (ty := .int) (by decide))
    have B4 : Fld Z h113 b "com/example/grenoble/grenoble/tla/Token" "column" "I" (.int 0) := (D113 (Or.inr (hw _ (List.mem_of_getElem? (i := 51) rfl))) (ty := .int) (by decide))
    refine Go.by (g' := (mkF m 58 #[.val (.ref a1), .val (.int (0 : Int32)), .val (.ref t1)] [(.ref b), (.ref b)])) (fun _ k => XS.dup X113.here hx rfl (hb hby d14_57) rfl rfl k) ?_
    have f114_OL := (OL.ext E113)
    obtain ⟨T115, X115, e115, st115⟩ := getS2 X113 hx hZ hown (host := "") (Or.inl (hw _ (List.mem_of_getElem? (i := 160) rfl))) Via.refl e113 (SE.ext f114_OL.2) (g := (mkF m 58 #[.val (.ref a1), .val (.int (0 : Int32)), .val (.ref t1)] [(.ref b), (.ref b)])) rfl (hb hby d14_58)
    refine Go.by (g' := (mkF m 61 #[.val (.ref a1), .val (.int (0 : Int32)), .val (.ref t1)] [(.ref aE), (.ref b), (.ref b)])) st115 ?_
    refine Go.ldc X115 hx hZ hown (hw _ (List.mem_of_getElem? (i := 166) rfl)) (own_wS hw) e115 hS hk113 (g := (mkF m 61 #[.val (.ref a1), .val (.int (0 : Int32)), .val (.ref t1)] [(.ref aE), (.ref b), (.ref b)])) rfl (hb hby d14_61) (n := 36) (by first | decide | decide +kernel) (by decide) (by decide) (by decide) ?_
    intro sl T116 h116 k116 X116 e116 E116 hS hk116 hZ hown
    have Z116 : n0 ≤ h116.size := Nat.le_trans Z113 E116.1
    have KP116 : Keep h0 h116 [] := KP113.ext E116
    show Go p e below _ _ T116 (mkF m 63 #[.val (.ref a1), .val (.int (0 : Int32)), .val (.ref t1)] [(.ref sl), (.ref aE), (.ref b), (.ref b)])
    refine Go.by (g' := (mkF m 64 #[.val (.ref a1), .val (.int (0 : Int32)), .val (.ref t1)] [(.ref t1), (.ref sl), (.ref aE), (.ref b), (.ref b)])) (fun _ k => XS.aloadN X116.here hx rfl (hb hby d14_63) rfl rfl k) ?_
    have f117_E1 := ((E1.ext E113).ext E116)
    have f118_Fl := ((Fl.ext E113).ext E116)
    refine Go.callV X116 hx hZ (y := (⟨"com/example/grenoble/grenoble/tla/Token", "line", "()I"⟩ : MethodName)) (z := (⟨"com/example/grenoble/grenoble/tla/Token", "line", "()I"⟩ : MethodName)) hown (hw _ (List.mem_of_getElem? (i := 167) rfl)) (hw _ (List.mem_of_getElem? (i := 168) rfl)) (notFace_of_selects (args := #[]) (mvT hZ (hw _ (List.mem_of_getElem? (i := 170) rfl)))) (hw _ (List.mem_of_getElem? (i := 170) rfl)) (hw _ (List.mem_of_getElem? (i := 169) rfl)) (hw _ (List.mem_of_getElem? (i := 28) rfl)) (hw _ (List.mem_of_getElem? (i := 171) rfl)) (by decide) (W := 4) (a := t1) (argsL := []) (rest := [(.ref sl), (.ref aE), (.ref b), (.ref b)]) f117_E1 (rm23 l Z a0 hw t1 h116 n0 pl f118_Fl) (by decide) (by decide) (by decide) (by decide) (g := (mkF m 64 #[.val (.ref a1), .val (.int (0 : Int32)), .val (.ref t1)] [(.ref t1), (.ref sl), (.ref aE), (.ref b), (.ref b)])) rfl (by rw [hml]; rfl) (lenOf pd_23 rfl) rfl (by show 2 * 0 + _ ≤ _; exact Nat.le_of_eq rfl) (hb hby d14_64) e116 ?_
    rintro T119 L119 _ X119 ⟨rfl, N119, q119⟩
    have M119 := Fr.app M111 N119
    show Go p e below _ _ T119 (mkF m 67 #[.val (.ref a1), .val (.int (0 : Int32)), .val (.ref t1)] [(.int pl), (.ref sl), (.ref aE), (.ref b), (.ref b)])
    refine Go.by (g' := (mkF m 68 #[.val (.ref a1), .val (.int (0 : Int32)), .val (.ref t1)] [(.ref t1), (.int pl), (.ref sl), (.ref aE), (.ref b), (.ref b)])) (fun _ k => XS.aloadN X119.here hx rfl (hb hby d14_67) rfl rfl k) ?_
    have f120_Fc := ((Fc.ext E113).ext E116)
    refine Go.callV X119 hx hZ (y := (⟨"com/example/grenoble/grenoble/tla/Token", "column", "()I"⟩ : MethodName)) (z := (⟨"com/example/grenoble/grenoble/tla/Token", "column", "()I"⟩ : MethodName)) hown (hw _ (List.mem_of_getElem? (i := 161) rfl)) (hw _ (List.mem_of_getElem? (i := 162) rfl)) (notFace_of_selects (args := #[]) (mvT hZ (hw _ (List.mem_of_getElem? (i := 164) rfl)))) (hw _ (List.mem_of_getElem? (i := 164) rfl)) (hw _ (List.mem_of_getElem? (i := 163) rfl)) (hw _ (List.mem_of_getElem? (i := 28) rfl)) (hw _ (List.mem_of_getElem? (i := 165) rfl)) (by decide) (W := 5) (a := t1) (argsL := []) (rest := [(.int pl), (.ref sl), (.ref aE), (.ref b), (.ref b)]) f117_E1 (rm22 l Z a0 hw t1 h116 n0 pc f120_Fc) (by decide) (by decide) (by decide) (by decide) (g := (mkF m 68 #[.val (.ref a1), .val (.int (0 : Int32)), .val (.ref t1)] [(.ref t1), (.int pl), (.ref sl), (.ref aE), (.ref b), (.ref b)])) rfl (by rw [hml]; rfl) (lenOf pd_22 rfl) rfl (by show 2 * 0 + _ ≤ _; exact Nat.le_of_eq rfl) (hb hby d14_68) q119 ?_
    rintro T121 L121 _ X121 ⟨rfl, N121, q121⟩
    have M121 := Fr.app M119 N121
    show Go p e below _ _ T121 (mkF m 71 #[.val (.ref a1), .val (.int (0 : Int32)), .val (.ref t1)] [(.int pc), (.int pl), (.ref sl), (.ref aE), (.ref b), (.ref b)])
    have f122_Eb := (A113.ext E116)
    have f123_B1 := (B1.ext E116)
    have f124_B2 := (B2.ext E116)
    have f125_B3 := (B3.ext E116)
    have f126_B4 := (B4.ext E116)
    refine Go.callI X121 hx hZ (y := (⟨"com/example/grenoble/grenoble/tla/Token", "<init>", "(Lcom/example/grenoble/grenoble/tla/Token$Kind;Ljava/lang/String;II)V"⟩ : MethodName)) rfl hown (hw _ (List.mem_of_getElem? (i := 172) rfl)) (hw _ (List.mem_of_getElem? (i := 41) rfl)) (hw _ (List.mem_of_getElem? (i := 28) rfl)) (hw _ (List.mem_of_getElem? (i := 42) rfl)) (by decide) (W := 1) (a := b) (argsL := [(.ref aE), (.ref sl), (.int pl), (.int pc)]) (rest := [(.ref b)]) (rm5 l Z a0 hw b aE sl pl pc h116 n0 .null .null (.int 0) (.int 0) f122_Eb f123_B1 f124_B2 f125_B3 f126_B4 ge_b) (by decide) (by decide) (by decide) (by decide) (g := (mkF m 71 #[.val (.ref a1), .val (.int (0 : Int32)), .val (.ref t1)] [(.int pc), (.int pl), (.ref sl), (.ref aE), (.ref b), (.ref b)])) rfl (by rw [hml]; rfl) (lenOf pd_5 rfl) rfl (by show 2 * 0 + _ ≤ _; exact Nat.le_of_eq rfl) (hb hby d14_71) q121 ?_
    rintro T127 L127 _ X127 ⟨rfl, N127, K127, Gk, -, -⟩
    have M127 := Fr.app M121 N127
    have Z127 : n0 ≤ T127.heap.size := Nat.le_trans Z116 K127.1
    have hk127 := Nat.le_trans hk116 K127.1
    have KP127 : Keep h0 T127.heap [] := KP116.trans K127 (allS (Or.inr sz_b) all0)
    show Go p e below _ _ T127 (mkF m 74 #[.val (.ref a1), .val (.int (0 : Int32)), .val (.ref t1)] [(.ref b)])
    refine Go.by (g' := (mkF m 75 #[.val (.ref a1), .val (.int (0 : Int32)), .val (.ref b)] [])) (fun _ k => XS.astoreN X127.here hx rfl (hb hby d14_74) rfl rfl (l' := #[.val (.ref a1), .val (.int (0 : Int32)), .val (.ref b)]) rfl k) ?_
    refine Go.by (g' := (mkF m 76 #[.val (.ref a1), .val (.int (0 : Int32)), .val (.ref b)] [(.ref b)])) (fun _ k => XS.aloadN X127.here hx rfl (hb hby d14_75) rfl rfl k) ?_
    have f128_Eb := (f122_Eb.keep K127)
    exact Go.outA X127 hx hret (Lv.wide X127 hlk hS hk127 (by decide) (by decide)) rfl rfl (hb hby d14_76) ⟨b, rfl, M127, KP127, f128_Eb, by rw [if_neg hq]; exact Gk⟩
theorem ef_13 (a1 : Addr) (m : MethodId) : entryFrame m #[(.ref a1)] 1 = mkF m 0 #[.val (.ref a1)] [] := by first | (simp [entryFrame, mkF, argsToLocals, Value.category]; done) | rfl
set_option maxRecDepth 65536 in
set_option maxHeartbeats 40000000 in
theorem rm13 (l : Launch) (Z : State) (a0 : Array Value) (hw : ∀ d ∈ tables_1, d.before a0 Z = true) (a1 : Addr) (h0 : Heap) (n0 : Nat) (Z0 : n0 ≤ h0.size) (aE aN a4 ed t1 t2 : Addr) (k : ClassId) (q pl pc : Int32) (OL : Old Z n0 h0) (SE : Sta Z Z.heap "com/example/grenoble/grenoble/tla/Token$Kind" "END" "Lcom/example/grenoble/grenoble/tla/Token$Kind;" (.ref aE)) (Ec : Exa Z h0 a1 "com/example/grenoble/grenoble/tla/TokenCursor") (Cfence : Fld Z h0 a1 "com/example/grenoble/grenoble/tla/TokenCursor" "fence" "I" (.int q)) (Ctokens : Fld Z h0 a1 "com/example/grenoble/grenoble/tla/TokenCursor" "tokens" "Ljava/util/List;" (.ref a4)) (Cnext : Fld Z h0 a1 "com/example/grenoble/grenoble/tla/TokenCursor" "next" "I" (.int 0)) (Fu : Ful Z h0 a4 ed k [t1, t2]) (E1 : Exa Z h0 t1 "com/example/grenoble/grenoble/tla/Token") (Fk : Fld Z h0 t1 "com/example/grenoble/grenoble/tla/Token" "kind" "Lcom/example/grenoble/grenoble/tla/Token$Kind;" (.ref aN)) (Fl : Fld Z h0 t1 "com/example/grenoble/grenoble/tla/Token" "line" "I" (.int pl)) (Fc : Fld Z h0 t1 "com/example/grenoble/grenoble/tla/Token" "column" "I" (.int pc)) (hne : ¬ aN = aE) :
    CtrW l Z (⟨"com/example/grenoble/grenoble/tla/TokenCursor", "peek", "()Lcom/example/grenoble/grenoble/tla/Token;"⟩ : MethodName) prog_152_method_4_code 1 (some (.object "com/example/grenoble/grenoble/tla/Token")) ({ frames := 4, cells := 3, slots := 44, locals := 59 } : Room) #[(.ref a1)] h0 (fun v h L => ∃ y, v = some (.ref y) ∧ Fr n0 L ∧ Keep h0 h [] ∧ Exa Z h y "com/example/grenoble/grenoble/tla/Token" ∧ Fld Z h y "com/example/grenoble/grenoble/tla/Token" "kind" "Lcom/example/grenoble/grenoble/tla/Token$Kind;" (.ref (if q < pc then aN else aE))) := by
  refine CtrW.of pf_13 (ef_13 a1) ?_
  intro p e s vm0 m below meth c T0 hx hby hml hret hlk hnm hS hZ hown e0 X0
  refine Go.by (g' := (mkF m 1 #[.val (.ref a1)] [(.ref a1)])) (fun _ k => XS.aloadN X0.here hx rfl (hb hby d13_0) rfl rfl k) ?_
  refine Go.by (g' := (mkF m 2 #[.val (.ref a1)] [(.int (0 : Int32)), (.ref a1)])) (fun _ k => XS.iconst X0.here hx rfl (hb hby d13_1) k) ?_
  refine Go.callVW X0 hx hS (Nat.zero_le _) hZ (y := (⟨"com/example/grenoble/grenoble/tla/TokenCursor", "peek", "(I)Lcom/example/grenoble/grenoble/tla/Token;"⟩ : MethodName)) (z := (⟨"com/example/grenoble/grenoble/tla/TokenCursor", "peek", "(I)Lcom/example/grenoble/grenoble/tla/Token;"⟩ : MethodName)) hown (hw _ (List.mem_of_getElem? (i := 114) rfl)) (hw _ (List.mem_of_getElem? (i := 115) rfl)) (notFace_of_selects (args := #[]) (mvT hZ (hw _ (List.mem_of_getElem? (i := 117) rfl)))) (hw _ (List.mem_of_getElem? (i := 117) rfl)) (hw _ (List.mem_of_getElem? (i := 116) rfl)) (hw _ (List.mem_of_getElem? (i := 92) rfl)) (hw _ (List.mem_of_getElem? (i := 118) rfl)) (by decide) (W := 0) (a := a1) (argsL := [(.int (0 : Int32))]) (rest := []) Ec (rm14 l Z a0 hw a1 (0 : Int32) h0 n0 Z0 aE aN a4 ed t1 t2 k q pl pc OL SE Ec Cfence Ctokens Cnext Fu E1 Fk Fl Fc hne rfl) (by decide) (by decide) (by decide) (by decide) (g := (mkF m 2 #[.val (.ref a1)] [(.int (0 : Int32)), (.ref a1)])) rfl (by rw [hml]; rfl) (lenOf pd_14 rfl) rfl (by show 2 * 0 + _ ≤ _; exact Nat.le_of_eq rfl) (hb hby d13_2) e0 ?_
  rintro T129 L129 _ X129 hS hZ hown ⟨y, rfl, N129, K129, Ey, Fy⟩
  have M129 := Fr.app (Fr.nil n0) N129
  have Z129 : n0 ≤ T129.heap.size := Nat.le_trans Z0 K129.1
  have hk129 := Nat.le_trans (Nat.zero_le _) K129.1
  have KP129 : Keep h0 T129.heap [] := (Keep.refl h0 []).trans K129 all0
  show Go p e below _ _ T129 (mkF m 5 #[.val (.ref a1)] [(.ref y)])
  exact Go.outA X129 hx hret (Lv.wide X129 hlk hS (Nat.le_refl _) (by decide) (by decide)) rfl rfl (hb hby d13_5) ⟨y, rfl, M129, KP129, Ey, Fy⟩
theorem ef_0 (p1 : Int32) (p2 : Int32) (p3 : Int32) (p4 : Int32) (m : MethodId) : entryFrame m #[(.int p1), (.int p2), (.int p3), (.int p4)] maxLocals = mkF m 0 #[.val (.int p1), .val (.int p2), .val (.int p3), .val (.int p4), .unset, .unset, .unset, .unset, .unset, .unset, .unset] [] := by first | (simp [entryFrame, mkF, argsToLocals, Value.category, maxLocals]; done) | rfl
set_option maxRecDepth 65536 in
set_option maxHeartbeats 40000000 in
theorem rm0 (l : Launch) (Z : State) (a0 : Array Value) (hw : ∀ d ∈ tables_1, d.before a0 Z = true) (p1 : Int32) (p2 : Int32) (p3 : Int32) (p4 : Int32) (h0 : Heap) (n0 : Nat) (Z0 : n0 ≤ h0.size) (aD aE aN : Addr) (kD : ClassId) (OL : Old Z n0 h0) (SD : Sta Z Z.heap "java/util/ArrayList" "DEFAULTCAPACITY_EMPTY_ELEMENTDATA" "[Ljava/lang/Object;" (.ref aD)) (AD : Arv Z Z.heap aD kD OA 0 [] .null) (SE : Sta Z Z.heap "com/example/grenoble/grenoble/tla/Token$Kind" "END" "Lcom/example/grenoble/grenoble/tla/Token$Kind;" (.ref aE)) (SN : Sta Z Z.heap "com/example/grenoble/grenoble/tla/Token$Kind" "NAME" "Lcom/example/grenoble/grenoble/tla/Token$Kind;" (.ref aN)) (hne : ¬ aN = aE) :
    CtrW l Z x code maxLocals ret room_1 #[(.int p1), (.int p2), (.int p3), (.int p4)] h0 (fun v h L => v = some (.int 1) ∧ Fr n0 L) := by
  refine CtrW.of pf_0 (ef_0 p1 p2 p3 p4) ?_
  intro p e s vm0 m below meth c T0 hx hby hml hret hlk hnm hS hZ hown e0 X0
  obtain ⟨T130, h130, X130, e130, E130, A130, D130, -, st130⟩ := newO X0 hx hZ hown (hw _ (List.mem_of_getElem? (i := 0) rfl)) (hw _ (List.mem_of_getElem? (i := 1) rfl)) (hw _ (List.mem_of_getElem? (i := 2) rfl)) e0 (g := (mkF m 0 #[.val (.int p1), .val (.int p2), .val (.int p3), .val (.int p4), .unset, .unset, .unset, .unset, .unset, .unset, .unset] [])) rfl (hb hby at_0) (by decide) (by decide)
  obtain ⟨la, g130⟩ : ∃ z, z = h0.size := ⟨_, rfl⟩
  rw [← g130] at A130 D130 st130
  have ge_la : n0 ≤ la := Nat.le_trans Z0 (Nat.le_of_eq g130.symm)
  have Z130 : n0 ≤ h130.size := Nat.le_trans Z0 E130.1
  have hk130 := Nat.le_trans (Nat.zero_le _) E130.1
  refine Go.by (g' := (mkF m 3 #[.val (.int p1), .val (.int p2), .val (.int p3), .val (.int p4), .unset, .unset, .unset, .unset, .unset, .unset, .unset] [(.ref la)])) st130 ?_
  have Lm : Fld Z h130 la "java/util/AbstractList" "modCount" "I" (.int 0) := (D130 (Or.inl (hw _ (List.mem_of_getElem? (i := 22) rfl))) (ty := .int) (by decide))
  have Le : Fld Z h130 la "java/util/ArrayList" "elementData" "[Ljava/lang/Object;" .null := (D130 (Or.inl (hw _ (List.mem_of_getElem? (i := 25) rfl))) (ty := (.array (.object "java/lang/Object"))) (by decide))
  have Lz : Fld Z h130 la "java/util/ArrayList" "size" "I" (.int 0) := (D130 (Or.inl (hw _ (List.mem_of_getElem? (i := 64) rfl))) (ty := .int) (by decide))
  refine Go.by (g' := (mkF m 4 #[.val (.int p1), .val (.int p2), .val (.int p3), .val (.int p4), .unset, .unset, .unset, .unset, .unset, .unset, .unset] [(.ref la), (.ref la)])) (fun _ k => XS.dup X130.here hx rfl (hb hby at_3) rfl rfl k) ?_
  have f131_OL := (OL.ext E130)
  refine Go.callI X130 hx hZ (y := (⟨"java/util/ArrayList", "<init>", "()V"⟩ : MethodName)) rfl hown (hw _ (List.mem_of_getElem? (i := 3) rfl)) (hw _ (List.mem_of_getElem? (i := 4) rfl)) (hw _ (List.mem_of_getElem? (i := 2) rfl)) (hw _ (List.mem_of_getElem? (i := 5) rfl)) (by decide) (W := 1) (a := la) (argsL := []) (rest := [(.ref la)]) (rm1 l Z a0 hw la h130 n0 aD (.int 0) .null A130 Lm Le Lz ge_la f131_OL SD) (by decide) (by decide) (by decide) (by decide) (g := (mkF m 4 #[.val (.int p1), .val (.int p2), .val (.int p3), .val (.int p4), .unset, .unset, .unset, .unset, .unset, .unset, .unset] [(.ref la), (.ref la)])) rfl (by rw [hml]; rfl) (lenOf pd_1 rfl) rfl (by show 2 * 0 + _ ≤ _; exact Nat.le_of_eq rfl) (hb hby at_4) e130 ?_
  rintro T132 L132 _ X132 ⟨rfl, N132, K132, Em⟩
  have M132 := Fr.app (Fr.nil n0) N132
  have Z132 : n0 ≤ T132.heap.size := Nat.le_trans Z130 K132.1
  have hk132 := Nat.le_trans hk130 K132.1
  show Go p e below _ _ T132 (mkF m 7 #[.val (.int p1), .val (.int p2), .val (.int p3), .val (.int p4), .unset, .unset, .unset, .unset, .unset, .unset, .unset] [(.ref la)])
  refine Go.by (g' := (mkF m 9 #[.val (.int p1), .val (.int p2), .val (.int p3), .val (.int p4), .val (.ref la), .unset, .unset, .unset, .unset, .unset, .unset] [])) (fun _ k => XS.astore X132.here hx rfl (hb hby at_7) rfl rfl (l' := #[.val (.int p1), .val (.int p2), .val (.int p3), .val (.int p4), .val (.ref la), .unset, .unset, .unset, .unset, .unset, .unset]) rfl k) ?_
  refine Go.by (g' := (mkF m 11 #[.val (.int p1), .val (.int p2), .val (.int p3), .val (.int p4), .val (.ref la), .unset, .unset, .unset, .unset, .unset, .unset] [(.ref la)])) (fun _ k => XS.aload X132.here hx rfl (hb hby at_9) rfl rfl k) ?_
  obtain ⟨T133, h133, X133, e133, E133, A133, D133, -, st133⟩ := newO X132 hx hZ hown (hw _ (List.mem_of_getElem? (i := 26) rfl)) (hw _ (List.mem_of_getElem? (i := 27) rfl)) (hw _ (List.mem_of_getElem? (i := 28) rfl)) rfl (g := (mkF m 11 #[.val (.int p1), .val (.int p2), .val (.int p3), .val (.int p4), .val (.ref la), .unset, .unset, .unset, .unset, .unset, .unset] [(.ref la)])) rfl (hb hby at_11) (by decide) (by decide)
  obtain ⟨t1, g133⟩ : ∃ z, z = T132.heap.size := ⟨_, rfl⟩
  rw [← g133] at A133 D133 st133
  have f134_El := (A130.keep K132)
  have ne_la_t1 : la ≠ t1 := Nat.ne_of_lt (by rw [g133]; exact f134_El.lt)
  have ge_t1 : n0 ≤ t1 := Nat.le_trans Z132 (Nat.le_of_eq g133.symm)
  have Z133 : n0 ≤ h133.size := Nat.le_trans Z132 E133.1
  have hk133 := Nat.le_trans hk132 E133.1
  refine Go.by (g' := (mkF m 14 #[.val (.int p1), .val (.int p2), .val (.int p3), .val (.int p4), .val (.ref la), .unset, .unset, .unset, .unset, .unset, .unset] [(.ref t1), (.ref la)])) st133 ?_
  have T1_1 : Fld Z h133 t1 "com/example/grenoble/grenoble/tla/Token" "kind" "Lcom/example/grenoble/grenoble/tla/Token$Kind;" .null := (D133 (Or.inr (hw _ (List.mem_of_getElem? (i := 45) rfl))) (ty := (.object "com/example/grenoble/grenoble/tla/Token$Kind")) (by decide))
  have T1_2 : Fld Z h133 t1 "com/example/grenoble/grenoble/tla/Token" "text" "Ljava/lang/String;" .null := (D133 (Or.inr (hw _ (List.mem_of_getElem? (i := 47) rfl))) (ty := (.object "java/lang/String")) (by decide))
  have T1_3 : Fld Z h133 t1 "com/example/grenoble/grenoble/tla/Token" "line" "I" (.int 0) := (D133 (Or.inr (hw _ (List.mem_of_getElem? (i := 49) rfl))) (ty := .int) (by decide))
  have T1_4 : Fld Z h133 t1 "com/example/grenoble/grenoble/tla/Token" "column" "I" (.int 0) := (D133 (Or.inr (hw _ (List.mem_of_getElem? (i := 51) rfl))) (ty := .int) (by decide))
  refine Go.by (g' := (mkF m 15 #[.val (.int p1), .val (.int p2), .val (.int p3), .val (.int p4), .val (.ref la), .unset, .unset, .unset, .unset, .unset, .unset] [(.ref t1), (.ref t1), (.ref la)])) (fun _ k => XS.dup X133.here hx rfl (hb hby at_14) rfl rfl k) ?_
  have f135_OL := ((f131_OL.keep K132 (allS ge_la all0)).ext E133)
  obtain ⟨T136, X136, e136, st136⟩ := getS2 X133 hx hZ hown (host := "") (Or.inl (hw _ (List.mem_of_getElem? (i := 29) rfl))) Via.refl e133 (SN.ext f135_OL.2) (g := (mkF m 15 #[.val (.int p1), .val (.int p2), .val (.int p3), .val (.int p4), .val (.ref la), .unset, .unset, .unset, .unset, .unset, .unset] [(.ref t1), (.ref t1), (.ref la)])) rfl (hb hby at_15)
  refine Go.by (g' := (mkF m 18 #[.val (.int p1), .val (.int p2), .val (.int p3), .val (.int p4), .val (.ref la), .unset, .unset, .unset, .unset, .unset, .unset] [(.ref aN), (.ref t1), (.ref t1), (.ref la)])) st136 ?_
  refine Go.ldc X136 hx hZ hown (hw _ (List.mem_of_getElem? (i := 32) rfl)) (own_wS hw) e136 hS hk133 (g := (mkF m 18 #[.val (.int p1), .val (.int p2), .val (.int p3), .val (.int p4), .val (.ref la), .unset, .unset, .unset, .unset, .unset, .unset] [(.ref aN), (.ref t1), (.ref t1), (.ref la)])) rfl (hb hby at_18) (n := 4) (by first | decide | decide +kernel) (by decide) (by decide) (by decide) ?_
  intro s1 T137 h137 k137 X137 e137 E137 hS hk137 hZ hown
  have Z137 : n0 ≤ h137.size := Nat.le_trans Z133 E137.1
  show Go p e below _ _ T137 (mkF m 20 #[.val (.int p1), .val (.int p2), .val (.int p3), .val (.int p4), .val (.ref la), .unset, .unset, .unset, .unset, .unset, .unset] [(.ref s1), (.ref aN), (.ref t1), (.ref t1), (.ref la)])
  refine Go.by (g' := (mkF m 21 #[.val (.int p1), .val (.int p2), .val (.int p3), .val (.int p4), .val (.ref la), .unset, .unset, .unset, .unset, .unset, .unset] [(.int p4), (.ref s1), (.ref aN), (.ref t1), (.ref t1), (.ref la)])) (fun _ k => XS.iloadN X137.here hx rfl (hb hby at_20) rfl k) ?_
  refine Go.by (g' := (mkF m 22 #[.val (.int p1), .val (.int p2), .val (.int p3), .val (.int p4), .val (.ref la), .unset, .unset, .unset, .unset, .unset, .unset] [(.int p3), (.int p4), (.ref s1), (.ref aN), (.ref t1), (.ref t1), (.ref la)])) (fun _ k => XS.iloadN X137.here hx rfl (hb hby at_21) rfl k) ?_
  have f138_E1 := (A133.ext E137)
  have f139_T1_1 := (T1_1.ext E137)
  have f140_T1_2 := (T1_2.ext E137)
  have f141_T1_3 := (T1_3.ext E137)
  have f142_T1_4 := (T1_4.ext E137)
  refine Go.callI X137 hx hZ (y := (⟨"com/example/grenoble/grenoble/tla/Token", "<init>", "(Lcom/example/grenoble/grenoble/tla/Token$Kind;Ljava/lang/String;II)V"⟩ : MethodName)) rfl hown (hw _ (List.mem_of_getElem? (i := 40) rfl)) (hw _ (List.mem_of_getElem? (i := 41) rfl)) (hw _ (List.mem_of_getElem? (i := 28) rfl)) (hw _ (List.mem_of_getElem? (i := 42) rfl)) (by decide) (W := 2) (a := t1) (argsL := [(.ref aN), (.ref s1), (.int p4), (.int p3)]) (rest := [(.ref t1), (.ref la)]) (rm5 l Z a0 hw t1 aN s1 p4 p3 h137 n0 .null .null (.int 0) (.int 0) f138_E1 f139_T1_1 f140_T1_2 f141_T1_3 f142_T1_4 ge_t1) (by decide) (by decide) (by decide) (by decide) (g := (mkF m 22 #[.val (.int p1), .val (.int p2), .val (.int p3), .val (.int p4), .val (.ref la), .unset, .unset, .unset, .unset, .unset, .unset] [(.int p3), (.int p4), (.ref s1), (.ref aN), (.ref t1), (.ref t1), (.ref la)])) rfl (by rw [hml]; rfl) (lenOf pd_5 rfl) rfl (by show 2 * 0 + _ ≤ _; exact Nat.le_of_eq rfl) (hb hby at_22) e137 ?_
  rintro T143 L143 _ X143 ⟨rfl, N143, K143, Gk143, Gl143, Gc143⟩
  have M143 := Fr.app M132 N143
  have Z143 : n0 ≤ T143.heap.size := Nat.le_trans Z137 K143.1
  have hk143 := Nat.le_trans hk137 K143.1
  show Go p e below _ _ T143 (mkF m 25 #[.val (.int p1), .val (.int p2), .val (.int p3), .val (.int p4), .val (.ref la), .unset, .unset, .unset, .unset, .unset, .unset] [(.ref t1), (.ref la)])
  have f144_El := (((f134_El.ext E133).ext E137).keep K143)
  have f145_E1 := (f138_E1.keep K143)
  have f146_Em := (((Em.ext E133).ext E137).keep K143 (ninS ne_la_t1 nin0))
  have f147_OL := ((f135_OL.ext E137).keep K143 (allS ge_t1 all0))
  refine Go.callF X143 hx hZ (y := (⟨"java/util/List", "add", "(Ljava/lang/Object;)Z"⟩ : MethodName)) (z := (⟨"java/util/ArrayList", "add", "(Ljava/lang/Object;)Z"⟩ : MethodName)) hown (hw _ (List.mem_of_getElem? (i := 52) rfl)) (hw _ (List.mem_of_getElem? (i := 53) rfl)) (mvT hZ (hw _ (List.mem_of_getElem? (i := 54) rfl))) (hw _ (List.mem_of_getElem? (i := 55) rfl)) (hw _ (List.mem_of_getElem? (i := 56) rfl)) (hw _ (List.mem_of_getElem? (i := 57) rfl)) (hw _ (List.mem_of_getElem? (i := 58) rfl)) (hw _ (List.mem_of_getElem? (i := 59) rfl)) (hw _ (List.mem_of_getElem? (i := 2) rfl)) (hw _ (List.mem_of_getElem? (i := 60) rfl)) (by decide) (W := 0) (a := la) (argsL := [(.ref t1)]) (rest := []) f146_Em.1 (rm6E l Z a0 hw la t1 T143.heap n0 Z143 aD kD "com/example/grenoble/grenoble/tla/Token" f146_Em ge_la f147_OL SD AD f145_E1 (hw _ (List.mem_of_getElem? (i := 86) rfl))) (by decide) (by decide) (by decide) (by decide) (g := (mkF m 25 #[.val (.int p1), .val (.int p2), .val (.int p3), .val (.int p4), .val (.ref la), .unset, .unset, .unset, .unset, .unset, .unset] [(.ref t1), (.ref la)])) rfl (by rw [hml]; rfl) (lenOf pd_6 rfl) rfl (by show 2 * 0 + _ ≤ _; exact Nat.le_of_eq rfl) (hb hby at_25) rfl ?_
  rintro T148 L148 _ X148 ⟨ed, kE, rfl, N148, K148, szE, Fu1⟩
  have M148 := Fr.app M143 N148
  have Z148 : n0 ≤ T148.heap.size := Nat.le_trans Z143 K148.1
  have hk148 := Nat.le_trans hk143 K148.1
  show Go p e below _ _ T148 (mkF m 30 #[.val (.int p1), .val (.int p2), .val (.int p3), .val (.int p4), .val (.ref la), .unset, .unset, .unset, .unset, .unset, .unset] [(.int (1 : Int32))])
  have ne_la_ed : la ≠ ed := Nat.ne_of_lt (Nat.lt_of_lt_of_le f144_El.lt szE)
  have ne_t1_ed : t1 ≠ ed := Nat.ne_of_lt (Nat.lt_of_lt_of_le f145_E1.lt szE)
  have ge_ed : n0 ≤ ed := Nat.le_trans Z143 szE
  refine Go.by (g' := (mkF m 31 #[.val (.int p1), .val (.int p2), .val (.int p3), .val (.int p4), .val (.ref la), .unset, .unset, .unset, .unset, .unset, .unset] [])) (fun _ k => XS.pop X148.here hx rfl (hb hby at_30) rfl rfl k) ?_
  refine Go.by (g' := (mkF m 33 #[.val (.int p1), .val (.int p2), .val (.int p3), .val (.int p4), .val (.ref la), .unset, .unset, .unset, .unset, .unset, .unset] [(.ref la)])) (fun _ k => XS.aload X148.here hx rfl (hb hby at_31) rfl rfl k) ?_
  obtain ⟨T149, h149, X149, e149, E149, A149, D149, -, st149⟩ := newO X148 hx hZ hown (hw _ (List.mem_of_getElem? (i := 26) rfl)) (hw _ (List.mem_of_getElem? (i := 27) rfl)) (hw _ (List.mem_of_getElem? (i := 28) rfl)) rfl (g := (mkF m 33 #[.val (.int p1), .val (.int p2), .val (.int p3), .val (.int p4), .val (.ref la), .unset, .unset, .unset, .unset, .unset, .unset] [(.ref la)])) rfl (hb hby at_33) (by decide) (by decide)
  obtain ⟨t2, g149⟩ : ∃ z, z = T148.heap.size := ⟨_, rfl⟩
  rw [← g149] at A149 D149 st149
  have ne_la_t2 : la ≠ t2 := Nat.ne_of_lt (by rw [g149]; exact Fu1.lt)
  have f150_E1 := (f145_E1.keep K148)
  have ne_t1_t2 : t1 ≠ t2 := Nat.ne_of_lt (by rw [g149]; exact f150_E1.lt)
  have ne_ed_t2 : ed ≠ t2 := Nat.ne_of_lt (by rw [g149]; exact Fu1.lte)
  have ge_t2 : n0 ≤ t2 := Nat.le_trans Z148 (Nat.le_of_eq g149.symm)
  have Z149 : n0 ≤ h149.size := Nat.le_trans Z148 E149.1
  have hk149 := Nat.le_trans hk148 E149.1
  refine Go.by (g' := (mkF m 36 #[.val (.int p1), .val (.int p2), .val (.int p3), .val (.int p4), .val (.ref la), .unset, .unset, .unset, .unset, .unset, .unset] [(.ref t2), (.ref la)])) st149 ?_
  have T2_1 : Fld Z h149 t2 "com/example/grenoble/grenoble/tla/Token" "kind" "Lcom/example/grenoble/grenoble/tla/Token$Kind;" .null := (D149 (Or.inr (hw _ (List.mem_of_getElem? (i := 45) rfl))) (ty := (.object "com/example/grenoble/grenoble/tla/Token$Kind")) (by decide))
  have T2_2 : Fld Z h149 t2 "com/example/grenoble/grenoble/tla/Token" "text" "Ljava/lang/String;" .null := (D149 (Or.inr (hw _ (List.mem_of_getElem? (i := 47) rfl))) (ty := (.object "java/lang/String")) (by decide))
  have T2_3 : Fld Z h149 t2 "com/example/grenoble/grenoble/tla/Token" "line" "I" (.int 0) := (D149 (Or.inr (hw _ (List.mem_of_getElem? (i := 49) rfl))) (ty := .int) (by decide))
  have T2_4 : Fld Z h149 t2 "com/example/grenoble/grenoble/tla/Token" "column" "I" (.int 0) := (D149 (Or.inr (hw _ (List.mem_of_getElem? (i := 51) rfl))) (ty := .int) (by decide))
  refine Go.by (g' := (mkF m 37 #[.val (.int p1), .val (.int p2), .val (.int p3), .val (.int p4), .val (.ref la), .unset, .unset, .unset, .unset, .unset, .unset] [(.ref t2), (.ref t2), (.ref la)])) (fun _ k => XS.dup X149.here hx rfl (hb hby at_36) rfl rfl k) ?_
  have f151_OL := ((f147_OL.keep K148 (allS ge_la all0)).ext E149)
  obtain ⟨T152, X152, e152, st152⟩ := getS2 X149 hx hZ hown (host := "") (Or.inl (hw _ (List.mem_of_getElem? (i := 87) rfl))) Via.refl e149 (SE.ext f151_OL.2) (g := (mkF m 37 #[.val (.int p1), .val (.int p2), .val (.int p3), .val (.int p4), .val (.ref la), .unset, .unset, .unset, .unset, .unset, .unset] [(.ref t2), (.ref t2), (.ref la)])) rfl (hb hby at_37)
  refine Go.by (g' := (mkF m 40 #[.val (.int p1), .val (.int p2), .val (.int p3), .val (.int p4), .val (.ref la), .unset, .unset, .unset, .unset, .unset, .unset] [(.ref aE), (.ref t2), (.ref t2), (.ref la)])) st152 ?_
  refine Go.ldc X152 hx hZ hown (hw _ (List.mem_of_getElem? (i := 89) rfl)) (own_wS hw) e152 hS hk149 (g := (mkF m 40 #[.val (.int p1), .val (.int p2), .val (.int p3), .val (.int p4), .val (.ref la), .unset, .unset, .unset, .unset, .unset, .unset] [(.ref aE), (.ref t2), (.ref t2), (.ref la)])) rfl (hb hby at_40) (n := 16) (by first | decide | decide +kernel) (by decide) (by decide) (by decide) ?_
  intro s2 T153 h153 k153 X153 e153 E153 hS hk153 hZ hown
  have Z153 : n0 ≤ h153.size := Nat.le_trans Z149 E153.1
  show Go p e below _ _ T153 (mkF m 42 #[.val (.int p1), .val (.int p2), .val (.int p3), .val (.int p4), .val (.ref la), .unset, .unset, .unset, .unset, .unset, .unset] [(.ref s2), (.ref aE), (.ref t2), (.ref t2), (.ref la)])
  refine Go.by (g' := (mkF m 43 #[.val (.int p1), .val (.int p2), .val (.int p3), .val (.int p4), .val (.ref la), .unset, .unset, .unset, .unset, .unset, .unset] [(.int p4), (.ref s2), (.ref aE), (.ref t2), (.ref t2), (.ref la)])) (fun _ k => XS.iloadN X153.here hx rfl (hb hby at_42) rfl k) ?_
  refine Go.by (g' := (mkF m 44 #[.val (.int p1), .val (.int p2), .val (.int p3), .val (.int p4), .val (.ref la), .unset, .unset, .unset, .unset, .unset, .unset] [(.int p3), (.int p4), (.ref s2), (.ref aE), (.ref t2), (.ref t2), (.ref la)])) (fun _ k => XS.iloadN X153.here hx rfl (hb hby at_43) rfl k) ?_
  have f154_E2 := (A149.ext E153)
  have f155_T2_1 := (T2_1.ext E153)
  have f156_T2_2 := (T2_2.ext E153)
  have f157_T2_3 := (T2_3.ext E153)
  have f158_T2_4 := (T2_4.ext E153)
  refine Go.callI X153 hx hZ (y := (⟨"com/example/grenoble/grenoble/tla/Token", "<init>", "(Lcom/example/grenoble/grenoble/tla/Token$Kind;Ljava/lang/String;II)V"⟩ : MethodName)) rfl hown (hw _ (List.mem_of_getElem? (i := 40) rfl)) (hw _ (List.mem_of_getElem? (i := 41) rfl)) (hw _ (List.mem_of_getElem? (i := 28) rfl)) (hw _ (List.mem_of_getElem? (i := 42) rfl)) (by decide) (W := 2) (a := t2) (argsL := [(.ref aE), (.ref s2), (.int p4), (.int p3)]) (rest := [(.ref t2), (.ref la)]) (rm5 l Z a0 hw t2 aE s2 p4 p3 h153 n0 .null .null (.int 0) (.int 0) f154_E2 f155_T2_1 f156_T2_2 f157_T2_3 f158_T2_4 ge_t2) (by decide) (by decide) (by decide) (by decide) (g := (mkF m 44 #[.val (.int p1), .val (.int p2), .val (.int p3), .val (.int p4), .val (.ref la), .unset, .unset, .unset, .unset, .unset, .unset] [(.int p3), (.int p4), (.ref s2), (.ref aE), (.ref t2), (.ref t2), (.ref la)])) rfl (by rw [hml]; rfl) (lenOf pd_5 rfl) rfl (by show 2 * 0 + _ ≤ _; exact Nat.le_of_eq rfl) (hb hby at_44) e153 ?_
  rintro T159 L159 _ X159 ⟨rfl, N159, K159, Gk159, Gl159, Gc159⟩
  have M159 := Fr.app M148 N159
  have Z159 : n0 ≤ T159.heap.size := Nat.le_trans Z153 K159.1
  have hk159 := Nat.le_trans hk153 K159.1
  show Go p e below _ _ T159 (mkF m 47 #[.val (.int p1), .val (.int p2), .val (.int p3), .val (.int p4), .val (.ref la), .unset, .unset, .unset, .unset, .unset, .unset] [(.ref t2), (.ref la)])
  have f160_Fu := (((Fu1.ext E149).ext E153).keep K159 (ninS ne_la_t2 nin0) (ninS ne_ed_t2 nin0))
  have f161_E2 := (f154_E2.keep K159)
  refine Go.callF X159 hx hZ (y := (⟨"java/util/List", "add", "(Ljava/lang/Object;)Z"⟩ : MethodName)) (z := (⟨"java/util/ArrayList", "add", "(Ljava/lang/Object;)Z"⟩ : MethodName)) hown (hw _ (List.mem_of_getElem? (i := 52) rfl)) (hw _ (List.mem_of_getElem? (i := 53) rfl)) (mvT hZ (hw _ (List.mem_of_getElem? (i := 54) rfl))) (hw _ (List.mem_of_getElem? (i := 55) rfl)) (hw _ (List.mem_of_getElem? (i := 56) rfl)) (hw _ (List.mem_of_getElem? (i := 57) rfl)) (hw _ (List.mem_of_getElem? (i := 58) rfl)) (hw _ (List.mem_of_getElem? (i := 59) rfl)) (hw _ (List.mem_of_getElem? (i := 2) rfl)) (hw _ (List.mem_of_getElem? (i := 60) rfl)) (by decide) (W := 0) (a := la) (argsL := [(.ref t2)]) (rest := []) f160_Fu.1 (rm6F l Z a0 hw la t2 T159.heap n0 ed kE [t1] "com/example/grenoble/grenoble/tla/Token" f160_Fu (by show 1 < 10; decide) ge_la ge_ed f161_E2 (hw _ (List.mem_of_getElem? (i := 86) rfl))) (by decide) (by decide) (by decide) (by decide) (g := (mkF m 47 #[.val (.int p1), .val (.int p2), .val (.int p3), .val (.int p4), .val (.ref la), .unset, .unset, .unset, .unset, .unset, .unset] [(.ref t2), (.ref la)])) rfl (by rw [hml]; rfl) (lenOf pd_6 rfl) rfl (by show 2 * 0 + _ ≤ _; exact Nat.le_of_eq rfl) (hb hby at_47) rfl ?_
  rintro T162 L162 _ X162 ⟨rfl, N162, K162, Fu2⟩
  have M162 := Fr.app M159 N162
  have Z162 : n0 ≤ T162.heap.size := Nat.le_trans Z159 K162.1
  have hk162 := Nat.le_trans hk159 K162.1
  show Go p e below _ _ T162 (mkF m 52 #[.val (.int p1), .val (.int p2), .val (.int p3), .val (.int p4), .val (.ref la), .unset, .unset, .unset, .unset, .unset, .unset] [(.int (1 : Int32))])
  refine Go.by (g' := (mkF m 53 #[.val (.int p1), .val (.int p2), .val (.int p3), .val (.int p4), .val (.ref la), .unset, .unset, .unset, .unset, .unset, .unset] [])) (fun _ k => XS.pop X162.here hx rfl (hb hby at_52) rfl rfl k) ?_
  obtain ⟨T163, h163, X163, e163, E163, A163, D163, -, st163⟩ := newO X162 hx hZ hown (hw _ (List.mem_of_getElem? (i := 90) rfl)) (hw _ (List.mem_of_getElem? (i := 91) rfl)) (hw _ (List.mem_of_getElem? (i := 92) rfl)) rfl (g := (mkF m 53 #[.val (.int p1), .val (.int p2), .val (.int p3), .val (.int p4), .val (.ref la), .unset, .unset, .unset, .unset, .unset, .unset] [])) rfl (hb hby at_53) (by decide) (by decide)
  obtain ⟨cu, g163⟩ : ∃ z, z = T162.heap.size := ⟨_, rfl⟩
  rw [← g163] at A163 D163 st163
  have ne_la_cu : la ≠ cu := Nat.ne_of_lt (by rw [g163]; exact Fu2.lt)
  have f164_E1 := ((((f150_E1.ext E149).ext E153).keep K159).keep K162)
  have ne_t1_cu : t1 ≠ cu := Nat.ne_of_lt (by rw [g163]; exact f164_E1.lt)
  have ne_ed_cu : ed ≠ cu := Nat.ne_of_lt (by rw [g163]; exact Fu2.lte)
  have f165_E2 := (f161_E2.keep K162)
  have ne_t2_cu : t2 ≠ cu := Nat.ne_of_lt (by rw [g163]; exact f165_E2.lt)
  have ge_cu : n0 ≤ cu := Nat.le_trans Z162 (Nat.le_of_eq g163.symm)
  have Z163 : n0 ≤ h163.size := Nat.le_trans Z162 E163.1
  have hk163 := Nat.le_trans hk162 E163.1
  refine Go.by (g' := (mkF m 56 #[.val (.int p1), .val (.int p2), .val (.int p3), .val (.int p4), .val (.ref la), .unset, .unset, .unset, .unset, .unset, .unset] [(.ref cu)])) st163 ?_
  have Nfence : Fld Z h163 cu "com/example/grenoble/grenoble/tla/TokenCursor" "fence" "I" (.int 0) := (D163 (Or.inl (hw _ (List.mem_of_getElem? (i := 99) rfl))) (ty := .int) (by decide))
  have Nfile : Fld Z h163 cu "com/example/grenoble/grenoble/tla/TokenCursor" "file" "Ljava/lang/String;" .null := (D163 (Or.inr (hw _ (List.mem_of_getElem? (i := 101) rfl))) (ty := (.object "java/lang/String")) (by decide))
  have Ntokens : Fld Z h163 cu "com/example/grenoble/grenoble/tla/TokenCursor" "tokens" "Ljava/util/List;" .null := (D163 (Or.inr (hw _ (List.mem_of_getElem? (i := 103) rfl))) (ty := (.object "java/util/List")) (by decide))
  have Nnext : Fld Z h163 cu "com/example/grenoble/grenoble/tla/TokenCursor" "next" "I" (.int 0) := (D163 (Or.inl (hw _ (List.mem_of_getElem? (i := 120) rfl))) (ty := .int) (by decide))
  refine Go.by (g' := (mkF m 57 #[.val (.int p1), .val (.int p2), .val (.int p3), .val (.int p4), .val (.ref la), .unset, .unset, .unset, .unset, .unset, .unset] [(.ref cu), (.ref cu)])) (fun _ k => XS.dup X163.here hx rfl (hb hby at_56) rfl rfl k) ?_
  refine Go.ldc X163 hx hZ hown (hw _ (List.mem_of_getElem? (i := 93) rfl)) (own_wS hw) e163 hS hk163 (g := (mkF m 57 #[.val (.int p1), .val (.int p2), .val (.int p3), .val (.int p4), .val (.ref la), .unset, .unset, .unset, .unset, .unset, .unset] [(.ref cu), (.ref cu)])) rfl (hb hby at_57) (n := 4) (by first | decide | decide +kernel) (by decide) (by decide) (by decide) ?_
  intro sf T166 h166 k166 X166 e166 E166 hS hk166 hZ hown
  have Z166 : n0 ≤ h166.size := Nat.le_trans Z163 E166.1
  show Go p e below _ _ T166 (mkF m 59 #[.val (.int p1), .val (.int p2), .val (.int p3), .val (.int p4), .val (.ref la), .unset, .unset, .unset, .unset, .unset, .unset] [(.ref sf), (.ref cu), (.ref cu)])
  refine Go.by (g' := (mkF m 61 #[.val (.int p1), .val (.int p2), .val (.int p3), .val (.int p4), .val (.ref la), .unset, .unset, .unset, .unset, .unset, .unset] [(.ref la), (.ref sf), (.ref cu), (.ref cu)])) (fun _ k => XS.aload X166.here hx rfl (hb hby at_59) rfl rfl k) ?_
  have f167_Ec := (A163.ext E166)
  have f168_Nfence := (Nfence.ext E166)
  have f169_Nfile := (Nfile.ext E166)
  have f170_Ntokens := (Ntokens.ext E166)
  have f171_Nnext := (Nnext.ext E166)
  refine Go.callI X166 hx hZ (y := (⟨"com/example/grenoble/grenoble/tla/TokenCursor", "<init>", "(Ljava/lang/String;Ljava/util/List;)V"⟩ : MethodName)) rfl hown (hw _ (List.mem_of_getElem? (i := 94) rfl)) (hw _ (List.mem_of_getElem? (i := 95) rfl)) (hw _ (List.mem_of_getElem? (i := 92) rfl)) (hw _ (List.mem_of_getElem? (i := 96) rfl)) (by decide) (W := 1) (a := cu) (argsL := [(.ref sf), (.ref la)]) (rest := [(.ref cu)]) (rm11 l Z a0 hw cu sf la h166 n0 (.int 0) .null .null (.int 0) f167_Ec f168_Nfence f169_Nfile f170_Ntokens f171_Nnext ge_cu) (by decide) (by decide) (by decide) (by decide) (g := (mkF m 61 #[.val (.int p1), .val (.int p2), .val (.int p3), .val (.int p4), .val (.ref la), .unset, .unset, .unset, .unset, .unset, .unset] [(.ref la), (.ref sf), (.ref cu), (.ref cu)])) rfl (by rw [hml]; rfl) (lenOf pd_11 rfl) rfl (by show 2 * 0 + _ ≤ _; exact Nat.le_of_eq rfl) (hb hby at_61) e166 ?_
  rintro T172 L172 _ X172 ⟨rfl, N172, K172, Cf172, Ct172, Cn172⟩
  have M172 := Fr.app M162 N172
  have Z172 : n0 ≤ T172.heap.size := Nat.le_trans Z166 K172.1
  have hk172 := Nat.le_trans hk166 K172.1
  show Go p e below _ _ T172 (mkF m 64 #[.val (.int p1), .val (.int p2), .val (.int p3), .val (.int p4), .val (.ref la), .unset, .unset, .unset, .unset, .unset, .unset] [(.ref cu)])
  refine Go.by (g' := (mkF m 66 #[.val (.int p1), .val (.int p2), .val (.int p3), .val (.int p4), .val (.ref la), .val (.ref cu), .unset, .unset, .unset, .unset, .unset] [])) (fun _ k => XS.astore X172.here hx rfl (hb hby at_64) rfl rfl (l' := #[.val (.int p1), .val (.int p2), .val (.int p3), .val (.int p4), .val (.ref la), .val (.ref cu), .unset, .unset, .unset, .unset, .unset]) rfl k) ?_
  refine Go.by (g' := (mkF m 68 #[.val (.int p1), .val (.int p2), .val (.int p3), .val (.int p4), .val (.ref la), .val (.ref cu), .unset, .unset, .unset, .unset, .unset] [(.ref cu)])) (fun _ k => XS.aload X172.here hx rfl (hb hby at_66) rfl rfl k) ?_
  refine Go.by (g' := (mkF m 69 #[.val (.int p1), .val (.int p2), .val (.int p3), .val (.int p4), .val (.ref la), .val (.ref cu), .unset, .unset, .unset, .unset, .unset] [(.int p1), (.ref cu)])) (fun _ k => XS.iloadN X172.here hx rfl (hb hby at_68) rfl k) ?_
  have f173_Ec := (f167_Ec.keep K172)
  refine Go.callV X172 hx hZ (y := (⟨"com/example/grenoble/grenoble/tla/TokenCursor", "fence", "(I)I"⟩ : MethodName)) (z := (⟨"com/example/grenoble/grenoble/tla/TokenCursor", "fence", "(I)I"⟩ : MethodName)) hown (hw _ (List.mem_of_getElem? (i := 104) rfl)) (hw _ (List.mem_of_getElem? (i := 105) rfl)) (notFace_of_selects (args := #[]) (mvT hZ (hw _ (List.mem_of_getElem? (i := 107) rfl)))) (hw _ (List.mem_of_getElem? (i := 107) rfl)) (hw _ (List.mem_of_getElem? (i := 106) rfl)) (hw _ (List.mem_of_getElem? (i := 92) rfl)) (hw _ (List.mem_of_getElem? (i := 108) rfl)) (by decide) (W := 0) (a := cu) (argsL := [(.int p1)]) (rest := []) f173_Ec (rm12 l Z a0 hw cu p1 T172.heap n0 (-1 : Int32) (.ref la) (.int 0) f173_Ec Cf172 Ct172 Cn172 ge_cu) (by decide) (by decide) (by decide) (by decide) (g := (mkF m 69 #[.val (.int p1), .val (.int p2), .val (.int p3), .val (.int p4), .val (.ref la), .val (.ref cu), .unset, .unset, .unset, .unset, .unset] [(.int p1), (.ref cu)])) rfl (by rw [hml]; rfl) (lenOf pd_12 rfl) rfl (by show 2 * 0 + _ ≤ _; exact Nat.le_of_eq rfl) (hb hby at_69) rfl ?_
  rintro T174 L174 _ X174 ⟨rfl, N174, K174, Cf174, Ct174, Cn174⟩
  have M174 := Fr.app M172 N174
  have Z174 : n0 ≤ T174.heap.size := Nat.le_trans Z172 K174.1
  have hk174 := Nat.le_trans hk172 K174.1
  show Go p e below _ _ T174 (mkF m 72 #[.val (.int p1), .val (.int p2), .val (.int p3), .val (.int p4), .val (.ref la), .val (.ref cu), .unset, .unset, .unset, .unset, .unset] [(.int (-1 : Int32))])
  refine Go.by (g' := (mkF m 74 #[.val (.int p1), .val (.int p2), .val (.int p3), .val (.int p4), .val (.ref la), .val (.ref cu), .val (.int (-1 : Int32)), .unset, .unset, .unset, .unset] [])) (fun _ k => XS.istore X174.here hx rfl (hb hby at_72) rfl (l' := #[.val (.int p1), .val (.int p2), .val (.int p3), .val (.int p4), .val (.ref la), .val (.ref cu), .val (.int (-1 : Int32)), .unset, .unset, .unset, .unset]) rfl k) ?_
  refine Go.by (g' := (mkF m 76 #[.val (.int p1), .val (.int p2), .val (.int p3), .val (.int p4), .val (.ref la), .val (.ref cu), .val (.int (-1 : Int32)), .unset, .unset, .unset, .unset] [(.ref cu)])) (fun _ k => XS.aload X174.here hx rfl (hb hby at_74) rfl rfl k) ?_
  refine Go.by (g' := (mkF m 77 #[.val (.int p1), .val (.int p2), .val (.int p3), .val (.int p4), .val (.ref la), .val (.ref cu), .val (.int (-1 : Int32)), .unset, .unset, .unset, .unset] [(.int p2), (.ref cu)])) (fun _ k => XS.iloadN X174.here hx rfl (hb hby at_76) rfl k) ?_
  have f175_Ec := (f173_Ec.keep K174)
  refine Go.callV X174 hx hZ (y := (⟨"com/example/grenoble/grenoble/tla/TokenCursor", "fence", "(I)I"⟩ : MethodName)) (z := (⟨"com/example/grenoble/grenoble/tla/TokenCursor", "fence", "(I)I"⟩ : MethodName)) hown (hw _ (List.mem_of_getElem? (i := 104) rfl)) (hw _ (List.mem_of_getElem? (i := 105) rfl)) (notFace_of_selects (args := #[]) (mvT hZ (hw _ (List.mem_of_getElem? (i := 107) rfl)))) (hw _ (List.mem_of_getElem? (i := 107) rfl)) (hw _ (List.mem_of_getElem? (i := 106) rfl)) (hw _ (List.mem_of_getElem? (i := 92) rfl)) (hw _ (List.mem_of_getElem? (i := 108) rfl)) (by decide) (W := 0) (a := cu) (argsL := [(.int p2)]) (rest := []) f175_Ec (rm12 l Z a0 hw cu p2 T174.heap n0 p1 (.ref la) (.int 0) f175_Ec Cf174 Ct174 Cn174 ge_cu) (by decide) (by decide) (by decide) (by decide) (g := (mkF m 77 #[.val (.int p1), .val (.int p2), .val (.int p3), .val (.int p4), .val (.ref la), .val (.ref cu), .val (.int (-1 : Int32)), .unset, .unset, .unset, .unset] [(.int p2), (.ref cu)])) rfl (by rw [hml]; rfl) (lenOf pd_12 rfl) rfl (by show 2 * 0 + _ ≤ _; exact Nat.le_of_eq rfl) (hb hby at_77) rfl ?_
  rintro T176 L176 _ X176 ⟨rfl, N176, K176, Cf176, Ct176, Cn176⟩
  have M176 := Fr.app M174 N176
  have Z176 : n0 ≤ T176.heap.size := Nat.le_trans Z174 K176.1
  have hk176 := Nat.le_trans hk174 K176.1
  show Go p e below _ _ T176 (mkF m 80 #[.val (.int p1), .val (.int p2), .val (.int p3), .val (.int p4), .val (.ref la), .val (.ref cu), .val (.int (-1 : Int32)), .unset, .unset, .unset, .unset] [(.int p1)])
  refine Go.by (g' := (mkF m 82 #[.val (.int p1), .val (.int p2), .val (.int p3), .val (.int p4), .val (.ref la), .val (.ref cu), .val (.int (-1 : Int32)), .val (.int p1), .unset, .unset, .unset] [])) (fun _ k => XS.istore X176.here hx rfl (hb hby at_80) rfl (l' := #[.val (.int p1), .val (.int p2), .val (.int p3), .val (.int p4), .val (.ref la), .val (.ref cu), .val (.int (-1 : Int32)), .val (.int p1), .unset, .unset, .unset]) rfl k) ?_
  refine Go.by (g' := (mkF m 84 #[.val (.int p1), .val (.int p2), .val (.int p3), .val (.int p4), .val (.ref la), .val (.ref cu), .val (.int (-1 : Int32)), .val (.int p1), .unset, .unset, .unset] [(.ref cu)])) (fun _ k => XS.aload X176.here hx rfl (hb hby at_82) rfl rfl k) ?_
  have f177_Ec := (f175_Ec.keep K176)
  have f178_OL := ((((((((f151_OL.ext E153).keep K159 (allS ge_t2 all0)).keep K162 (allS ge_la (allS ge_ed all0))).ext E163).ext E166).keep K172 (allS ge_cu all0)).keep K174 (allS ge_cu all0)).keep K176 (allS ge_cu all0))
  have f179_Fu := (((((Fu2.ext E163).ext E166).keep K172 (ninS ne_la_cu nin0) (ninS ne_ed_cu nin0)).keep K174 (ninS ne_la_cu nin0) (ninS ne_ed_cu nin0)).keep K176 (ninS ne_la_cu nin0) (ninS ne_ed_cu nin0))
  have f180_E1 := (((((f164_E1.ext E163).ext E166).keep K172).keep K174).keep K176)
  have f181_Gk_1 := ((((((((((Gk143.keep K148 (ninS (Ne.symm ne_la_t1) nin0)).ext E149).ext E153).keep K159 (ninS ne_t1_t2 nin0)).keep K162 (ninS (Ne.symm ne_la_t1) (ninS ne_t1_ed nin0))).ext E163).ext E166).keep K172 (ninS ne_t1_cu nin0)).keep K174 (ninS ne_t1_cu nin0)).keep K176 (ninS ne_t1_cu nin0))
  have f182_Gl_1 := ((((((((((Gl143.keep K148 (ninS (Ne.symm ne_la_t1) nin0)).ext E149).ext E153).keep K159 (ninS ne_t1_t2 nin0)).keep K162 (ninS (Ne.symm ne_la_t1) (ninS ne_t1_ed nin0))).ext E163).ext E166).keep K172 (ninS ne_t1_cu nin0)).keep K174 (ninS ne_t1_cu nin0)).keep K176 (ninS ne_t1_cu nin0))
  have f183_Gc_1 := ((((((((((Gc143.keep K148 (ninS (Ne.symm ne_la_t1) nin0)).ext E149).ext E153).keep K159 (ninS ne_t1_t2 nin0)).keep K162 (ninS (Ne.symm ne_la_t1) (ninS ne_t1_ed nin0))).ext E163).ext E166).keep K172 (ninS ne_t1_cu nin0)).keep K174 (ninS ne_t1_cu nin0)).keep K176 (ninS ne_t1_cu nin0))
  refine Go.callVW X176 hx hS hk176 hZ (y := (⟨"com/example/grenoble/grenoble/tla/TokenCursor", "peek", "()Lcom/example/grenoble/grenoble/tla/Token;"⟩ : MethodName)) (z := (⟨"com/example/grenoble/grenoble/tla/TokenCursor", "peek", "()Lcom/example/grenoble/grenoble/tla/Token;"⟩ : MethodName)) hown (hw _ (List.mem_of_getElem? (i := 109) rfl)) (hw _ (List.mem_of_getElem? (i := 110) rfl)) (notFace_of_selects (args := #[]) (mvT hZ (hw _ (List.mem_of_getElem? (i := 112) rfl)))) (hw _ (List.mem_of_getElem? (i := 112) rfl)) (hw _ (List.mem_of_getElem? (i := 111) rfl)) (hw _ (List.mem_of_getElem? (i := 92) rfl)) (hw _ (List.mem_of_getElem? (i := 113) rfl)) (by decide) (W := 0) (a := cu) (argsL := []) (rest := []) f177_Ec (rm13 l Z a0 hw cu T176.heap n0 Z176 aE aN la ed t1 t2 kE p2 p4 p3 f178_OL SE f177_Ec Cf176 Ct176 Cn176 f179_Fu f180_E1 f181_Gk_1 f182_Gl_1 f183_Gc_1 hne) (by decide) (by decide) (by decide) (by decide) (g := (mkF m 84 #[.val (.int p1), .val (.int p2), .val (.int p3), .val (.int p4), .val (.ref la), .val (.ref cu), .val (.int (-1 : Int32)), .val (.int p1), .unset, .unset, .unset] [(.ref cu)])) rfl (by rw [hml]; rfl) (lenOf pd_13 rfl) rfl (by show 2 * 0 + _ ≤ _; exact Nat.le_of_eq rfl) (hb hby at_84) rfl ?_
  rintro T184 L184 _ X184 hS hZ hown ⟨y184, rfl, N184, K184, Ey184, Fy184⟩
  have M184 := Fr.app M176 N184
  have Z184 : n0 ≤ T184.heap.size := Nat.le_trans Z176 K184.1
  have hk184 := Nat.le_trans hk176 K184.1
  show Go p e below _ _ T184 (mkF m 87 #[.val (.int p1), .val (.int p2), .val (.int p3), .val (.int p4), .val (.ref la), .val (.ref cu), .val (.int (-1 : Int32)), .val (.int p1), .unset, .unset, .unset] [(.ref y184)])
  by_cases hB : p2 < p3
  · rw [if_pos hB] at Fy184
    refine Go.callV X184 hx hZ (y := (⟨"com/example/grenoble/grenoble/tla/Token", "kind", "()Lcom/example/grenoble/grenoble/tla/Token$Kind;"⟩ : MethodName)) (z := (⟨"com/example/grenoble/grenoble/tla/Token", "kind", "()Lcom/example/grenoble/grenoble/tla/Token$Kind;"⟩ : MethodName)) hown (hw _ (List.mem_of_getElem? (i := 173) rfl)) (hw _ (List.mem_of_getElem? (i := 156) rfl)) (notFace_of_selects (args := #[]) (mvT hZ (hw _ (List.mem_of_getElem? (i := 158) rfl)))) (hw _ (List.mem_of_getElem? (i := 158) rfl)) (hw _ (List.mem_of_getElem? (i := 157) rfl)) (hw _ (List.mem_of_getElem? (i := 28) rfl)) (hw _ (List.mem_of_getElem? (i := 159) rfl)) (by decide) (W := 0) (a := y184) (argsL := []) (rest := []) Ey184 (rm21 l Z a0 hw y184 T184.heap n0 aN Fy184) (by decide) (by decide) (by decide) (by decide) (g := (mkF m 87 #[.val (.int p1), .val (.int p2), .val (.int p3), .val (.int p4), .val (.ref la), .val (.ref cu), .val (.int (-1 : Int32)), .val (.int p1), .unset, .unset, .unset] [(.ref y184)])) rfl (by rw [hml]; rfl) (lenOf pd_21 rfl) rfl (by show 2 * 0 + _ ≤ _; exact Nat.le_of_eq rfl) (hb hby at_87) rfl ?_
    rintro T185 L185 _ X185 ⟨rfl, N185, q185⟩
    have M185 := Fr.app M184 N185
    show Go p e below _ _ T185 (mkF m 90 #[.val (.int p1), .val (.int p2), .val (.int p3), .val (.int p4), .val (.ref la), .val (.ref cu), .val (.int (-1 : Int32)), .val (.int p1), .unset, .unset, .unset] [(.ref aN)])
    have f186_OL := (f178_OL.keep K184 all0)
    obtain ⟨T187, X187, e187, st187⟩ := getS2 X185 hx hZ hown (host := "") (Or.inl (hw _ (List.mem_of_getElem? (i := 87) rfl))) Via.refl q185 (SE.ext f186_OL.2) (g := (mkF m 90 #[.val (.int p1), .val (.int p2), .val (.int p3), .val (.int p4), .val (.ref la), .val (.ref cu), .val (.int (-1 : Int32)), .val (.int p1), .unset, .unset, .unset] [(.ref aN)])) rfl (hb hby at_90)
    refine Go.by (g' := (mkF m 93 #[.val (.int p1), .val (.int p2), .val (.int p3), .val (.int p4), .val (.ref la), .val (.ref cu), .val (.int (-1 : Int32)), .val (.int p1), .unset, .unset, .unset] [(.ref aE), (.ref aN)])) st187 ?_
    refine Go.by (g' := (mkF m 100 #[.val (.int p1), .val (.int p2), .val (.int p3), .val (.int p4), .val (.ref la), .val (.ref cu), .val (.int (-1 : Int32)), .val (.int p1), .unset, .unset, .unset] [])) (fun _ k => Jvm.RoadKit.acmp (g := (mkF m 93 #[.val (.int p1), .val (.int p2), .val (.int p3), .val (.int p4), .val (.ref la), .val (.ref cu), .val (.int (-1 : Int32)), .val (.int p1), .unset, .unset, .unset] [(.ref aE), (.ref aN)])) X187 hx rfl rfl rfl (pc0 := 93) (pc' := 100) (same := false) rfl (hb hby at_93) rfl (decide_eq_false fun z => hne (Value.ref.inj z)) (by decide) (by decide) k) ?_
    refine Go.by (g' := (mkF m 101 #[.val (.int p1), .val (.int p2), .val (.int p3), .val (.int p4), .val (.ref la), .val (.ref cu), .val (.int (-1 : Int32)), .val (.int p1), .unset, .unset, .unset] [(.int (0 : Int32))])) (fun _ k => XS.iconst X187.here hx rfl (hb hby at_100) k) ?_
    refine Go.by (g' := (mkF m 103 #[.val (.int p1), .val (.int p2), .val (.int p3), .val (.int p4), .val (.ref la), .val (.ref cu), .val (.int (-1 : Int32)), .val (.int p1), .val (.int (0 : Int32)), .unset, .unset] [])) (fun _ k => XS.istore X187.here hx rfl (hb hby at_101) rfl (l' := #[.val (.int p1), .val (.int p2), .val (.int p3), .val (.int p4), .val (.ref la), .val (.ref cu), .val (.int (-1 : Int32)), .val (.int p1), .val (.int (0 : Int32)), .unset, .unset]) rfl k) ?_
    refine Go.by (g' := (mkF m 105 #[.val (.int p1), .val (.int p2), .val (.int p3), .val (.int p4), .val (.ref la), .val (.ref cu), .val (.int (-1 : Int32)), .val (.int p1), .val (.int (0 : Int32)), .unset, .unset] [(.ref cu)])) (fun _ k => XS.aload X187.here hx rfl (hb hby at_103) rfl rfl k) ?_
    refine Go.by (g' := (mkF m 106 #[.val (.int p1), .val (.int p2), .val (.int p3), .val (.int p4), .val (.ref la), .val (.ref cu), .val (.int (-1 : Int32)), .val (.int p1), .val (.int (0 : Int32)), .unset, .unset] [(.int p1), (.ref cu)])) (fun _ k => XS.iloadN X187.here hx rfl (hb hby at_105) rfl k) ?_
    have f188_Ec := (f177_Ec.keep K184)
    have f189_Cf := (Cf176.keep K184 nin0)
    have f190_Ct := (Ct176.keep K184 nin0)
    have f191_Cn := (Cn176.keep K184 nin0)
    refine Go.callV X187 hx hZ (y := (⟨"com/example/grenoble/grenoble/tla/TokenCursor", "fence", "(I)I"⟩ : MethodName)) (z := (⟨"com/example/grenoble/grenoble/tla/TokenCursor", "fence", "(I)I"⟩ : MethodName)) hown (hw _ (List.mem_of_getElem? (i := 104) rfl)) (hw _ (List.mem_of_getElem? (i := 105) rfl)) (notFace_of_selects (args := #[]) (mvT hZ (hw _ (List.mem_of_getElem? (i := 107) rfl)))) (hw _ (List.mem_of_getElem? (i := 107) rfl)) (hw _ (List.mem_of_getElem? (i := 106) rfl)) (hw _ (List.mem_of_getElem? (i := 92) rfl)) (hw _ (List.mem_of_getElem? (i := 108) rfl)) (by decide) (W := 0) (a := cu) (argsL := [(.int p1)]) (rest := []) f188_Ec (rm12 l Z a0 hw cu p1 T184.heap n0 p2 (.ref la) (.int 0) f188_Ec f189_Cf f190_Ct f191_Cn ge_cu) (by decide) (by decide) (by decide) (by decide) (g := (mkF m 106 #[.val (.int p1), .val (.int p2), .val (.int p3), .val (.int p4), .val (.ref la), .val (.ref cu), .val (.int (-1 : Int32)), .val (.int p1), .val (.int (0 : Int32)), .unset, .unset] [(.int p1), (.ref cu)])) rfl (by rw [hml]; rfl) (lenOf pd_12 rfl) rfl (by show 2 * 0 + _ ≤ _; exact Nat.le_of_eq rfl) (hb hby at_106) e187 ?_
    rintro T192 L192 _ X192 ⟨rfl, N192, K192, Cf192, Ct192, Cn192⟩
    have M192 := Fr.app M185 N192
    have Z192 : n0 ≤ T192.heap.size := Nat.le_trans Z184 K192.1
    have hk192 := Nat.le_trans (Nat.le_refl _) K192.1
    show Go p e below _ _ T192 (mkF m 109 #[.val (.int p1), .val (.int p2), .val (.int p3), .val (.int p4), .val (.ref la), .val (.ref cu), .val (.int (-1 : Int32)), .val (.int p1), .val (.int (0 : Int32)), .unset, .unset] [(.int p2)])
    refine Go.by (g' := (mkF m 111 #[.val (.int p1), .val (.int p2), .val (.int p3), .val (.int p4), .val (.ref la), .val (.ref cu), .val (.int (-1 : Int32)), .val (.int p1), .val (.int (0 : Int32)), .val (.int p2), .unset] [])) (fun _ k => XS.istore X192.here hx rfl (hb hby at_109) rfl (l' := #[.val (.int p1), .val (.int p2), .val (.int p3), .val (.int p4), .val (.ref la), .val (.ref cu), .val (.int (-1 : Int32)), .val (.int p1), .val (.int (0 : Int32)), .val (.int p2), .unset]) rfl k) ?_
    refine Go.by (g' := (mkF m 113 #[.val (.int p1), .val (.int p2), .val (.int p3), .val (.int p4), .val (.ref la), .val (.ref cu), .val (.int (-1 : Int32)), .val (.int p1), .val (.int (0 : Int32)), .val (.int p2), .unset] [(.ref cu)])) (fun _ k => XS.aload X192.here hx rfl (hb hby at_111) rfl rfl k) ?_
    have f193_Ec := (f188_Ec.keep K192)
    have f194_OL := (f186_OL.keep K192 (allS ge_cu all0))
    have f195_Fu := ((f179_Fu.keep K184 nin0 nin0).keep K192 (ninS ne_la_cu nin0) (ninS ne_ed_cu nin0))
    have f196_E1 := ((f180_E1.keep K184).keep K192)
    have f197_Gk_1 := ((f181_Gk_1.keep K184 nin0).keep K192 (ninS ne_t1_cu nin0))
    have f198_Gl_1 := ((f182_Gl_1.keep K184 nin0).keep K192 (ninS ne_t1_cu nin0))
    have f199_Gc_1 := ((f183_Gc_1.keep K184 nin0).keep K192 (ninS ne_t1_cu nin0))
    refine Go.callVW X192 hx hS hk192 hZ (y := (⟨"com/example/grenoble/grenoble/tla/TokenCursor", "peek", "()Lcom/example/grenoble/grenoble/tla/Token;"⟩ : MethodName)) (z := (⟨"com/example/grenoble/grenoble/tla/TokenCursor", "peek", "()Lcom/example/grenoble/grenoble/tla/Token;"⟩ : MethodName)) hown (hw _ (List.mem_of_getElem? (i := 109) rfl)) (hw _ (List.mem_of_getElem? (i := 110) rfl)) (notFace_of_selects (args := #[]) (mvT hZ (hw _ (List.mem_of_getElem? (i := 112) rfl)))) (hw _ (List.mem_of_getElem? (i := 112) rfl)) (hw _ (List.mem_of_getElem? (i := 111) rfl)) (hw _ (List.mem_of_getElem? (i := 92) rfl)) (hw _ (List.mem_of_getElem? (i := 113) rfl)) (by decide) (W := 0) (a := cu) (argsL := []) (rest := []) f193_Ec (rm13 l Z a0 hw cu T192.heap n0 Z192 aE aN la ed t1 t2 kE p1 p4 p3 f194_OL SE f193_Ec Cf192 Ct192 Cn192 f195_Fu f196_E1 f197_Gk_1 f198_Gl_1 f199_Gc_1 hne) (by decide) (by decide) (by decide) (by decide) (g := (mkF m 113 #[.val (.int p1), .val (.int p2), .val (.int p3), .val (.int p4), .val (.ref la), .val (.ref cu), .val (.int (-1 : Int32)), .val (.int p1), .val (.int (0 : Int32)), .val (.int p2), .unset] [(.ref cu)])) rfl (by rw [hml]; rfl) (lenOf pd_13 rfl) rfl (by show 2 * 0 + _ ≤ _; exact Nat.le_of_eq rfl) (hb hby at_113) rfl ?_
    rintro T200 L200 _ X200 hS hZ hown ⟨y200, rfl, N200, K200, Ey200, Fy200⟩
    have M200 := Fr.app M192 N200
    have Z200 : n0 ≤ T200.heap.size := Nat.le_trans Z192 K200.1
    have hk200 := Nat.le_trans hk192 K200.1
    show Go p e below _ _ T200 (mkF m 116 #[.val (.int p1), .val (.int p2), .val (.int p3), .val (.int p4), .val (.ref la), .val (.ref cu), .val (.int (-1 : Int32)), .val (.int p1), .val (.int (0 : Int32)), .val (.int p2), .unset] [(.ref y200)])
    by_cases hA : p1 < p3
    · rw [if_pos hA] at Fy200
      refine Go.callV X200 hx hZ (y := (⟨"com/example/grenoble/grenoble/tla/Token", "kind", "()Lcom/example/grenoble/grenoble/tla/Token$Kind;"⟩ : MethodName)) (z := (⟨"com/example/grenoble/grenoble/tla/Token", "kind", "()Lcom/example/grenoble/grenoble/tla/Token$Kind;"⟩ : MethodName)) hown (hw _ (List.mem_of_getElem? (i := 173) rfl)) (hw _ (List.mem_of_getElem? (i := 156) rfl)) (notFace_of_selects (args := #[]) (mvT hZ (hw _ (List.mem_of_getElem? (i := 158) rfl)))) (hw _ (List.mem_of_getElem? (i := 158) rfl)) (hw _ (List.mem_of_getElem? (i := 157) rfl)) (hw _ (List.mem_of_getElem? (i := 28) rfl)) (hw _ (List.mem_of_getElem? (i := 159) rfl)) (by decide) (W := 0) (a := y200) (argsL := []) (rest := []) Ey200 (rm21 l Z a0 hw y200 T200.heap n0 aN Fy200) (by decide) (by decide) (by decide) (by decide) (g := (mkF m 116 #[.val (.int p1), .val (.int p2), .val (.int p3), .val (.int p4), .val (.ref la), .val (.ref cu), .val (.int (-1 : Int32)), .val (.int p1), .val (.int (0 : Int32)), .val (.int p2), .unset] [(.ref y200)])) rfl (by rw [hml]; rfl) (lenOf pd_21 rfl) rfl (by show 2 * 0 + _ ≤ _; exact Nat.le_of_eq rfl) (hb hby at_116) rfl ?_
      rintro T201 L201 _ X201 ⟨rfl, N201, q201⟩
      have M201 := Fr.app M200 N201
      show Go p e below _ _ T201 (mkF m 119 #[.val (.int p1), .val (.int p2), .val (.int p3), .val (.int p4), .val (.ref la), .val (.ref cu), .val (.int (-1 : Int32)), .val (.int p1), .val (.int (0 : Int32)), .val (.int p2), .unset] [(.ref aN)])
      have f202_OL := (f194_OL.keep K200 all0)
      obtain ⟨T203, X203, e203, st203⟩ := getS2 X201 hx hZ hown (host := "") (Or.inl (hw _ (List.mem_of_getElem? (i := 87) rfl))) Via.refl q201 (SE.ext f202_OL.2) (g := (mkF m 119 #[.val (.int p1), .val (.int p2), .val (.int p3), .val (.int p4), .val (.ref la), .val (.ref cu), .val (.int (-1 : Int32)), .val (.int p1), .val (.int (0 : Int32)), .val (.int p2), .unset] [(.ref aN)])) rfl (hb hby at_119)
      refine Go.by (g' := (mkF m 122 #[.val (.int p1), .val (.int p2), .val (.int p3), .val (.int p4), .val (.ref la), .val (.ref cu), .val (.int (-1 : Int32)), .val (.int p1), .val (.int (0 : Int32)), .val (.int p2), .unset] [(.ref aE), (.ref aN)])) st203 ?_
      refine Go.by (g' := (mkF m 129 #[.val (.int p1), .val (.int p2), .val (.int p3), .val (.int p4), .val (.ref la), .val (.ref cu), .val (.int (-1 : Int32)), .val (.int p1), .val (.int (0 : Int32)), .val (.int p2), .unset] [])) (fun _ k => Jvm.RoadKit.acmp (g := (mkF m 122 #[.val (.int p1), .val (.int p2), .val (.int p3), .val (.int p4), .val (.ref la), .val (.ref cu), .val (.int (-1 : Int32)), .val (.int p1), .val (.int (0 : Int32)), .val (.int p2), .unset] [(.ref aE), (.ref aN)])) X203 hx rfl rfl rfl (pc0 := 122) (pc' := 129) (same := false) rfl (hb hby at_122) rfl (decide_eq_false fun z => hne (Value.ref.inj z)) (by decide) (by decide) k) ?_
      refine Go.by (g' := (mkF m 130 #[.val (.int p1), .val (.int p2), .val (.int p3), .val (.int p4), .val (.ref la), .val (.ref cu), .val (.int (-1 : Int32)), .val (.int p1), .val (.int (0 : Int32)), .val (.int p2), .unset] [(.int (0 : Int32))])) (fun _ k => XS.iconst X203.here hx rfl (hb hby at_129) k) ?_
      refine Go.by (g' := (mkF m 132 #[.val (.int p1), .val (.int p2), .val (.int p3), .val (.int p4), .val (.ref la), .val (.ref cu), .val (.int (-1 : Int32)), .val (.int p1), .val (.int (0 : Int32)), .val (.int p2), .val (.int (0 : Int32))] [])) (fun _ k => XS.istore X203.here hx rfl (hb hby at_130) rfl (l' := #[.val (.int p1), .val (.int p2), .val (.int p3), .val (.int p4), .val (.ref la), .val (.ref cu), .val (.int (-1 : Int32)), .val (.int p1), .val (.int (0 : Int32)), .val (.int p2), .val (.int (0 : Int32))]) rfl k) ?_
      refine Go.by (g' := (mkF m 134 #[.val (.int p1), .val (.int p2), .val (.int p3), .val (.int p4), .val (.ref la), .val (.ref cu), .val (.int (-1 : Int32)), .val (.int p1), .val (.int (0 : Int32)), .val (.int p2), .val (.int (0 : Int32))] [(.int (-1 : Int32))])) (fun _ k => XS.iload X203.here hx rfl (hb hby at_132) rfl k) ?_
      refine Go.by (g' := (mkF m 135 #[.val (.int p1), .val (.int p2), .val (.int p3), .val (.int p4), .val (.ref la), .val (.ref cu), .val (.int (-1 : Int32)), .val (.int p1), .val (.int (0 : Int32)), .val (.int p2), .val (.int (0 : Int32))] [(.int (-1 : Int32)), (.int (-1 : Int32))])) (fun _ k => XS.iconst X203.here hx rfl (hb hby at_134) k) ?_
      refine Go.by (g' := (mkF m 138 #[.val (.int p1), .val (.int p2), .val (.int p3), .val (.int p4), .val (.ref la), .val (.ref cu), .val (.int (-1 : Int32)), .val (.int p1), .val (.int (0 : Int32)), .val (.int p2), .val (.int (0 : Int32))] [])) (fun _ k => XS.icmpNo X203.here hx rfl (hb hby at_135) rfl (teq rfl).2 k) ?_
      refine Go.by (g' := (mkF m 140 #[.val (.int p1), .val (.int p2), .val (.int p3), .val (.int p4), .val (.ref la), .val (.ref cu), .val (.int (-1 : Int32)), .val (.int p1), .val (.int (0 : Int32)), .val (.int p2), .val (.int (0 : Int32))] [(.int p1)])) (fun _ k => XS.iload X203.here hx rfl (hb hby at_138) rfl k) ?_
      refine Go.by (g' := (mkF m 141 #[.val (.int p1), .val (.int p2), .val (.int p3), .val (.int p4), .val (.ref la), .val (.ref cu), .val (.int (-1 : Int32)), .val (.int p1), .val (.int (0 : Int32)), .val (.int p2), .val (.int (0 : Int32))] [(.int p1), (.int p1)])) (fun _ k => XS.iloadN X203.here hx rfl (hb hby at_140) rfl k) ?_
      refine Go.by (g' := (mkF m 144 #[.val (.int p1), .val (.int p2), .val (.int p3), .val (.int p4), .val (.ref la), .val (.ref cu), .val (.int (-1 : Int32)), .val (.int p1), .val (.int (0 : Int32)), .val (.int p2), .val (.int (0 : Int32))] [])) (fun _ k => XS.icmpNo X203.here hx rfl (hb hby at_141) rfl (teq rfl).2 k) ?_
      refine Go.by (g' := (mkF m 146 #[.val (.int p1), .val (.int p2), .val (.int p3), .val (.int p4), .val (.ref la), .val (.ref cu), .val (.int (-1 : Int32)), .val (.int p1), .val (.int (0 : Int32)), .val (.int p2), .val (.int (0 : Int32))] [(.int p2)])) (fun _ k => XS.iload X203.here hx rfl (hb hby at_144) rfl k) ?_
      refine Go.by (g' := (mkF m 147 #[.val (.int p1), .val (.int p2), .val (.int p3), .val (.int p4), .val (.ref la), .val (.ref cu), .val (.int (-1 : Int32)), .val (.int p1), .val (.int (0 : Int32)), .val (.int p2), .val (.int (0 : Int32))] [(.int p2), (.int p2)])) (fun _ k => XS.iloadN X203.here hx rfl (hb hby at_146) rfl k) ?_
      refine Go.by (g' := (mkF m 150 #[.val (.int p1), .val (.int p2), .val (.int p3), .val (.int p4), .val (.ref la), .val (.ref cu), .val (.int (-1 : Int32)), .val (.int p1), .val (.int (0 : Int32)), .val (.int p2), .val (.int (0 : Int32))] [])) (fun _ k => XS.icmpNo X203.here hx rfl (hb hby at_147) rfl (teq rfl).2 k) ?_
      refine Go.by (g' := (mkF m 152 #[.val (.int p1), .val (.int p2), .val (.int p3), .val (.int p4), .val (.ref la), .val (.ref cu), .val (.int (-1 : Int32)), .val (.int p1), .val (.int (0 : Int32)), .val (.int p2), .val (.int (0 : Int32))] [(.int (0 : Int32))])) (fun _ k => XS.iload X203.here hx rfl (hb hby at_150) rfl k) ?_
      refine Go.by (g' := (mkF m 153 #[.val (.int p1), .val (.int p2), .val (.int p3), .val (.int p4), .val (.ref la), .val (.ref cu), .val (.int (-1 : Int32)), .val (.int p1), .val (.int (0 : Int32)), .val (.int p2), .val (.int (0 : Int32))] [(.int p3), (.int (0 : Int32))])) (fun _ k => XS.iloadN X203.here hx rfl (hb hby at_152) rfl k) ?_
      refine Go.by (g' := (mkF m 154 #[.val (.int p1), .val (.int p2), .val (.int p3), .val (.int p4), .val (.ref la), .val (.ref cu), .val (.int (-1 : Int32)), .val (.int p1), .val (.int (0 : Int32)), .val (.int p2), .val (.int (0 : Int32))] [(.int p2), (.int p3), (.int (0 : Int32))])) (fun _ k => XS.iloadN X203.here hx rfl (hb hby at_153) rfl k) ?_
      refine Go.by (g' := (mkF m 161 #[.val (.int p1), .val (.int p2), .val (.int p3), .val (.int p4), .val (.ref la), .val (.ref cu), .val (.int (-1 : Int32)), .val (.int p1), .val (.int (0 : Int32)), .val (.int p2), .val (.int (0 : Int32))] [(.int (0 : Int32))])) (fun _ k => XS.icmpYes X203.here hx rfl (pc0 := 154) (pc' := 161) rfl (hb hby at_154) rfl (tlt hB).2.2.1 (by decide) (by decide) k) ?_
      refine Go.by (g' := (mkF m 162 #[.val (.int p1), .val (.int p2), .val (.int p3), .val (.int p4), .val (.ref la), .val (.ref cu), .val (.int (-1 : Int32)), .val (.int p1), .val (.int (0 : Int32)), .val (.int p2), .val (.int (0 : Int32))] [(.int (0 : Int32)), (.int (0 : Int32))])) (fun _ k => XS.iconst X203.here hx rfl (hb hby at_161) k) ?_
      refine Go.by (g' := (mkF m 165 #[.val (.int p1), .val (.int p2), .val (.int p3), .val (.int p4), .val (.ref la), .val (.ref cu), .val (.int (-1 : Int32)), .val (.int p1), .val (.int (0 : Int32)), .val (.int p2), .val (.int (0 : Int32))] [])) (fun _ k => XS.icmpNo X203.here hx rfl (hb hby at_162) rfl (teq rfl).2 k) ?_
      refine Go.by (g' := (mkF m 167 #[.val (.int p1), .val (.int p2), .val (.int p3), .val (.int p4), .val (.ref la), .val (.ref cu), .val (.int (-1 : Int32)), .val (.int p1), .val (.int (0 : Int32)), .val (.int p2), .val (.int (0 : Int32))] [(.int (0 : Int32))])) (fun _ k => XS.iload X203.here hx rfl (hb hby at_165) rfl k) ?_
      refine Go.by (g' := (mkF m 168 #[.val (.int p1), .val (.int p2), .val (.int p3), .val (.int p4), .val (.ref la), .val (.ref cu), .val (.int (-1 : Int32)), .val (.int p1), .val (.int (0 : Int32)), .val (.int p2), .val (.int (0 : Int32))] [(.int p3), (.int (0 : Int32))])) (fun _ k => XS.iloadN X203.here hx rfl (hb hby at_167) rfl k) ?_
      refine Go.by (g' := (mkF m 169 #[.val (.int p1), .val (.int p2), .val (.int p3), .val (.int p4), .val (.ref la), .val (.ref cu), .val (.int (-1 : Int32)), .val (.int p1), .val (.int (0 : Int32)), .val (.int p2), .val (.int (0 : Int32))] [(.int p1), (.int p3), (.int (0 : Int32))])) (fun _ k => XS.iloadN X203.here hx rfl (hb hby at_168) rfl k) ?_
      refine Go.by (g' := (mkF m 176 #[.val (.int p1), .val (.int p2), .val (.int p3), .val (.int p4), .val (.ref la), .val (.ref cu), .val (.int (-1 : Int32)), .val (.int p1), .val (.int (0 : Int32)), .val (.int p2), .val (.int (0 : Int32))] [(.int (0 : Int32))])) (fun _ k => XS.icmpYes X203.here hx rfl (pc0 := 169) (pc' := 176) rfl (hb hby at_169) rfl (tlt hA).2.2.1 (by decide) (by decide) k) ?_
      refine Go.by (g' := (mkF m 177 #[.val (.int p1), .val (.int p2), .val (.int p3), .val (.int p4), .val (.ref la), .val (.ref cu), .val (.int (-1 : Int32)), .val (.int p1), .val (.int (0 : Int32)), .val (.int p2), .val (.int (0 : Int32))] [(.int (0 : Int32)), (.int (0 : Int32))])) (fun _ k => XS.iconst X203.here hx rfl (hb hby at_176) k) ?_
      refine Go.by (g' := (mkF m 180 #[.val (.int p1), .val (.int p2), .val (.int p3), .val (.int p4), .val (.ref la), .val (.ref cu), .val (.int (-1 : Int32)), .val (.int p1), .val (.int (0 : Int32)), .val (.int p2), .val (.int (0 : Int32))] [])) (fun _ k => XS.icmpNo X203.here hx rfl (hb hby at_177) rfl (teq rfl).2 k) ?_
      refine Go.by (g' := (mkF m 181 #[.val (.int p1), .val (.int p2), .val (.int p3), .val (.int p4), .val (.ref la), .val (.ref cu), .val (.int (-1 : Int32)), .val (.int p1), .val (.int (0 : Int32)), .val (.int p2), .val (.int (0 : Int32))] [(.int (1 : Int32))])) (fun _ k => XS.iconst X203.here hx rfl (hb hby at_180) k) ?_
      refine Go.by (g' := (mkF m 185 #[.val (.int p1), .val (.int p2), .val (.int p3), .val (.int p4), .val (.ref la), .val (.ref cu), .val (.int (-1 : Int32)), .val (.int p1), .val (.int (0 : Int32)), .val (.int p2), .val (.int (0 : Int32))] [(.int (1 : Int32))])) (fun _ k => XS.goto X203.here hx rfl (pc0 := 181) (pc' := 185) rfl (hb hby at_181) (by decide) (by decide) k) ?_
      exact Go.outZ X203 hx hret (Lv.wide X203 hlk hS (by rw [e203]; exact (Nat.le_refl _)) (by decide) (by decide)) (hb hby at_185) (by decide) ⟨rfl, M201⟩
    · rw [if_neg hA] at Fy200
      refine Go.callV X200 hx hZ (y := (⟨"com/example/grenoble/grenoble/tla/Token", "kind", "()Lcom/example/grenoble/grenoble/tla/Token$Kind;"⟩ : MethodName)) (z := (⟨"com/example/grenoble/grenoble/tla/Token", "kind", "()Lcom/example/grenoble/grenoble/tla/Token$Kind;"⟩ : MethodName)) hown (hw _ (List.mem_of_getElem? (i := 173) rfl)) (hw _ (List.mem_of_getElem? (i := 156) rfl)) (notFace_of_selects (args := #[]) (mvT hZ (hw _ (List.mem_of_getElem? (i := 158) rfl)))) (hw _ (List.mem_of_getElem? (i := 158) rfl)) (hw _ (List.mem_of_getElem? (i := 157) rfl)) (hw _ (List.mem_of_getElem? (i := 28) rfl)) (hw _ (List.mem_of_getElem? (i := 159) rfl)) (by decide) (W := 0) (a := y200) (argsL := []) (rest := []) Ey200 (rm21 l Z a0 hw y200 T200.heap n0 aE Fy200) (by decide) (by decide) (by decide) (by decide) (g := (mkF m 116 #[.val (.int p1), .val (.int p2), .val (.int p3), .val (.int p4), .val (.ref la), .val (.ref cu), .val (.int (-1 : Int32)), .val (.int p1), .val (.int (0 : Int32)), .val (.int p2), .unset] [(.ref y200)])) rfl (by rw [hml]; rfl) (lenOf pd_21 rfl) rfl (by show 2 * 0 + _ ≤ _; exact Nat.le_of_eq rfl) (hb hby at_116) rfl ?_
      rintro T204 L204 _ X204 ⟨rfl, N204, q204⟩
      have M204 := Fr.app M200 N204
      show Go p e below _ _ T204 (mkF m 119 #[.val (.int p1), .val (.int p2), .val (.int p3), .val (.int p4), .val (.ref la), .val (.ref cu), .val (.int (-1 : Int32)), .val (.int p1), .val (.int (0 : Int32)), .val (.int p2), .unset] [(.ref aE)])
      have f205_OL := (f194_OL.keep K200 all0)
      obtain ⟨T206, X206, e206, st206⟩ := getS2 X204 hx hZ hown (host := "") (Or.inl (hw _ (List.mem_of_getElem? (i := 87) rfl))) Via.refl q204 (SE.ext f205_OL.2) (g := (mkF m 119 #[.val (.int p1), .val (.int p2), .val (.int p3), .val (.int p4), .val (.ref la), .val (.ref cu), .val (.int (-1 : Int32)), .val (.int p1), .val (.int (0 : Int32)), .val (.int p2), .unset] [(.ref aE)])) rfl (hb hby at_119)
      refine Go.by (g' := (mkF m 122 #[.val (.int p1), .val (.int p2), .val (.int p3), .val (.int p4), .val (.ref la), .val (.ref cu), .val (.int (-1 : Int32)), .val (.int p1), .val (.int (0 : Int32)), .val (.int p2), .unset] [(.ref aE), (.ref aE)])) st206 ?_
      refine Go.by (g' := (mkF m 125 #[.val (.int p1), .val (.int p2), .val (.int p3), .val (.int p4), .val (.ref la), .val (.ref cu), .val (.int (-1 : Int32)), .val (.int p1), .val (.int (0 : Int32)), .val (.int p2), .unset] [])) (fun _ k => Jvm.RoadKit.acmp (g := (mkF m 122 #[.val (.int p1), .val (.int p2), .val (.int p3), .val (.int p4), .val (.ref la), .val (.ref cu), .val (.int (-1 : Int32)), .val (.int p1), .val (.int (0 : Int32)), .val (.int p2), .unset] [(.ref aE), (.ref aE)])) X206 hx rfl rfl rfl (pc0 := 122) (pc' := 125) (same := true) rfl (hb hby at_122) rfl (decide_eq_true rfl) (by decide) (by decide) k) ?_
      refine Go.by (g' := (mkF m 126 #[.val (.int p1), .val (.int p2), .val (.int p3), .val (.int p4), .val (.ref la), .val (.ref cu), .val (.int (-1 : Int32)), .val (.int p1), .val (.int (0 : Int32)), .val (.int p2), .unset] [(.int (1 : Int32))])) (fun _ k => XS.iconst X206.here hx rfl (hb hby at_125) k) ?_
      refine Go.by (g' := (mkF m 130 #[.val (.int p1), .val (.int p2), .val (.int p3), .val (.int p4), .val (.ref la), .val (.ref cu), .val (.int (-1 : Int32)), .val (.int p1), .val (.int (0 : Int32)), .val (.int p2), .unset] [(.int (1 : Int32))])) (fun _ k => XS.goto X206.here hx rfl (pc0 := 126) (pc' := 130) rfl (hb hby at_126) (by decide) (by decide) k) ?_
      refine Go.by (g' := (mkF m 132 #[.val (.int p1), .val (.int p2), .val (.int p3), .val (.int p4), .val (.ref la), .val (.ref cu), .val (.int (-1 : Int32)), .val (.int p1), .val (.int (0 : Int32)), .val (.int p2), .val (.int (1 : Int32))] [])) (fun _ k => XS.istore X206.here hx rfl (hb hby at_130) rfl (l' := #[.val (.int p1), .val (.int p2), .val (.int p3), .val (.int p4), .val (.ref la), .val (.ref cu), .val (.int (-1 : Int32)), .val (.int p1), .val (.int (0 : Int32)), .val (.int p2), .val (.int (1 : Int32))]) rfl k) ?_
      refine Go.by (g' := (mkF m 134 #[.val (.int p1), .val (.int p2), .val (.int p3), .val (.int p4), .val (.ref la), .val (.ref cu), .val (.int (-1 : Int32)), .val (.int p1), .val (.int (0 : Int32)), .val (.int p2), .val (.int (1 : Int32))] [(.int (-1 : Int32))])) (fun _ k => XS.iload X206.here hx rfl (hb hby at_132) rfl k) ?_
      refine Go.by (g' := (mkF m 135 #[.val (.int p1), .val (.int p2), .val (.int p3), .val (.int p4), .val (.ref la), .val (.ref cu), .val (.int (-1 : Int32)), .val (.int p1), .val (.int (0 : Int32)), .val (.int p2), .val (.int (1 : Int32))] [(.int (-1 : Int32)), (.int (-1 : Int32))])) (fun _ k => XS.iconst X206.here hx rfl (hb hby at_134) k) ?_
      refine Go.by (g' := (mkF m 138 #[.val (.int p1), .val (.int p2), .val (.int p3), .val (.int p4), .val (.ref la), .val (.ref cu), .val (.int (-1 : Int32)), .val (.int p1), .val (.int (0 : Int32)), .val (.int p2), .val (.int (1 : Int32))] [])) (fun _ k => XS.icmpNo X206.here hx rfl (hb hby at_135) rfl (teq rfl).2 k) ?_
      refine Go.by (g' := (mkF m 140 #[.val (.int p1), .val (.int p2), .val (.int p3), .val (.int p4), .val (.ref la), .val (.ref cu), .val (.int (-1 : Int32)), .val (.int p1), .val (.int (0 : Int32)), .val (.int p2), .val (.int (1 : Int32))] [(.int p1)])) (fun _ k => XS.iload X206.here hx rfl (hb hby at_138) rfl k) ?_
      refine Go.by (g' := (mkF m 141 #[.val (.int p1), .val (.int p2), .val (.int p3), .val (.int p4), .val (.ref la), .val (.ref cu), .val (.int (-1 : Int32)), .val (.int p1), .val (.int (0 : Int32)), .val (.int p2), .val (.int (1 : Int32))] [(.int p1), (.int p1)])) (fun _ k => XS.iloadN X206.here hx rfl (hb hby at_140) rfl k) ?_
      refine Go.by (g' := (mkF m 144 #[.val (.int p1), .val (.int p2), .val (.int p3), .val (.int p4), .val (.ref la), .val (.ref cu), .val (.int (-1 : Int32)), .val (.int p1), .val (.int (0 : Int32)), .val (.int p2), .val (.int (1 : Int32))] [])) (fun _ k => XS.icmpNo X206.here hx rfl (hb hby at_141) rfl (teq rfl).2 k) ?_
      refine Go.by (g' := (mkF m 146 #[.val (.int p1), .val (.int p2), .val (.int p3), .val (.int p4), .val (.ref la), .val (.ref cu), .val (.int (-1 : Int32)), .val (.int p1), .val (.int (0 : Int32)), .val (.int p2), .val (.int (1 : Int32))] [(.int p2)])) (fun _ k => XS.iload X206.here hx rfl (hb hby at_144) rfl k) ?_
      refine Go.by (g' := (mkF m 147 #[.val (.int p1), .val (.int p2), .val (.int p3), .val (.int p4), .val (.ref la), .val (.ref cu), .val (.int (-1 : Int32)), .val (.int p1), .val (.int (0 : Int32)), .val (.int p2), .val (.int (1 : Int32))] [(.int p2), (.int p2)])) (fun _ k => XS.iloadN X206.here hx rfl (hb hby at_146) rfl k) ?_
      refine Go.by (g' := (mkF m 150 #[.val (.int p1), .val (.int p2), .val (.int p3), .val (.int p4), .val (.ref la), .val (.ref cu), .val (.int (-1 : Int32)), .val (.int p1), .val (.int (0 : Int32)), .val (.int p2), .val (.int (1 : Int32))] [])) (fun _ k => XS.icmpNo X206.here hx rfl (hb hby at_147) rfl (teq rfl).2 k) ?_
      refine Go.by (g' := (mkF m 152 #[.val (.int p1), .val (.int p2), .val (.int p3), .val (.int p4), .val (.ref la), .val (.ref cu), .val (.int (-1 : Int32)), .val (.int p1), .val (.int (0 : Int32)), .val (.int p2), .val (.int (1 : Int32))] [(.int (0 : Int32))])) (fun _ k => XS.iload X206.here hx rfl (hb hby at_150) rfl k) ?_
      refine Go.by (g' := (mkF m 153 #[.val (.int p1), .val (.int p2), .val (.int p3), .val (.int p4), .val (.ref la), .val (.ref cu), .val (.int (-1 : Int32)), .val (.int p1), .val (.int (0 : Int32)), .val (.int p2), .val (.int (1 : Int32))] [(.int p3), (.int (0 : Int32))])) (fun _ k => XS.iloadN X206.here hx rfl (hb hby at_152) rfl k) ?_
      refine Go.by (g' := (mkF m 154 #[.val (.int p1), .val (.int p2), .val (.int p3), .val (.int p4), .val (.ref la), .val (.ref cu), .val (.int (-1 : Int32)), .val (.int p1), .val (.int (0 : Int32)), .val (.int p2), .val (.int (1 : Int32))] [(.int p2), (.int p3), (.int (0 : Int32))])) (fun _ k => XS.iloadN X206.here hx rfl (hb hby at_153) rfl k) ?_
      refine Go.by (g' := (mkF m 161 #[.val (.int p1), .val (.int p2), .val (.int p3), .val (.int p4), .val (.ref la), .val (.ref cu), .val (.int (-1 : Int32)), .val (.int p1), .val (.int (0 : Int32)), .val (.int p2), .val (.int (1 : Int32))] [(.int (0 : Int32))])) (fun _ k => XS.icmpYes X206.here hx rfl (pc0 := 154) (pc' := 161) rfl (hb hby at_154) rfl (tlt hB).2.2.1 (by decide) (by decide) k) ?_
      refine Go.by (g' := (mkF m 162 #[.val (.int p1), .val (.int p2), .val (.int p3), .val (.int p4), .val (.ref la), .val (.ref cu), .val (.int (-1 : Int32)), .val (.int p1), .val (.int (0 : Int32)), .val (.int p2), .val (.int (1 : Int32))] [(.int (0 : Int32)), (.int (0 : Int32))])) (fun _ k => XS.iconst X206.here hx rfl (hb hby at_161) k) ?_
      refine Go.by (g' := (mkF m 165 #[.val (.int p1), .val (.int p2), .val (.int p3), .val (.int p4), .val (.ref la), .val (.ref cu), .val (.int (-1 : Int32)), .val (.int p1), .val (.int (0 : Int32)), .val (.int p2), .val (.int (1 : Int32))] [])) (fun _ k => XS.icmpNo X206.here hx rfl (hb hby at_162) rfl (teq rfl).2 k) ?_
      refine Go.by (g' := (mkF m 167 #[.val (.int p1), .val (.int p2), .val (.int p3), .val (.int p4), .val (.ref la), .val (.ref cu), .val (.int (-1 : Int32)), .val (.int p1), .val (.int (0 : Int32)), .val (.int p2), .val (.int (1 : Int32))] [(.int (1 : Int32))])) (fun _ k => XS.iload X206.here hx rfl (hb hby at_165) rfl k) ?_
      refine Go.by (g' := (mkF m 168 #[.val (.int p1), .val (.int p2), .val (.int p3), .val (.int p4), .val (.ref la), .val (.ref cu), .val (.int (-1 : Int32)), .val (.int p1), .val (.int (0 : Int32)), .val (.int p2), .val (.int (1 : Int32))] [(.int p3), (.int (1 : Int32))])) (fun _ k => XS.iloadN X206.here hx rfl (hb hby at_167) rfl k) ?_
      refine Go.by (g' := (mkF m 169 #[.val (.int p1), .val (.int p2), .val (.int p3), .val (.int p4), .val (.ref la), .val (.ref cu), .val (.int (-1 : Int32)), .val (.int p1), .val (.int (0 : Int32)), .val (.int p2), .val (.int (1 : Int32))] [(.int p1), (.int p3), (.int (1 : Int32))])) (fun _ k => XS.iloadN X206.here hx rfl (hb hby at_168) rfl k) ?_
      refine Go.by (g' := (mkF m 172 #[.val (.int p1), .val (.int p2), .val (.int p3), .val (.int p4), .val (.ref la), .val (.ref cu), .val (.int (-1 : Int32)), .val (.int p1), .val (.int (0 : Int32)), .val (.int p2), .val (.int (1 : Int32))] [(.int (1 : Int32))])) (fun _ k => XS.icmpNo X206.here hx rfl (hb hby at_169) rfl (flt hA).2.2.1 k) ?_
      refine Go.by (g' := (mkF m 173 #[.val (.int p1), .val (.int p2), .val (.int p3), .val (.int p4), .val (.ref la), .val (.ref cu), .val (.int (-1 : Int32)), .val (.int p1), .val (.int (0 : Int32)), .val (.int p2), .val (.int (1 : Int32))] [(.int (1 : Int32)), (.int (1 : Int32))])) (fun _ k => XS.iconst X206.here hx rfl (hb hby at_172) k) ?_
      refine Go.by (g' := (mkF m 177 #[.val (.int p1), .val (.int p2), .val (.int p3), .val (.int p4), .val (.ref la), .val (.ref cu), .val (.int (-1 : Int32)), .val (.int p1), .val (.int (0 : Int32)), .val (.int p2), .val (.int (1 : Int32))] [(.int (1 : Int32)), (.int (1 : Int32))])) (fun _ k => XS.goto X206.here hx rfl (pc0 := 173) (pc' := 177) rfl (hb hby at_173) (by decide) (by decide) k) ?_
      refine Go.by (g' := (mkF m 180 #[.val (.int p1), .val (.int p2), .val (.int p3), .val (.int p4), .val (.ref la), .val (.ref cu), .val (.int (-1 : Int32)), .val (.int p1), .val (.int (0 : Int32)), .val (.int p2), .val (.int (1 : Int32))] [])) (fun _ k => XS.icmpNo X206.here hx rfl (hb hby at_177) rfl (teq rfl).2 k) ?_
      refine Go.by (g' := (mkF m 181 #[.val (.int p1), .val (.int p2), .val (.int p3), .val (.int p4), .val (.ref la), .val (.ref cu), .val (.int (-1 : Int32)), .val (.int p1), .val (.int (0 : Int32)), .val (.int p2), .val (.int (1 : Int32))] [(.int (1 : Int32))])) (fun _ k => XS.iconst X206.here hx rfl (hb hby at_180) k) ?_
      refine Go.by (g' := (mkF m 185 #[.val (.int p1), .val (.int p2), .val (.int p3), .val (.int p4), .val (.ref la), .val (.ref cu), .val (.int (-1 : Int32)), .val (.int p1), .val (.int (0 : Int32)), .val (.int p2), .val (.int (1 : Int32))] [(.int (1 : Int32))])) (fun _ k => XS.goto X206.here hx rfl (pc0 := 181) (pc' := 185) rfl (hb hby at_181) (by decide) (by decide) k) ?_
      exact Go.outZ X206 hx hret (Lv.wide X206 hlk hS (by rw [e206]; exact (Nat.le_refl _)) (by decide) (by decide)) (hb hby at_185) (by decide) ⟨rfl, M204⟩
  · rw [if_neg hB] at Fy184
    refine Go.callV X184 hx hZ (y := (⟨"com/example/grenoble/grenoble/tla/Token", "kind", "()Lcom/example/grenoble/grenoble/tla/Token$Kind;"⟩ : MethodName)) (z := (⟨"com/example/grenoble/grenoble/tla/Token", "kind", "()Lcom/example/grenoble/grenoble/tla/Token$Kind;"⟩ : MethodName)) hown (hw _ (List.mem_of_getElem? (i := 173) rfl)) (hw _ (List.mem_of_getElem? (i := 156) rfl)) (notFace_of_selects (args := #[]) (mvT hZ (hw _ (List.mem_of_getElem? (i := 158) rfl)))) (hw _ (List.mem_of_getElem? (i := 158) rfl)) (hw _ (List.mem_of_getElem? (i := 157) rfl)) (hw _ (List.mem_of_getElem? (i := 28) rfl)) (hw _ (List.mem_of_getElem? (i := 159) rfl)) (by decide) (W := 0) (a := y184) (argsL := []) (rest := []) Ey184 (rm21 l Z a0 hw y184 T184.heap n0 aE Fy184) (by decide) (by decide) (by decide) (by decide) (g := (mkF m 87 #[.val (.int p1), .val (.int p2), .val (.int p3), .val (.int p4), .val (.ref la), .val (.ref cu), .val (.int (-1 : Int32)), .val (.int p1), .unset, .unset, .unset] [(.ref y184)])) rfl (by rw [hml]; rfl) (lenOf pd_21 rfl) rfl (by show 2 * 0 + _ ≤ _; exact Nat.le_of_eq rfl) (hb hby at_87) rfl ?_
    rintro T207 L207 _ X207 ⟨rfl, N207, q207⟩
    have M207 := Fr.app M184 N207
    show Go p e below _ _ T207 (mkF m 90 #[.val (.int p1), .val (.int p2), .val (.int p3), .val (.int p4), .val (.ref la), .val (.ref cu), .val (.int (-1 : Int32)), .val (.int p1), .unset, .unset, .unset] [(.ref aE)])
    have f208_OL := (f178_OL.keep K184 all0)
    obtain ⟨T209, X209, e209, st209⟩ := getS2 X207 hx hZ hown (host := "") (Or.inl (hw _ (List.mem_of_getElem? (i := 87) rfl))) Via.refl q207 (SE.ext f208_OL.2) (g := (mkF m 90 #[.val (.int p1), .val (.int p2), .val (.int p3), .val (.int p4), .val (.ref la), .val (.ref cu), .val (.int (-1 : Int32)), .val (.int p1), .unset, .unset, .unset] [(.ref aE)])) rfl (hb hby at_90)
    refine Go.by (g' := (mkF m 93 #[.val (.int p1), .val (.int p2), .val (.int p3), .val (.int p4), .val (.ref la), .val (.ref cu), .val (.int (-1 : Int32)), .val (.int p1), .unset, .unset, .unset] [(.ref aE), (.ref aE)])) st209 ?_
    refine Go.by (g' := (mkF m 96 #[.val (.int p1), .val (.int p2), .val (.int p3), .val (.int p4), .val (.ref la), .val (.ref cu), .val (.int (-1 : Int32)), .val (.int p1), .unset, .unset, .unset] [])) (fun _ k => Jvm.RoadKit.acmp (g := (mkF m 93 #[.val (.int p1), .val (.int p2), .val (.int p3), .val (.int p4), .val (.ref la), .val (.ref cu), .val (.int (-1 : Int32)), .val (.int p1), .unset, .unset, .unset] [(.ref aE), (.ref aE)])) X209 hx rfl rfl rfl (pc0 := 93) (pc' := 96) (same := true) rfl (hb hby at_93) rfl (decide_eq_true rfl) (by decide) (by decide) k) ?_
    refine Go.by (g' := (mkF m 97 #[.val (.int p1), .val (.int p2), .val (.int p3), .val (.int p4), .val (.ref la), .val (.ref cu), .val (.int (-1 : Int32)), .val (.int p1), .unset, .unset, .unset] [(.int (1 : Int32))])) (fun _ k => XS.iconst X209.here hx rfl (hb hby at_96) k) ?_
    refine Go.by (g' := (mkF m 101 #[.val (.int p1), .val (.int p2), .val (.int p3), .val (.int p4), .val (.ref la), .val (.ref cu), .val (.int (-1 : Int32)), .val (.int p1), .unset, .unset, .unset] [(.int (1 : Int32))])) (fun _ k => XS.goto X209.here hx rfl (pc0 := 97) (pc' := 101) rfl (hb hby at_97) (by decide) (by decide) k) ?_
    refine Go.by (g' := (mkF m 103 #[.val (.int p1), .val (.int p2), .val (.int p3), .val (.int p4), .val (.ref la), .val (.ref cu), .val (.int (-1 : Int32)), .val (.int p1), .val (.int (1 : Int32)), .unset, .unset] [])) (fun _ k => XS.istore X209.here hx rfl (hb hby at_101) rfl (l' := #[.val (.int p1), .val (.int p2), .val (.int p3), .val (.int p4), .val (.ref la), .val (.ref cu), .val (.int (-1 : Int32)), .val (.int p1), .val (.int (1 : Int32)), .unset, .unset]) rfl k) ?_
    refine Go.by (g' := (mkF m 105 #[.val (.int p1), .val (.int p2), .val (.int p3), .val (.int p4), .val (.ref la), .val (.ref cu), .val (.int (-1 : Int32)), .val (.int p1), .val (.int (1 : Int32)), .unset, .unset] [(.ref cu)])) (fun _ k => XS.aload X209.here hx rfl (hb hby at_103) rfl rfl k) ?_
    refine Go.by (g' := (mkF m 106 #[.val (.int p1), .val (.int p2), .val (.int p3), .val (.int p4), .val (.ref la), .val (.ref cu), .val (.int (-1 : Int32)), .val (.int p1), .val (.int (1 : Int32)), .unset, .unset] [(.int p1), (.ref cu)])) (fun _ k => XS.iloadN X209.here hx rfl (hb hby at_105) rfl k) ?_
    have f210_Ec := (f177_Ec.keep K184)
    have f211_Cf := (Cf176.keep K184 nin0)
    have f212_Ct := (Ct176.keep K184 nin0)
    have f213_Cn := (Cn176.keep K184 nin0)
    refine Go.callV X209 hx hZ (y := (⟨"com/example/grenoble/grenoble/tla/TokenCursor", "fence", "(I)I"⟩ : MethodName)) (z := (⟨"com/example/grenoble/grenoble/tla/TokenCursor", "fence", "(I)I"⟩ : MethodName)) hown (hw _ (List.mem_of_getElem? (i := 104) rfl)) (hw _ (List.mem_of_getElem? (i := 105) rfl)) (notFace_of_selects (args := #[]) (mvT hZ (hw _ (List.mem_of_getElem? (i := 107) rfl)))) (hw _ (List.mem_of_getElem? (i := 107) rfl)) (hw _ (List.mem_of_getElem? (i := 106) rfl)) (hw _ (List.mem_of_getElem? (i := 92) rfl)) (hw _ (List.mem_of_getElem? (i := 108) rfl)) (by decide) (W := 0) (a := cu) (argsL := [(.int p1)]) (rest := []) f210_Ec (rm12 l Z a0 hw cu p1 T184.heap n0 p2 (.ref la) (.int 0) f210_Ec f211_Cf f212_Ct f213_Cn ge_cu) (by decide) (by decide) (by decide) (by decide) (g := (mkF m 106 #[.val (.int p1), .val (.int p2), .val (.int p3), .val (.int p4), .val (.ref la), .val (.ref cu), .val (.int (-1 : Int32)), .val (.int p1), .val (.int (1 : Int32)), .unset, .unset] [(.int p1), (.ref cu)])) rfl (by rw [hml]; rfl) (lenOf pd_12 rfl) rfl (by show 2 * 0 + _ ≤ _; exact Nat.le_of_eq rfl) (hb hby at_106) e209 ?_
    rintro T214 L214 _ X214 ⟨rfl, N214, K214, Cf214, Ct214, Cn214⟩
    have M214 := Fr.app M207 N214
    have Z214 : n0 ≤ T214.heap.size := Nat.le_trans Z184 K214.1
    have hk214 := Nat.le_trans (Nat.le_refl _) K214.1
    show Go p e below _ _ T214 (mkF m 109 #[.val (.int p1), .val (.int p2), .val (.int p3), .val (.int p4), .val (.ref la), .val (.ref cu), .val (.int (-1 : Int32)), .val (.int p1), .val (.int (1 : Int32)), .unset, .unset] [(.int p2)])
    refine Go.by (g' := (mkF m 111 #[.val (.int p1), .val (.int p2), .val (.int p3), .val (.int p4), .val (.ref la), .val (.ref cu), .val (.int (-1 : Int32)), .val (.int p1), .val (.int (1 : Int32)), .val (.int p2), .unset] [])) (fun _ k => XS.istore X214.here hx rfl (hb hby at_109) rfl (l' := #[.val (.int p1), .val (.int p2), .val (.int p3), .val (.int p4), .val (.ref la), .val (.ref cu), .val (.int (-1 : Int32)), .val (.int p1), .val (.int (1 : Int32)), .val (.int p2), .unset]) rfl k) ?_
    refine Go.by (g' := (mkF m 113 #[.val (.int p1), .val (.int p2), .val (.int p3), .val (.int p4), .val (.ref la), .val (.ref cu), .val (.int (-1 : Int32)), .val (.int p1), .val (.int (1 : Int32)), .val (.int p2), .unset] [(.ref cu)])) (fun _ k => XS.aload X214.here hx rfl (hb hby at_111) rfl rfl k) ?_
    have f215_Ec := (f210_Ec.keep K214)
    have f216_OL := (f208_OL.keep K214 (allS ge_cu all0))
    have f217_Fu := ((f179_Fu.keep K184 nin0 nin0).keep K214 (ninS ne_la_cu nin0) (ninS ne_ed_cu nin0))
    have f218_E1 := ((f180_E1.keep K184).keep K214)
    have f219_Gk_1 := ((f181_Gk_1.keep K184 nin0).keep K214 (ninS ne_t1_cu nin0))
    have f220_Gl_1 := ((f182_Gl_1.keep K184 nin0).keep K214 (ninS ne_t1_cu nin0))
    have f221_Gc_1 := ((f183_Gc_1.keep K184 nin0).keep K214 (ninS ne_t1_cu nin0))
    refine Go.callVW X214 hx hS hk214 hZ (y := (⟨"com/example/grenoble/grenoble/tla/TokenCursor", "peek", "()Lcom/example/grenoble/grenoble/tla/Token;"⟩ : MethodName)) (z := (⟨"com/example/grenoble/grenoble/tla/TokenCursor", "peek", "()Lcom/example/grenoble/grenoble/tla/Token;"⟩ : MethodName)) hown (hw _ (List.mem_of_getElem? (i := 109) rfl)) (hw _ (List.mem_of_getElem? (i := 110) rfl)) (notFace_of_selects (args := #[]) (mvT hZ (hw _ (List.mem_of_getElem? (i := 112) rfl)))) (hw _ (List.mem_of_getElem? (i := 112) rfl)) (hw _ (List.mem_of_getElem? (i := 111) rfl)) (hw _ (List.mem_of_getElem? (i := 92) rfl)) (hw _ (List.mem_of_getElem? (i := 113) rfl)) (by decide) (W := 0) (a := cu) (argsL := []) (rest := []) f215_Ec (rm13 l Z a0 hw cu T214.heap n0 Z214 aE aN la ed t1 t2 kE p1 p4 p3 f216_OL SE f215_Ec Cf214 Ct214 Cn214 f217_Fu f218_E1 f219_Gk_1 f220_Gl_1 f221_Gc_1 hne) (by decide) (by decide) (by decide) (by decide) (g := (mkF m 113 #[.val (.int p1), .val (.int p2), .val (.int p3), .val (.int p4), .val (.ref la), .val (.ref cu), .val (.int (-1 : Int32)), .val (.int p1), .val (.int (1 : Int32)), .val (.int p2), .unset] [(.ref cu)])) rfl (by rw [hml]; rfl) (lenOf pd_13 rfl) rfl (by show 2 * 0 + _ ≤ _; exact Nat.le_of_eq rfl) (hb hby at_113) rfl ?_
    rintro T222 L222 _ X222 hS hZ hown ⟨y222, rfl, N222, K222, Ey222, Fy222⟩
    have M222 := Fr.app M214 N222
    have Z222 : n0 ≤ T222.heap.size := Nat.le_trans Z214 K222.1
    have hk222 := Nat.le_trans hk214 K222.1
    show Go p e below _ _ T222 (mkF m 116 #[.val (.int p1), .val (.int p2), .val (.int p3), .val (.int p4), .val (.ref la), .val (.ref cu), .val (.int (-1 : Int32)), .val (.int p1), .val (.int (1 : Int32)), .val (.int p2), .unset] [(.ref y222)])
    by_cases hA : p1 < p3
    · rw [if_pos hA] at Fy222
      refine Go.callV X222 hx hZ (y := (⟨"com/example/grenoble/grenoble/tla/Token", "kind", "()Lcom/example/grenoble/grenoble/tla/Token$Kind;"⟩ : MethodName)) (z := (⟨"com/example/grenoble/grenoble/tla/Token", "kind", "()Lcom/example/grenoble/grenoble/tla/Token$Kind;"⟩ : MethodName)) hown (hw _ (List.mem_of_getElem? (i := 173) rfl)) (hw _ (List.mem_of_getElem? (i := 156) rfl)) (notFace_of_selects (args := #[]) (mvT hZ (hw _ (List.mem_of_getElem? (i := 158) rfl)))) (hw _ (List.mem_of_getElem? (i := 158) rfl)) (hw _ (List.mem_of_getElem? (i := 157) rfl)) (hw _ (List.mem_of_getElem? (i := 28) rfl)) (hw _ (List.mem_of_getElem? (i := 159) rfl)) (by decide) (W := 0) (a := y222) (argsL := []) (rest := []) Ey222 (rm21 l Z a0 hw y222 T222.heap n0 aN Fy222) (by decide) (by decide) (by decide) (by decide) (g := (mkF m 116 #[.val (.int p1), .val (.int p2), .val (.int p3), .val (.int p4), .val (.ref la), .val (.ref cu), .val (.int (-1 : Int32)), .val (.int p1), .val (.int (1 : Int32)), .val (.int p2), .unset] [(.ref y222)])) rfl (by rw [hml]; rfl) (lenOf pd_21 rfl) rfl (by show 2 * 0 + _ ≤ _; exact Nat.le_of_eq rfl) (hb hby at_116) rfl ?_
      rintro T223 L223 _ X223 ⟨rfl, N223, q223⟩
      have M223 := Fr.app M222 N223
      show Go p e below _ _ T223 (mkF m 119 #[.val (.int p1), .val (.int p2), .val (.int p3), .val (.int p4), .val (.ref la), .val (.ref cu), .val (.int (-1 : Int32)), .val (.int p1), .val (.int (1 : Int32)), .val (.int p2), .unset] [(.ref aN)])
      have f224_OL := (f216_OL.keep K222 all0)
      obtain ⟨T225, X225, e225, st225⟩ := getS2 X223 hx hZ hown (host := "") (Or.inl (hw _ (List.mem_of_getElem? (i := 87) rfl))) Via.refl q223 (SE.ext f224_OL.2) (g := (mkF m 119 #[.val (.int p1), .val (.int p2), .val (.int p3), .val (.int p4), .val (.ref la), .val (.ref cu), .val (.int (-1 : Int32)), .val (.int p1), .val (.int (1 : Int32)), .val (.int p2), .unset] [(.ref aN)])) rfl (hb hby at_119)
      refine Go.by (g' := (mkF m 122 #[.val (.int p1), .val (.int p2), .val (.int p3), .val (.int p4), .val (.ref la), .val (.ref cu), .val (.int (-1 : Int32)), .val (.int p1), .val (.int (1 : Int32)), .val (.int p2), .unset] [(.ref aE), (.ref aN)])) st225 ?_
      refine Go.by (g' := (mkF m 129 #[.val (.int p1), .val (.int p2), .val (.int p3), .val (.int p4), .val (.ref la), .val (.ref cu), .val (.int (-1 : Int32)), .val (.int p1), .val (.int (1 : Int32)), .val (.int p2), .unset] [])) (fun _ k => Jvm.RoadKit.acmp (g := (mkF m 122 #[.val (.int p1), .val (.int p2), .val (.int p3), .val (.int p4), .val (.ref la), .val (.ref cu), .val (.int (-1 : Int32)), .val (.int p1), .val (.int (1 : Int32)), .val (.int p2), .unset] [(.ref aE), (.ref aN)])) X225 hx rfl rfl rfl (pc0 := 122) (pc' := 129) (same := false) rfl (hb hby at_122) rfl (decide_eq_false fun z => hne (Value.ref.inj z)) (by decide) (by decide) k) ?_
      refine Go.by (g' := (mkF m 130 #[.val (.int p1), .val (.int p2), .val (.int p3), .val (.int p4), .val (.ref la), .val (.ref cu), .val (.int (-1 : Int32)), .val (.int p1), .val (.int (1 : Int32)), .val (.int p2), .unset] [(.int (0 : Int32))])) (fun _ k => XS.iconst X225.here hx rfl (hb hby at_129) k) ?_
      refine Go.by (g' := (mkF m 132 #[.val (.int p1), .val (.int p2), .val (.int p3), .val (.int p4), .val (.ref la), .val (.ref cu), .val (.int (-1 : Int32)), .val (.int p1), .val (.int (1 : Int32)), .val (.int p2), .val (.int (0 : Int32))] [])) (fun _ k => XS.istore X225.here hx rfl (hb hby at_130) rfl (l' := #[.val (.int p1), .val (.int p2), .val (.int p3), .val (.int p4), .val (.ref la), .val (.ref cu), .val (.int (-1 : Int32)), .val (.int p1), .val (.int (1 : Int32)), .val (.int p2), .val (.int (0 : Int32))]) rfl k) ?_
      refine Go.by (g' := (mkF m 134 #[.val (.int p1), .val (.int p2), .val (.int p3), .val (.int p4), .val (.ref la), .val (.ref cu), .val (.int (-1 : Int32)), .val (.int p1), .val (.int (1 : Int32)), .val (.int p2), .val (.int (0 : Int32))] [(.int (-1 : Int32))])) (fun _ k => XS.iload X225.here hx rfl (hb hby at_132) rfl k) ?_
      refine Go.by (g' := (mkF m 135 #[.val (.int p1), .val (.int p2), .val (.int p3), .val (.int p4), .val (.ref la), .val (.ref cu), .val (.int (-1 : Int32)), .val (.int p1), .val (.int (1 : Int32)), .val (.int p2), .val (.int (0 : Int32))] [(.int (-1 : Int32)), (.int (-1 : Int32))])) (fun _ k => XS.iconst X225.here hx rfl (hb hby at_134) k) ?_
      refine Go.by (g' := (mkF m 138 #[.val (.int p1), .val (.int p2), .val (.int p3), .val (.int p4), .val (.ref la), .val (.ref cu), .val (.int (-1 : Int32)), .val (.int p1), .val (.int (1 : Int32)), .val (.int p2), .val (.int (0 : Int32))] [])) (fun _ k => XS.icmpNo X225.here hx rfl (hb hby at_135) rfl (teq rfl).2 k) ?_
      refine Go.by (g' := (mkF m 140 #[.val (.int p1), .val (.int p2), .val (.int p3), .val (.int p4), .val (.ref la), .val (.ref cu), .val (.int (-1 : Int32)), .val (.int p1), .val (.int (1 : Int32)), .val (.int p2), .val (.int (0 : Int32))] [(.int p1)])) (fun _ k => XS.iload X225.here hx rfl (hb hby at_138) rfl k) ?_
      refine Go.by (g' := (mkF m 141 #[.val (.int p1), .val (.int p2), .val (.int p3), .val (.int p4), .val (.ref la), .val (.ref cu), .val (.int (-1 : Int32)), .val (.int p1), .val (.int (1 : Int32)), .val (.int p2), .val (.int (0 : Int32))] [(.int p1), (.int p1)])) (fun _ k => XS.iloadN X225.here hx rfl (hb hby at_140) rfl k) ?_
      refine Go.by (g' := (mkF m 144 #[.val (.int p1), .val (.int p2), .val (.int p3), .val (.int p4), .val (.ref la), .val (.ref cu), .val (.int (-1 : Int32)), .val (.int p1), .val (.int (1 : Int32)), .val (.int p2), .val (.int (0 : Int32))] [])) (fun _ k => XS.icmpNo X225.here hx rfl (hb hby at_141) rfl (teq rfl).2 k) ?_
      refine Go.by (g' := (mkF m 146 #[.val (.int p1), .val (.int p2), .val (.int p3), .val (.int p4), .val (.ref la), .val (.ref cu), .val (.int (-1 : Int32)), .val (.int p1), .val (.int (1 : Int32)), .val (.int p2), .val (.int (0 : Int32))] [(.int p2)])) (fun _ k => XS.iload X225.here hx rfl (hb hby at_144) rfl k) ?_
      refine Go.by (g' := (mkF m 147 #[.val (.int p1), .val (.int p2), .val (.int p3), .val (.int p4), .val (.ref la), .val (.ref cu), .val (.int (-1 : Int32)), .val (.int p1), .val (.int (1 : Int32)), .val (.int p2), .val (.int (0 : Int32))] [(.int p2), (.int p2)])) (fun _ k => XS.iloadN X225.here hx rfl (hb hby at_146) rfl k) ?_
      refine Go.by (g' := (mkF m 150 #[.val (.int p1), .val (.int p2), .val (.int p3), .val (.int p4), .val (.ref la), .val (.ref cu), .val (.int (-1 : Int32)), .val (.int p1), .val (.int (1 : Int32)), .val (.int p2), .val (.int (0 : Int32))] [])) (fun _ k => XS.icmpNo X225.here hx rfl (hb hby at_147) rfl (teq rfl).2 k) ?_
      refine Go.by (g' := (mkF m 152 #[.val (.int p1), .val (.int p2), .val (.int p3), .val (.int p4), .val (.ref la), .val (.ref cu), .val (.int (-1 : Int32)), .val (.int p1), .val (.int (1 : Int32)), .val (.int p2), .val (.int (0 : Int32))] [(.int (1 : Int32))])) (fun _ k => XS.iload X225.here hx rfl (hb hby at_150) rfl k) ?_
      refine Go.by (g' := (mkF m 153 #[.val (.int p1), .val (.int p2), .val (.int p3), .val (.int p4), .val (.ref la), .val (.ref cu), .val (.int (-1 : Int32)), .val (.int p1), .val (.int (1 : Int32)), .val (.int p2), .val (.int (0 : Int32))] [(.int p3), (.int (1 : Int32))])) (fun _ k => XS.iloadN X225.here hx rfl (hb hby at_152) rfl k) ?_
      refine Go.by (g' := (mkF m 154 #[.val (.int p1), .val (.int p2), .val (.int p3), .val (.int p4), .val (.ref la), .val (.ref cu), .val (.int (-1 : Int32)), .val (.int p1), .val (.int (1 : Int32)), .val (.int p2), .val (.int (0 : Int32))] [(.int p2), (.int p3), (.int (1 : Int32))])) (fun _ k => XS.iloadN X225.here hx rfl (hb hby at_153) rfl k) ?_
      refine Go.by (g' := (mkF m 157 #[.val (.int p1), .val (.int p2), .val (.int p3), .val (.int p4), .val (.ref la), .val (.ref cu), .val (.int (-1 : Int32)), .val (.int p1), .val (.int (1 : Int32)), .val (.int p2), .val (.int (0 : Int32))] [(.int (1 : Int32))])) (fun _ k => XS.icmpNo X225.here hx rfl (hb hby at_154) rfl (flt hB).2.2.1 k) ?_
      refine Go.by (g' := (mkF m 158 #[.val (.int p1), .val (.int p2), .val (.int p3), .val (.int p4), .val (.ref la), .val (.ref cu), .val (.int (-1 : Int32)), .val (.int p1), .val (.int (1 : Int32)), .val (.int p2), .val (.int (0 : Int32))] [(.int (1 : Int32)), (.int (1 : Int32))])) (fun _ k => XS.iconst X225.here hx rfl (hb hby at_157) k) ?_
      refine Go.by (g' := (mkF m 162 #[.val (.int p1), .val (.int p2), .val (.int p3), .val (.int p4), .val (.ref la), .val (.ref cu), .val (.int (-1 : Int32)), .val (.int p1), .val (.int (1 : Int32)), .val (.int p2), .val (.int (0 : Int32))] [(.int (1 : Int32)), (.int (1 : Int32))])) (fun _ k => XS.goto X225.here hx rfl (pc0 := 158) (pc' := 162) rfl (hb hby at_158) (by decide) (by decide) k) ?_
      refine Go.by (g' := (mkF m 165 #[.val (.int p1), .val (.int p2), .val (.int p3), .val (.int p4), .val (.ref la), .val (.ref cu), .val (.int (-1 : Int32)), .val (.int p1), .val (.int (1 : Int32)), .val (.int p2), .val (.int (0 : Int32))] [])) (fun _ k => XS.icmpNo X225.here hx rfl (hb hby at_162) rfl (teq rfl).2 k) ?_
      refine Go.by (g' := (mkF m 167 #[.val (.int p1), .val (.int p2), .val (.int p3), .val (.int p4), .val (.ref la), .val (.ref cu), .val (.int (-1 : Int32)), .val (.int p1), .val (.int (1 : Int32)), .val (.int p2), .val (.int (0 : Int32))] [(.int (0 : Int32))])) (fun _ k => XS.iload X225.here hx rfl (hb hby at_165) rfl k) ?_
      refine Go.by (g' := (mkF m 168 #[.val (.int p1), .val (.int p2), .val (.int p3), .val (.int p4), .val (.ref la), .val (.ref cu), .val (.int (-1 : Int32)), .val (.int p1), .val (.int (1 : Int32)), .val (.int p2), .val (.int (0 : Int32))] [(.int p3), (.int (0 : Int32))])) (fun _ k => XS.iloadN X225.here hx rfl (hb hby at_167) rfl k) ?_
      refine Go.by (g' := (mkF m 169 #[.val (.int p1), .val (.int p2), .val (.int p3), .val (.int p4), .val (.ref la), .val (.ref cu), .val (.int (-1 : Int32)), .val (.int p1), .val (.int (1 : Int32)), .val (.int p2), .val (.int (0 : Int32))] [(.int p1), (.int p3), (.int (0 : Int32))])) (fun _ k => XS.iloadN X225.here hx rfl (hb hby at_168) rfl k) ?_
      refine Go.by (g' := (mkF m 176 #[.val (.int p1), .val (.int p2), .val (.int p3), .val (.int p4), .val (.ref la), .val (.ref cu), .val (.int (-1 : Int32)), .val (.int p1), .val (.int (1 : Int32)), .val (.int p2), .val (.int (0 : Int32))] [(.int (0 : Int32))])) (fun _ k => XS.icmpYes X225.here hx rfl (pc0 := 169) (pc' := 176) rfl (hb hby at_169) rfl (tlt hA).2.2.1 (by decide) (by decide) k) ?_
      refine Go.by (g' := (mkF m 177 #[.val (.int p1), .val (.int p2), .val (.int p3), .val (.int p4), .val (.ref la), .val (.ref cu), .val (.int (-1 : Int32)), .val (.int p1), .val (.int (1 : Int32)), .val (.int p2), .val (.int (0 : Int32))] [(.int (0 : Int32)), (.int (0 : Int32))])) (fun _ k => XS.iconst X225.here hx rfl (hb hby at_176) k) ?_
      refine Go.by (g' := (mkF m 180 #[.val (.int p1), .val (.int p2), .val (.int p3), .val (.int p4), .val (.ref la), .val (.ref cu), .val (.int (-1 : Int32)), .val (.int p1), .val (.int (1 : Int32)), .val (.int p2), .val (.int (0 : Int32))] [])) (fun _ k => XS.icmpNo X225.here hx rfl (hb hby at_177) rfl (teq rfl).2 k) ?_
      refine Go.by (g' := (mkF m 181 #[.val (.int p1), .val (.int p2), .val (.int p3), .val (.int p4), .val (.ref la), .val (.ref cu), .val (.int (-1 : Int32)), .val (.int p1), .val (.int (1 : Int32)), .val (.int p2), .val (.int (0 : Int32))] [(.int (1 : Int32))])) (fun _ k => XS.iconst X225.here hx rfl (hb hby at_180) k) ?_
      refine Go.by (g' := (mkF m 185 #[.val (.int p1), .val (.int p2), .val (.int p3), .val (.int p4), .val (.ref la), .val (.ref cu), .val (.int (-1 : Int32)), .val (.int p1), .val (.int (1 : Int32)), .val (.int p2), .val (.int (0 : Int32))] [(.int (1 : Int32))])) (fun _ k => XS.goto X225.here hx rfl (pc0 := 181) (pc' := 185) rfl (hb hby at_181) (by decide) (by decide) k) ?_
      exact Go.outZ X225 hx hret (Lv.wide X225 hlk hS (by rw [e225]; exact (Nat.le_refl _)) (by decide) (by decide)) (hb hby at_185) (by decide) ⟨rfl, M223⟩
    · rw [if_neg hA] at Fy222
      refine Go.callV X222 hx hZ (y := (⟨"com/example/grenoble/grenoble/tla/Token", "kind", "()Lcom/example/grenoble/grenoble/tla/Token$Kind;"⟩ : MethodName)) (z := (⟨"com/example/grenoble/grenoble/tla/Token", "kind", "()Lcom/example/grenoble/grenoble/tla/Token$Kind;"⟩ : MethodName)) hown (hw _ (List.mem_of_getElem? (i := 173) rfl)) (hw _ (List.mem_of_getElem? (i := 156) rfl)) (notFace_of_selects (args := #[]) (mvT hZ (hw _ (List.mem_of_getElem? (i := 158) rfl)))) (hw _ (List.mem_of_getElem? (i := 158) rfl)) (hw _ (List.mem_of_getElem? (i := 157) rfl)) (hw _ (List.mem_of_getElem? (i := 28) rfl)) (hw _ (List.mem_of_getElem? (i := 159) rfl)) (by decide) (W := 0) (a := y222) (argsL := []) (rest := []) Ey222 (rm21 l Z a0 hw y222 T222.heap n0 aE Fy222) (by decide) (by decide) (by decide) (by decide) (g := (mkF m 116 #[.val (.int p1), .val (.int p2), .val (.int p3), .val (.int p4), .val (.ref la), .val (.ref cu), .val (.int (-1 : Int32)), .val (.int p1), .val (.int (1 : Int32)), .val (.int p2), .unset] [(.ref y222)])) rfl (by rw [hml]; rfl) (lenOf pd_21 rfl) rfl (by show 2 * 0 + _ ≤ _; exact Nat.le_of_eq rfl) (hb hby at_116) rfl ?_
      rintro T226 L226 _ X226 ⟨rfl, N226, q226⟩
      have M226 := Fr.app M222 N226
      show Go p e below _ _ T226 (mkF m 119 #[.val (.int p1), .val (.int p2), .val (.int p3), .val (.int p4), .val (.ref la), .val (.ref cu), .val (.int (-1 : Int32)), .val (.int p1), .val (.int (1 : Int32)), .val (.int p2), .unset] [(.ref aE)])
      have f227_OL := (f216_OL.keep K222 all0)
      obtain ⟨T228, X228, e228, st228⟩ := getS2 X226 hx hZ hown (host := "") (Or.inl (hw _ (List.mem_of_getElem? (i := 87) rfl))) Via.refl q226 (SE.ext f227_OL.2) (g := (mkF m 119 #[.val (.int p1), .val (.int p2), .val (.int p3), .val (.int p4), .val (.ref la), .val (.ref cu), .val (.int (-1 : Int32)), .val (.int p1), .val (.int (1 : Int32)), .val (.int p2), .unset] [(.ref aE)])) rfl (hb hby at_119)
      refine Go.by (g' := (mkF m 122 #[.val (.int p1), .val (.int p2), .val (.int p3), .val (.int p4), .val (.ref la), .val (.ref cu), .val (.int (-1 : Int32)), .val (.int p1), .val (.int (1 : Int32)), .val (.int p2), .unset] [(.ref aE), (.ref aE)])) st228 ?_
      refine Go.by (g' := (mkF m 125 #[.val (.int p1), .val (.int p2), .val (.int p3), .val (.int p4), .val (.ref la), .val (.ref cu), .val (.int (-1 : Int32)), .val (.int p1), .val (.int (1 : Int32)), .val (.int p2), .unset] [])) (fun _ k => Jvm.RoadKit.acmp (g := (mkF m 122 #[.val (.int p1), .val (.int p2), .val (.int p3), .val (.int p4), .val (.ref la), .val (.ref cu), .val (.int (-1 : Int32)), .val (.int p1), .val (.int (1 : Int32)), .val (.int p2), .unset] [(.ref aE), (.ref aE)])) X228 hx rfl rfl rfl (pc0 := 122) (pc' := 125) (same := true) rfl (hb hby at_122) rfl (decide_eq_true rfl) (by decide) (by decide) k) ?_
      refine Go.by (g' := (mkF m 126 #[.val (.int p1), .val (.int p2), .val (.int p3), .val (.int p4), .val (.ref la), .val (.ref cu), .val (.int (-1 : Int32)), .val (.int p1), .val (.int (1 : Int32)), .val (.int p2), .unset] [(.int (1 : Int32))])) (fun _ k => XS.iconst X228.here hx rfl (hb hby at_125) k) ?_
      refine Go.by (g' := (mkF m 130 #[.val (.int p1), .val (.int p2), .val (.int p3), .val (.int p4), .val (.ref la), .val (.ref cu), .val (.int (-1 : Int32)), .val (.int p1), .val (.int (1 : Int32)), .val (.int p2), .unset] [(.int (1 : Int32))])) (fun _ k => XS.goto X228.here hx rfl (pc0 := 126) (pc' := 130) rfl (hb hby at_126) (by decide) (by decide) k) ?_
      refine Go.by (g' := (mkF m 132 #[.val (.int p1), .val (.int p2), .val (.int p3), .val (.int p4), .val (.ref la), .val (.ref cu), .val (.int (-1 : Int32)), .val (.int p1), .val (.int (1 : Int32)), .val (.int p2), .val (.int (1 : Int32))] [])) (fun _ k => XS.istore X228.here hx rfl (hb hby at_130) rfl (l' := #[.val (.int p1), .val (.int p2), .val (.int p3), .val (.int p4), .val (.ref la), .val (.ref cu), .val (.int (-1 : Int32)), .val (.int p1), .val (.int (1 : Int32)), .val (.int p2), .val (.int (1 : Int32))]) rfl k) ?_
      refine Go.by (g' := (mkF m 134 #[.val (.int p1), .val (.int p2), .val (.int p3), .val (.int p4), .val (.ref la), .val (.ref cu), .val (.int (-1 : Int32)), .val (.int p1), .val (.int (1 : Int32)), .val (.int p2), .val (.int (1 : Int32))] [(.int (-1 : Int32))])) (fun _ k => XS.iload X228.here hx rfl (hb hby at_132) rfl k) ?_
      refine Go.by (g' := (mkF m 135 #[.val (.int p1), .val (.int p2), .val (.int p3), .val (.int p4), .val (.ref la), .val (.ref cu), .val (.int (-1 : Int32)), .val (.int p1), .val (.int (1 : Int32)), .val (.int p2), .val (.int (1 : Int32))] [(.int (-1 : Int32)), (.int (-1 : Int32))])) (fun _ k => XS.iconst X228.here hx rfl (hb hby at_134) k) ?_
      refine Go.by (g' := (mkF m 138 #[.val (.int p1), .val (.int p2), .val (.int p3), .val (.int p4), .val (.ref la), .val (.ref cu), .val (.int (-1 : Int32)), .val (.int p1), .val (.int (1 : Int32)), .val (.int p2), .val (.int (1 : Int32))] [])) (fun _ k => XS.icmpNo X228.here hx rfl (hb hby at_135) rfl (teq rfl).2 k) ?_
      refine Go.by (g' := (mkF m 140 #[.val (.int p1), .val (.int p2), .val (.int p3), .val (.int p4), .val (.ref la), .val (.ref cu), .val (.int (-1 : Int32)), .val (.int p1), .val (.int (1 : Int32)), .val (.int p2), .val (.int (1 : Int32))] [(.int p1)])) (fun _ k => XS.iload X228.here hx rfl (hb hby at_138) rfl k) ?_
      refine Go.by (g' := (mkF m 141 #[.val (.int p1), .val (.int p2), .val (.int p3), .val (.int p4), .val (.ref la), .val (.ref cu), .val (.int (-1 : Int32)), .val (.int p1), .val (.int (1 : Int32)), .val (.int p2), .val (.int (1 : Int32))] [(.int p1), (.int p1)])) (fun _ k => XS.iloadN X228.here hx rfl (hb hby at_140) rfl k) ?_
      refine Go.by (g' := (mkF m 144 #[.val (.int p1), .val (.int p2), .val (.int p3), .val (.int p4), .val (.ref la), .val (.ref cu), .val (.int (-1 : Int32)), .val (.int p1), .val (.int (1 : Int32)), .val (.int p2), .val (.int (1 : Int32))] [])) (fun _ k => XS.icmpNo X228.here hx rfl (hb hby at_141) rfl (teq rfl).2 k) ?_
      refine Go.by (g' := (mkF m 146 #[.val (.int p1), .val (.int p2), .val (.int p3), .val (.int p4), .val (.ref la), .val (.ref cu), .val (.int (-1 : Int32)), .val (.int p1), .val (.int (1 : Int32)), .val (.int p2), .val (.int (1 : Int32))] [(.int p2)])) (fun _ k => XS.iload X228.here hx rfl (hb hby at_144) rfl k) ?_
      refine Go.by (g' := (mkF m 147 #[.val (.int p1), .val (.int p2), .val (.int p3), .val (.int p4), .val (.ref la), .val (.ref cu), .val (.int (-1 : Int32)), .val (.int p1), .val (.int (1 : Int32)), .val (.int p2), .val (.int (1 : Int32))] [(.int p2), (.int p2)])) (fun _ k => XS.iloadN X228.here hx rfl (hb hby at_146) rfl k) ?_
      refine Go.by (g' := (mkF m 150 #[.val (.int p1), .val (.int p2), .val (.int p3), .val (.int p4), .val (.ref la), .val (.ref cu), .val (.int (-1 : Int32)), .val (.int p1), .val (.int (1 : Int32)), .val (.int p2), .val (.int (1 : Int32))] [])) (fun _ k => XS.icmpNo X228.here hx rfl (hb hby at_147) rfl (teq rfl).2 k) ?_
      refine Go.by (g' := (mkF m 152 #[.val (.int p1), .val (.int p2), .val (.int p3), .val (.int p4), .val (.ref la), .val (.ref cu), .val (.int (-1 : Int32)), .val (.int p1), .val (.int (1 : Int32)), .val (.int p2), .val (.int (1 : Int32))] [(.int (1 : Int32))])) (fun _ k => XS.iload X228.here hx rfl (hb hby at_150) rfl k) ?_
      refine Go.by (g' := (mkF m 153 #[.val (.int p1), .val (.int p2), .val (.int p3), .val (.int p4), .val (.ref la), .val (.ref cu), .val (.int (-1 : Int32)), .val (.int p1), .val (.int (1 : Int32)), .val (.int p2), .val (.int (1 : Int32))] [(.int p3), (.int (1 : Int32))])) (fun _ k => XS.iloadN X228.here hx rfl (hb hby at_152) rfl k) ?_
      refine Go.by (g' := (mkF m 154 #[.val (.int p1), .val (.int p2), .val (.int p3), .val (.int p4), .val (.ref la), .val (.ref cu), .val (.int (-1 : Int32)), .val (.int p1), .val (.int (1 : Int32)), .val (.int p2), .val (.int (1 : Int32))] [(.int p2), (.int p3), (.int (1 : Int32))])) (fun _ k => XS.iloadN X228.here hx rfl (hb hby at_153) rfl k) ?_
      refine Go.by (g' := (mkF m 157 #[.val (.int p1), .val (.int p2), .val (.int p3), .val (.int p4), .val (.ref la), .val (.ref cu), .val (.int (-1 : Int32)), .val (.int p1), .val (.int (1 : Int32)), .val (.int p2), .val (.int (1 : Int32))] [(.int (1 : Int32))])) (fun _ k => XS.icmpNo X228.here hx rfl (hb hby at_154) rfl (flt hB).2.2.1 k) ?_
      refine Go.by (g' := (mkF m 158 #[.val (.int p1), .val (.int p2), .val (.int p3), .val (.int p4), .val (.ref la), .val (.ref cu), .val (.int (-1 : Int32)), .val (.int p1), .val (.int (1 : Int32)), .val (.int p2), .val (.int (1 : Int32))] [(.int (1 : Int32)), (.int (1 : Int32))])) (fun _ k => XS.iconst X228.here hx rfl (hb hby at_157) k) ?_
      refine Go.by (g' := (mkF m 162 #[.val (.int p1), .val (.int p2), .val (.int p3), .val (.int p4), .val (.ref la), .val (.ref cu), .val (.int (-1 : Int32)), .val (.int p1), .val (.int (1 : Int32)), .val (.int p2), .val (.int (1 : Int32))] [(.int (1 : Int32)), (.int (1 : Int32))])) (fun _ k => XS.goto X228.here hx rfl (pc0 := 158) (pc' := 162) rfl (hb hby at_158) (by decide) (by decide) k) ?_
      refine Go.by (g' := (mkF m 165 #[.val (.int p1), .val (.int p2), .val (.int p3), .val (.int p4), .val (.ref la), .val (.ref cu), .val (.int (-1 : Int32)), .val (.int p1), .val (.int (1 : Int32)), .val (.int p2), .val (.int (1 : Int32))] [])) (fun _ k => XS.icmpNo X228.here hx rfl (hb hby at_162) rfl (teq rfl).2 k) ?_
      refine Go.by (g' := (mkF m 167 #[.val (.int p1), .val (.int p2), .val (.int p3), .val (.int p4), .val (.ref la), .val (.ref cu), .val (.int (-1 : Int32)), .val (.int p1), .val (.int (1 : Int32)), .val (.int p2), .val (.int (1 : Int32))] [(.int (1 : Int32))])) (fun _ k => XS.iload X228.here hx rfl (hb hby at_165) rfl k) ?_
      refine Go.by (g' := (mkF m 168 #[.val (.int p1), .val (.int p2), .val (.int p3), .val (.int p4), .val (.ref la), .val (.ref cu), .val (.int (-1 : Int32)), .val (.int p1), .val (.int (1 : Int32)), .val (.int p2), .val (.int (1 : Int32))] [(.int p3), (.int (1 : Int32))])) (fun _ k => XS.iloadN X228.here hx rfl (hb hby at_167) rfl k) ?_
      refine Go.by (g' := (mkF m 169 #[.val (.int p1), .val (.int p2), .val (.int p3), .val (.int p4), .val (.ref la), .val (.ref cu), .val (.int (-1 : Int32)), .val (.int p1), .val (.int (1 : Int32)), .val (.int p2), .val (.int (1 : Int32))] [(.int p1), (.int p3), (.int (1 : Int32))])) (fun _ k => XS.iloadN X228.here hx rfl (hb hby at_168) rfl k) ?_
      refine Go.by (g' := (mkF m 172 #[.val (.int p1), .val (.int p2), .val (.int p3), .val (.int p4), .val (.ref la), .val (.ref cu), .val (.int (-1 : Int32)), .val (.int p1), .val (.int (1 : Int32)), .val (.int p2), .val (.int (1 : Int32))] [(.int (1 : Int32))])) (fun _ k => XS.icmpNo X228.here hx rfl (hb hby at_169) rfl (flt hA).2.2.1 k) ?_
      refine Go.by (g' := (mkF m 173 #[.val (.int p1), .val (.int p2), .val (.int p3), .val (.int p4), .val (.ref la), .val (.ref cu), .val (.int (-1 : Int32)), .val (.int p1), .val (.int (1 : Int32)), .val (.int p2), .val (.int (1 : Int32))] [(.int (1 : Int32)), (.int (1 : Int32))])) (fun _ k => XS.iconst X228.here hx rfl (hb hby at_172) k) ?_
      refine Go.by (g' := (mkF m 177 #[.val (.int p1), .val (.int p2), .val (.int p3), .val (.int p4), .val (.ref la), .val (.ref cu), .val (.int (-1 : Int32)), .val (.int p1), .val (.int (1 : Int32)), .val (.int p2), .val (.int (1 : Int32))] [(.int (1 : Int32)), (.int (1 : Int32))])) (fun _ k => XS.goto X228.here hx rfl (pc0 := 173) (pc' := 177) rfl (hb hby at_173) (by decide) (by decide) k) ?_
      refine Go.by (g' := (mkF m 180 #[.val (.int p1), .val (.int p2), .val (.int p3), .val (.int p4), .val (.ref la), .val (.ref cu), .val (.int (-1 : Int32)), .val (.int p1), .val (.int (1 : Int32)), .val (.int p2), .val (.int (1 : Int32))] [])) (fun _ k => XS.icmpNo X228.here hx rfl (hb hby at_177) rfl (teq rfl).2 k) ?_
      refine Go.by (g' := (mkF m 181 #[.val (.int p1), .val (.int p2), .val (.int p3), .val (.int p4), .val (.ref la), .val (.ref cu), .val (.int (-1 : Int32)), .val (.int p1), .val (.int (1 : Int32)), .val (.int p2), .val (.int (1 : Int32))] [(.int (1 : Int32))])) (fun _ k => XS.iconst X228.here hx rfl (hb hby at_180) k) ?_
      refine Go.by (g' := (mkF m 185 #[.val (.int p1), .val (.int p2), .val (.int p3), .val (.int p4), .val (.ref la), .val (.ref cu), .val (.int (-1 : Int32)), .val (.int p1), .val (.int (1 : Int32)), .val (.int p2), .val (.int (1 : Int32))] [(.int (1 : Int32))])) (fun _ k => XS.goto X228.here hx rfl (pc0 := 181) (pc' := 185) rfl (hb hby at_181) (by decide) (by decide) k) ?_
      exact Go.outZ X228 hx hret (Lv.wide X228 hlk hS (by rw [e228]; exact (Nat.le_refl _)) (by decide) (by decide)) (hb hby at_185) (by decide) ⟨rfl, M226⟩
theorem own_len {Z : State} {args : Array Value} {t : Term} {a : Addr} {c : Cell} {z : Int32} {ty : FieldType} (et : t.eval args Z none [] Z = some (.ref a)) (A : Arr Z Z.heap a c ty) (h : (Term.length t).eval args Z none [] Z = some (.int z)) : c.slots.size < 2 ^ 31 ∧ c.slots.size.toInt32 = z := by
  have ha := A.fin (Vm.Alike.refl _)
  by_cases q : c.slots.size < 2 ^ 31
  · rw [len_f et ha q] at h; exact ⟨q, by simpa using h⟩
  · simp [Term.eval, et, ha, q] at h
set_option maxRecDepth 65536 in
set_option maxHeartbeats 40000000 in
theorem comes_1 {Post : Tables → Env → Array Value → State → Outcome → State → Prop} (hpost : ∀ tb e args s v u, (limb_1_1.after args s (.returned v) u = true ∧ limb_1_2.after args s (.returned v) u = true ∧ True) → ReturnedEndW s (.returned v) u (Jvm.fieldLocs frame_1_writes args s ++ Jvm.arrayLocs frame_1_arrays args s ++ Jvm.staticLocs frame_1_statics s) 32 4288 → Post tb e args s (.returned v) u) :
    ArmFor flags0 classFile x code maxLocals ret World_1 tables_1 room_1 Calls_1 rest_1 Pre_1 Post := by
  intro l hfl _ _ p e ha hc hk s m args below hf hA hF happ hP
  obtain ⟨hcalls, hrest, hpre⟩ := hP
  obtain ⟨-, -, -, hnamed, -, -, -, hat⟩ := (Spec.applies_iff hf).mp happ
  obtain ⟨hg, hn⟩ := and_e (Cond.before_iff.mp (show (Jvm.Cond.and given_1 narrow_1).before args s = true from hpre))
  obtain ⟨h1, q0⟩ := and_e hg
  obtain ⟨p0, q1⟩ := and_e q0
  obtain ⟨p1, q2⟩ := and_e q1
  obtain ⟨p2, q3⟩ := and_e q2
  obtain ⟨w0, w1, w2, w3, rfl⟩ : ∃ w0 w1 w2 w3 : Value, args = #[w0, w1, w2, w3] := by
    have hs : args.size = 4 := by simpa [Cond.value, given_1] using h1
    obtain ⟨L⟩ := args
    match L, hs with
    | [w0, w1, w2, w3], _ => exact ⟨w0, w1, w2, w3, rfl⟩
  have hw := fun d (hd : d ∈ tables_1) => atoms_spec (ws := Jvm.Cond.code x code maxLocals ret :: tables_1) hat d (List.mem_cons_of_mem _ hd)
  have hfit : Fit s := fun {y c} hc i hi => by
    obtain ⟨ha, rfl⟩ := Array.getElem?_eq_some_iff.mp hc
    have q := List.all_eq_true.mp ((Array.all_eq_true_iff_forall_mem.mp hF) _ (Array.getElem_mem ha)) i (List.mem_range.mpr hi)
    simpa [Array.getElem?_eq_getElem hi] using q
  obtain ⟨hsets, hown0⟩ := atoms_of _ (rest_1_c_eq ▸ (show rest_1_c.before _ s = true from hrest))
  obtain ⟨i0, ee0⟩ := is_v p0
  obtain rfl : w0 = (.int i0) := Option.some.inj ee0
  obtain ⟨i1, ee1⟩ := is_v p1
  obtain rfl : w1 = (.int i1) := Option.some.inj ee1
  obtain ⟨i2, ee2⟩ := is_v p2
  obtain rfl : w2 = (.int i2) := Option.some.inj ee2
  obtain ⟨i3, ee3⟩ := is_v q3
  obtain rfl : w3 = (.int i3) := Option.some.inj ee3
  obtain ⟨m1, r1⟩ := and_e hn
  obtain ⟨m2, r2⟩ := and_e r1
  obtain ⟨m3, m4⟩ := and_e r2
  obtain ⟨aN, eN⟩ := exa_v m1
  obtain ⟨aE, eE⟩ := exa_v m2
  have SN : Sta s s.heap "com/example/grenoble/grenoble/tla/Token$Kind" "NAME" "Lcom/example/grenoble/grenoble/tla/Token$Kind;" (.ref aN) := Sta.start eN (Or.inr ⟨(hw _ (List.mem_of_getElem? (i := 30) rfl)), (hw _ (List.mem_of_getElem? (i := 31) rfl))⟩)
  have SE : Sta s s.heap "com/example/grenoble/grenoble/tla/Token$Kind" "END" "Lcom/example/grenoble/grenoble/tla/Token$Kind;" (.ref aE) := Sta.start eE (Or.inr ⟨(hw _ (List.mem_of_getElem? (i := 30) rfl)), (hw _ (List.mem_of_getElem? (i := 88) rfl))⟩)
  have hne : ¬ aN = aE := Fld.ne (Fld.start ((fld_at eN).symm.trans (eqv_i (Term.int_eval (0)) m3))) (Fld.start ((fld_at eE).symm.trans (eqv_i (Term.int_eval (4)) m4))) (by decide)
  have hAr := Cond.before_iff.mp (hsets _ (List.mem_of_getElem? (i := 6) rfl))
  obtain ⟨aD, eD⟩ := arr_v hAr
  have SD : Sta s s.heap "java/util/ArrayList" "DEFAULTCAPACITY_EMPTY_ELEMENTDATA" "[Ljava/lang/Object;" (.ref aD) := Sta.start eD (Or.inr ⟨(hw _ (List.mem_of_getElem? (i := 2) rfl)), (hsets _ (List.mem_of_getElem? (i := 2) rfl))⟩)
  obtain ⟨cD, ACD⟩ := Arr.start eD hAr
  obtain ⟨sz1, sz2⟩ := own_len eD ACD (eqv_i (Term.int_eval (0)) (Cond.before_iff.mp (hsets _ (List.mem_of_getElem? (i := 8) rfl))))
  have AD : Arv s s.heap aD cD.cls OA 0 [] .null := Arv.start hfit ACD sz1 sz2 (by decide) rfl trivial
  obtain ⟨n, o, h1, h2, h3, _, L, rfl, ⟨rfl, N⟩, hq⟩ := rm0 l s _ hw i0 i1 i2 i3 s.heap s.heap.size (Nat.le_refl _) aD aE aN cD.cls (Old.start s) SD AD SE SN hne tables_1 p e ha hc hk s m _ below hf ((Spec.applies_iff_loose hf).mp happ).1 ⟨rfl, State.Warmed39.refl s, rfl⟩ trivial
  refine ⟨n, _, h1, h2, h3, hpost _ _ _ _ _ _ ⟨Cond.after_iff.mpr rfl, Cond.after_iff.mpr (eq_i res_at (Term.int_eval (1)) rfl), trivial⟩ ⟨hq.1, hq.2.1, hq.2.2.1, (hq.2.2.2.sift fun y hy => Or.inr (N y hy)).mono (by decide) (by decide)⟩⟩
theorem main_1_1 : Claimed_1_1 := comes_1 fun _ _ _ _ _ _ h hF => ⟨h.1, hF⟩
theorem main_1_2 : Claimed_1_2 := comes_1 fun _ _ _ _ _ _ h hF => ⟨h.2.1, hF⟩
end Jvm.Pilot.@@N@@
namespace Jvm.Pilot.@@N@@
open Jvm Jvm.ClassFile Sem Op Lib Jvm.Free Jvm.Stand Jvm.Pilot.@@N@@.Jvm.D
/-! MADE BY PROGRAM (witnessworld.py) out of the Statement's table words and the real class files: 29 classes; the members and pool entries that the words name. The judged class is class 1, her method 1. -/
namespace start1
open Jvm.ClassFile
def u (s : String) : CpInfo := .utf8 (stringToUtf16 s)
/-- a pool by its gaps: so many unusable entries, then the entry; so many at the end -/
def gap : Nat → List CpInfo → List CpInfo
  | 0, r => r
  | n + 1, r => .unusable :: gap n r
def poolList (es : List (Nat × CpInfo)) (last : Nat) : List CpInfo := es.foldr (fun e r => gap e.1 (e.2 :: r)) (gap last [])
def pool (es : List (Nat × CpInfo)) (last : Nat) : Array CpInfo := ⟨poolList es last⟩
def fileOf (pool : Array CpInfo) (this : Nat) (attrs : Array Attribute := #[]) (ms : Array MethodInfo := #[]) (fl : Nat := 33) (sup : Nat := 0) (ifs : Array Nat := #[]) (fds : Array FieldInfo := #[]) : ClassFile where
  minorVersion := 0
  majorVersion := 65
  constantPool := pool
  accessFlags := fl
  thisClass := this
  superClass := sup
  interfaces := ifs
  fields := fds
  methods := ms
  attributes := attrs
def plain (name : String) (sup : Option ClassId) : Class where
  name := name
  kind := .ordinary
  loader := none
  accessFlags := 33
  super := sup
  interfaces := #[]
  cf := none
  fields := #[]
  methods := #[]
  instanceTypes := #[]
  staticTypes := #[]
  resolved := #[]
  callSites := []
  init := .initialized
  statics := none
  mirror := none

def pool0 : Array CpInfo := pool [(5, u "<init>"), (0, u "()V"), (1, .class_ 10), (1, u "java/lang/Object")] 113

def k0c0 : Code := { maxStack := 0, maxLocals := 1, code := object_method_1_code, exceptionTable := #[], attributes := #[] }
def k0m0 : Method := { name := "<init>", desc := "()V", sig := { parameters := [], returnType := none }, accessFlags := 1, code := some k0c0 }
/-- java/lang/Object -/
def k0 : Class := { plain "java/lang/Object" none with
  accessFlags := 33
  interfaces := #[]
  cf := some (fileOf pool0 8 #[] #[{ accessFlags := 1, nameIndex := 5, descriptorIndex := 6, attributes := #[] }] 33 0 #[] #[])
  fields := #[]
  methods := #[k0m0]
  instanceTypes := #[]
  staticTypes := #[]
  resolved := Array.replicate 124 none
  statics := none }

def pool1 : Array CpInfo := pool [(2, .class_ 4), (0, .nameAndType 5 6), (0, u "java/lang/Object"), (0, u "<init>"), (0, u "()V"), (0, .class_ 8), (0, u "java/util/ArrayList"), (0, .methodref 7 3), (0, .class_ 11), (0, u "com/example/grenoble/grenoble/tla/Token"), (0, .fieldref 13 14), (0, .class_ 15), (0, .nameAndType 16 17), (0, u "com/example/grenoble/grenoble/tla/Token$Kind"), (0, u "NAME"), (0, u "Lcom/example/grenoble/grenoble/tla/Token$Kind;"), (0, .string 19), (0, u "x"), (0, .methodref 10 21), (0, .nameAndType 5 22), (0, u "(Lcom/example/grenoble/grenoble/tla/Token$Kind;Ljava/lang/String;II)V"), (0, .interfaceMethodref 24 25), (0, .class_ 26), (0, .nameAndType 27 28), (0, u "java/util/List"), (0, u "add"), (0, u "(Ljava/lang/Object;)Z"), (0, .fieldref 13 30), (0, .nameAndType 31 17), (0, u "END"), (0, .string 33), (0, u "file"), (0, .class_ 35), (0, u "com/example/grenoble/grenoble/tla/TokenCursor"), (0, .string 37), (0, u "f"), (0, .methodref 34 39), (0, .nameAndType 5 40), (0, u "(Ljava/lang/String;Ljava/util/List;)V"), (0, .methodref 34 42), (0, .nameAndType 43 44), (0, u "fence"), (0, u "(I)I"), (0, .methodref 34 46), (0, .nameAndType 47 48), (0, u "peek"), (0, u "()Lcom/example/grenoble/grenoble/tla/Token;"), (0, .methodref 10 50), (0, .nameAndType 51 52), (0, u "kind"), (0, u "()Lcom/example/grenoble/grenoble/tla/Token$Kind;"), (0, .class_ 54), (0, u "com/example/grenoble/grenoble/tla/TokenCursorFencePinLaw"), (2, u "law"), (0, u "(IIII)Z")] 5

def k1m0 : Method := { name := "<init>", desc := "()V", sig := { parameters := [], returnType := none }, accessFlags := 1, code := none }
def k1c1 : Code := { maxStack := 7, maxLocals := 11, code := code, exceptionTable := #[], attributes := #[] }
def k1m1 : Method := { name := "law", desc := "(IIII)Z", sig := { parameters := [.int, .int, .int, .int], returnType := some .boolean }, accessFlags := 9, code := some k1c1 }
/-- com/example/grenoble/grenoble/tla/TokenCursorFencePinLaw -/
def k1 : Class := { plain "com/example/grenoble/grenoble/tla/TokenCursorFencePinLaw" (some 0) with
  accessFlags := 49
  interfaces := #[]
  cf := some (fileOf pool1 53 #[] #[{ accessFlags := 1, nameIndex := 5, descriptorIndex := 6, attributes := #[] }, { accessFlags := 9, nameIndex := 57, descriptorIndex := 58, attributes := #[] }] 49 2 #[] #[])
  fields := #[]
  methods := #[k1m0, k1m1]
  instanceTypes := #[]
  staticTypes := #[]
  resolved := Array.replicate 64 none
  statics := none }

def pool2 : Array CpInfo := pool [(8, .class_ 10), (1, u "java/lang/Iterable"), (24, .class_ 36), (0, u "java/lang/Object")] 25

/-- java/lang/Iterable -/
def k2 : Class := { plain "java/lang/Iterable" (some 0) with
  accessFlags := 1537
  interfaces := #[]
  cf := some (fileOf pool2 8 #[] #[] 1537 35 #[] #[])
  fields := #[]
  methods := #[]
  instanceTypes := #[]
  staticTypes := #[]
  resolved := Array.replicate 62 none
  statics := none }

def pool3 : Array CpInfo := pool [(10, .class_ 12), (1, u "java/util/Collection"), (47, .class_ 61), (0, u "java/lang/Object"), (0, .class_ 63), (0, u "java/lang/Iterable")] 51

/-- java/util/Collection -/
def k3 : Class := { plain "java/util/Collection" (some 0) with
  accessFlags := 1537
  interfaces := #[2]
  cf := some (fileOf pool3 10 #[] #[] 1537 60 #[62] #[])
  fields := #[]
  methods := #[]
  instanceTypes := #[]
  staticTypes := #[]
  resolved := Array.replicate 115 none
  statics := none }

def pool4 : Array CpInfo := pool [(1, .methodref 2 3), (0, .class_ 4), (0, .nameAndType 5 6), (0, u "java/lang/Object"), (0, u "<init>"), (0, u "()V"), (1, .class_ 10), (1, u "java/util/AbstractCollection"), (66, .class_ 78), (0, u "java/util/Collection")] 81

def k4c0 : Code := { maxStack := 1, maxLocals := 1, code := jdk_22_method_1_code, exceptionTable := #[], attributes := #[] }
def k4m0 : Method := { name := "<init>", desc := "()V", sig := { parameters := [], returnType := none }, accessFlags := 4, code := some k4c0 }
/-- java/util/AbstractCollection -/
def k4 : Class := { plain "java/util/AbstractCollection" (some 0) with
  accessFlags := 1057
  interfaces := #[3]
  cf := some (fileOf pool4 8 #[] #[{ accessFlags := 4, nameIndex := 5, descriptorIndex := 6, attributes := #[] }] 1057 2 #[77] #[])
  fields := #[]
  methods := #[k4m0]
  instanceTypes := #[]
  staticTypes := #[]
  resolved := Array.replicate 160 none
  statics := none }

def pool5 : Array CpInfo := pool [(8, .class_ 10), (1, u "java/util/SequencedCollection"), (15, .class_ 27), (0, u "java/lang/Object"), (0, .class_ 29), (0, u "java/util/Collection")] 27

/-- java/util/SequencedCollection -/
def k5 : Class := { plain "java/util/SequencedCollection" (some 0) with
  accessFlags := 1537
  interfaces := #[3]
  cf := some (fileOf pool5 8 #[] #[] 1537 26 #[28] #[])
  fields := #[]
  methods := #[]
  instanceTypes := #[]
  staticTypes := #[]
  resolved := Array.replicate 57 none
  statics := none }

def pool6 : Array CpInfo := pool [(8, .class_ 10), (1, u "java/util/List"), (49, u "add"), (3, u "(Ljava/lang/Object;)Z"), (10, u "get"), (0, u "(I)Ljava/lang/Object;"), (2, u "size"), (0, u "()I"), (22, .class_ 104), (0, u "java/lang/Object"), (15, .class_ 121), (0, u "java/util/SequencedCollection")] 129

def k6m0 : Method := { name := "size", desc := "()I", sig := { parameters := [], returnType := some .int }, accessFlags := 1025, code := none }
def k6m1 : Method := { name := "add", desc := "(Ljava/lang/Object;)Z", sig := { parameters := [(.object "java/lang/Object")], returnType := some .boolean }, accessFlags := 1025, code := none }
def k6m2 : Method := { name := "get", desc := "(I)Ljava/lang/Object;", sig := { parameters := [.int], returnType := some (.object "java/lang/Object") }, accessFlags := 1025, code := none }
/-- java/util/List -/
def k6 : Class := { plain "java/util/List" (some 0) with
  accessFlags := 1537
  interfaces := #[5]
  cf := some (fileOf pool6 8 #[] #[{ accessFlags := 1025, nameIndex := 79, descriptorIndex := 80, attributes := #[] }, { accessFlags := 1025, nameIndex := 60, descriptorIndex := 64, attributes := #[] }, { accessFlags := 1025, nameIndex := 75, descriptorIndex := 76, attributes := #[] }] 1537 103 #[120] #[])
  fields := #[]
  methods := #[k6m0, k6m1, k6m2]
  instanceTypes := #[]
  staticTypes := #[]
  resolved := Array.replicate 251 none
  statics := none }

def pool7 : Array CpInfo := pool [(1, .methodref 2 3), (0, .class_ 4), (0, .nameAndType 5 6), (0, u "java/util/AbstractCollection"), (0, u "<init>"), (0, u "()V"), (0, .fieldref 8 9), (0, .class_ 10), (0, .nameAndType 11 12), (0, u "java/util/AbstractList"), (0, u "modCount"), (0, u "I"), (64, .class_ 78), (0, u "java/util/AbstractList$Itr"), (3, .class_ 83), (0, u "java/util/AbstractList$ListItr"), (9, .class_ 94), (0, u "java/util/AbstractList$RandomAccessSubList"), (3, .class_ 99), (0, u "java/util/AbstractList$SubList"), (33, .class_ 134), (0, u "java/util/List"), (73, .class_ 209), (0, u "java/util/AbstractList$SubList$1"), (0, .class_ 211), (0, u "java/util/AbstractList$RandomAccessSpliterator")] 6

def k7c0 : Code := { maxStack := 2, maxLocals := 1, code := jdk_39_method_1_code, exceptionTable := #[], attributes := #[] }
def k7m0 : Method := { name := "<init>", desc := "()V", sig := { parameters := [], returnType := none }, accessFlags := 4, code := some k7c0 }
/-- java/util/AbstractList -/
def k7 : Class := { plain "java/util/AbstractList" (some 4) with
  accessFlags := 1057
  interfaces := #[6]
  cf := some (fileOf pool7 8 #[.nestMembers #[93, 98, 208, 210, 82, 77]] #[{ accessFlags := 4, nameIndex := 5, descriptorIndex := 6, attributes := #[] }] 1057 2 #[133] #[{ accessFlags := 132, nameIndex := 11, descriptorIndex := 12, attributes := #[] }])
  fields := #[{ name := "modCount", type := .int, accessFlags := 132, slot := 0, constantValue := 0 }]
  methods := #[k7m0]
  instanceTypes := #[.int]
  staticTypes := #[]
  resolved := Array.replicate 218 none
  statics := none }

def pool8 : Array CpInfo := pool [(1, .class_ 2), (0, u "java/util/RandomAccess"), (0, .class_ 4), (0, u "java/lang/Object")] 2

/-- java/util/RandomAccess -/
def k8 : Class := { plain "java/util/RandomAccess" (some 0) with
  accessFlags := 1537
  interfaces := #[]
  cf := some (fileOf pool8 1 #[] #[] 1537 3 #[] #[])
  fields := #[]
  methods := #[]
  instanceTypes := #[]
  staticTypes := #[]
  resolved := Array.replicate 7 none
  statics := none }

def pool9 : Array CpInfo := pool [(1, .class_ 2), (0, u "java/lang/Cloneable"), (0, .class_ 4), (0, u "java/lang/Object")] 2

/-- java/lang/Cloneable -/
def k9 : Class := { plain "java/lang/Cloneable" (some 0) with
  accessFlags := 1537
  interfaces := #[]
  cf := some (fileOf pool9 1 #[] #[] 1537 3 #[] #[])
  fields := #[]
  methods := #[]
  instanceTypes := #[]
  staticTypes := #[]
  resolved := Array.replicate 7 none
  statics := none }

def pool10 : Array CpInfo := pool [(1, .class_ 2), (0, u "java/io/Serializable"), (0, .class_ 4), (0, u "java/lang/Object")] 2

/-- java/io/Serializable -/
def k10 : Class := { plain "java/io/Serializable" (some 0) with
  accessFlags := 1537
  interfaces := #[]
  cf := some (fileOf pool10 1 #[] #[] 1537 3 #[] #[])
  fields := #[]
  methods := #[]
  instanceTypes := #[]
  staticTypes := #[]
  resolved := Array.replicate 7 none
  statics := none }

def pool11 : Array CpInfo := pool [(1, .methodref 2 3), (0, .class_ 4), (0, .nameAndType 5 6), (0, u "java/util/AbstractList"), (0, u "<init>"), (0, u "()V"), (0, .class_ 8), (0, u "java/lang/Object"), (0, .fieldref 10 11), (0, .class_ 12), (0, .nameAndType 13 14), (0, u "java/util/ArrayList"), (0, u "elementData"), (0, u "[Ljava/lang/Object;"), (2, u "EMPTY_ELEMENTDATA"), (21, .fieldref 10 40), (0, .nameAndType 41 14), (0, u "DEFAULTCAPACITY_EMPTY_ELEMENTDATA"), (5, u "()[Ljava/lang/Object;"), (0, .fieldref 10 49), (0, .nameAndType 50 51), (0, u "size"), (0, u "I"), (11, .fieldref 10 64), (0, .nameAndType 65 51), (0, u "modCount"), (3, .methodref 10 70), (0, .nameAndType 71 72), (0, u "grow"), (0, u "(I)[Ljava/lang/Object;"), (6, .methodref 80 81), (0, .class_ 82), (0, .nameAndType 83 84), (0, u "java/lang/Math"), (0, u "max"), (0, u "(II)I"), (11, u "(Ljava/lang/Object;)Z"), (21, .methodref 119 120), (0, .class_ 121), (0, .nameAndType 122 84), (0, u "java/util/Objects"), (0, u "checkIndex"), (0, .methodref 10 124), (0, .nameAndType 13 125), (0, u "(I)Ljava/lang/Object;"), (3, .methodref 10 130), (0, .nameAndType 71 47), (0, .methodref 10 132), (0, .nameAndType 133 134), (0, u "add"), (0, u "(Ljava/lang/Object;[Ljava/lang/Object;I)V"), (13, .class_ 149), (0, u "java/util/List"), (36, u "()I"), (75, .class_ 263), (0, u "java/util/ArrayList$ListItr"), (3, .class_ 268), (0, u "java/util/ArrayList$Itr"), (7, .class_ 277), (0, u "java/util/ArrayList$SubList"), (12, .class_ 291), (0, u "java/util/ArrayList$ArrayListSpliterator"), (37, .class_ 330), (0, u "java/util/RandomAccess"), (0, .class_ 332), (0, u "java/lang/Cloneable"), (0, .class_ 334), (0, u "java/io/Serializable"), (0, u "serialVersionUID"), (0, u "J"), (3, u "DEFAULT_CAPACITY"), (40, u "get"), (118, .class_ 501), (0, u "java/util/ArrayList$SubList$2"), (0, .class_ 503), (0, u "java/util/ArrayList$SubList$1")] 5

def k11c0 : Code := { maxStack := 2, maxLocals := 1, code := jdk_38_method_2_code, exceptionTable := #[], attributes := #[] }
def k11m0 : Method := { name := "<init>", desc := "()V", sig := { parameters := [], returnType := none }, accessFlags := 1, code := some k11c0 }
def k11c1 : Code := { maxStack := 4, maxLocals := 4, code := jdk_38_method_6_code, exceptionTable := #[], attributes := #[] }
def k11m1 : Method := { name := "grow", desc := "(I)[Ljava/lang/Object;", sig := { parameters := [.int], returnType := some (.array (.object "java/lang/Object")) }, accessFlags := 2, code := some k11c1 }
def k11c2 : Code := { maxStack := 3, maxLocals := 1, code := jdk_38_method_7_code, exceptionTable := #[], attributes := #[] }
def k11m2 : Method := { name := "grow", desc := "()[Ljava/lang/Object;", sig := { parameters := [], returnType := some (.array (.object "java/lang/Object")) }, accessFlags := 2, code := some k11c2 }
def k11c3 : Code := { maxStack := 1, maxLocals := 1, code := jdk_38_method_8_code, exceptionTable := #[], attributes := #[] }
def k11m3 : Method := { name := "size", desc := "()I", sig := { parameters := [], returnType := some .int }, accessFlags := 1, code := some k11c3 }
def k11c4 : Code := { maxStack := 2, maxLocals := 2, code := jdk_38_method_18_code, exceptionTable := #[], attributes := #[] }
def k11m4 : Method := { name := "elementData", desc := "(I)Ljava/lang/Object;", sig := { parameters := [.int], returnType := some (.object "java/lang/Object") }, accessFlags := 0, code := some k11c4 }
def k11c5 : Code := { maxStack := 2, maxLocals := 2, code := jdk_38_method_20_code, exceptionTable := #[], attributes := #[] }
def k11m5 : Method := { name := "get", desc := "(I)Ljava/lang/Object;", sig := { parameters := [.int], returnType := some (.object "java/lang/Object") }, accessFlags := 1, code := some k11c5 }
def k11c6 : Code := { maxStack := 3, maxLocals := 4, code := jdk_38_method_24_code, exceptionTable := #[], attributes := #[] }
def k11m6 : Method := { name := "add", desc := "(Ljava/lang/Object;[Ljava/lang/Object;I)V", sig := { parameters := [(.object "java/lang/Object"), (.array (.object "java/lang/Object")), .int], returnType := none }, accessFlags := 2, code := some k11c6 }
def k11c7 : Code := { maxStack := 4, maxLocals := 2, code := jdk_38_method_25_code, exceptionTable := #[], attributes := #[] }
def k11m7 : Method := { name := "add", desc := "(Ljava/lang/Object;)Z", sig := { parameters := [(.object "java/lang/Object")], returnType := some .boolean }, accessFlags := 1, code := some k11c7 }
/-- java/util/ArrayList -/
def k11 : Class := { plain "java/util/ArrayList" (some 7) with
  accessFlags := 33
  interfaces := #[6, 8, 9, 10]
  cf := some (fileOf pool11 10 #[.nestMembers #[290, 276, 500, 502, 262, 267]] #[{ accessFlags := 1, nameIndex := 5, descriptorIndex := 6, attributes := #[] }, { accessFlags := 2, nameIndex := 71, descriptorIndex := 72, attributes := #[] }, { accessFlags := 2, nameIndex := 71, descriptorIndex := 47, attributes := #[] }, { accessFlags := 1, nameIndex := 50, descriptorIndex := 186, attributes := #[] }, { accessFlags := 0, nameIndex := 13, descriptorIndex := 125, attributes := #[] }, { accessFlags := 1, nameIndex := 381, descriptorIndex := 125, attributes := #[] }, { accessFlags := 2, nameIndex := 133, descriptorIndex := 134, attributes := #[] }, { accessFlags := 1, nameIndex := 133, descriptorIndex := 96, attributes := #[] }] 33 2 #[148, 329, 331, 333] #[{ accessFlags := 26, nameIndex := 335, descriptorIndex := 336, attributes := #[] }, { accessFlags := 26, nameIndex := 340, descriptorIndex := 51, attributes := #[] }, { accessFlags := 26, nameIndex := 17, descriptorIndex := 14, attributes := #[] }, { accessFlags := 26, nameIndex := 41, descriptorIndex := 14, attributes := #[] }, { accessFlags := 128, nameIndex := 13, descriptorIndex := 14, attributes := #[] }, { accessFlags := 2, nameIndex := 50, descriptorIndex := 51, attributes := #[] }])
  fields := #[{ name := "serialVersionUID", type := .long, accessFlags := 26, slot := 0, constantValue := 0 }, { name := "DEFAULT_CAPACITY", type := .int, accessFlags := 26, slot := 1, constantValue := 0 }, { name := "EMPTY_ELEMENTDATA", type := (.array (.object "java/lang/Object")), accessFlags := 26, slot := 2, constantValue := 0 }, { name := "DEFAULTCAPACITY_EMPTY_ELEMENTDATA", type := (.array (.object "java/lang/Object")), accessFlags := 26, slot := 3, constantValue := 0 }, { name := "elementData", type := (.array (.object "java/lang/Object")), accessFlags := 128, slot := 1, constantValue := 0 }, { name := "size", type := .int, accessFlags := 2, slot := 2, constantValue := 0 }]
  methods := #[k11m0, k11m1, k11m2, k11m3, k11m4, k11m5, k11m6, k11m7]
  instanceTypes := #[.int, (.array (.object "java/lang/Object")), .int]
  staticTypes := #[.long, .int, (.array (.object "java/lang/Object")), (.array (.object "java/lang/Object"))]
  resolved := Array.replicate 509 none
  statics := some 0 }

def pool12 : Array CpInfo := pool [(1, .methodref 2 3), (0, .class_ 4), (0, .nameAndType 5 6), (0, u "java/lang/Object"), (0, u "<init>"), (0, u "()V"), (0, .fieldref 8 9), (0, .class_ 10), (0, .nameAndType 11 12), (0, u "com/example/grenoble/grenoble/tla/Token"), (0, u "kind"), (0, u "Lcom/example/grenoble/grenoble/tla/Token$Kind;"), (0, .fieldref 8 14), (0, .nameAndType 15 16), (0, u "text"), (0, u "Ljava/lang/String;"), (0, .fieldref 8 18), (0, .nameAndType 19 20), (0, u "line"), (0, u "I"), (0, .fieldref 8 22), (0, .nameAndType 23 20), (0, u "column"), (1, .class_ 27), (1, u "com/example/grenoble/grenoble/tla/Token$Kind"), (38, u "(Lcom/example/grenoble/grenoble/tla/Token$Kind;Ljava/lang/String;II)V"), (2, u "()Lcom/example/grenoble/grenoble/tla/Token$Kind;"), (1, u "()I")] 32

def k12c0 : Code := { maxStack := 2, maxLocals := 5, code := prog_150_method_1_code, exceptionTable := #[], attributes := #[] }
def k12m0 : Method := { name := "<init>", desc := "(Lcom/example/grenoble/grenoble/tla/Token$Kind;Ljava/lang/String;II)V", sig := { parameters := [(.object "com/example/grenoble/grenoble/tla/Token$Kind"), (.object "java/lang/String"), .int, .int], returnType := none }, accessFlags := 0, code := some k12c0 }
def k12c1 : Code := { maxStack := 1, maxLocals := 1, code := prog_150_method_2_code, exceptionTable := #[], attributes := #[] }
def k12m1 : Method := { name := "kind", desc := "()Lcom/example/grenoble/grenoble/tla/Token$Kind;", sig := { parameters := [], returnType := some (.object "com/example/grenoble/grenoble/tla/Token$Kind") }, accessFlags := 0, code := some k12c1 }
def k12c2 : Code := { maxStack := 1, maxLocals := 1, code := prog_150_method_4_code, exceptionTable := #[], attributes := #[] }
def k12m2 : Method := { name := "line", desc := "()I", sig := { parameters := [], returnType := some .int }, accessFlags := 0, code := some k12c2 }
def k12c3 : Code := { maxStack := 1, maxLocals := 1, code := prog_150_method_5_code, exceptionTable := #[], attributes := #[] }
def k12m3 : Method := { name := "column", desc := "()I", sig := { parameters := [], returnType := some .int }, accessFlags := 0, code := some k12c3 }
/-- com/example/grenoble/grenoble/tla/Token -/
def k12 : Class := { plain "com/example/grenoble/grenoble/tla/Token" (some 0) with
  accessFlags := 48
  interfaces := #[]
  cf := some (fileOf pool12 8 #[.nestMembers #[25]] #[{ accessFlags := 0, nameIndex := 5, descriptorIndex := 66, attributes := #[] }, { accessFlags := 0, nameIndex := 11, descriptorIndex := 69, attributes := #[] }, { accessFlags := 0, nameIndex := 19, descriptorIndex := 71, attributes := #[] }, { accessFlags := 0, nameIndex := 23, descriptorIndex := 71, attributes := #[] }] 48 2 #[] #[{ accessFlags := 18, nameIndex := 11, descriptorIndex := 12, attributes := #[] }, { accessFlags := 18, nameIndex := 15, descriptorIndex := 16, attributes := #[] }, { accessFlags := 18, nameIndex := 19, descriptorIndex := 20, attributes := #[] }, { accessFlags := 18, nameIndex := 23, descriptorIndex := 20, attributes := #[] }])
  fields := #[{ name := "kind", type := (.object "com/example/grenoble/grenoble/tla/Token$Kind"), accessFlags := 18, slot := 0, constantValue := 0 }, { name := "text", type := (.object "java/lang/String"), accessFlags := 18, slot := 1, constantValue := 0 }, { name := "line", type := .int, accessFlags := 18, slot := 2, constantValue := 0 }, { name := "column", type := .int, accessFlags := 18, slot := 3, constantValue := 0 }]
  methods := #[k12m0, k12m1, k12m2, k12m3]
  instanceTypes := #[(.object "com/example/grenoble/grenoble/tla/Token$Kind"), (.object "java/lang/String"), .int, .int]
  staticTypes := #[]
  resolved := Array.replicate 104 none
  statics := none }

def pool13 : Array CpInfo := pool [(1, .class_ 2), (0, u "java/lang/constant/Constable"), (0, .class_ 4), (0, u "java/lang/Object")] 6

/-- java/lang/constant/Constable -/
def k13 : Class := { plain "java/lang/constant/Constable" (some 0) with
  accessFlags := 1537
  interfaces := #[]
  cf := some (fileOf pool13 1 #[] #[] 1537 3 #[] #[])
  fields := #[]
  methods := #[]
  instanceTypes := #[]
  staticTypes := #[]
  resolved := Array.replicate 11 none
  statics := none }

def pool14 : Array CpInfo := pool [(1, .class_ 2), (0, u "java/lang/Comparable"), (0, .class_ 4), (0, u "java/lang/Object")] 7

/-- java/lang/Comparable -/
def k14 : Class := { plain "java/lang/Comparable" (some 0) with
  accessFlags := 1537
  interfaces := #[]
  cf := some (fileOf pool14 1 #[] #[] 1537 3 #[] #[])
  fields := #[]
  methods := #[]
  instanceTypes := #[]
  staticTypes := #[]
  resolved := Array.replicate 12 none
  statics := none }

def pool15 : Array CpInfo := pool [(2, .class_ 4), (1, u "java/lang/Enum"), (0, u "name"), (0, u "Ljava/lang/String;"), (2, u "ordinal"), (0, u "I"), (1, .class_ 14), (1, u "java/lang/Object"), (4, u "hash"), (86, .class_ 108), (1, u "java/lang/Enum$EnumDesc"), (2, .class_ 112), (0, u "java/lang/constant/Constable"), (0, .class_ 114), (0, u "java/lang/Comparable"), (0, .class_ 116), (0, u "java/io/Serializable")] 87

/-- java/lang/Enum -/
def k15 : Class := { plain "java/lang/Enum" (some 0) with
  accessFlags := 1057
  interfaces := #[13, 14, 10]
  cf := some (fileOf pool15 2 #[.nestMembers #[106]] #[] 1057 12 #[111, 113, 115] #[{ accessFlags := 18, nameIndex := 5, descriptorIndex := 6, attributes := #[] }, { accessFlags := 18, nameIndex := 9, descriptorIndex := 10, attributes := #[] }, { accessFlags := 2, nameIndex := 19, descriptorIndex := 10, attributes := #[] }])
  fields := #[{ name := "name", type := (.object "java/lang/String"), accessFlags := 18, slot := 0, constantValue := 0 }, { name := "ordinal", type := .int, accessFlags := 18, slot := 1, constantValue := 0 }, { name := "hash", type := .int, accessFlags := 2, slot := 2, constantValue := 0 }]
  methods := #[]
  instanceTypes := #[(.object "java/lang/String"), .int, .int]
  staticTypes := #[]
  resolved := Array.replicate 204 none
  statics := none }

def pool16 : Array CpInfo := pool [(1, .class_ 2), (0, u "com/example/grenoble/grenoble/tla/Token$Kind"), (2, u "NAME"), (0, u "Lcom/example/grenoble/grenoble/tla/Token$Kind;"), (2, u "NUMBER"), (2, u "STRING"), (2, u "SYMBOL"), (2, u "END"), (2, u "$VALUES"), (0, u "[Lcom/example/grenoble/grenoble/tla/Token$Kind;"), (6, .class_ 31), (1, u "java/lang/Enum"), (28, .class_ 61), (0, u "com/example/grenoble/grenoble/tla/Token")] 2

/-- com/example/grenoble/grenoble/tla/Token$Kind -/
def k16 : Class := { plain "com/example/grenoble/grenoble/tla/Token$Kind" (some 15) with
  accessFlags := 16432
  interfaces := #[]
  cf := some (fileOf pool16 1 #[.nestHost 60] #[] 16432 29 #[] #[{ accessFlags := 16409, nameIndex := 5, descriptorIndex := 6, attributes := #[] }, { accessFlags := 16409, nameIndex := 9, descriptorIndex := 6, attributes := #[] }, { accessFlags := 16409, nameIndex := 12, descriptorIndex := 6, attributes := #[] }, { accessFlags := 16409, nameIndex := 15, descriptorIndex := 6, attributes := #[] }, { accessFlags := 16409, nameIndex := 18, descriptorIndex := 6, attributes := #[] }, { accessFlags := 4122, nameIndex := 21, descriptorIndex := 22, attributes := #[] }])
  fields := #[{ name := "NAME", type := (.object "com/example/grenoble/grenoble/tla/Token$Kind"), accessFlags := 16409, slot := 0, constantValue := 0 }, { name := "NUMBER", type := (.object "com/example/grenoble/grenoble/tla/Token$Kind"), accessFlags := 16409, slot := 1, constantValue := 0 }, { name := "STRING", type := (.object "com/example/grenoble/grenoble/tla/Token$Kind"), accessFlags := 16409, slot := 2, constantValue := 0 }, { name := "SYMBOL", type := (.object "com/example/grenoble/grenoble/tla/Token$Kind"), accessFlags := 16409, slot := 3, constantValue := 0 }, { name := "END", type := (.object "com/example/grenoble/grenoble/tla/Token$Kind"), accessFlags := 16409, slot := 4, constantValue := 0 }, { name := "$VALUES", type := (.array (.object "com/example/grenoble/grenoble/tla/Token$Kind")), accessFlags := 4122, slot := 5, constantValue := 0 }]
  methods := #[]
  instanceTypes := #[(.object "java/lang/String"), .int, .int]
  staticTypes := #[(.object "com/example/grenoble/grenoble/tla/Token$Kind"), (.object "com/example/grenoble/grenoble/tla/Token$Kind"), (.object "com/example/grenoble/grenoble/tla/Token$Kind"), (.object "com/example/grenoble/grenoble/tla/Token$Kind"), (.object "com/example/grenoble/grenoble/tla/Token$Kind"), (.array (.object "com/example/grenoble/grenoble/tla/Token$Kind"))]
  resolved := Array.replicate 64 none
  statics := some 1 }

def pool17 : Array CpInfo := pool [(2, .class_ 4), (1, u "java/lang/CharSequence"), (42, .class_ 48), (0, u "java/lang/CharSequence$1CodePointIterator"), (10, .class_ 60), (0, u "java/lang/CharSequence$1CharIterator"), (5, .class_ 67), (0, u "java/lang/Object")] 63

/-- java/lang/CharSequence -/
def k17 : Class := { plain "java/lang/CharSequence" (some 0) with
  accessFlags := 1537
  interfaces := #[]
  cf := some (fileOf pool17 2 #[.nestMembers #[47, 59]] #[] 1537 66 #[] #[])
  fields := #[]
  methods := #[]
  instanceTypes := #[]
  staticTypes := #[]
  resolved := Array.replicate 131 none
  statics := none }

def pool18 : Array CpInfo := pool [(1, .class_ 2), (0, u "java/lang/constant/ConstantDesc"), (0, .class_ 4), (0, u "java/lang/Object")] 32

/-- java/lang/constant/ConstantDesc -/
def k18 : Class := { plain "java/lang/constant/ConstantDesc" (some 0) with
  accessFlags := 1537
  interfaces := #[]
  cf := some (fileOf pool18 1 #[] #[] 1537 3 #[] #[])
  fields := #[]
  methods := #[]
  instanceTypes := #[]
  staticTypes := #[]
  resolved := Array.replicate 37 none
  statics := none }

def pool19 : Array CpInfo := pool [(2, .class_ 4), (1, u "java/lang/Object"), (0, u "<init>"), (0, u "()V"), (3, .class_ 12), (1, u "java/lang/String"), (0, u "value"), (0, u "[B"), (2, u "coder"), (0, u "B"), (2, u "hash"), (0, u "I"), (2, u "hashIsZero"), (0, u "Z"), (13, u "COMPACT_STRINGS"), (534, .class_ 576), (0, u "java/lang/CharSequence"), (22, u "CASE_INSENSITIVE_ORDER"), (0, u "Ljava/util/Comparator;"), (500, u "serialPersistentFields"), (0, u "[Ljava/io/ObjectStreamField;"), (0, .class_ 1104), (0, u "java/lang/String$CaseInsensitiveComparator"), (1, .class_ 1107), (0, u "java/io/Serializable"), (0, .class_ 1109), (0, u "java/lang/Comparable"), (0, .class_ 1111), (0, u "java/lang/constant/Constable"), (0, .class_ 1113), (0, u "java/lang/constant/ConstantDesc"), (2, u "serialVersionUID"), (0, u "J"), (3, u "REPL"), (0, u "C"), (2, u "LATIN1"), (1, u "UTF16")] 323

def k19m0 : Method := { name := "<init>", desc := "()V", sig := { parameters := [], returnType := none }, accessFlags := 1, code := none }
/-- java/lang/String -/
def k19 : Class := { plain "java/lang/String" (some 0) with
  accessFlags := 49
  interfaces := #[10, 14, 17, 13, 18]
  cf := some (fileOf pool19 10 #[.nestMembers #[1103]] #[{ accessFlags := 1, nameIndex := 5, descriptorIndex := 6, attributes := #[] }] 49 2 #[1106, 1108, 575, 1110, 1112] #[{ accessFlags := 18, nameIndex := 13, descriptorIndex := 14, attributes := #[] }, { accessFlags := 18, nameIndex := 17, descriptorIndex := 18, attributes := #[] }, { accessFlags := 2, nameIndex := 21, descriptorIndex := 22, attributes := #[] }, { accessFlags := 2, nameIndex := 25, descriptorIndex := 26, attributes := #[] }, { accessFlags := 26, nameIndex := 1116, descriptorIndex := 1117, attributes := #[] }, { accessFlags := 24, nameIndex := 40, descriptorIndex := 26, attributes := #[] }, { accessFlags := 26, nameIndex := 1101, descriptorIndex := 1102, attributes := #[] }, { accessFlags := 26, nameIndex := 1121, descriptorIndex := 1122, attributes := #[] }, { accessFlags := 25, nameIndex := 599, descriptorIndex := 600, attributes := #[] }, { accessFlags := 24, nameIndex := 1125, descriptorIndex := 18, attributes := #[] }, { accessFlags := 24, nameIndex := 1127, descriptorIndex := 18, attributes := #[] }])
  fields := #[{ name := "value", type := (.array .byte), accessFlags := 18, slot := 0, constantValue := 0 }, { name := "coder", type := .byte, accessFlags := 18, slot := 1, constantValue := 0 }, { name := "hash", type := .int, accessFlags := 2, slot := 2, constantValue := 0 }, { name := "hashIsZero", type := .boolean, accessFlags := 2, slot := 3, constantValue := 0 }, { name := "serialVersionUID", type := .long, accessFlags := 26, slot := 0, constantValue := 0 }, { name := "COMPACT_STRINGS", type := .boolean, accessFlags := 24, slot := 1, constantValue := 0 }, { name := "serialPersistentFields", type := (.array (.object "java/io/ObjectStreamField")), accessFlags := 26, slot := 2, constantValue := 0 }, { name := "REPL", type := .char, accessFlags := 26, slot := 3, constantValue := 0 }, { name := "CASE_INSENSITIVE_ORDER", type := (.object "java/util/Comparator"), accessFlags := 25, slot := 4, constantValue := 0 }, { name := "LATIN1", type := .byte, accessFlags := 24, slot := 5, constantValue := 0 }, { name := "UTF16", type := .byte, accessFlags := 24, slot := 6, constantValue := 0 }]
  methods := #[k19m0]
  instanceTypes := #[(.array .byte), .byte, .int, .boolean]
  staticTypes := #[.long, .boolean, (.array (.object "java/io/ObjectStreamField")), .char, (.object "java/util/Comparator"), .byte, .byte]
  resolved := Array.replicate 1451 none
  statics := none }

def pool20 : Array CpInfo := pool [(1, .class_ 2), (0, u "java/lang/Math"), (1, .class_ 6), (1, u "java/lang/Object"), (0, u "<init>"), (0, u "()V"), (89, .class_ 100), (1, u "java/lang/Math$RandomNumberGeneratorHolder"), (71, u "negativeZeroFloatBits"), (0, u "J"), (2, u "negativeZeroDoubleBits"), (21, u "max"), (2, u "min"), (43, u "$assertionsDisabled"), (0, u "Z"), (88, u "(II)I"), (2, u "twoToTheDoubleScaleDown"), (0, u "D"), (4, u "twoToTheDoubleScaleUp"), (9, u "E"), (3, u "PI"), (2, u "TAU"), (2, u "DEGREES_TO_RADIANS"), (0, u "RADIANS_TO_DEGREES")] 94

def k20m0 : Method := { name := "<init>", desc := "()V", sig := { parameters := [], returnType := none }, accessFlags := 2, code := none }
def k20c1 : Code := { maxStack := 2, maxLocals := 2, code := jdk_29_method_65_code, exceptionTable := #[], attributes := #[] }
def k20m1 : Method := { name := "max", desc := "(II)I", sig := { parameters := [.int, .int], returnType := some .int }, accessFlags := 9, code := some k20c1 }
def k20c2 : Code := { maxStack := 2, maxLocals := 2, code := jdk_29_method_69_code, exceptionTable := #[], attributes := #[] }
def k20m2 : Method := { name := "min", desc := "(II)I", sig := { parameters := [.int, .int], returnType := some .int }, accessFlags := 9, code := some k20c2 }
/-- java/lang/Math -/
def k20 : Class := { plain "java/lang/Math" (some 0) with
  accessFlags := 49
  interfaces := #[]
  cf := some (fileOf pool20 1 #[.nestMembers #[98]] #[{ accessFlags := 2, nameIndex := 7, descriptorIndex := 8, attributes := #[] }, { accessFlags := 9, nameIndex := 198, descriptorIndex := 335, attributes := #[] }, { accessFlags := 9, nameIndex := 201, descriptorIndex := 335, attributes := #[] }] 49 4 #[] #[{ accessFlags := 25, nameIndex := 354, descriptorIndex := 339, attributes := #[] }, { accessFlags := 25, nameIndex := 358, descriptorIndex := 339, attributes := #[] }, { accessFlags := 25, nameIndex := 361, descriptorIndex := 339, attributes := #[] }, { accessFlags := 26, nameIndex := 364, descriptorIndex := 339, attributes := #[] }, { accessFlags := 26, nameIndex := 365, descriptorIndex := 339, attributes := #[] }, { accessFlags := 26, nameIndex := 172, descriptorIndex := 173, attributes := #[] }, { accessFlags := 26, nameIndex := 176, descriptorIndex := 173, attributes := #[] }, { accessFlags := 8, nameIndex := 344, descriptorIndex := 339, attributes := #[] }, { accessFlags := 8, nameIndex := 338, descriptorIndex := 339, attributes := #[] }, { accessFlags := 4120, nameIndex := 245, descriptorIndex := 246, attributes := #[] }])
  fields := #[{ name := "E", type := .double, accessFlags := 25, slot := 0, constantValue := 0 }, { name := "PI", type := .double, accessFlags := 25, slot := 1, constantValue := 0 }, { name := "TAU", type := .double, accessFlags := 25, slot := 2, constantValue := 0 }, { name := "DEGREES_TO_RADIANS", type := .double, accessFlags := 26, slot := 3, constantValue := 0 }, { name := "RADIANS_TO_DEGREES", type := .double, accessFlags := 26, slot := 4, constantValue := 0 }, { name := "negativeZeroFloatBits", type := .long, accessFlags := 26, slot := 5, constantValue := 0 }, { name := "negativeZeroDoubleBits", type := .long, accessFlags := 26, slot := 6, constantValue := 0 }, { name := "twoToTheDoubleScaleUp", type := .double, accessFlags := 8, slot := 7, constantValue := 0 }, { name := "twoToTheDoubleScaleDown", type := .double, accessFlags := 8, slot := 8, constantValue := 0 }, { name := "$assertionsDisabled", type := .boolean, accessFlags := 4120, slot := 9, constantValue := 0 }]
  methods := #[k20m0, k20m1, k20m2]
  instanceTypes := #[]
  staticTypes := #[.double, .double, .double, .double, .double, .long, .long, .double, .double, .boolean]
  resolved := Array.replicate 460 none
  statics := none }

def pool21 : Array CpInfo := pool [(1, .methodref 2 3), (0, .class_ 4), (0, .nameAndType 5 6), (0, u "java/lang/Object"), (0, u "<init>"), (0, u "()V"), (0, .fieldref 8 9), (0, .class_ 10), (0, .nameAndType 11 12), (0, u "com/example/grenoble/grenoble/tla/TokenCursor"), (0, u "fence"), (0, u "I"), (0, .fieldref 8 14), (0, .nameAndType 15 16), (0, u "file"), (0, u "Ljava/lang/String;"), (0, .fieldref 8 18), (0, .nameAndType 19 20), (0, u "tokens"), (0, u "Ljava/util/List;"), (0, .fieldref 8 22), (0, .nameAndType 23 12), (0, u "next"), (0, .interfaceMethodref 25 26), (0, .class_ 27), (0, .nameAndType 28 29), (0, u "java/util/List"), (0, u "size"), (0, u "()I"), (0, .methodref 31 32), (0, .class_ 33), (0, .nameAndType 34 35), (0, u "java/lang/Math"), (0, u "min"), (0, u "(II)I"), (0, .interfaceMethodref 25 37), (0, .nameAndType 38 39), (0, u "get"), (0, u "(I)Ljava/lang/Object;"), (0, .class_ 41), (0, u "com/example/grenoble/grenoble/tla/Token"), (0, .methodref 40 43), (0, .nameAndType 44 45), (0, u "kind"), (0, u "()Lcom/example/grenoble/grenoble/tla/Token$Kind;"), (0, .fieldref 47 48), (0, .class_ 49), (0, .nameAndType 50 51), (0, u "com/example/grenoble/grenoble/tla/Token$Kind"), (0, u "END"), (0, u "Lcom/example/grenoble/grenoble/tla/Token$Kind;"), (0, .methodref 40 53), (0, .nameAndType 54 29), (0, u "column"), (0, .string 56), (0, u "list item"), (0, .methodref 40 58), (0, .nameAndType 59 29), (0, u "line"), (0, .methodref 40 61), (0, .nameAndType 5 62), (0, u "(Lcom/example/grenoble/grenoble/tla/Token$Kind;Ljava/lang/String;II)V"), (0, .methodref 8 64), (0, .nameAndType 65 66), (0, u "peek"), (0, u "(I)Lcom/example/grenoble/grenoble/tla/Token;"), (2, u "()Lcom/example/grenoble/grenoble/tla/Token;"), (26, u "(Ljava/lang/String;Ljava/util/List;)V"), (8, u "(I)I")] 18

def k21c0 : Code := { maxStack := 2, maxLocals := 3, code := prog_152_method_1_code, exceptionTable := #[], attributes := #[] }
def k21m0 : Method := { name := "<init>", desc := "(Ljava/lang/String;Ljava/util/List;)V", sig := { parameters := [(.object "java/lang/String"), (.object "java/util/List")], returnType := none }, accessFlags := 0, code := some k21c0 }
def k21c1 : Code := { maxStack := 6, maxLocals := 3, code := prog_152_method_3_code, exceptionTable := #[], attributes := #[] }
def k21m1 : Method := { name := "peek", desc := "(I)Lcom/example/grenoble/grenoble/tla/Token;", sig := { parameters := [.int], returnType := some (.object "com/example/grenoble/grenoble/tla/Token") }, accessFlags := 0, code := some k21c1 }
def k21c2 : Code := { maxStack := 2, maxLocals := 1, code := prog_152_method_4_code, exceptionTable := #[], attributes := #[] }
def k21m2 : Method := { name := "peek", desc := "()Lcom/example/grenoble/grenoble/tla/Token;", sig := { parameters := [], returnType := some (.object "com/example/grenoble/grenoble/tla/Token") }, accessFlags := 0, code := some k21c2 }
def k21c3 : Code := { maxStack := 2, maxLocals := 3, code := prog_152_method_8_code, exceptionTable := #[], attributes := #[] }
def k21m3 : Method := { name := "fence", desc := "(I)I", sig := { parameters := [.int], returnType := some .int }, accessFlags := 0, code := some k21c3 }
/-- com/example/grenoble/grenoble/tla/TokenCursor -/
def k21 : Class := { plain "com/example/grenoble/grenoble/tla/TokenCursor" (some 0) with
  accessFlags := 48
  interfaces := #[]
  cf := some (fileOf pool21 8 #[] #[{ accessFlags := 0, nameIndex := 5, descriptorIndex := 96, attributes := #[] }, { accessFlags := 0, nameIndex := 65, descriptorIndex := 66, attributes := #[] }, { accessFlags := 0, nameIndex := 65, descriptorIndex := 69, attributes := #[] }, { accessFlags := 0, nameIndex := 11, descriptorIndex := 105, attributes := #[] }] 48 2 #[] #[{ accessFlags := 18, nameIndex := 15, descriptorIndex := 16, attributes := #[] }, { accessFlags := 18, nameIndex := 19, descriptorIndex := 20, attributes := #[] }, { accessFlags := 2, nameIndex := 23, descriptorIndex := 12, attributes := #[] }, { accessFlags := 2, nameIndex := 11, descriptorIndex := 12, attributes := #[] }])
  fields := #[{ name := "file", type := (.object "java/lang/String"), accessFlags := 18, slot := 0, constantValue := 0 }, { name := "tokens", type := (.object "java/util/List"), accessFlags := 18, slot := 1, constantValue := 0 }, { name := "next", type := .int, accessFlags := 2, slot := 2, constantValue := 0 }, { name := "fence", type := .int, accessFlags := 2, slot := 3, constantValue := 0 }]
  methods := #[k21m0, k21m1, k21m2, k21m3]
  instanceTypes := #[(.object "java/lang/String"), (.object "java/util/List"), .int, .int]
  staticTypes := #[]
  resolved := Array.replicate 124 none
  statics := none }

def pool22 : Array CpInfo := pool [(2, .class_ 4), (1, u "java/lang/Object"), (0, u "<init>"), (0, u "()V"), (35, .class_ 44), (1, u "java/util/Objects"), (60, .methodref 106 107), (0, .class_ 108), (0, .nameAndType 109 110), (0, u "jdk/internal/util/Preconditions"), (0, u "checkIndex"), (0, u "(IILjava/util/function/BiFunction;)I"), (60, u "(II)I")] 12

def k22m0 : Method := { name := "<init>", desc := "()V", sig := { parameters := [], returnType := none }, accessFlags := 2, code := none }
def k22c1 : Code := { maxStack := 3, maxLocals := 2, code := jdk_31_method_17_code, exceptionTable := #[], attributes := #[] }
def k22m1 : Method := { name := "checkIndex", desc := "(II)I", sig := { parameters := [.int, .int], returnType := some .int }, accessFlags := 9, code := some k22c1 }
/-- java/util/Objects -/
def k22 : Class := { plain "java/util/Objects" (some 0) with
  accessFlags := 49
  interfaces := #[]
  cf := some (fileOf pool22 42 #[] #[{ accessFlags := 2, nameIndex := 5, descriptorIndex := 6, attributes := #[] }, { accessFlags := 9, nameIndex := 109, descriptorIndex := 171, attributes := #[] }] 49 2 #[] #[])
  fields := #[]
  methods := #[k22m0, k22m1]
  instanceTypes := #[]
  staticTypes := #[]
  resolved := Array.replicate 184 none
  statics := none }

def pool23 : Array CpInfo := pool [(2, .class_ 4), (1, u "java/lang/Object"), (0, u "<init>"), (0, u "()V"), (17, .class_ 26), (1, u "jdk/internal/util/Preconditions"), (6, u "checkIndex"), (21, .class_ 56), (0, u "jdk/internal/util/Preconditions$4"), (57, .class_ 115), (0, u "jdk/internal/util/Preconditions$1"), (7, u "SIOOBE_FORMATTER"), (0, u "Ljava/util/function/BiFunction;"), (0, .class_ 126), (0, u "jdk/internal/util/Preconditions$2"), (3, u "AIOOBE_FORMATTER"), (0, .class_ 132), (0, u "jdk/internal/util/Preconditions$3"), (3, u "IOOBE_FORMATTER"), (41, u "(IILjava/util/function/BiFunction;)I")] 15

def k23m0 : Method := { name := "<init>", desc := "()V", sig := { parameters := [], returnType := none }, accessFlags := 1, code := none }
def k23c1 : Code := { maxStack := 3, maxLocals := 3, code := jdk_41_method_11_code, exceptionTable := #[], attributes := #[] }
def k23m1 : Method := { name := "checkIndex", desc := "(IILjava/util/function/BiFunction;)I", sig := { parameters := [.int, .int, (.object "java/util/function/BiFunction")], returnType := some .int }, accessFlags := 9, code := some k23c1 }
/-- jdk/internal/util/Preconditions -/
def k23 : Class := { plain "jdk/internal/util/Preconditions" (some 0) with
  accessFlags := 33
  interfaces := #[]
  cf := some (fileOf pool23 24 #[.nestMembers #[55, 131, 125, 114]] #[{ accessFlags := 1, nameIndex := 5, descriptorIndex := 6, attributes := #[] }, { accessFlags := 9, nameIndex := 33, descriptorIndex := 178, attributes := #[] }] 33 2 #[] #[{ accessFlags := 25, nameIndex := 123, descriptorIndex := 124, attributes := #[] }, { accessFlags := 25, nameIndex := 130, descriptorIndex := 124, attributes := #[] }, { accessFlags := 25, nameIndex := 136, descriptorIndex := 124, attributes := #[] }])
  fields := #[{ name := "SIOOBE_FORMATTER", type := (.object "java/util/function/BiFunction"), accessFlags := 25, slot := 0, constantValue := 0 }, { name := "AIOOBE_FORMATTER", type := (.object "java/util/function/BiFunction"), accessFlags := 25, slot := 1, constantValue := 0 }, { name := "IOOBE_FORMATTER", type := (.object "java/util/function/BiFunction"), accessFlags := 25, slot := 2, constantValue := 0 }]
  methods := #[k23m0, k23m1]
  instanceTypes := #[]
  staticTypes := #[(.object "java/util/function/BiFunction"), (.object "java/util/function/BiFunction"), (.object "java/util/function/BiFunction")]
  resolved := Array.replicate 194 none
  statics := none }

/-- the primitive byte -/
def k24 : Class := { plain "byte" none with kind := .primitive 'B', accessFlags := 0x411 }
/-- [B -/
def k25 : Class := { plain "[B" (some 0) with kind := .array 24 .byte, interfaces := #[9, 10], accessFlags := 1041 }

/-- the primitive int -/
def k26 : Class := { plain "int" none with kind := .primitive 'I', accessFlags := 0x411 }
/-- [I -/
def k27 : Class := { plain "[I" (some 0) with kind := .array 26 .int, interfaces := #[9, 10], accessFlags := 1041 }

/-- [Ljava/lang/Object; -/
def k28 : Class := { plain "[Ljava/lang/Object;" (some 0) with kind := .array 0 (.object "java/lang/Object"), interfaces := #[9, 10], accessFlags := 1041 }

def heap : Heap := #[{ cls := 11, slots := #[.long 0, .int 0, .ref 4, .ref 5], vm := .statics 11 },
  { cls := 16, slots := #[.ref 2, .null, .null, .null, .ref 3, .null], vm := .statics 16 },
  { cls := 16, slots := #[.null, .int 0, .int 0], vm := .none },
  { cls := 16, slots := #[.null, .int 4, .int 0], vm := .none },
  { cls := 28, slots := #[], vm := .none },
  { cls := 28, slots := #[], vm := .none }]
def classes : Array Class := #[k0, k1, k2, k3, k4, k5, k6, k7, k8, k9, k10, k11, k12, k13, k14, k15, k16, k17, k18, k19, k20, k21, k22, k23, k24, k25, k26, k27, k28]
def interned : List (Array UInt16 × Addr) := []
def slotsUsed : Nat := 16
def theMethod : MethodId := ⟨1, 1⟩
def args0 : Array Value := #[.int 5, .int 6, .int 7, .int 8]
def aboutOver (below : List Frame) : State where
  vm := { classes := classes, interned := interned.toArray }
  heap := heap
  slotsUsed := slotsUsed
  threads := #[{ frames := .invoking theMethod args0 :: below }]
def below0 : List Frame := [.native { method := ⟨0, 0⟩, args := #[] }]
def about1 : State := aboutOver below0
def p0 : Program := .bare "" "" ""
def e0 : Env := launch0.env 0 0 0
theorem w_frames : about1.frames = Frame.invoking theMethod args0 :: below0 := rfl
set_option maxRecDepth 65536 in
theorem w_args : argsFit about1.vm theMethod args0 = true := by decide +kernel
set_option maxRecDepth 65536 in
theorem w_heap : heapFits about1 = true := by decide +kernel
set_option maxRecDepth 65536 in
theorem w_runnable : about1.curStatus? = some .runnable := by decide +kernel
set_option maxRecDepth 65536 in
theorem w_alone : about1.alone = true := by decide +kernel
set_option maxRecDepth 65536 in
theorem w_named : about1.methodNamed? x = some theMethod := by decide +kernel
set_option maxRecDepth 65536 in
theorem w_hears : about1.hears theMethod below0 = true := by decide +kernel
set_option maxRecDepth 65536 in
theorem w_ripe : about1.ripe theMethod args0 below0 = true := by decide +kernel
theorem w_running : about1.status = .running := rfl
set_option maxRecDepth 65536 in
theorem w_room : about1.hasRoom e0.platform room_1 = true :=
  launch0.hasRoom_least _ room_1 (by decide +kernel) (by decide +kernel) (by decide +kernel) (by decide +kernel) (by decide +kernel) (by decide +kernel)
theorem allAtoms_all (ts : List Jvm.Cond) (a : Array Jvm.Value) (st : Jvm.State) : (allAtoms ts).before a st = ts.all (fun c => c.before a st) := by
  induction ts with
  | nil => rfl
  | cons c t ih =>
    show (Jvm.Cond.and c (allAtoms t)).before a st = _
    rw [Jvm.Cond.before_and, ih, List.all_cons]
def words1 : List Jvm.Cond := Jvm.Cond.code x code maxLocals ret :: tables_1
/-- a 'code' word, met by the world's own term for the bytes: nothing is compared byte by byte -/
theorem code_word {y : MethodName} {bytes : ByteArray} {mx : Nat} {rt : Option FieldType} {a : Array Value} {s : State} {m : MethodId} {meth : Method} {c : Code} (h1 : s.methodNamed? y = some m) (h2 : s.vm.method? m = some meth) (h3 : meth.code = some c) (h4 : c.code = bytes)
    (h5 : (c.maxLocals == mx && c.exceptionTable.isEmpty && decide (c.maxStack ≤ mostOperands) && decide (meth.sig.returnType = rt) && !meth.locks && decide (parseMethodDescriptor y.desc = some meth.sig)) = true) : (Jvm.Cond.code y bytes mx rt).before a s = true := by
  simp only [Bool.and_eq_true, beq_iff_eq, Bool.not_eq_true', decide_eq_true_eq] at h5
  obtain ⟨⟨⟨⟨⟨g1, g2⟩, g3⟩, g4⟩, g5⟩, g6⟩ := h5
  simp [Cond.before, Cond.holds, Cond.value, h1, h2, h3, h4, g1, g2, g3, g4, g5, g6]
def isCode : Jvm.Cond → Bool
  | .code _ _ _ _ => true
  | _ => false
theorem all_split {L : List Jvm.Cond} {P : Jvm.Cond → Bool} (h1 : L.all (fun c => isCode c || P c) = true) (h2 : ∀ c ∈ L.filter isCode, P c = true) : L.all P = true := by
  refine List.all_eq_true.mpr fun c hc => ?_
  have h := List.all_eq_true.mp h1 c hc
  rcases Bool.eq_false_or_eq_true (isCode c) with hi | hi
  · exact h2 c (List.mem_filter.mpr ⟨hc, hi⟩)
  · simpa [hi] using h
set_option maxRecDepth 65536 in
theorem w_c0 : (Jvm.Cond.code x code maxLocals ret).before args0 about1 = true := code_word (m := ⟨1, 1⟩) (meth := k1m1) (c := k1c1) (by decide +kernel) rfl rfl rfl (by decide +kernel)
set_option maxRecDepth 65536 in
theorem w_c1 : (Jvm.Cond.code ({ cls := "java/util/ArrayList", name := "<init>", desc := "()V" } : Jvm.MethodName) jdk_38_method_2_code (1 : Nat) (Option.none : Option Jvm.ClassFile.FieldType)).before args0 about1 = true := code_word (m := ⟨11, 0⟩) (meth := k11m0) (c := k11c0) (by decide +kernel) rfl rfl rfl (by decide +kernel)
set_option maxRecDepth 65536 in
theorem w_c2 : (Jvm.Cond.code ({ cls := "java/util/AbstractList", name := "<init>", desc := "()V" } : Jvm.MethodName) jdk_39_method_1_code (1 : Nat) (Option.none : Option Jvm.ClassFile.FieldType)).before args0 about1 = true := code_word (m := ⟨7, 0⟩) (meth := k7m0) (c := k7c0) (by decide +kernel) rfl rfl rfl (by decide +kernel)
set_option maxRecDepth 65536 in
theorem w_c3 : (Jvm.Cond.code ({ cls := "java/util/AbstractCollection", name := "<init>", desc := "()V" } : Jvm.MethodName) jdk_22_method_1_code (1 : Nat) (Option.none : Option Jvm.ClassFile.FieldType)).before args0 about1 = true := code_word (m := ⟨4, 0⟩) (meth := k4m0) (c := k4c0) (by decide +kernel) rfl rfl rfl (by decide +kernel)
set_option maxRecDepth 65536 in
theorem w_c4 : (Jvm.Cond.code ({ cls := "java/lang/Object", name := "<init>", desc := "()V" } : Jvm.MethodName) object_method_1_code (1 : Nat) (Option.none : Option Jvm.ClassFile.FieldType)).before args0 about1 = true := code_word (m := ⟨0, 0⟩) (meth := k0m0) (c := k0c0) (by decide +kernel) rfl rfl rfl (by decide +kernel)
set_option maxRecDepth 65536 in
theorem w_c5 : (Jvm.Cond.code ({ cls := "com/example/grenoble/grenoble/tla/Token", name := "<init>", desc := "(Lcom/example/grenoble/grenoble/tla/Token$Kind;Ljava/lang/String;II)V" } : Jvm.MethodName) prog_150_method_1_code (5 : Nat) (Option.none : Option Jvm.ClassFile.FieldType)).before args0 about1 = true := code_word (m := ⟨12, 0⟩) (meth := k12m0) (c := k12c0) (by decide +kernel) rfl rfl rfl (by decide +kernel)
set_option maxRecDepth 65536 in
theorem w_c6 : (Jvm.Cond.code ({ cls := "java/util/ArrayList", name := "add", desc := "(Ljava/lang/Object;)Z" } : Jvm.MethodName) jdk_38_method_25_code (2 : Nat) (Option.some Jvm.ClassFile.FieldType.boolean)).before args0 about1 = true := code_word (m := ⟨11, 7⟩) (meth := k11m7) (c := k11c7) (by decide +kernel) rfl rfl rfl (by decide +kernel)
set_option maxRecDepth 65536 in
theorem w_c7 : (Jvm.Cond.code ({ cls := "java/util/ArrayList", name := "add", desc := "(Ljava/lang/Object;[Ljava/lang/Object;I)V" } : Jvm.MethodName) jdk_38_method_24_code (4 : Nat) (Option.none : Option Jvm.ClassFile.FieldType)).before args0 about1 = true := code_word (m := ⟨11, 6⟩) (meth := k11m6) (c := k11c6) (by decide +kernel) rfl rfl rfl (by decide +kernel)
set_option maxRecDepth 65536 in
theorem w_c8 : (Jvm.Cond.code ({ cls := "java/util/ArrayList", name := "grow", desc := "()[Ljava/lang/Object;" } : Jvm.MethodName) jdk_38_method_7_code (1 : Nat) (Option.some (Jvm.ClassFile.FieldType.array (Jvm.ClassFile.FieldType.object "java/lang/Object")))).before args0 about1 = true := code_word (m := ⟨11, 2⟩) (meth := k11m2) (c := k11c2) (by decide +kernel) rfl rfl rfl (by decide +kernel)
set_option maxRecDepth 65536 in
theorem w_c9 : (Jvm.Cond.code ({ cls := "java/util/ArrayList", name := "grow", desc := "(I)[Ljava/lang/Object;" } : Jvm.MethodName) jdk_38_method_6_code (4 : Nat) (Option.some (Jvm.ClassFile.FieldType.array (Jvm.ClassFile.FieldType.object "java/lang/Object")))).before args0 about1 = true := code_word (m := ⟨11, 1⟩) (meth := k11m1) (c := k11c1) (by decide +kernel) rfl rfl rfl (by decide +kernel)
set_option maxRecDepth 65536 in
theorem w_c10 : (Jvm.Cond.code ({ cls := "java/lang/Math", name := "max", desc := "(II)I" } : Jvm.MethodName) jdk_29_method_65_code (2 : Nat) (Option.some Jvm.ClassFile.FieldType.int)).before args0 about1 = true := code_word (m := ⟨20, 1⟩) (meth := k20m1) (c := k20c1) (by decide +kernel) rfl rfl rfl (by decide +kernel)
set_option maxRecDepth 65536 in
theorem w_c11 : (Jvm.Cond.code ({ cls := "com/example/grenoble/grenoble/tla/TokenCursor", name := "<init>", desc := "(Ljava/lang/String;Ljava/util/List;)V" } : Jvm.MethodName) prog_152_method_1_code (3 : Nat) (Option.none : Option Jvm.ClassFile.FieldType)).before args0 about1 = true := code_word (m := ⟨21, 0⟩) (meth := k21m0) (c := k21c0) (by decide +kernel) rfl rfl rfl (by decide +kernel)
set_option maxRecDepth 65536 in
theorem w_c12 : (Jvm.Cond.code ({ cls := "com/example/grenoble/grenoble/tla/TokenCursor", name := "fence", desc := "(I)I" } : Jvm.MethodName) prog_152_method_8_code (3 : Nat) (Option.some Jvm.ClassFile.FieldType.int)).before args0 about1 = true := code_word (m := ⟨21, 3⟩) (meth := k21m3) (c := k21c3) (by decide +kernel) rfl rfl rfl (by decide +kernel)
set_option maxRecDepth 65536 in
theorem w_c13 : (Jvm.Cond.code ({ cls := "com/example/grenoble/grenoble/tla/TokenCursor", name := "peek", desc := "()Lcom/example/grenoble/grenoble/tla/Token;" } : Jvm.MethodName) prog_152_method_4_code (1 : Nat) (Option.some (Jvm.ClassFile.FieldType.object "com/example/grenoble/grenoble/tla/Token"))).before args0 about1 = true := code_word (m := ⟨21, 2⟩) (meth := k21m2) (c := k21c2) (by decide +kernel) rfl rfl rfl (by decide +kernel)
set_option maxRecDepth 65536 in
theorem w_c14 : (Jvm.Cond.code ({ cls := "com/example/grenoble/grenoble/tla/TokenCursor", name := "peek", desc := "(I)Lcom/example/grenoble/grenoble/tla/Token;" } : Jvm.MethodName) prog_152_method_3_code (3 : Nat) (Option.some (Jvm.ClassFile.FieldType.object "com/example/grenoble/grenoble/tla/Token"))).before args0 about1 = true := code_word (m := ⟨21, 1⟩) (meth := k21m1) (c := k21c1) (by decide +kernel) rfl rfl rfl (by decide +kernel)
set_option maxRecDepth 65536 in
theorem w_c15 : (Jvm.Cond.code ({ cls := "java/util/ArrayList", name := "size", desc := "()I" } : Jvm.MethodName) jdk_38_method_8_code (1 : Nat) (Option.some Jvm.ClassFile.FieldType.int)).before args0 about1 = true := code_word (m := ⟨11, 3⟩) (meth := k11m3) (c := k11c3) (by decide +kernel) rfl rfl rfl (by decide +kernel)
set_option maxRecDepth 65536 in
theorem w_c16 : (Jvm.Cond.code ({ cls := "java/lang/Math", name := "min", desc := "(II)I" } : Jvm.MethodName) jdk_29_method_69_code (2 : Nat) (Option.some Jvm.ClassFile.FieldType.int)).before args0 about1 = true := code_word (m := ⟨20, 2⟩) (meth := k20m2) (c := k20c2) (by decide +kernel) rfl rfl rfl (by decide +kernel)
set_option maxRecDepth 65536 in
theorem w_c17 : (Jvm.Cond.code ({ cls := "java/util/ArrayList", name := "get", desc := "(I)Ljava/lang/Object;" } : Jvm.MethodName) jdk_38_method_20_code (2 : Nat) (Option.some (Jvm.ClassFile.FieldType.object "java/lang/Object"))).before args0 about1 = true := code_word (m := ⟨11, 5⟩) (meth := k11m5) (c := k11c5) (by decide +kernel) rfl rfl rfl (by decide +kernel)
set_option maxRecDepth 65536 in
theorem w_c18 : (Jvm.Cond.code ({ cls := "java/util/Objects", name := "checkIndex", desc := "(II)I" } : Jvm.MethodName) jdk_31_method_17_code (2 : Nat) (Option.some Jvm.ClassFile.FieldType.int)).before args0 about1 = true := code_word (m := ⟨22, 1⟩) (meth := k22m1) (c := k22c1) (by decide +kernel) rfl rfl rfl (by decide +kernel)
set_option maxRecDepth 65536 in
theorem w_c19 : (Jvm.Cond.code ({ cls := "jdk/internal/util/Preconditions", name := "checkIndex", desc := "(IILjava/util/function/BiFunction;)I" } : Jvm.MethodName) jdk_41_method_11_code (3 : Nat) (Option.some Jvm.ClassFile.FieldType.int)).before args0 about1 = true := code_word (m := ⟨23, 1⟩) (meth := k23m1) (c := k23c1) (by decide +kernel) rfl rfl rfl (by decide +kernel)
set_option maxRecDepth 65536 in
theorem w_c20 : (Jvm.Cond.code ({ cls := "java/util/ArrayList", name := "elementData", desc := "(I)Ljava/lang/Object;" } : Jvm.MethodName) jdk_38_method_18_code (2 : Nat) (Option.some (Jvm.ClassFile.FieldType.object "java/lang/Object"))).before args0 about1 = true := code_word (m := ⟨11, 4⟩) (meth := k11m4) (c := k11c4) (by decide +kernel) rfl rfl rfl (by decide +kernel)
set_option maxRecDepth 65536 in
theorem w_c21 : (Jvm.Cond.code ({ cls := "com/example/grenoble/grenoble/tla/Token", name := "kind", desc := "()Lcom/example/grenoble/grenoble/tla/Token$Kind;" } : Jvm.MethodName) prog_150_method_2_code (1 : Nat) (Option.some (Jvm.ClassFile.FieldType.object "com/example/grenoble/grenoble/tla/Token$Kind"))).before args0 about1 = true := code_word (m := ⟨12, 1⟩) (meth := k12m1) (c := k12c1) (by decide +kernel) rfl rfl rfl (by decide +kernel)
set_option maxRecDepth 65536 in
theorem w_c22 : (Jvm.Cond.code ({ cls := "com/example/grenoble/grenoble/tla/Token", name := "column", desc := "()I" } : Jvm.MethodName) prog_150_method_5_code (1 : Nat) (Option.some Jvm.ClassFile.FieldType.int)).before args0 about1 = true := code_word (m := ⟨12, 3⟩) (meth := k12m3) (c := k12c3) (by decide +kernel) rfl rfl rfl (by decide +kernel)
set_option maxRecDepth 65536 in
theorem w_c23 : (Jvm.Cond.code ({ cls := "com/example/grenoble/grenoble/tla/Token", name := "line", desc := "()I" } : Jvm.MethodName) prog_150_method_4_code (1 : Nat) (Option.some Jvm.ClassFile.FieldType.int)).before args0 about1 = true := code_word (m := ⟨12, 2⟩) (meth := k12m2) (c := k12c2) (by decide +kernel) rfl rfl rfl (by decide +kernel)
def codes1 : List Jvm.Cond := [Jvm.Cond.code x code maxLocals ret, Jvm.Cond.code ({ cls := "java/util/ArrayList", name := "<init>", desc := "()V" } : Jvm.MethodName) jdk_38_method_2_code (1 : Nat) (Option.none : Option Jvm.ClassFile.FieldType), Jvm.Cond.code ({ cls := "java/util/AbstractList", name := "<init>", desc := "()V" } : Jvm.MethodName) jdk_39_method_1_code (1 : Nat) (Option.none : Option Jvm.ClassFile.FieldType), Jvm.Cond.code ({ cls := "java/util/AbstractCollection", name := "<init>", desc := "()V" } : Jvm.MethodName) jdk_22_method_1_code (1 : Nat) (Option.none : Option Jvm.ClassFile.FieldType), Jvm.Cond.code ({ cls := "java/lang/Object", name := "<init>", desc := "()V" } : Jvm.MethodName) object_method_1_code (1 : Nat) (Option.none : Option Jvm.ClassFile.FieldType), Jvm.Cond.code ({ cls := "com/example/grenoble/grenoble/tla/Token", name := "<init>", desc := "(Lcom/example/grenoble/grenoble/tla/Token$Kind;Ljava/lang/String;II)V" } : Jvm.MethodName) prog_150_method_1_code (5 : Nat) (Option.none : Option Jvm.ClassFile.FieldType), Jvm.Cond.code ({ cls := "java/util/ArrayList", name := "add", desc := "(Ljava/lang/Object;)Z" } : Jvm.MethodName) jdk_38_method_25_code (2 : Nat) (Option.some Jvm.ClassFile.FieldType.boolean), Jvm.Cond.code ({ cls := "java/util/ArrayList", name := "add", desc := "(Ljava/lang/Object;[Ljava/lang/Object;I)V" } : Jvm.MethodName) jdk_38_method_24_code (4 : Nat) (Option.none : Option Jvm.ClassFile.FieldType), Jvm.Cond.code ({ cls := "java/util/ArrayList", name := "grow", desc := "()[Ljava/lang/Object;" } : Jvm.MethodName) jdk_38_method_7_code (1 : Nat) (Option.some (Jvm.ClassFile.FieldType.array (Jvm.ClassFile.FieldType.object "java/lang/Object"))), Jvm.Cond.code ({ cls := "java/util/ArrayList", name := "grow", desc := "(I)[Ljava/lang/Object;" } : Jvm.MethodName) jdk_38_method_6_code (4 : Nat) (Option.some (Jvm.ClassFile.FieldType.array (Jvm.ClassFile.FieldType.object "java/lang/Object"))), Jvm.Cond.code ({ cls := "java/lang/Math", name := "max", desc := "(II)I" } : Jvm.MethodName) jdk_29_method_65_code (2 : Nat) (Option.some Jvm.ClassFile.FieldType.int), Jvm.Cond.code ({ cls := "com/example/grenoble/grenoble/tla/TokenCursor", name := "<init>", desc := "(Ljava/lang/String;Ljava/util/List;)V" } : Jvm.MethodName) prog_152_method_1_code (3 : Nat) (Option.none : Option Jvm.ClassFile.FieldType), Jvm.Cond.code ({ cls := "com/example/grenoble/grenoble/tla/TokenCursor", name := "fence", desc := "(I)I" } : Jvm.MethodName) prog_152_method_8_code (3 : Nat) (Option.some Jvm.ClassFile.FieldType.int), Jvm.Cond.code ({ cls := "com/example/grenoble/grenoble/tla/TokenCursor", name := "peek", desc := "()Lcom/example/grenoble/grenoble/tla/Token;" } : Jvm.MethodName) prog_152_method_4_code (1 : Nat) (Option.some (Jvm.ClassFile.FieldType.object "com/example/grenoble/grenoble/tla/Token")), Jvm.Cond.code ({ cls := "com/example/grenoble/grenoble/tla/TokenCursor", name := "peek", desc := "(I)Lcom/example/grenoble/grenoble/tla/Token;" } : Jvm.MethodName) prog_152_method_3_code (3 : Nat) (Option.some (Jvm.ClassFile.FieldType.object "com/example/grenoble/grenoble/tla/Token")), Jvm.Cond.code ({ cls := "java/util/ArrayList", name := "size", desc := "()I" } : Jvm.MethodName) jdk_38_method_8_code (1 : Nat) (Option.some Jvm.ClassFile.FieldType.int), Jvm.Cond.code ({ cls := "java/lang/Math", name := "min", desc := "(II)I" } : Jvm.MethodName) jdk_29_method_69_code (2 : Nat) (Option.some Jvm.ClassFile.FieldType.int), Jvm.Cond.code ({ cls := "java/util/ArrayList", name := "get", desc := "(I)Ljava/lang/Object;" } : Jvm.MethodName) jdk_38_method_20_code (2 : Nat) (Option.some (Jvm.ClassFile.FieldType.object "java/lang/Object")), Jvm.Cond.code ({ cls := "java/util/Objects", name := "checkIndex", desc := "(II)I" } : Jvm.MethodName) jdk_31_method_17_code (2 : Nat) (Option.some Jvm.ClassFile.FieldType.int), Jvm.Cond.code ({ cls := "jdk/internal/util/Preconditions", name := "checkIndex", desc := "(IILjava/util/function/BiFunction;)I" } : Jvm.MethodName) jdk_41_method_11_code (3 : Nat) (Option.some Jvm.ClassFile.FieldType.int), Jvm.Cond.code ({ cls := "java/util/ArrayList", name := "elementData", desc := "(I)Ljava/lang/Object;" } : Jvm.MethodName) jdk_38_method_18_code (2 : Nat) (Option.some (Jvm.ClassFile.FieldType.object "java/lang/Object")), Jvm.Cond.code ({ cls := "com/example/grenoble/grenoble/tla/Token", name := "kind", desc := "()Lcom/example/grenoble/grenoble/tla/Token$Kind;" } : Jvm.MethodName) prog_150_method_2_code (1 : Nat) (Option.some (Jvm.ClassFile.FieldType.object "com/example/grenoble/grenoble/tla/Token$Kind")), Jvm.Cond.code ({ cls := "com/example/grenoble/grenoble/tla/Token", name := "column", desc := "()I" } : Jvm.MethodName) prog_150_method_5_code (1 : Nat) (Option.some Jvm.ClassFile.FieldType.int), Jvm.Cond.code ({ cls := "com/example/grenoble/grenoble/tla/Token", name := "line", desc := "()I" } : Jvm.MethodName) prog_150_method_4_code (1 : Nat) (Option.some Jvm.ClassFile.FieldType.int)]
set_option maxRecDepth 65536 in
theorem codes_eq : words1.filter isCode = codes1 := rfl
theorem w_codes : ∀ c ∈ words1.filter isCode, c.before args0 about1 = true := by
  rw [codes_eq]
  intro c hc
  simp only [codes1, List.mem_cons, List.not_mem_nil, or_false] at hc
  rcases hc with rfl | rfl | rfl | rfl | rfl | rfl | rfl | rfl | rfl | rfl | rfl | rfl | rfl | rfl | rfl | rfl | rfl | rfl | rfl | rfl | rfl | rfl | rfl | rfl
  · exact w_c0
  · exact w_c1
  · exact w_c2
  · exact w_c3
  · exact w_c4
  · exact w_c5
  · exact w_c6
  · exact w_c7
  · exact w_c8
  · exact w_c9
  · exact w_c10
  · exact w_c11
  · exact w_c12
  · exact w_c13
  · exact w_c14
  · exact w_c15
  · exact w_c16
  · exact w_c17
  · exact w_c18
  · exact w_c19
  · exact w_c20
  · exact w_c21
  · exact w_c22
  · exact w_c23
set_option maxRecDepth 65536 in
theorem w_t1 : (words1.take 24).all (fun c => isCode c || c.before args0 about1) = true := by decide +kernel
set_option maxRecDepth 65536 in
theorem w_t2 : ((words1.drop 24).take 24).all (fun c => isCode c || c.before args0 about1) = true := by decide +kernel
set_option maxRecDepth 65536 in
theorem w_t3 : (((words1.drop 24).drop 24).take 24).all (fun c => isCode c || c.before args0 about1) = true := by decide +kernel
set_option maxRecDepth 65536 in
theorem w_t4 : ((((words1.drop 24).drop 24).drop 24).take 24).all (fun c => isCode c || c.before args0 about1) = true := by decide +kernel
set_option maxRecDepth 65536 in
theorem w_t5 : (((((words1.drop 24).drop 24).drop 24).drop 24).take 24).all (fun c => isCode c || c.before args0 about1) = true := by decide +kernel
set_option maxRecDepth 65536 in
theorem w_t6 : ((((((words1.drop 24).drop 24).drop 24).drop 24).drop 24).take 24).all (fun c => isCode c || c.before args0 about1) = true := by decide +kernel
set_option maxRecDepth 65536 in
theorem w_t7 : (((((((words1.drop 24).drop 24).drop 24).drop 24).drop 24).drop 24).take 24).all (fun c => isCode c || c.before args0 about1) = true := by decide +kernel
set_option maxRecDepth 65536 in
theorem w_t8 : (((((((words1.drop 24).drop 24).drop 24).drop 24).drop 24).drop 24).drop 24).all (fun c => isCode c || c.before args0 about1) = true := by decide +kernel
theorem w_tables : (allAtoms (Jvm.Cond.code x code maxLocals ret :: tables_1)).before args0 about1 = true := by
  rw [allAtoms_all]
  show words1.all (fun c => c.before args0 about1) = true
  refine all_split ?_ w_codes
  rw [← List.take_append_drop 24 words1, List.all_append, w_t1, ← List.take_append_drop 24 (words1.drop 24), List.all_append, w_t2, ← List.take_append_drop 24 ((words1.drop 24).drop 24), List.all_append, w_t3, ← List.take_append_drop 24 (((words1.drop 24).drop 24).drop 24), List.all_append, w_t4, ← List.take_append_drop 24 ((((words1.drop 24).drop 24).drop 24).drop 24), List.all_append, w_t5, ← List.take_append_drop 24 (((((words1.drop 24).drop 24).drop 24).drop 24).drop 24), List.all_append, w_t6, ← List.take_append_drop 24 ((((((words1.drop 24).drop 24).drop 24).drop 24).drop 24).drop 24), List.all_append, w_t7, w_t8]
  rfl
set_option maxRecDepth 65536 in
theorem w_rest : rest_1_c.before args0 about1 = true := by decide +kernel
set_option maxRecDepth 65536 in
theorem w_case : (Jvm.Cond.and given_1 narrow_1).before args0 about1 = true := by decide +kernel
theorem w_applies : (headSpec (Jvm.Cond.code x code maxLocals ret :: tables_1) room_1).applies x e0.platform about1 = true :=
  (Spec.applies_iff w_frames).mpr ⟨w_running, w_runnable, w_alone, w_named, w_hears, w_ripe, w_room, w_tables⟩
theorem atStart : AtStart classFile x code maxLocals ret World_1 tables_1 room_1 Calls_1 rest_1 Pre_1 launch0 p0 e0 about1 theMethod args0 below0 :=
  ⟨lists_1, trivial, launch0.admits_env _ _ _, launch0.least_env, fairChoices_fair.cas, fairChoices_fair.clock, w_frames, w_args, w_heap, w_applies, trivial, w_rest, w_case⟩
end start1
theorem witness_1 : WitnessClaimed_1 := ⟨start1.p0, start1.e0, start1.about1, start1.theMethod, start1.args0, start1.below0, start1.atStart⟩
end Jvm.Pilot.@@N@@
