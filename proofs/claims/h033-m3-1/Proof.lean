import JvmDerived
import JvmDerived.Pilot.@@N@@Statement
import JvmDerived.Pilot.@@N@@Code
set_option linter.unusedVariables false
set_option linter.unusedSimpArgs false
@@BLOCK:NumsL.lean.txt@@
namespace Jvm.Pilot.@@N@@
open Jvm Jvm.ClassFile Sem Op Lib Jvm.Free Jvm.Stand Jvm.LawKit Jvm.RoadKit Bundle Jvm.Pilot.@@N@@.Jvm.D
section OwnKit
variable {p : Program} {l : Launch} {e : Env} {R : Room} {s : State} {m : MethodId} {args : Array Value} {below : List Frame} {meth : Method} {c : Code} {T : State} {locs : List Loc} {cells slots : Nat} {Z : State} {a0 : Array Value} {h : Heap}
/-- from U the invocation ends, returns v, and Q holds of v, the heap and the written places -/
def OGo (p : Program) (e : Env) (below : List Frame) (s : State) (R : Room) (Q : Option Value → Heap → List Loc → Prop) (U : State) : Prop :=
  ∃ s₂ o, Steps p.tables e below U s₂ ∧ s₂.status = .running ∧ Ended s₂ below o ∧ ∃ v L, o = .returned v ∧ Q v s₂.heap L ∧ FrameEnd s o s₂ L R.cells R.slots
variable {Q : Option Value → Heap → List Loc → Prop}
theorem own_st {A B : State} (hs : ∀ t, Steps p.tables e below A t → Steps p.tables e below B t) (k : OGo p e below s R Q A) : OGo p e below s R Q B := by
  obtain ⟨t, o, h1, h2⟩ := k
  exact ⟨t, o, hs t h1, h2⟩
theorem own_ret {v : Option Value} {U : State} (X : Stand p l e R s m args below meth c T locs cells slots) (hlk : meth.locks = false) (hv : meth.sig.returnType = none → v = none) (hc : cells ≤ R.cells) (hs : slots ≤ R.slots) (hq : Q v T.heap locs)
    (st : ∀ fs, (∀ (f : JFrame) (acts : List Action), f.method = m → f.locked = none → f.entered = [] → (doReturn e (T.setTop f) acts v).1 = T.setFrames fs) → Steps p.tables e below U (T.setFrames fs)) : OGo p e below s R Q U := by
  obtain ⟨fs, hr, hrun, hended, hW, hsame⟩ := X.leave (v := v) hv hlk
  exact ⟨_, _, st fs hr, hrun, hended, v, locs, rfl, hq, ⟨_, rfl⟩, hW, hsame.mono hc hs⟩
theorem own_retV (X : Stand p l e R s m args below meth c T locs cells slots) (hx : p.tables.exec = Jvm.exec) (hlk : meth.locks = false) {pc : Nat} {Ls : Array Slot} (hret : meth.sig.returnType = none) (hd : decode c.code pc = .ok (.return_, 1)) (hc : cells ≤ R.cells) (hs : slots ≤ R.slots) (hq : Q none T.heap locs) :
    OGo p e below s R Q (T.setTop (mkF m pc Ls [])) :=
  own_ret X hlk (fun _ => rfl) hc hs hq fun fs hr => X.returnOut hx hret hd hr
theorem own_retN (X : Stand p l e R s m args below meth c T locs cells slots) (hx : p.tables.exec = Jvm.exec) (hlk : meth.locks = false) {pc : Nat} {Ls : Array Slot} {z : Int32} {t : FieldType} {rest : List Value} (hret : meth.sig.returnType = some t) (ht : t = .boolean ∨ t = .byte ∨ t = .char ∨ t = .short)
    (hd : decode c.code pc = .ok (.ireturn, 1)) (hc : cells ≤ R.cells) (hs : slots ≤ R.slots) (hq : Q (some (.int (nar t z))) T.heap locs) : OGo p e below s R Q (T.setTop (mkF m pc Ls (.int z :: rest))) :=
  own_ret X hlk (fun q => by rw [hret] at q; cases q) hc hs hq fun fs hr => retN X hx hret ht hd hr
theorem own_retI (X : Stand p l e R s m args below meth c T locs cells slots) (hx : p.tables.exec = Jvm.exec) (hlk : meth.locks = false) {pc : Nat} {Ls : Array Slot} {z : Int32} {rest : List Value} (hret : meth.sig.returnType = some .int)
    (hd : decode c.code pc = .ok (.ireturn, 1)) (hc : cells ≤ R.cells) (hs : slots ≤ R.slots) (hq : Q (some (.int z)) T.heap locs) : OGo p e below s R Q (T.setTop (mkF m pc Ls (.int z :: rest))) :=
  own_ret X hlk (fun q => by rw [hret] at q; cases q) hc hs hq fun fs hr => by
    have hm' : T.vm.method? m = some meth := X.method'
    have hn : narrow .int (.int z) = .int z := rfl
    show Steps p.tables e below (T.setTop { method := m, pc := pc, locals := Ls, stack := _ :: rest, locked := none }) _
    jvm_step X.here [X.here.top, hx, hd, hm', hret, hn]
    first | (intro acts; rw [hr _ acts rfl rfl rfl]) | rw [hr _ _ rfl rfl rfl]
    exact Steps.refl _
theorem own_retJ (X : Stand p l e R s m args below meth c T locs cells slots) (hx : p.tables.exec = Jvm.exec) (hlk : meth.locks = false) {pc : Nat} {Ls : Array Slot} {z : Int64} {rest : List Value} (hret : meth.sig.returnType = some .long)
    (hd : decode c.code pc = .ok (.lreturn, 1)) (hc : cells ≤ R.cells) (hs : slots ≤ R.slots) (hq : Q (some (.long z)) T.heap locs) : OGo p e below s R Q (T.setTop (mkF m pc Ls (.long z :: rest))) :=
  own_ret X hlk (fun q => by rw [hret] at q; cases q) hc hs hq fun fs hr => by
    show Steps p.tables e below (T.setTop { method := m, pc := pc, locals := Ls, stack := _ :: rest, locked := none }) _
    jvm_step X.here [X.here.top, hx, hd, X.method', hret, narrow]
    first | (intro acts; rw [hr _ acts rfl rfl rfl]) | rw [hr _ _ rfl rfl rfl]
    exact Steps.refl _
theorem own_retA (X : Stand p l e R s m args below meth c T locs cells slots) (hx : p.tables.exec = Jvm.exec) (hlk : meth.locks = false) {pc : Nat} {Ls : Array Slot} {z : Value} {rest : List Value} {t : FieldType} (hret : meth.sig.returnType = some t) (hz : z.isRef = true) (ht : t.isReference = true)
    (hd : decode c.code pc = .ok (.areturn, 1)) (hc : cells ≤ R.cells) (hs : slots ≤ R.slots) (hq : Q (some z) T.heap locs) : OGo p e below s R Q (T.setTop (mkF m pc Ls (z :: rest))) :=
  own_ret X hlk (fun q => by rw [hret] at q; cases q) hc hs hq fun fs hr => by
    show Steps p.tables e below (T.setTop { method := m, pc := pc, locals := Ls, stack := _ :: rest, locked := none }) _
    jvm_step X.here [X.here.top, hx, hd, X.method', hret, hz, ht]
    first | (intro acts; rw [hr _ acts rfl rfl rfl]) | rw [hr _ _ rfl rfl rfl]
    exact Steps.refl _
/-- the contract of a body at the arguments 'as' and the heap h0 -/
abbrev OMet (l : Launch) (Z : State) (y : MethodName) (bytes : ByteArray) (ml : Nat) (rt : Option FieldType) (ws : List Jvm.Cond) (R : Room) (as : Array Value) (h0 : Heap) (Q : Option Value → Heap → List Loc → Prop) : Prop :=
  MetFree l y (head1 (Jvm.Cond.code y bytes ml rt :: ws) R) (fun a U => a = as ∧ Z.Warmed39 U.vm ∧ U.heap = h0) (fun _ _ _ _ _ => True) (fun _ U o U' => ∃ v L, o = .returned v ∧ Q v U'.heap L ∧ FrameEnd U o U' L R.cells R.slots)
/-- .. of one that returns v and leaves everything -/
abbrev OPure (l : Launch) (Z : State) (y : MethodName) (bytes : ByteArray) (ml : Nat) (rt : Option FieldType) (ws : List Jvm.Cond) (R : Room) (as : Array Value) (h0 : Heap) (v : Option Value) : Prop :=
  OMet l Z y bytes ml rt ws R as h0 (fun v' h' L => v' = v ∧ L = [] ∧ h' = h0)
theorem own_body {y : MethodName} {bytes : ByteArray} {ml : Nat} {rt : Option FieldType} {ws : List Jvm.Cond} {as : Array Value} {h0 : Heap} {L0 : Array Slot} (hp : plainFor y = true) (ef : ∀ m, entryFrame m as ml = mkF m 0 L0 [])
    (body : ∀ p e s m below meth c T, p.tables.exec = Jvm.exec → c.code = bytes → c.maxLocals = ml → s.vm.findClass y.cls = some m.cls → meth.name = y.name → meth.sig.returnType = rt → meth.locks = false → Z.Warmed39 s.vm →
      Stand p l e R s m as below meth c T [] 0 0 → T.heap = h0 → OGo p e below s R Q (T.setTop (mkF m 0 L0 []))) : OMet l Z y bytes ml rt ws R as h0 Q := by
  refine MetFree.of_bodySF hp hisR ?_
  intro p e s m args below meth c s₁ Bd hml0 hP hK
  obtain ⟨rfl, hZ, hh⟩ := hP
  have X0 : Stand p l e R s m _ below meth c s₁ [] 0 0 := Stand.of_body Bd
  obtain ⟨t, o, h1, h2⟩ := body p e s m below meth c s₁ Bd.exec Bd.bytes hml0 (findClass_of_methodNamed Bd.named) (name_of_methodNamed Bd.named Bd.method).1 Bd.returns Bd.notSynchronized hZ X0 (by rw [← hh, Bd.state]; rfl)
  exact ⟨t, o, castTop (ef m) h1, h2⟩
variable {own : String} {index : Nat} {y z : MethodName} {bytes : ByteArray} {ml W : Nat} {rt : Option FieldType} {rm : Room} {as : Array Value}
theorem own_callS (X : Stand p l e R s m args below meth c T locs cells slots) (hx : p.tables.exec = Jvm.exec) (hZ : Z.Warmed39 s.vm) (hown : s.vm.findClass own = some m.cls)
    (w1 : (Jvm.Cond.methodLink own index y).before a0 Z = true) (w2 : (Jvm.Cond.static y).before a0 Z = true) (w3 : (Jvm.Cond.initialized y.cls).before a0 Z = true) (w4 : (Jvm.Cond.code y bytes ml rt).before a0 Z = true)
    (hy : y.cls ≠ "java/lang/invoke/MethodHandle" ∧ y.cls ≠ "java/lang/invoke/VarHandle") (hM : OMet l Z y bytes ml rt [] rm as h Q) (hf : rm.frames + 1 ≤ R.frames) (hl : W + (ml + 11) + rm.locals ≤ R.locals)
    {g : JFrame} (hg : g.method = m) (hsz : g.locals.size = c.maxLocals) {argsL rest : List Value} (hlen : ∀ sig, parseMethodDescriptor y.desc = some sig → argsL.length = sig.parameters.length) (hstack : g.stack = argsL.reverse ++ rest)
    (hW : 2 * g.monitorRoom + (rest.map fun v => v.category).sum ≤ W) (hd : decode c.code g.pc = .ok (.invokestatic index, 3)) (ha : argsL.toArray = as) (eT : T.heap = h) (hc : cells + rm.cells ≤ R.cells) (hs : slots + rm.slots ≤ R.slots) :
    ∃ v T' L, Stand p l e R s m args below meth c T' (locs ++ L) (cells + rm.cells) (slots + rm.slots) ∧ Q v T'.heap L ∧ ∀ t, Steps p.tables e below (T'.setTop { g with pc := g.pc + 3, stack := v.toList ++ rest }) t → Steps p.tables e below (T.setTop g) t := by
  obtain ⟨v, _, ⟨T3, L3, k3, n3⟩, -, X3, ⟨Lc3, hQ3, l3, y3, z3⟩, st3⟩ := Jvm.LawKit.callS X hx (y := y) hown (mvT hZ w1) (mvT hZ w2) (mvT hZ w3) (mvT hZ w4) hy (backOf (W := W) hM hZ w4 w3 hf hl) hg hsz hlen hstack hW hd (fun _ _ => ⟨ha, eT, hc, hs⟩)
  dsimp only [Pt.U, Pt.locs, Pt.cells, Pt.slots] at X3 l3 y3 z3 st3 hQ3
  subst l3 y3 z3
  exact ⟨v, T3, Lc3, X3, hQ3, st3⟩
theorem own_callSP {v0 : Option Value} (X : Stand p l e R s m args below meth c T locs cells slots) (hx : p.tables.exec = Jvm.exec) (hZ : Z.Warmed39 s.vm) (hown : s.vm.findClass own = some m.cls)
    (w1 : (Jvm.Cond.methodLink own index y).before a0 Z = true) (w2 : (Jvm.Cond.static y).before a0 Z = true) (w3 : (Jvm.Cond.initialized y.cls).before a0 Z = true) (w4 : (Jvm.Cond.code y bytes ml rt).before a0 Z = true)
    (hy : y.cls ≠ "java/lang/invoke/MethodHandle" ∧ y.cls ≠ "java/lang/invoke/VarHandle") (hM : OPure l Z y bytes ml rt [] rm as h v0) (hf : rm.frames + 1 ≤ R.frames) (hl : W + (ml + 11) + rm.locals ≤ R.locals)
    {g : JFrame} (hg : g.method = m) (hsz : g.locals.size = c.maxLocals) {argsL rest : List Value} (hlen : ∀ sig, parseMethodDescriptor y.desc = some sig → argsL.length = sig.parameters.length) (hstack : g.stack = argsL.reverse ++ rest)
    (hW : 2 * g.monitorRoom + (rest.map fun v => v.category).sum ≤ W) (hd : decode c.code g.pc = .ok (.invokestatic index, 3)) (ha : argsL.toArray = as) (eT : T.heap = h) (hc : cells + rm.cells ≤ R.cells) (hs : slots + rm.slots ≤ R.slots) :
    ∃ T', Stand p l e R s m args below meth c T' locs (cells + rm.cells) (slots + rm.slots) ∧ T'.heap = h ∧ ∀ t, Steps p.tables e below (T'.setTop { g with pc := g.pc + 3, stack := v0.toList ++ rest }) t → Steps p.tables e below (T.setTop g) t := by
  obtain ⟨v, T', L, X', ⟨rfl, rfl, e'⟩, st⟩ := own_callS X hx hZ hown w1 w2 w3 w4 hy hM hf hl hg hsz hlen hstack hW hd ha eT hc hs
  rw [List.append_nil] at X'
  exact ⟨T', X', e', st⟩
theorem own_callI (X : Stand p l e R s m args below meth c T locs cells slots) (hx : p.tables.exec = Jvm.exec) (hZ : Z.Warmed39 s.vm) (hy1 : y.name = "<init>") (hown : s.vm.findClass own = some m.cls)
    (w1 : (Jvm.Cond.methodLink own index y).before a0 Z = true) (w2 : (Jvm.Cond.instanceMethod y).before a0 Z = true) (w4 : (Jvm.Cond.code y bytes ml none).before a0 Z = true) (w3 : (Jvm.Cond.initialized y.cls).before a0 Z = true)
    (hy : y.cls ≠ "java/lang/invoke/MethodHandle" ∧ y.cls ≠ "java/lang/invoke/VarHandle") (hM : OMet l Z y bytes ml none [] rm as h Q) (hf : rm.frames + 1 ≤ R.frames) (hl : W + (ml + 11) + rm.locals ≤ R.locals) {a : Addr}
    {g : JFrame} (hg : g.method = m) (hsz : g.locals.size = c.maxLocals) {argsL rest : List Value} (hlen : ∀ sig, parseMethodDescriptor y.desc = some sig → argsL.length = sig.parameters.length) (hstack : g.stack = argsL.reverse ++ .ref a :: rest)
    (hW : 2 * g.monitorRoom + (rest.map fun v => v.category).sum ≤ W) (hd : decode c.code g.pc = .ok (.invokespecial index, 3)) (ha : (.ref a :: argsL).toArray = as) (eT : T.heap = h) (hc : cells + rm.cells ≤ R.cells) (hs : slots + rm.slots ≤ R.slots) :
    ∃ v T' L, Stand p l e R s m args below meth c T' (locs ++ L) (cells + rm.cells) (slots + rm.slots) ∧ Q v T'.heap L ∧ ∀ t, Steps p.tables e below (T'.setTop { g with pc := g.pc + 3, stack := v.toList ++ rest }) t → Steps p.tables e below (T.setTop g) t := by
  obtain ⟨v, _, ⟨T3, L3, k3, n3⟩, -, X3, ⟨Lc3, hQ3, l3, y3, z3⟩, st3⟩ := X.specialBack hx (y := y) hy1 hown (mvT hZ w1) (mvT hZ w2) (mvT hZ w4) hy (backOf (W := W) hM hZ w4 w3 hf hl) hg hsz (Steps.refl _) (a := a) hlen hstack hW hd (fun _ _ => ⟨ha, eT, hc, hs⟩)
  dsimp only [Pt.U, Pt.locs, Pt.cells, Pt.slots] at X3 l3 y3 z3 st3 hQ3
  subst l3 y3 z3
  exact ⟨v, T3, Lc3, X3, hQ3, fun t k => st3.trans k⟩
theorem own_callIP {v0 : Option Value} (X : Stand p l e R s m args below meth c T locs cells slots) (hx : p.tables.exec = Jvm.exec) (hZ : Z.Warmed39 s.vm) (hy1 : y.name = "<init>") (hown : s.vm.findClass own = some m.cls)
    (w1 : (Jvm.Cond.methodLink own index y).before a0 Z = true) (w2 : (Jvm.Cond.instanceMethod y).before a0 Z = true) (w4 : (Jvm.Cond.code y bytes ml none).before a0 Z = true) (w3 : (Jvm.Cond.initialized y.cls).before a0 Z = true)
    (hy : y.cls ≠ "java/lang/invoke/MethodHandle" ∧ y.cls ≠ "java/lang/invoke/VarHandle") (hM : OPure l Z y bytes ml none [] rm as h v0) (hf : rm.frames + 1 ≤ R.frames) (hl : W + (ml + 11) + rm.locals ≤ R.locals) {a : Addr}
    {g : JFrame} (hg : g.method = m) (hsz : g.locals.size = c.maxLocals) {argsL rest : List Value} (hlen : ∀ sig, parseMethodDescriptor y.desc = some sig → argsL.length = sig.parameters.length) (hstack : g.stack = argsL.reverse ++ .ref a :: rest)
    (hW : 2 * g.monitorRoom + (rest.map fun v => v.category).sum ≤ W) (hd : decode c.code g.pc = .ok (.invokespecial index, 3)) (ha : (.ref a :: argsL).toArray = as) (eT : T.heap = h) (hc : cells + rm.cells ≤ R.cells) (hs : slots + rm.slots ≤ R.slots) :
    ∃ T', Stand p l e R s m args below meth c T' locs (cells + rm.cells) (slots + rm.slots) ∧ T'.heap = h ∧ ∀ t, Steps p.tables e below (T'.setTop { g with pc := g.pc + 3, stack := v0.toList ++ rest }) t → Steps p.tables e below (T.setTop g) t := by
  obtain ⟨v, T', L, X', ⟨rfl, rfl, e'⟩, st⟩ := own_callI X hx hZ hy1 hown w1 w2 w4 w3 hy hM hf hl hg hsz hlen hstack hW hd ha eT hc hs
  rw [List.append_nil] at X'
  exact ⟨T', X', e', st⟩
theorem own_callV {C : String} (X : Stand p l e R s m args below meth c T locs cells slots) (hx : p.tables.exec = Jvm.exec) (hZ : Z.Warmed39 s.vm) (hown : s.vm.findClass own = some m.cls)
    (w1 : (Jvm.Cond.methodLink own index y).before a0 Z = true) (w2 : (Jvm.Cond.declares y).before a0 Z = true) (hnf : NotFace s y) (ws : (Jvm.Cond.selects C y z).before a0 Z = true) (wi : (Jvm.Cond.instanceMethod z).before a0 Z = true)
    (w4 : (Jvm.Cond.code z bytes ml rt).before a0 Z = true) (w3 : (Jvm.Cond.initialized z.cls).before a0 Z = true)
    (hy : y.cls ≠ "java/lang/invoke/MethodHandle" ∧ y.cls ≠ "java/lang/invoke/VarHandle") (hM : OMet l Z z bytes ml rt [] rm as h Q) (hf : rm.frames + 1 ≤ R.frames) (hl : W + (ml + 11) + rm.locals ≤ R.locals) {a : Addr} (E : Exa Z h a C)
    {g : JFrame} (hg : g.method = m) (hsz : g.locals.size = c.maxLocals) {argsL rest : List Value} (hlen : ∀ sig, parseMethodDescriptor y.desc = some sig → argsL.length = sig.parameters.length) (hstack : g.stack = argsL.reverse ++ .ref a :: rest)
    (hW : 2 * g.monitorRoom + (rest.map fun v => v.category).sum ≤ W) (hd : decode c.code g.pc = .ok (.invokevirtual index, 3)) (ha : (.ref a :: argsL).toArray = as) (eT : T.heap = h) (hc : cells + rm.cells ≤ R.cells) (hs : slots + rm.slots ≤ R.slots) :
    ∃ v T' L, Stand p l e R s m args below meth c T' (locs ++ L) (cells + rm.cells) (slots + rm.slots) ∧ Q v T'.heap L ∧ ∀ t, Steps p.tables e below (T'.setTop { g with pc := g.pc + 3, stack := v.toList ++ rest }) t → Steps p.tables e below (T.setTop g) t := by
  obtain ⟨cq, kq, qa, qb, qc⟩ := isOf hZ eT E
  obtain ⟨v, _, ⟨T3, L3, k3, n3⟩, -, X3, ⟨Lc3, hQ3, l3, y3, z3⟩, st3⟩ := X.virtualBack hx (y := y) (z := z) hown (mvT hZ w1) (mvT hZ w2) hnf (mvT hZ ws) (mvT hZ wi) hy (backOf (W := W) hM hZ w4 w3 hf hl) qa qc hg hsz (Steps.refl _) hlen hstack hW hd (fun _ _ => ⟨ha, eT, hc, hs⟩)
  dsimp only [Pt.U, Pt.locs, Pt.cells, Pt.slots] at X3 l3 y3 z3 st3 hQ3
  subst l3 y3 z3
  exact ⟨v, T3, Lc3, X3, hQ3, fun t k => st3.trans k⟩
theorem own_callVP {C : String} {v0 : Option Value} (X : Stand p l e R s m args below meth c T locs cells slots) (hx : p.tables.exec = Jvm.exec) (hZ : Z.Warmed39 s.vm) (hown : s.vm.findClass own = some m.cls)
    (w1 : (Jvm.Cond.methodLink own index y).before a0 Z = true) (w2 : (Jvm.Cond.declares y).before a0 Z = true) (hnf : NotFace s y) (ws : (Jvm.Cond.selects C y z).before a0 Z = true) (wi : (Jvm.Cond.instanceMethod z).before a0 Z = true)
    (w4 : (Jvm.Cond.code z bytes ml rt).before a0 Z = true) (w3 : (Jvm.Cond.initialized z.cls).before a0 Z = true)
    (hy : y.cls ≠ "java/lang/invoke/MethodHandle" ∧ y.cls ≠ "java/lang/invoke/VarHandle") (hM : OPure l Z z bytes ml rt [] rm as h v0) (hf : rm.frames + 1 ≤ R.frames) (hl : W + (ml + 11) + rm.locals ≤ R.locals) {a : Addr} (E : Exa Z h a C)
    {g : JFrame} (hg : g.method = m) (hsz : g.locals.size = c.maxLocals) {argsL rest : List Value} (hlen : ∀ sig, parseMethodDescriptor y.desc = some sig → argsL.length = sig.parameters.length) (hstack : g.stack = argsL.reverse ++ .ref a :: rest)
    (hW : 2 * g.monitorRoom + (rest.map fun v => v.category).sum ≤ W) (hd : decode c.code g.pc = .ok (.invokevirtual index, 3)) (ha : (.ref a :: argsL).toArray = as) (eT : T.heap = h) (hc : cells + rm.cells ≤ R.cells) (hs : slots + rm.slots ≤ R.slots) :
    ∃ T', Stand p l e R s m args below meth c T' locs (cells + rm.cells) (slots + rm.slots) ∧ T'.heap = h ∧ ∀ t, Steps p.tables e below (T'.setTop { g with pc := g.pc + 3, stack := v0.toList ++ rest }) t → Steps p.tables e below (T.setTop g) t := by
  obtain ⟨v, T', L, X', ⟨rfl, rfl, e'⟩, st⟩ := own_callV X hx hZ hown w1 w2 hnf ws wi w4 w3 hy hM hf hl E hg hsz hlen hstack hW hd ha eT hc hs
  rw [List.append_nil] at X'
  exact ⟨T', X', e', st⟩
theorem own_callR (X : Stand p l e R s m args below meth c T locs cells slots) (hx : p.tables.exec = Jvm.exec) (hZ : Z.Warmed39 s.vm) (hown : s.vm.findClass own = some m.cls)
    (w1 : (Jvm.Cond.methodLink own index y).before a0 Z = true) (w2 : (Jvm.Cond.instanceMethod y).before a0 Z = true) (ws : (Jvm.Cond.selects y.cls y y).before a0 Z = true) (wp : (Jvm.Cond.privateMethod y).before a0 Z = true)
    (w4 : (Jvm.Cond.code y bytes ml rt).before a0 Z = true) (w3 : (Jvm.Cond.initialized y.cls).before a0 Z = true)
    (hy : y.cls ≠ "java/lang/invoke/MethodHandle" ∧ y.cls ≠ "java/lang/invoke/VarHandle") (hM : OMet l Z y bytes ml rt [] rm as h Q) (hf : rm.frames + 1 ≤ R.frames) (hl : W + (ml + 11) + rm.locals ≤ R.locals) {a : Addr} {C : String} (E : Exa Z h a C)
    {g : JFrame} (hg : g.method = m) (hsz : g.locals.size = c.maxLocals) {argsL rest : List Value} (hlen : ∀ sig, parseMethodDescriptor y.desc = some sig → argsL.length = sig.parameters.length) (hstack : g.stack = argsL.reverse ++ .ref a :: rest)
    (hW : 2 * g.monitorRoom + (rest.map fun v => v.category).sum ≤ W) (hd : decode c.code g.pc = .ok (.invokevirtual index, 3)) (ha : (.ref a :: argsL).toArray = as) (eT : T.heap = h) (hc : cells + rm.cells ≤ R.cells) (hs : slots + rm.slots ≤ R.slots) :
    ∃ v T' L, Stand p l e R s m args below meth c T' (locs ++ L) (cells + rm.cells) (slots + rm.slots) ∧ Q v T'.heap L ∧ ∀ t, Steps p.tables e below (T'.setTop { g with pc := g.pc + 3, stack := v.toList ++ rest }) t → Steps p.tables e below (T.setTop g) t := by
  obtain ⟨cq, qa, qb⟩ := E.cell
  obtain ⟨v, _, ⟨T3, L3, k3, n3⟩, -, X3, ⟨Lc3, hQ3, l3, y3, z3⟩, st3⟩ := X.privateBack hx (y := y) hown (mvT hZ w1) (mvT hZ w2) (mvT hZ ws) (Cond.privateMethod_at (mvP hZ wp (args := #[]))) (mvT hZ w4) hy (backOf (W := W) hM hZ w4 w3 hf hl) hg hsz (Steps.refl _) (a := a) (by rw [eT]; exact qa) qb hlen hstack hW hd (fun _ _ => ⟨ha, eT, hc, hs⟩)
  dsimp only [Pt.U, Pt.locs, Pt.cells, Pt.slots] at X3 l3 y3 z3 st3 hQ3
  subst l3 y3 z3
  exact ⟨v, T3, Lc3, X3, hQ3, fun t k => st3.trans k⟩
theorem own_callRP {v0 : Option Value} (X : Stand p l e R s m args below meth c T locs cells slots) (hx : p.tables.exec = Jvm.exec) (hZ : Z.Warmed39 s.vm) (hown : s.vm.findClass own = some m.cls)
    (w1 : (Jvm.Cond.methodLink own index y).before a0 Z = true) (w2 : (Jvm.Cond.instanceMethod y).before a0 Z = true) (ws : (Jvm.Cond.selects y.cls y y).before a0 Z = true) (wp : (Jvm.Cond.privateMethod y).before a0 Z = true)
    (w4 : (Jvm.Cond.code y bytes ml rt).before a0 Z = true) (w3 : (Jvm.Cond.initialized y.cls).before a0 Z = true)
    (hy : y.cls ≠ "java/lang/invoke/MethodHandle" ∧ y.cls ≠ "java/lang/invoke/VarHandle") (hM : OPure l Z y bytes ml rt [] rm as h v0) (hf : rm.frames + 1 ≤ R.frames) (hl : W + (ml + 11) + rm.locals ≤ R.locals) {a : Addr} {C : String} (E : Exa Z h a C)
    {g : JFrame} (hg : g.method = m) (hsz : g.locals.size = c.maxLocals) {argsL rest : List Value} (hlen : ∀ sig, parseMethodDescriptor y.desc = some sig → argsL.length = sig.parameters.length) (hstack : g.stack = argsL.reverse ++ .ref a :: rest)
    (hW : 2 * g.monitorRoom + (rest.map fun v => v.category).sum ≤ W) (hd : decode c.code g.pc = .ok (.invokevirtual index, 3)) (ha : (.ref a :: argsL).toArray = as) (eT : T.heap = h) (hc : cells + rm.cells ≤ R.cells) (hs : slots + rm.slots ≤ R.slots) :
    ∃ T', Stand p l e R s m args below meth c T' locs (cells + rm.cells) (slots + rm.slots) ∧ T'.heap = h ∧ ∀ t, Steps p.tables e below (T'.setTop { g with pc := g.pc + 3, stack := v0.toList ++ rest }) t → Steps p.tables e below (T.setTop g) t := by
  obtain ⟨v, T', L, X', ⟨rfl, rfl, e'⟩, st⟩ := own_callR X hx hZ hown w1 w2 ws wp w4 w3 hy hM hf hl E hg hsz hlen hstack hW hd ha eT hc hs
  rw [List.append_nil] at X'
  exact ⟨T', X', e', st⟩
/-- the array at a has n places; place j holds f j -/
def OAr (Z : State) (h : Heap) (a : Addr) (ty : FieldType) (n : Nat) (f : Nat → Value) : Prop := ∃ c : Cell, Arr Z h a c ty ∧ c.slots.size = n ∧ ∀ j, j < n → c.slots[j]? = some (f j)
section OwnArr
variable {h' : Heap} {a b : Addr} {ty : FieldType} {n sl : Nat} {f f' : Nat → Value} {v : Value} {k : ClassId} {i : Int32}
theorem OAr.lt (F : OAr Z h a ty n f) : a < h.size := by obtain ⟨c, A, -⟩ := F; exact A.lt
theorem OAr.ext (F : OAr Z h a ty n f) (E : Ext h h') : OAr Z h' a ty n f := by obtain ⟨c, A, r⟩ := F; exact ⟨c, A.ext E, r⟩
theorem OAr.other (F : OAr Z h a ty n f) (W : Wr h h' b sl v) (q : a ≠ b) : OAr Z h' a ty n f := by obtain ⟨c, A, r⟩ := F; exact ⟨c, A.other W q, r⟩
theorem OAr.keep {ws : List Addr} (F : OAr Z h a ty n f) (K : Keep h h' ws) (q : a ∉ ws) : OAr Z h' a ty n f := by obtain ⟨c, A, r⟩ := F; exact ⟨c, ⟨K.2.1 a c A.1 q, A.2⟩, r⟩
theorem OAr.cong (F : OAr Z h a ty n f) (q : ∀ j, j < n → f j = f' j) : OAr Z h a ty n f' := by obtain ⟨c, A, S, H⟩ := F; exact ⟨c, A, S, fun j hj => by rw [← q j hj]; exact H j hj⟩
theorem OAr.new (A : Arr Z h a (newA k ty i) ty) : OAr Z h a ty i.toNatClampNeg (fun _ => defaultValue ty) := ⟨_, A, sz_new _ _ _, fun j hj => by simp [newA, hj]⟩
theorem OAr.set {c : Cell} (A : Arr Z h a c ty) (S : c.slots.size = n) (H : ∀ j, j < n → c.slots[j]? = some (f j)) (W : Wr h h' a sl v) : OAr Z h' a ty n (fun j => if j = sl then v else f j) := by
  refine ⟨_, A.same W, by rw [sz_set]; exact S, fun j hj => ?_⟩
  by_cases q : j = sl
  · subst q
    simp [Cell.setSlot, S, hj]
  · simp only [q, if_false, Cell.setSlot]
    rw [Array.getElem?_setIfInBounds_ne (Ne.symm q)]
    exact H j hj
theorem own_in {c : Cell} (S : c.slots.size = n) (h0 : ¬ i < 0) (h1 : i.toNatClampNeg < n) : ¬ (i < 0 ∨ c.slots.size ≤ i.toNatClampNeg) := by
  rintro (q | q)
  · exact h0 q
  · omega
/-- the clone of an array -/
theorem own_clone {own ad : String} {index : Nat} (X : Stand p l e R s m args below meth c T locs cells slots) (hx : p.tables.exec = Jvm.exec) (hZ : Z.Warmed39 s.vm) (hown : s.vm.findClass own = some m.cls)
    (w1 : (Jvm.Cond.methodLink own index ⟨ad, "clone", "()Ljava/lang/Object;"⟩).before a0 Z = true) (w2 : (Jvm.Cond.sameMethod ad "java/lang/Object" "clone" "()Ljava/lang/Object;").before a0 Z = true) (w3 : (Jvm.Cond.native ⟨"java/lang/Object", "clone", "()Ljava/lang/Object;"⟩).before a0 Z = true)
    (w4 : (Jvm.Cond.instanceMethod ⟨"java/lang/Object", "clone", "()Ljava/lang/Object;"⟩).before a0 Z = true) (w5 : (Jvm.Cond.selects ad ⟨ad, "clone", "()Ljava/lang/Object;"⟩ ⟨"java/lang/Object", "clone", "()Ljava/lang/Object;"⟩).before a0 Z = true) (w6 : (Jvm.Cond.castable ad "java/lang/Cloneable").before a0 Z = true)
    (eT : T.heap = h) (F : OAr Z h a ty n f) (E : Exa Z h a ad) (hfit : ∀ j, j < n → fits ty (f j) = true) {g : JFrame} (hg : g.method = m) (hsize : g.locals.size = c.maxLocals) {rest : List Value} (hst : g.stack = .ref a :: rest) (hd : decode c.code g.pc = .ok (.invokevirtual index, 3))
    (hf : 1 ≤ R.frames) {W : Nat} (hW : 2 * g.monitorRoom + (rest.map fun v => v.category).sum ≤ W) (hl : W + 14 ≤ R.locals) {cap : Nat} (hcap : n ≤ cap) (hc : cells + 1 ≤ R.cells) (hsl : slots + cap ≤ R.slots) :
    ∃ T' h', Stand p l e R s m args below meth c T' locs (cells + 1) (slots + cap) ∧ T'.heap = h' ∧ Ext h h' ∧ OAr Z h' h.size ty n f ∧ Exa Z h' h.size ad ∧
      ∀ target, Steps p.tables e below (T'.setTop { g with pc := g.pc + 3, stack := .ref h.size :: rest }) target → Steps p.tables e below (T.setTop g) target := by
  obtain ⟨cl, A, S, H⟩ := F
  have FC : FitC Z cl := fitC_of A fun i hi v hv => by rw [H i (S ▸ hi)] at hv; cases hv; exact hfit i (S ▸ hi)
  obtain ⟨T', h', X', e', ex, A', E', st⟩ := cloneA X hx hZ hown w1 w2 w3 w4 w5 w6 eT A E FC hg hsize hst hd hf hW hl (cap := cap) (by rw [S]; exact hcap) hc hsl
  exact ⟨T', h', X', e', ex, ⟨cloneOf cl, A', S, H⟩, E', st⟩
end OwnArr
theorem own_nat {i : Nat} (hi : i < 2 ^ 31) : (Int32.ofNat i).toNatClampNeg = i ∧ ¬ Int32.ofNat i < 0 ∧ (Int32.ofNat i).toInt = i := by
  have q : (Int32.ofNat i).toInt = i := Int32.toInt_ofNat_of_lt hi
  have z : (0 : Int32).toInt = 0 := by decide
  refine ⟨by rw [Int32.toNatClampNeg, q]; simp, ?_, q⟩
  rw [Int32.lt_iff_toInt_lt, q, z]; omega
theorem own_lt {i n : Nat} (hi : i < 2 ^ 31) (hn : n < 2 ^ 31) : Int32.ofNat i < Int32.ofNat n ↔ i < n := by
  rw [Int32.lt_iff_toInt_lt, (own_nat hi).2.2, (own_nat hn).2.2]; omega
theorem own_up (i : Nat) : Int32.ofNat i + (1 : Int32) = Int32.ofNat (i + 1) := (Int32.ofNat_add i 1).symm
abbrev OLawQ (n0 : Nat) : Option Value → Heap → List Loc → Prop := fun v _ L => v = some (.int (1 : Int32)) ∧ Fr n0 L
/-- a boolean as the machine's int -/
def OB (b : Bool) : Int32 := if b then 1 else 0
theorem own_b1 : nar .boolean (1 : Int32) = 1 := by decide
theorem own_b0 : nar .boolean (0 : Int32) = 0 := by decide
theorem own_nb (b : Bool) : nar .boolean (OB b) = OB b := by cases b <;> decide
end OwnKit
def own_minL (a b : Int64) : Int64 := if b < a then b else a
def own_minI (a b : Int32) : Int32 := if b < a then b else a
def own_M (p w : Int32) : Int32 := own_minI w (2 * p) - p
def own_P (k w : Int64) : Int32 := (own_minL k w).toInt32
def own_W (k w : Int64) : Int32 := ((2 + own_P k w) - 1) + (2 * ((own_M (own_P k w) w.toInt32 + w.toInt32) - own_P k w))
theorem ef_2_JJ (m : MethodId) (x0 : Int64) (x1 : Int64) : entryFrame m #[(.long x0), (.long x1)] 4 = mkF m 0 #[.val (.long x0), .second, .val (.long x1), .second] [] := by first | (simp [entryFrame, mkF, argsToLocals, Value.category]; done) | rfl
theorem d2_0 : decode jdk_29_method_70_code 0 = .ok (.lload_n 0, 1) := by decide +kernel
theorem d2_1 : decode jdk_29_method_70_code 1 = .ok (.lload_n 2, 1) := by decide +kernel
theorem d2_2 : decode jdk_29_method_70_code 2 = .ok (.lcmp, 1) := by decide +kernel
theorem d2_3 : decode jdk_29_method_70_code 3 = .ok (.ifCond .gt 7, 3) := by decide +kernel
theorem d2_10 : decode jdk_29_method_70_code 10 = .ok (.lload_n 2, 1) := by decide +kernel
theorem d2_11 : decode jdk_29_method_70_code 11 = .ok (.lreturn, 1) := by decide +kernel
theorem d2_6 : decode jdk_29_method_70_code 6 = .ok (.lload_n 0, 1) := by decide +kernel
theorem d2_7 : decode jdk_29_method_70_code 7 = .ok (.goto 4, 3) := by decide +kernel
set_option maxRecDepth 65536 in
set_option maxHeartbeats 40000000 in
theorem rm2 (l : Launch) (Z : State) (a0 : Array Value) (hw : ∀ d ∈ tables_1, d.before a0 Z = true) (q1 : Int64) (q2 : Int64) (h0 : Heap) :
    OPure l Z (⟨"java/lang/Math", "min", "(JJ)J"⟩ : MethodName) jdk_29_method_70_code 4 (some .long) [] ({ frames := 0, cells := 0, slots := 0, locals := 0 } : Room) #[(.long q1), (.long q2)] h0 (some (.long (own_minL q1 q2))) := by
  refine own_body (Jvm.Free.JP.mathPlain rfl (by decide +kernel)) (fun m => ef_2_JJ m q1 q2) ?_
  intro p e s m below meth c T0 hx hby hml hown hnm hret hlk hZ X0 e0
  have hown : s.vm.findClass "java/lang/Math" = some m.cls := hown
  have hml : c.maxLocals = 4 := hml
  show OGo p e below s _ _ (T0.setTop (mkF m 0 #[.val (.long q1), .second, .val (.long q2), .second] []))
  refine own_st (fun t k => XS.lloadN X0.here hx rfl (hb hby d2_0) rfl k) ?_
  show OGo p e below s _ _ (T0.setTop (mkF m 1 #[.val (.long q1), .second, .val (.long q2), .second] [(.long q1)]))
  refine own_st (fun t k => XS.lloadN X0.here hx rfl (hb hby d2_1) rfl k) ?_
  show OGo p e below s _ _ (T0.setTop (mkF m 2 #[.val (.long q1), .second, .val (.long q2), .second] [(.long q2), (.long q1)]))
  refine own_st (fun t k => XS.lcmp X0.here hx rfl (hb hby d2_2) rfl k) ?_
  show OGo p e below s _ _ (T0.setTop (mkF m 3 #[.val (.long q1), .second, .val (.long q2), .second] [(.int (lcmpW q1 q2))]))
  by_cases hc3 : q2 < q1
  · refine own_st (fun t k => XS.ifYes X0.here hx rfl (pc0 := 3) (pc' := 10) rfl (hb hby d2_3) rfl ((if0 _ _).trans (tlt ((lw_gt q1 q2).mpr hc3)).2.2.1) (by decide) (by decide) k) ?_
    show OGo p e below s _ _ (T0.setTop (mkF m 10 #[.val (.long q1), .second, .val (.long q2), .second] []))
    refine own_st (fun t k => XS.lloadN X0.here hx rfl (hb hby d2_10) rfl k) ?_
    show OGo p e below s _ _ (T0.setTop (mkF m 11 #[.val (.long q1), .second, .val (.long q2), .second] [(.long q2)]))
    exact own_retJ X0 hx hlk hret (hb hby d2_11) (by decide) (by decide) (⟨by simp [own_minL, hc3], rfl, e0⟩)
  · refine own_st (fun t k => XS.ifNo X0.here hx rfl (hb hby d2_3) rfl ((if0 _ _).trans (flt ((not_congr (lw_gt q1 q2)).mpr hc3)).2.2.1) k) ?_
    show OGo p e below s _ _ (T0.setTop (mkF m 6 #[.val (.long q1), .second, .val (.long q2), .second] []))
    refine own_st (fun t k => XS.lloadN X0.here hx rfl (hb hby d2_6) rfl k) ?_
    show OGo p e below s _ _ (T0.setTop (mkF m 7 #[.val (.long q1), .second, .val (.long q2), .second] [(.long q1)]))
    refine own_st (fun t k => XS.goto X0.here hx rfl (pc0 := 7) (pc' := 11) rfl (hb hby d2_7) (by decide) (by decide) k) ?_
    show OGo p e below s _ _ (T0.setTop (mkF m 11 #[.val (.long q1), .second, .val (.long q2), .second] [(.long q1)]))
    exact own_retJ X0 hx hlk hret (hb hby d2_11) (by decide) (by decide) (⟨by simp [own_minL, hc3], rfl, e0⟩)
theorem ef_4_II (m : MethodId) (x0 : Int32) (x1 : Int32) : entryFrame m #[(.int x0), (.int x1)] 2 = mkF m 0 #[.val (.int x0), .val (.int x1)] [] := by first | (simp [entryFrame, mkF, argsToLocals, Value.category]; done) | rfl
theorem d4_0 : decode jdk_29_method_69_code 0 = .ok (.iload_n 0, 1) := by decide +kernel
theorem d4_1 : decode jdk_29_method_69_code 1 = .ok (.iload_n 1, 1) := by decide +kernel
theorem d4_2 : decode jdk_29_method_69_code 2 = .ok (.if_icmp .gt 7, 3) := by decide +kernel
theorem d4_9 : decode jdk_29_method_69_code 9 = .ok (.iload_n 1, 1) := by decide +kernel
theorem d4_10 : decode jdk_29_method_69_code 10 = .ok (.ireturn, 1) := by decide +kernel
theorem d4_5 : decode jdk_29_method_69_code 5 = .ok (.iload_n 0, 1) := by decide +kernel
theorem d4_6 : decode jdk_29_method_69_code 6 = .ok (.goto 4, 3) := by decide +kernel
set_option maxRecDepth 65536 in
set_option maxHeartbeats 40000000 in
theorem rm4 (l : Launch) (Z : State) (a0 : Array Value) (hw : ∀ d ∈ tables_1, d.before a0 Z = true) (q1 : Int32) (q2 : Int32) (h0 : Heap) :
    OPure l Z (⟨"java/lang/Math", "min", "(II)I"⟩ : MethodName) jdk_29_method_69_code 2 (some .int) [] ({ frames := 0, cells := 0, slots := 0, locals := 0 } : Room) #[(.int q1), (.int q2)] h0 (some (.int (own_minI q1 q2))) := by
  refine own_body (Jvm.Free.JP.mathPlain rfl (by decide +kernel)) (fun m => ef_4_II m q1 q2) ?_
  intro p e s m below meth c T0 hx hby hml hown hnm hret hlk hZ X0 e0
  have hown : s.vm.findClass "java/lang/Math" = some m.cls := hown
  have hml : c.maxLocals = 2 := hml
  show OGo p e below s _ _ (T0.setTop (mkF m 0 #[.val (.int q1), .val (.int q2)] []))
  refine own_st (fun t k => XS.iloadN X0.here hx rfl (hb hby d4_0) rfl k) ?_
  show OGo p e below s _ _ (T0.setTop (mkF m 1 #[.val (.int q1), .val (.int q2)] [(.int q1)]))
  refine own_st (fun t k => XS.iloadN X0.here hx rfl (hb hby d4_1) rfl k) ?_
  show OGo p e below s _ _ (T0.setTop (mkF m 2 #[.val (.int q1), .val (.int q2)] [(.int q2), (.int q1)]))
  by_cases hc2 : q2 < q1
  · refine own_st (fun t k => XS.icmpYes X0.here hx rfl (pc0 := 2) (pc' := 9) rfl (hb hby d4_2) rfl (tlt (hc2)).2.2.1 (by decide) (by decide) k) ?_
    show OGo p e below s _ _ (T0.setTop (mkF m 9 #[.val (.int q1), .val (.int q2)] []))
    refine own_st (fun t k => XS.iloadN X0.here hx rfl (hb hby d4_9) rfl k) ?_
    show OGo p e below s _ _ (T0.setTop (mkF m 10 #[.val (.int q1), .val (.int q2)] [(.int q2)]))
    exact own_retI X0 hx hlk hret (hb hby d4_10) (by decide) (by decide) (⟨by simp [own_minI, hc2], rfl, e0⟩)
  · refine own_st (fun t k => XS.icmpNo X0.here hx rfl (hb hby d4_2) rfl (flt (hc2)).2.2.1 k) ?_
    show OGo p e below s _ _ (T0.setTop (mkF m 5 #[.val (.int q1), .val (.int q2)] []))
    refine own_st (fun t k => XS.iloadN X0.here hx rfl (hb hby d4_5) rfl k) ?_
    show OGo p e below s _ _ (T0.setTop (mkF m 6 #[.val (.int q1), .val (.int q2)] [(.int q1)]))
    refine own_st (fun t k => XS.goto X0.here hx rfl (pc0 := 6) (pc' := 10) rfl (hb hby d4_6) (by decide) (by decide) k) ?_
    show OGo p e below s _ _ (T0.setTop (mkF m 10 #[.val (.int q1), .val (.int q2)] [(.int q1)]))
    exact own_retI X0 hx hlk hret (hb hby d4_10) (by decide) (by decide) (⟨by simp [own_minI, hc2], rfl, e0⟩)
theorem pn_com_example_do_all_doall_algo_SlotTree : plainName "com/example/do_all/doall/algo/SlotTree" = true := by first | (simp [plainName, overriddenIn]; done) | decide +kernel
theorem ef_3_II (m : MethodId) (x0 : Int32) (x1 : Int32) : entryFrame m #[(.int x0), (.int x1)] 2 = mkF m 0 #[.val (.int x0), .val (.int x1)] [] := by first | (simp [entryFrame, mkF, argsToLocals, Value.category]; done) | rfl
theorem d3_0 : decode prog_3_method_4_code 0 = .ok (.iload_n 1, 1) := by decide +kernel
theorem d3_1 : decode prog_3_method_4_code 1 = .ok (.iconst 2, 1) := by decide +kernel
theorem d3_2 : decode prog_3_method_4_code 2 = .ok (.iload_n 0, 1) := by decide +kernel
theorem d3_3 : decode prog_3_method_4_code 3 = .ok (.imul, 1) := by decide +kernel
theorem d3_4 : decode prog_3_method_4_code 4 = .ok (.invokestatic 50, 3) := by decide +kernel
theorem pd_0 : parseMethodDescriptor "(II)I" = some ⟨[.int, .int], some .int⟩ := by decide +kernel
theorem d3_7 : decode prog_3_method_4_code 7 = .ok (.iload_n 0, 1) := by decide +kernel
theorem d3_8 : decode prog_3_method_4_code 8 = .ok (.isub, 1) := by decide +kernel
theorem d3_9 : decode prog_3_method_4_code 9 = .ok (.ireturn, 1) := by decide +kernel
set_option maxRecDepth 65536 in
set_option maxHeartbeats 40000000 in
theorem rm3 (l : Launch) (Z : State) (a0 : Array Value) (hw : ∀ d ∈ tables_1, d.before a0 Z = true) (q1 : Int32) (q2 : Int32) (h0 : Heap) :
    OPure l Z (⟨"com/example/do_all/doall/algo/SlotTree", "mergeBlocks", "(II)I"⟩ : MethodName) prog_3_method_4_code 2 (some .int) [] ({ frames := 1, cells := 0, slots := 0, locals := 14 } : Room) #[(.int q1), (.int q2)] h0 (some (.int (own_M q1 q2))) := by
  refine own_body (plainFor_of_name pn_com_example_do_all_doall_algo_SlotTree) (fun m => ef_3_II m q1 q2) ?_
  intro p e s m below meth c T0 hx hby hml hown hnm hret hlk hZ X0 e0
  have hown : s.vm.findClass "com/example/do_all/doall/algo/SlotTree" = some m.cls := hown
  have hml : c.maxLocals = 2 := hml
  show OGo p e below s _ _ (T0.setTop (mkF m 0 #[.val (.int q1), .val (.int q2)] []))
  refine own_st (fun t k => XS.iloadN X0.here hx rfl (hb hby d3_0) rfl k) ?_
  show OGo p e below s _ _ (T0.setTop (mkF m 1 #[.val (.int q1), .val (.int q2)] [(.int q2)]))
  refine own_st (fun t k => XS.iconst X0.here hx rfl (hb hby d3_1) k) ?_
  show OGo p e below s _ _ (T0.setTop (mkF m 2 #[.val (.int q1), .val (.int q2)] [(.int (2 : Int32)), (.int q2)]))
  refine own_st (fun t k => XS.iloadN X0.here hx rfl (hb hby d3_2) rfl k) ?_
  show OGo p e below s _ _ (T0.setTop (mkF m 3 #[.val (.int q1), .val (.int q2)] [(.int q1), (.int (2 : Int32)), (.int q2)]))
  refine own_st (fun t k => XS.imul X0.here hx rfl (hb hby d3_3) rfl k) ?_
  show OGo p e below s _ _ (T0.setTop (mkF m 4 #[.val (.int q1), .val (.int q2)] [(.int ((2 : Int32) * q1)), (.int q2)]))
  obtain ⟨T1, X1, e1, st1⟩ := own_callSP X0 hx hZ (y := (⟨"java/lang/Math", "min", "(II)I"⟩ : MethodName)) (W := 0) hown (hw _ (List.mem_of_getElem? (i := 16) rfl)) (hw _ (List.mem_of_getElem? (i := 17) rfl)) (hw _ (List.mem_of_getElem? (i := 11) rfl)) (hw _ (List.mem_of_getElem? (i := 18) rfl)) (by decide) (rm4 l Z a0 hw q2 ((2 : Int32) * q1) h0) (by decide) (by decide) (g := (mkF m 4 #[.val (.int q1), .val (.int q2)] [(.int ((2 : Int32) * q1)), (.int q2)])) rfl (by rw [hml]; rfl) (argsL := [(.int q2), (.int ((2 : Int32) * q1))]) (rest := []) (lenOf pd_0 rfl) rfl (by show 2 * 0 + _ ≤ _; exact Nat.le_of_eq rfl) (hb hby d3_4) rfl e0 (by decide) (by decide)
  refine own_st st1 ?_
  show OGo p e below s _ _ (T1.setTop (mkF m 7 #[.val (.int q1), .val (.int q2)] [(.int (own_minI q2 ((2 : Int32) * q1)))]))
  refine own_st (fun t k => XS.iloadN X1.here hx rfl (hb hby d3_7) rfl k) ?_
  show OGo p e below s _ _ (T1.setTop (mkF m 8 #[.val (.int q1), .val (.int q2)] [(.int q1), (.int (own_minI q2 ((2 : Int32) * q1)))]))
  refine own_st (fun t k => XS.isub X1.here hx rfl (hb hby d3_8) rfl k) ?_
  show OGo p e below s _ _ (T1.setTop (mkF m 9 #[.val (.int q1), .val (.int q2)] [(.int ((own_minI q2 ((2 : Int32) * q1)) - q1))]))
  exact own_retI X1 hx hlk hret (hb hby d3_9) (by decide) (by decide) (⟨rfl, rfl, e1⟩)
theorem ef_1_JJ (m : MethodId) (x0 : Int64) (x1 : Int64) : entryFrame m #[(.long x0), (.long x1)] 6 = mkF m 0 #[.val (.long x0), .second, .val (.long x1), .second, .unset, .unset] [] := by first | (simp [entryFrame, mkF, argsToLocals, Value.category]; done) | rfl
theorem d1_0 : decode prog_3_method_3_code 0 = .ok (.lload_n 0, 1) := by decide +kernel
theorem d1_1 : decode prog_3_method_3_code 1 = .ok (.lconst 1, 1) := by decide +kernel
theorem d1_2 : decode prog_3_method_3_code 2 = .ok (.lcmp, 1) := by decide +kernel
theorem d1_3 : decode prog_3_method_3_code 3 = .ok (.ifCond .lt 11, 3) := by decide +kernel
theorem d1_6 : decode prog_3_method_3_code 6 = .ok (.lload_n 0, 1) := by decide +kernel
theorem d1_7 : decode prog_3_method_3_code 7 = .ok (.ldc2_w 93, 3) := by decide +kernel
theorem d1_10 : decode prog_3_method_3_code 10 = .ok (.lcmp, 1) := by decide +kernel
theorem d1_11 : decode prog_3_method_3_code 11 = .ok (.ifCond .le 17, 3) := by decide +kernel
theorem d1_28 : decode prog_3_method_3_code 28 = .ok (.lload_n 2, 1) := by decide +kernel
theorem d1_29 : decode prog_3_method_3_code 29 = .ok (.lconst 1, 1) := by decide +kernel
theorem d1_30 : decode prog_3_method_3_code 30 = .ok (.lcmp, 1) := by decide +kernel
theorem d1_31 : decode prog_3_method_3_code 31 = .ok (.ifCond .lt 11, 3) := by decide +kernel
theorem d1_34 : decode prog_3_method_3_code 34 = .ok (.lload_n 2, 1) := by decide +kernel
theorem d1_35 : decode prog_3_method_3_code 35 = .ok (.ldc2_w 98, 3) := by decide +kernel
theorem d1_38 : decode prog_3_method_3_code 38 = .ok (.lcmp, 1) := by decide +kernel
theorem d1_39 : decode prog_3_method_3_code 39 = .ok (.ifCond .le 17, 3) := by decide +kernel
theorem d1_56 : decode prog_3_method_3_code 56 = .ok (.lload_n 0, 1) := by decide +kernel
theorem d1_57 : decode prog_3_method_3_code 57 = .ok (.lload_n 2, 1) := by decide +kernel
theorem d1_58 : decode prog_3_method_3_code 58 = .ok (.invokestatic 101, 3) := by decide +kernel
theorem pd_1 : parseMethodDescriptor "(JJ)J" = some ⟨[.long, .long], some .long⟩ := by decide +kernel
theorem d1_61 : decode prog_3_method_3_code 61 = .ok (.l2i, 1) := by decide +kernel
theorem d1_62 : decode prog_3_method_3_code 62 = .ok (.istore 4, 2) := by decide +kernel
theorem d1_64 : decode prog_3_method_3_code 64 = .ok (.iload 4, 2) := by decide +kernel
theorem d1_66 : decode prog_3_method_3_code 66 = .ok (.lload_n 2, 1) := by decide +kernel
theorem d1_67 : decode prog_3_method_3_code 67 = .ok (.l2i, 1) := by decide +kernel
theorem d1_68 : decode prog_3_method_3_code 68 = .ok (.invokestatic 66, 3) := by decide +kernel
theorem d1_71 : decode prog_3_method_3_code 71 = .ok (.lload_n 2, 1) := by decide +kernel
theorem d1_72 : decode prog_3_method_3_code 72 = .ok (.l2i, 1) := by decide +kernel
theorem d1_73 : decode prog_3_method_3_code 73 = .ok (.iadd, 1) := by decide +kernel
theorem d1_74 : decode prog_3_method_3_code 74 = .ok (.iload 4, 2) := by decide +kernel
theorem d1_76 : decode prog_3_method_3_code 76 = .ok (.isub, 1) := by decide +kernel
theorem d1_77 : decode prog_3_method_3_code 77 = .ok (.istore 5, 2) := by decide +kernel
theorem d1_79 : decode prog_3_method_3_code 79 = .ok (.iconst 2, 1) := by decide +kernel
theorem d1_80 : decode prog_3_method_3_code 80 = .ok (.iload 4, 2) := by decide +kernel
theorem d1_82 : decode prog_3_method_3_code 82 = .ok (.iadd, 1) := by decide +kernel
theorem d1_83 : decode prog_3_method_3_code 83 = .ok (.iconst 1, 1) := by decide +kernel
theorem d1_84 : decode prog_3_method_3_code 84 = .ok (.isub, 1) := by decide +kernel
theorem d1_85 : decode prog_3_method_3_code 85 = .ok (.iconst 2, 1) := by decide +kernel
theorem d1_86 : decode prog_3_method_3_code 86 = .ok (.iload 5, 2) := by decide +kernel
theorem d1_88 : decode prog_3_method_3_code 88 = .ok (.imul, 1) := by decide +kernel
theorem d1_89 : decode prog_3_method_3_code 89 = .ok (.iadd, 1) := by decide +kernel
theorem d1_90 : decode prog_3_method_3_code 90 = .ok (.ireturn, 1) := by decide +kernel
set_option maxRecDepth 65536 in
set_option maxHeartbeats 40000000 in
theorem rm1 (l : Launch) (Z : State) (a0 : Array Value) (hw : ∀ d ∈ tables_1, d.before a0 Z = true) (q1 : Int64) (q2 : Int64) (h0 : Heap) (h1 : ¬ q1 < 1) (h2 : ¬ (2147483647 : Int64) < q1) (h3 : ¬ q2 < 1) (h4 : ¬ (1048576 : Int64) < q2) :
    OPure l Z (⟨"com/example/do_all/doall/algo/SlotTree", "words", "(JJ)I"⟩ : MethodName) prog_3_method_3_code 6 (some .int) [] ({ frames := 2, cells := 0, slots := 0, locals := 40 } : Room) #[(.long q1), (.long q2)] h0 (some (.int (own_W q1 q2))) := by
  refine own_body (plainFor_of_name pn_com_example_do_all_doall_algo_SlotTree) (fun m => ef_1_JJ m q1 q2) ?_
  intro p e s m below meth c T0 hx hby hml hown hnm hret hlk hZ X0 e0
  have hown : s.vm.findClass "com/example/do_all/doall/algo/SlotTree" = some m.cls := hown
  have hml : c.maxLocals = 6 := hml
  show OGo p e below s _ _ (T0.setTop (mkF m 0 #[.val (.long q1), .second, .val (.long q2), .second, .unset, .unset] []))
  refine own_st (fun t k => XS.lloadN X0.here hx rfl (hb hby d1_0) rfl k) ?_
  show OGo p e below s _ _ (T0.setTop (mkF m 1 #[.val (.long q1), .second, .val (.long q2), .second, .unset, .unset] [(.long q1)]))
  refine own_st (fun t k => XS.lconst X0.here hx rfl (hb hby d1_1) k) ?_
  show OGo p e below s _ _ (T0.setTop (mkF m 2 #[.val (.long q1), .second, .val (.long q2), .second, .unset, .unset] [(.long (1 : Int64)), (.long q1)]))
  refine own_st (fun t k => XS.lcmp X0.here hx rfl (hb hby d1_2) rfl k) ?_
  show OGo p e below s _ _ (T0.setTop (mkF m 3 #[.val (.long q1), .second, .val (.long q2), .second, .unset, .unset] [(.int (lcmpW q1 (1 : Int64)))]))
  refine own_st (fun t k => XS.ifNo X0.here hx rfl (hb hby d1_3) rfl ((if0 _ _).trans (flt ((not_congr (lw_lt q1 (1 : Int64))).mpr h1)).1) k) ?_
  show OGo p e below s _ _ (T0.setTop (mkF m 6 #[.val (.long q1), .second, .val (.long q2), .second, .unset, .unset] []))
  refine own_st (fun t k => XS.lloadN X0.here hx rfl (hb hby d1_6) rfl k) ?_
  show OGo p e below s _ _ (T0.setTop (mkF m 7 #[.val (.long q1), .second, .val (.long q2), .second, .unset, .unset] [(.long q1)]))
  refine own_st (X0.ldc2Long hx hown (mvT hZ (hw _ (List.mem_of_getElem? (i := 7) rfl))) (g := (mkF m 7 #[.val (.long q1), .second, .val (.long q2), .second, .unset, .unset] [(.long q1)])) rfl (hb hby d1_7)) ?_
  show OGo p e below s _ _ (T0.setTop (mkF m 10 #[.val (.long q1), .second, .val (.long q2), .second, .unset, .unset] [(.long (2147483647 : Int64)), (.long q1)]))
  refine own_st (fun t k => XS.lcmp X0.here hx rfl (hb hby d1_10) rfl k) ?_
  show OGo p e below s _ _ (T0.setTop (mkF m 11 #[.val (.long q1), .second, .val (.long q2), .second, .unset, .unset] [(.int (lcmpW q1 (2147483647 : Int64)))]))
  refine own_st (fun t k => XS.ifYes X0.here hx rfl (pc0 := 11) (pc' := 28) rfl (hb hby d1_11) rfl ((if0 _ _).trans (flt ((not_congr (lw_gt q1 (2147483647 : Int64))).mpr h2)).2.2.2) (by decide) (by decide) k) ?_
  show OGo p e below s _ _ (T0.setTop (mkF m 28 #[.val (.long q1), .second, .val (.long q2), .second, .unset, .unset] []))
  refine own_st (fun t k => XS.lloadN X0.here hx rfl (hb hby d1_28) rfl k) ?_
  show OGo p e below s _ _ (T0.setTop (mkF m 29 #[.val (.long q1), .second, .val (.long q2), .second, .unset, .unset] [(.long q2)]))
  refine own_st (fun t k => XS.lconst X0.here hx rfl (hb hby d1_29) k) ?_
  show OGo p e below s _ _ (T0.setTop (mkF m 30 #[.val (.long q1), .second, .val (.long q2), .second, .unset, .unset] [(.long (1 : Int64)), (.long q2)]))
  refine own_st (fun t k => XS.lcmp X0.here hx rfl (hb hby d1_30) rfl k) ?_
  show OGo p e below s _ _ (T0.setTop (mkF m 31 #[.val (.long q1), .second, .val (.long q2), .second, .unset, .unset] [(.int (lcmpW q2 (1 : Int64)))]))
  refine own_st (fun t k => XS.ifNo X0.here hx rfl (hb hby d1_31) rfl ((if0 _ _).trans (flt ((not_congr (lw_lt q2 (1 : Int64))).mpr h3)).1) k) ?_
  show OGo p e below s _ _ (T0.setTop (mkF m 34 #[.val (.long q1), .second, .val (.long q2), .second, .unset, .unset] []))
  refine own_st (fun t k => XS.lloadN X0.here hx rfl (hb hby d1_34) rfl k) ?_
  show OGo p e below s _ _ (T0.setTop (mkF m 35 #[.val (.long q1), .second, .val (.long q2), .second, .unset, .unset] [(.long q2)]))
  refine own_st (X0.ldc2Long hx hown (mvT hZ (hw _ (List.mem_of_getElem? (i := 8) rfl))) (g := (mkF m 35 #[.val (.long q1), .second, .val (.long q2), .second, .unset, .unset] [(.long q2)])) rfl (hb hby d1_35)) ?_
  show OGo p e below s _ _ (T0.setTop (mkF m 38 #[.val (.long q1), .second, .val (.long q2), .second, .unset, .unset] [(.long (1048576 : Int64)), (.long q2)]))
  refine own_st (fun t k => XS.lcmp X0.here hx rfl (hb hby d1_38) rfl k) ?_
  show OGo p e below s _ _ (T0.setTop (mkF m 39 #[.val (.long q1), .second, .val (.long q2), .second, .unset, .unset] [(.int (lcmpW q2 (1048576 : Int64)))]))
  refine own_st (fun t k => XS.ifYes X0.here hx rfl (pc0 := 39) (pc' := 56) rfl (hb hby d1_39) rfl ((if0 _ _).trans (flt ((not_congr (lw_gt q2 (1048576 : Int64))).mpr h4)).2.2.2) (by decide) (by decide) k) ?_
  show OGo p e below s _ _ (T0.setTop (mkF m 56 #[.val (.long q1), .second, .val (.long q2), .second, .unset, .unset] []))
  refine own_st (fun t k => XS.lloadN X0.here hx rfl (hb hby d1_56) rfl k) ?_
  show OGo p e below s _ _ (T0.setTop (mkF m 57 #[.val (.long q1), .second, .val (.long q2), .second, .unset, .unset] [(.long q1)]))
  refine own_st (fun t k => XS.lloadN X0.here hx rfl (hb hby d1_57) rfl k) ?_
  show OGo p e below s _ _ (T0.setTop (mkF m 58 #[.val (.long q1), .second, .val (.long q2), .second, .unset, .unset] [(.long q2), (.long q1)]))
  obtain ⟨T2, X2, e2, st2⟩ := own_callSP X0 hx hZ (y := (⟨"java/lang/Math", "min", "(JJ)J"⟩ : MethodName)) (W := 0) hown (hw _ (List.mem_of_getElem? (i := 9) rfl)) (hw _ (List.mem_of_getElem? (i := 10) rfl)) (hw _ (List.mem_of_getElem? (i := 11) rfl)) (hw _ (List.mem_of_getElem? (i := 12) rfl)) (by decide) (rm2 l Z a0 hw q1 q2 h0) (by decide) (by decide) (g := (mkF m 58 #[.val (.long q1), .second, .val (.long q2), .second, .unset, .unset] [(.long q2), (.long q1)])) rfl (by rw [hml]; rfl) (argsL := [(.long q1), (.long q2)]) (rest := []) (lenOf pd_1 rfl) rfl (by show 2 * 0 + _ ≤ _; exact Nat.le_of_eq rfl) (hb hby d1_58) rfl e0 (by decide) (by decide)
  refine own_st st2 ?_
  show OGo p e below s _ _ (T2.setTop (mkF m 61 #[.val (.long q1), .second, .val (.long q2), .second, .unset, .unset] [(.long (own_minL q1 q2))]))
  refine own_st (fun t k => XS.l2i X2.here hx rfl (hb hby d1_61) rfl k) ?_
  show OGo p e below s _ _ (T2.setTop (mkF m 62 #[.val (.long q1), .second, .val (.long q2), .second, .unset, .unset] [(.int (own_minL q1 q2).toInt32)]))
  refine own_st (fun t k => XS.istore X2.here hx rfl (hb hby d1_62) rfl (l' := #[.val (.long q1), .second, .val (.long q2), .second, .val (.int (own_minL q1 q2).toInt32), .unset]) rfl k) ?_
  show OGo p e below s _ _ (T2.setTop (mkF m 64 #[.val (.long q1), .second, .val (.long q2), .second, .val (.int (own_minL q1 q2).toInt32), .unset] []))
  refine own_st (fun t k => XS.iload X2.here hx rfl (hb hby d1_64) rfl k) ?_
  show OGo p e below s _ _ (T2.setTop (mkF m 66 #[.val (.long q1), .second, .val (.long q2), .second, .val (.int (own_minL q1 q2).toInt32), .unset] [(.int (own_minL q1 q2).toInt32)]))
  refine own_st (fun t k => XS.lloadN X2.here hx rfl (hb hby d1_66) rfl k) ?_
  show OGo p e below s _ _ (T2.setTop (mkF m 67 #[.val (.long q1), .second, .val (.long q2), .second, .val (.int (own_minL q1 q2).toInt32), .unset] [(.long q2), (.int (own_minL q1 q2).toInt32)]))
  refine own_st (fun t k => XS.l2i X2.here hx rfl (hb hby d1_67) rfl k) ?_
  show OGo p e below s _ _ (T2.setTop (mkF m 68 #[.val (.long q1), .second, .val (.long q2), .second, .val (.int (own_minL q1 q2).toInt32), .unset] [(.int q2.toInt32), (.int (own_minL q1 q2).toInt32)]))
  obtain ⟨T3, X3, e3, st3⟩ := own_callSP X2 hx hZ (y := (⟨"com/example/do_all/doall/algo/SlotTree", "mergeBlocks", "(II)I"⟩ : MethodName)) (W := 0) hown (hw _ (List.mem_of_getElem? (i := 13) rfl)) (hw _ (List.mem_of_getElem? (i := 14) rfl)) (hw _ (List.mem_of_getElem? (i := 5) rfl)) (hw _ (List.mem_of_getElem? (i := 15) rfl)) (by decide) (rm3 l Z a0 hw (own_minL q1 q2).toInt32 q2.toInt32 h0) (by decide) (by decide) (g := (mkF m 68 #[.val (.long q1), .second, .val (.long q2), .second, .val (.int (own_minL q1 q2).toInt32), .unset] [(.int q2.toInt32), (.int (own_minL q1 q2).toInt32)])) rfl (by rw [hml]; rfl) (argsL := [(.int (own_minL q1 q2).toInt32), (.int q2.toInt32)]) (rest := []) (lenOf pd_0 rfl) rfl (by show 2 * 0 + _ ≤ _; exact Nat.le_of_eq rfl) (hb hby d1_68) rfl e2 (by decide) (by decide)
  refine own_st st3 ?_
  show OGo p e below s _ _ (T3.setTop (mkF m 71 #[.val (.long q1), .second, .val (.long q2), .second, .val (.int (own_minL q1 q2).toInt32), .unset] [(.int (own_M (own_minL q1 q2).toInt32 q2.toInt32))]))
  refine own_st (fun t k => XS.lloadN X3.here hx rfl (hb hby d1_71) rfl k) ?_
  show OGo p e below s _ _ (T3.setTop (mkF m 72 #[.val (.long q1), .second, .val (.long q2), .second, .val (.int (own_minL q1 q2).toInt32), .unset] [(.long q2), (.int (own_M (own_minL q1 q2).toInt32 q2.toInt32))]))
  refine own_st (fun t k => XS.l2i X3.here hx rfl (hb hby d1_72) rfl k) ?_
  show OGo p e below s _ _ (T3.setTop (mkF m 73 #[.val (.long q1), .second, .val (.long q2), .second, .val (.int (own_minL q1 q2).toInt32), .unset] [(.int q2.toInt32), (.int (own_M (own_minL q1 q2).toInt32 q2.toInt32))]))
  refine own_st (fun t k => XS.iadd X3.here hx rfl (hb hby d1_73) rfl k) ?_
  show OGo p e below s _ _ (T3.setTop (mkF m 74 #[.val (.long q1), .second, .val (.long q2), .second, .val (.int (own_minL q1 q2).toInt32), .unset] [(.int ((own_M (own_minL q1 q2).toInt32 q2.toInt32) + q2.toInt32))]))
  refine own_st (fun t k => XS.iload X3.here hx rfl (hb hby d1_74) rfl k) ?_
  show OGo p e below s _ _ (T3.setTop (mkF m 76 #[.val (.long q1), .second, .val (.long q2), .second, .val (.int (own_minL q1 q2).toInt32), .unset] [(.int (own_minL q1 q2).toInt32), (.int ((own_M (own_minL q1 q2).toInt32 q2.toInt32) + q2.toInt32))]))
  refine own_st (fun t k => XS.isub X3.here hx rfl (hb hby d1_76) rfl k) ?_
  show OGo p e below s _ _ (T3.setTop (mkF m 77 #[.val (.long q1), .second, .val (.long q2), .second, .val (.int (own_minL q1 q2).toInt32), .unset] [(.int (((own_M (own_minL q1 q2).toInt32 q2.toInt32) + q2.toInt32) - (own_minL q1 q2).toInt32))]))
  refine own_st (fun t k => XS.istore X3.here hx rfl (hb hby d1_77) rfl (l' := #[.val (.long q1), .second, .val (.long q2), .second, .val (.int (own_minL q1 q2).toInt32), .val (.int (((own_M (own_minL q1 q2).toInt32 q2.toInt32) + q2.toInt32) - (own_minL q1 q2).toInt32))]) rfl k) ?_
  show OGo p e below s _ _ (T3.setTop (mkF m 79 #[.val (.long q1), .second, .val (.long q2), .second, .val (.int (own_minL q1 q2).toInt32), .val (.int (((own_M (own_minL q1 q2).toInt32 q2.toInt32) + q2.toInt32) - (own_minL q1 q2).toInt32))] []))
  refine own_st (fun t k => XS.iconst X3.here hx rfl (hb hby d1_79) k) ?_
  show OGo p e below s _ _ (T3.setTop (mkF m 80 #[.val (.long q1), .second, .val (.long q2), .second, .val (.int (own_minL q1 q2).toInt32), .val (.int (((own_M (own_minL q1 q2).toInt32 q2.toInt32) + q2.toInt32) - (own_minL q1 q2).toInt32))] [(.int (2 : Int32))]))
  refine own_st (fun t k => XS.iload X3.here hx rfl (hb hby d1_80) rfl k) ?_
  show OGo p e below s _ _ (T3.setTop (mkF m 82 #[.val (.long q1), .second, .val (.long q2), .second, .val (.int (own_minL q1 q2).toInt32), .val (.int (((own_M (own_minL q1 q2).toInt32 q2.toInt32) + q2.toInt32) - (own_minL q1 q2).toInt32))] [(.int (own_minL q1 q2).toInt32), (.int (2 : Int32))]))
  refine own_st (fun t k => XS.iadd X3.here hx rfl (hb hby d1_82) rfl k) ?_
  show OGo p e below s _ _ (T3.setTop (mkF m 83 #[.val (.long q1), .second, .val (.long q2), .second, .val (.int (own_minL q1 q2).toInt32), .val (.int (((own_M (own_minL q1 q2).toInt32 q2.toInt32) + q2.toInt32) - (own_minL q1 q2).toInt32))] [(.int ((2 : Int32) + (own_minL q1 q2).toInt32))]))
  refine own_st (fun t k => XS.iconst X3.here hx rfl (hb hby d1_83) k) ?_
  show OGo p e below s _ _ (T3.setTop (mkF m 84 #[.val (.long q1), .second, .val (.long q2), .second, .val (.int (own_minL q1 q2).toInt32), .val (.int (((own_M (own_minL q1 q2).toInt32 q2.toInt32) + q2.toInt32) - (own_minL q1 q2).toInt32))] [(.int (1 : Int32)), (.int ((2 : Int32) + (own_minL q1 q2).toInt32))]))
  refine own_st (fun t k => XS.isub X3.here hx rfl (hb hby d1_84) rfl k) ?_
  show OGo p e below s _ _ (T3.setTop (mkF m 85 #[.val (.long q1), .second, .val (.long q2), .second, .val (.int (own_minL q1 q2).toInt32), .val (.int (((own_M (own_minL q1 q2).toInt32 q2.toInt32) + q2.toInt32) - (own_minL q1 q2).toInt32))] [(.int (((2 : Int32) + (own_minL q1 q2).toInt32) - (1 : Int32)))]))
  refine own_st (fun t k => XS.iconst X3.here hx rfl (hb hby d1_85) k) ?_
  show OGo p e below s _ _ (T3.setTop (mkF m 86 #[.val (.long q1), .second, .val (.long q2), .second, .val (.int (own_minL q1 q2).toInt32), .val (.int (((own_M (own_minL q1 q2).toInt32 q2.toInt32) + q2.toInt32) - (own_minL q1 q2).toInt32))] [(.int (2 : Int32)), (.int (((2 : Int32) + (own_minL q1 q2).toInt32) - (1 : Int32)))]))
  refine own_st (fun t k => XS.iload X3.here hx rfl (hb hby d1_86) rfl k) ?_
  show OGo p e below s _ _ (T3.setTop (mkF m 88 #[.val (.long q1), .second, .val (.long q2), .second, .val (.int (own_minL q1 q2).toInt32), .val (.int (((own_M (own_minL q1 q2).toInt32 q2.toInt32) + q2.toInt32) - (own_minL q1 q2).toInt32))] [(.int (((own_M (own_minL q1 q2).toInt32 q2.toInt32) + q2.toInt32) - (own_minL q1 q2).toInt32)), (.int (2 : Int32)), (.int (((2 : Int32) + (own_minL q1 q2).toInt32) - (1 : Int32)))]))
  refine own_st (fun t k => XS.imul X3.here hx rfl (hb hby d1_88) rfl k) ?_
  show OGo p e below s _ _ (T3.setTop (mkF m 89 #[.val (.long q1), .second, .val (.long q2), .second, .val (.int (own_minL q1 q2).toInt32), .val (.int (((own_M (own_minL q1 q2).toInt32 q2.toInt32) + q2.toInt32) - (own_minL q1 q2).toInt32))] [(.int ((2 : Int32) * (((own_M (own_minL q1 q2).toInt32 q2.toInt32) + q2.toInt32) - (own_minL q1 q2).toInt32))), (.int (((2 : Int32) + (own_minL q1 q2).toInt32) - (1 : Int32)))]))
  refine own_st (fun t k => XS.iadd X3.here hx rfl (hb hby d1_89) rfl k) ?_
  show OGo p e below s _ _ (T3.setTop (mkF m 90 #[.val (.long q1), .second, .val (.long q2), .second, .val (.int (own_minL q1 q2).toInt32), .val (.int (((own_M (own_minL q1 q2).toInt32 q2.toInt32) + q2.toInt32) - (own_minL q1 q2).toInt32))] [(.int ((((2 : Int32) + (own_minL q1 q2).toInt32) - (1 : Int32)) + ((2 : Int32) * (((own_M (own_minL q1 q2).toInt32 q2.toInt32) + q2.toInt32) - (own_minL q1 q2).toInt32))))]))
  exact own_retI X3 hx hlk hret (hb hby d1_90) (by decide) (by decide) (⟨rfl, rfl, e3⟩)
theorem own_minL_t (a b : Int64) : (own_minL a b).toInt = min a.toInt b.toInt := by
  unfold own_minL; split
  · rename_i h; rw [Int64.lt_iff_toInt_lt] at h; omega
  · rename_i h; rw [Int64.lt_iff_toInt_lt] at h; omega
theorem own_minI_t (a b : Int32) : (own_minI a b).toInt = min a.toInt b.toInt := by
  unfold own_minI; split
  · rename_i h; rw [Int32.lt_iff_toInt_lt] at h; omega
  · rename_i h; rw [Int32.lt_iff_toInt_lt] at h; omega
theorem own_W_t (k w : Int64) (h1 : 1 ≤ k.toInt) (h2 : k.toInt ≤ 2147483647) (h3 : 1 ≤ w.toInt) (h4 : w.toInt ≤ 1048576) :
    (own_W k w).toInt = 1 - 3 * min k.toInt w.toInt + 2 * w.toInt + 2 * min w.toInt (2 * min k.toInt w.toInt) := by
  have e2 : (2 : Int32).toInt = 2 := by decide
  have e1 : (1 : Int32).toInt = 1 := by decide
  have a1 := own_minL_t k w
  have a2 : (own_minL k w).toInt32.toInt = min k.toInt w.toInt := by rw [Jvm.Kit.i32_of_i64 (by omega) (by omega), a1]
  have a3 : w.toInt32.toInt = w.toInt := Jvm.Kit.i32_of_i64 (by omega) (by omega)
  unfold own_W own_M own_P
  generalize (own_minL k w).toInt32 = P at *
  generalize w.toInt32 = V at *
  obtain ⟨u, hu⟩ : ∃ u, u = min k.toInt w.toInt := ⟨_, rfl⟩
  rw [← hu] at a1 a2 ⊢
  have u1 : 1 ≤ u := by omega
  have u2 : u ≤ w.toInt := by omega
  clear a1 hu
  have b1 : (2 * P).toInt = 2 * u := by rw [Jvm.Kit.i32_mul (by rw [e2]; omega) (by rw [e2]; omega), e2, a2]
  have b2 := own_minI_t V (2 * P)
  rw [a3, b1] at b2
  generalize own_minI V (2 * P) = M at *
  obtain ⟨y, hy⟩ : ∃ y, y = min w.toInt (2 * u) := ⟨_, rfl⟩
  rw [← hy] at b2 ⊢
  have y1 : u ≤ y := by omega
  have y2 : y ≤ w.toInt := by omega
  clear hy
  have b3 : (M - P).toInt = y - u := by rw [Jvm.Kit.i32_sub (by omega) (by omega), b2, a2]
  have b4 : (M - P + V).toInt = y - u + w.toInt := by rw [Jvm.Kit.i32_add (by omega) (by omega), b3, a3]
  have b5 : (M - P + V - P).toInt = y - u + w.toInt - u := by rw [Jvm.Kit.i32_sub (by omega) (by omega), b4, a2]
  have b6 : (2 * (M - P + V - P)).toInt = 2 * (y - u + w.toInt - u) := by rw [Jvm.Kit.i32_mul (by rw [e2]; omega) (by rw [e2]; omega), e2, b5]
  have b7 : (2 + P).toInt = 2 + u := by rw [Jvm.Kit.i32_add (by rw [e2]; omega) (by rw [e2]; omega), e2, a2]
  have b8 : (2 + P - 1).toInt = 2 + u - 1 := by rw [Jvm.Kit.i32_sub (by rw [e1]; omega) (by rw [e1]; omega), b7, e1]
  rw [Jvm.Kit.i32_add (by omega) (by omega), b8, b6]
  omega
theorem own_ex {k w ex : Int64} (h1 : 1 ≤ k.toInt) (h2 : k.toInt ≤ 2147483647) (h3 : 1 ≤ w.toInt) (h4 : w.toInt ≤ 1048576) (h : ex.toInt = 1 - 3 * min k.toInt w.toInt + 2 * w.toInt + 2 * min w.toInt (2 * min k.toInt w.toInt)) : (own_W k w).toInt64 = ex :=
  Int64.toInt_inj.mp (by rw [Int32.toInt_toInt64, own_W_t k w h1 h2 h3 h4, h])
theorem own_w (q : Int64) : 1 ≤ (1 + (q &&& (1048575 : Int64))).toInt ∧ (1 + (q &&& (1048575 : Int64))).toInt ≤ 1048576 := by
  have h := c_maskL q (1048575 : Int64) 20 (by decide) (by decide)
  have e1 : (1 : Int64).toInt = 1 := by decide
  have h2 := c_ladd 1 (q &&& (1048575 : Int64))
  have r := rng64 (1 + (q &&& (1048575 : Int64)))
  rw [e1] at h2
  omega
theorem own_k1 (q : Int64) : 1 ≤ (1 + (q &&& (2097151 : Int64))).toInt ∧ (1 + (q &&& (2097151 : Int64))).toInt ≤ 2147483647 := by
  have h := c_maskL q (2097151 : Int64) 21 (by decide) (by decide)
  have e1 : (1 : Int64).toInt = 1 := by decide
  have h2 := c_ladd 1 (q &&& (2097151 : Int64))
  have r := rng64 (1 + (q &&& (2097151 : Int64)))
  rw [e1] at h2
  omega
theorem own_k2 (z : Int64) (h0 : 0 ≤ z.toInt) : 1 ≤ (1 + (z - (z / 2147483647) * 2147483647)).toInt ∧ (1 + (z - (z / 2147483647) * 2147483647)).toInt ≤ 2147483647 := by
  have h := (c_lrem z 2147483647 2147483647 (by decide)).1 h0
  have e1 : (1 : Int64).toInt = 1 := by decide
  generalize (z - (z / 2147483647) * 2147483647) = y at *
  have h2 := c_ladd 1 y
  have r := rng64 (1 + y)
  rw [e1] at h2
  omega
theorem own_nn (q : Int64) : 0 ≤ (q &&& (9223372036854775807 : Int64)).toInt := by
  have h := c_maskL q (9223372036854775807 : Int64) 63 (by decide) (by decide)
  omega
theorem own_l1 {x : Int64} (h : 1 ≤ x.toInt) : ¬ x < 1 := by
  have e1 : (1 : Int64).toInt = 1 := by decide
  rw [Int64.lt_iff_toInt_lt, e1]; omega
theorem own_l2 {x : Int64} (h : x.toInt ≤ 2147483647) : ¬ (2147483647 : Int64) < x := by
  have e1 : (2147483647 : Int64).toInt = 2147483647 := by decide
  rw [Int64.lt_iff_toInt_lt, e1]; omega
theorem own_l3 {x : Int64} (h : x.toInt ≤ 1048576) : ¬ (1048576 : Int64) < x := by
  have e1 : (1048576 : Int64).toInt = 1048576 := by decide
  rw [Int64.lt_iff_toInt_lt, e1]; omega
theorem own_c1 {k w : Int64} (h1 : 1 ≤ k.toInt) (h2 : k.toInt ≤ 2147483647) (h3 : 1 ≤ w.toInt) (h4 : w.toInt ≤ 1048576) (h : ¬ k < w) : (1 + w).toInt = 1 - 3 * min k.toInt w.toInt + 2 * w.toInt + 2 * min w.toInt (2 * min k.toInt w.toInt) := by
  have e1 : (1 : Int64).toInt = 1 := by decide
  have a := c_ladd 1 w
  have r := rng64 (1 + w)
  rw [e1] at a
  rw [Int64.lt_iff_toInt_lt] at h
  omega
theorem own_two {k : Int64} (h1 : 1 ≤ k.toInt) (h2 : k.toInt ≤ 2147483647) : (2 * k).toInt = 2 * k.toInt := by
  have e1 : (2 : Int64).toInt = 2 := by decide
  have a := c_lmul 2 k
  have r := rng64 (2 * k)
  rw [e1] at a
  omega
theorem own_c2 {k w : Int64} (h1 : 1 ≤ k.toInt) (h2 : k.toInt ≤ 2147483647) (h3 : 1 ≤ w.toInt) (h4 : w.toInt ≤ 1048576) (h : k < w) (h' : ¬ w < 2 * k) : ((1 + k) + 2 * w).toInt = 1 - 3 * min k.toInt w.toInt + 2 * w.toInt + 2 * min w.toInt (2 * min k.toInt w.toInt) := by
  have e1 : (1 : Int64).toInt = 1 := by decide
  have a := c_ladd 1 k
  have r := rng64 (1 + k)
  have b := own_two (k := w) h3 (by omega)
  have c := c_ladd (1 + k) (2 * w)
  have r2 := rng64 ((1 + k) + 2 * w)
  have d := own_two h1 h2
  rw [e1] at a
  rw [Int64.lt_iff_toInt_lt] at h h'
  omega
theorem own_c3 {k w : Int64} (h1 : 1 ≤ k.toInt) (h2 : k.toInt ≤ 2147483647) (h3 : 1 ≤ w.toInt) (h4 : w.toInt ≤ 1048576) (h : k < w) (h' : w < 2 * k) : ((1 + 4 * w) - 3 * k).toInt = 1 - 3 * min k.toInt w.toInt + 2 * w.toInt + 2 * min w.toInt (2 * min k.toInt w.toInt) := by
  have e1 : (1 : Int64).toInt = 1 := by decide
  have e3 : (3 : Int64).toInt = 3 := by decide
  have e4 : (4 : Int64).toInt = 4 := by decide
  have a := c_lmul 4 w
  have r := rng64 (4 * w)
  have a2 := c_lmul 3 k
  have r2 := rng64 (3 * k)
  have a3 := c_ladd 1 (4 * w)
  have r3 := rng64 (1 + 4 * w)
  have a4 := c_lsub (1 + 4 * w) (3 * k)
  have r4 := rng64 ((1 + 4 * w) - 3 * k)
  have d := own_two h1 h2
  rw [e4] at a
  rw [e3] at a2
  rw [e1] at a3
  rw [Int64.lt_iff_toInt_lt] at h h'
  omega
theorem pn_com_example_do_all_doall_algo_SlotTreeWordsPinLaw : plainName "com/example/do_all/doall/algo/SlotTreeWordsPinLaw" = true := by first | (simp [plainName, overriddenIn]; done) | decide +kernel
theorem ef_0_JJI (m : MethodId) (x0 : Int64) (x1 : Int64) (x2 : Int32) : entryFrame m #[(.long x0), (.long x1), (.int x2)] maxLocals = mkF m 0 #[.val (.long x0), .second, .val (.long x1), .second, .val (.int x2), .unset, .unset, .unset, .unset, .unset, .unset] [] := by first | (simp [entryFrame, mkF, argsToLocals, Value.category, maxLocals]; done) | rfl
theorem pd_2 : parseMethodDescriptor "(JJ)I" = some ⟨[.long, .long], some .int⟩ := by decide +kernel
set_option maxRecDepth 65536 in
set_option maxHeartbeats 40000000 in
theorem rm0 (l : Launch) (Z : State) (a0 : Array Value) (hw : ∀ d ∈ tables_1, d.before a0 Z = true) (ws : List Jvm.Cond) (q1 : Int64) (q2 : Int64) (q3 : Int32) (h0 : Heap) (n0 : Nat) (Z0 : n0 ≤ h0.size) :
    OMet l Z x code maxLocals ret ws room_1 #[(.long q1), (.long q2), (.int q3)] h0 (OLawQ n0) := by
  refine own_body (plainFor_of_name pn_com_example_do_all_doall_algo_SlotTreeWordsPinLaw) (fun m => ef_0_JJI m q1 q2 q3) ?_
  intro p e s m below meth c T0 hx hby hml hown hnm hret hlk hZ X0 e0
  have hown : s.vm.findClass "com/example/do_all/doall/algo/SlotTreeWordsPinLaw" = some m.cls := hown
  have hml : c.maxLocals = 11 := hml
  show OGo p e below s _ _ (T0.setTop (mkF m 0 #[.val (.long q1), .second, .val (.long q2), .second, .val (.int q3), .unset, .unset, .unset, .unset, .unset, .unset] []))
  have N0 := Fr.nil n0
  have J103 : ∀ k0 w0 x0 : Int64, 1 ≤ k0.toInt → k0.toInt ≤ 2147483647 → 1 ≤ w0.toInt → w0.toInt ≤ 1048576 → x0.toInt = 1 - 3 * min k0.toInt w0.toInt + 2 * w0.toInt + 2 * min w0.toInt (2 * min k0.toInt w0.toInt) → OGo p e below s room_1 (OLawQ n0) (T0.setTop (mkF m 103 #[.val (.long q1), .second, .val (.long q2), .second, .val (.int q3), .val (.long w0), .second, .val (.long k0), .second, .val (.long x0), .second] [])) := by
    intro k0 w0 x0 h1 h2 h3 h4 h5
    show OGo p e below s room_1 (OLawQ n0) (T0.setTop (mkF m 103 #[.val (.long q1), .second, .val (.long q2), .second, .val (.int q3), .val (.long w0), .second, .val (.long k0), .second, .val (.long x0), .second] []))
    refine own_st (fun t k => XS.lload X0.here hx rfl (hb hby at_103) rfl k) ?_
    show OGo p e below s room_1 (OLawQ n0) (T0.setTop (mkF m 105 #[.val (.long q1), .second, .val (.long q2), .second, .val (.int q3), .val (.long w0), .second, .val (.long k0), .second, .val (.long x0), .second] [(.long k0)]))
    refine own_st (fun t k => XS.lload X0.here hx rfl (hb hby at_105) rfl k) ?_
    show OGo p e below s room_1 (OLawQ n0) (T0.setTop (mkF m 107 #[.val (.long q1), .second, .val (.long q2), .second, .val (.int q3), .val (.long w0), .second, .val (.long k0), .second, .val (.long x0), .second] [(.long w0), (.long k0)]))
    obtain ⟨T4, X4, e4, st4⟩ := own_callSP X0 hx hZ (y := (⟨"com/example/do_all/doall/algo/SlotTree", "words", "(JJ)I"⟩ : MethodName)) (W := 0) hown (hw _ (List.mem_of_getElem? (i := 3) rfl)) (hw _ (List.mem_of_getElem? (i := 4) rfl)) (hw _ (List.mem_of_getElem? (i := 5) rfl)) (hw _ (List.mem_of_getElem? (i := 6) rfl)) (by decide) (rm1 l Z a0 hw k0 w0 h0 (own_l1 h1) (own_l2 h2) (own_l1 h3) (own_l3 h4)) (by decide) (by decide) (g := (mkF m 107 #[.val (.long q1), .second, .val (.long q2), .second, .val (.int q3), .val (.long w0), .second, .val (.long k0), .second, .val (.long x0), .second] [(.long w0), (.long k0)])) rfl (by rw [hml]; rfl) (argsL := [(.long k0), (.long w0)]) (rest := []) (lenOf pd_2 rfl) rfl (by show 2 * 0 + _ ≤ _; exact Nat.le_of_eq rfl) (hb hby at_107) rfl e0 (by decide) (by decide)
    refine own_st st4 ?_
    show OGo p e below s room_1 (OLawQ n0) (T4.setTop (mkF m 110 #[.val (.long q1), .second, .val (.long q2), .second, .val (.int q3), .val (.long w0), .second, .val (.long k0), .second, .val (.long x0), .second] [(.int (own_W k0 w0))]))
    refine own_st (fun t k => XS.i2l X4.here hx rfl (hb hby at_110) rfl k) ?_
    show OGo p e below s room_1 (OLawQ n0) (T4.setTop (mkF m 111 #[.val (.long q1), .second, .val (.long q2), .second, .val (.int q3), .val (.long w0), .second, .val (.long k0), .second, .val (.long x0), .second] [(.long (own_W k0 w0).toInt64)]))
    refine own_st (fun t k => XS.lload X4.here hx rfl (hb hby at_111) rfl k) ?_
    show OGo p e below s room_1 (OLawQ n0) (T4.setTop (mkF m 113 #[.val (.long q1), .second, .val (.long q2), .second, .val (.int q3), .val (.long w0), .second, .val (.long k0), .second, .val (.long x0), .second] [(.long x0), (.long (own_W k0 w0).toInt64)]))
    refine own_st (fun t k => XS.lcmp X4.here hx rfl (hb hby at_113) rfl k) ?_
    show OGo p e below s room_1 (OLawQ n0) (T4.setTop (mkF m 114 #[.val (.long q1), .second, .val (.long q2), .second, .val (.int q3), .val (.long w0), .second, .val (.long k0), .second, .val (.long x0), .second] [(.int (lcmpW (own_W k0 w0).toInt64 x0))]))
    refine own_st (fun t k => XS.ifNo X4.here hx rfl (hb hby at_114) rfl ((if0 _ _).trans (teq ((lw_eq (own_W k0 w0).toInt64 x0).mpr (own_ex h1 h2 h3 h4 h5))).2) k) ?_
    show OGo p e below s room_1 (OLawQ n0) (T4.setTop (mkF m 117 #[.val (.long q1), .second, .val (.long q2), .second, .val (.int q3), .val (.long w0), .second, .val (.long k0), .second, .val (.long x0), .second] []))
    refine own_st (fun t k => XS.iconst X4.here hx rfl (hb hby at_117) k) ?_
    show OGo p e below s room_1 (OLawQ n0) (T4.setTop (mkF m 118 #[.val (.long q1), .second, .val (.long q2), .second, .val (.int q3), .val (.long w0), .second, .val (.long k0), .second, .val (.long x0), .second] [(.int (1 : Int32))]))
    refine own_st (fun t k => XS.goto X4.here hx rfl (pc0 := 118) (pc' := 122) rfl (hb hby at_118) (by decide) (by decide) k) ?_
    show OGo p e below s room_1 (OLawQ n0) (T4.setTop (mkF m 122 #[.val (.long q1), .second, .val (.long q2), .second, .val (.int q3), .val (.long w0), .second, .val (.long k0), .second, .val (.long x0), .second] [(.int (1 : Int32))]))
    exact own_retN X4 hx hlk (t := .boolean) hret (by simp) (hb hby at_122) (by decide) (by decide) (⟨rfl, N0⟩)
  have J41 : ∀ k0 w0 : Int64, 1 ≤ k0.toInt → k0.toInt ≤ 2147483647 → 1 ≤ w0.toInt → w0.toInt ≤ 1048576 → OGo p e below s room_1 (OLawQ n0) (T0.setTop (mkF m 41 #[.val (.long q1), .second, .val (.long q2), .second, .val (.int q3), .val (.long w0), .second, .val (.long k0), .second, .unset, .unset] [])) := by
    intro k0 w0 h1 h2 h3 h4
    show OGo p e below s room_1 (OLawQ n0) (T0.setTop (mkF m 41 #[.val (.long q1), .second, .val (.long q2), .second, .val (.int q3), .val (.long w0), .second, .val (.long k0), .second, .unset, .unset] []))
    refine own_st (fun t k => XS.lload X0.here hx rfl (hb hby at_41) rfl k) ?_
    show OGo p e below s room_1 (OLawQ n0) (T0.setTop (mkF m 43 #[.val (.long q1), .second, .val (.long q2), .second, .val (.int q3), .val (.long w0), .second, .val (.long k0), .second, .unset, .unset] [(.long k0)]))
    refine own_st (fun t k => XS.lload X0.here hx rfl (hb hby at_43) rfl k) ?_
    show OGo p e below s room_1 (OLawQ n0) (T0.setTop (mkF m 45 #[.val (.long q1), .second, .val (.long q2), .second, .val (.int q3), .val (.long w0), .second, .val (.long k0), .second, .unset, .unset] [(.long w0), (.long k0)]))
    refine own_st (fun t k => XS.lcmp X0.here hx rfl (hb hby at_45) rfl k) ?_
    show OGo p e below s room_1 (OLawQ n0) (T0.setTop (mkF m 46 #[.val (.long q1), .second, .val (.long q2), .second, .val (.int q3), .val (.long w0), .second, .val (.long k0), .second, .unset, .unset] [(.int (lcmpW k0 w0))]))
    by_cases hc46 : k0 < w0
    · refine own_st (fun t k => XS.ifYes X0.here hx rfl (pc0 := 46) (pc' := 58) rfl (hb hby at_46) rfl ((if0 _ _).trans (tlt ((lw_lt k0 w0).mpr hc46)).1) (by decide) (by decide) k) ?_
      show OGo p e below s room_1 (OLawQ n0) (T0.setTop (mkF m 58 #[.val (.long q1), .second, .val (.long q2), .second, .val (.int q3), .val (.long w0), .second, .val (.long k0), .second, .unset, .unset] []))
      refine own_st (X0.ldc2Long hx hown (mvT hZ (hw _ (List.mem_of_getElem? (i := 20) rfl))) (g := (mkF m 58 #[.val (.long q1), .second, .val (.long q2), .second, .val (.int q3), .val (.long w0), .second, .val (.long k0), .second, .unset, .unset] [])) rfl (hb hby at_58)) ?_
      show OGo p e below s room_1 (OLawQ n0) (T0.setTop (mkF m 61 #[.val (.long q1), .second, .val (.long q2), .second, .val (.int q3), .val (.long w0), .second, .val (.long k0), .second, .unset, .unset] [(.long (2 : Int64))]))
      refine own_st (fun t k => XS.lload X0.here hx rfl (hb hby at_61) rfl k) ?_
      show OGo p e below s room_1 (OLawQ n0) (T0.setTop (mkF m 63 #[.val (.long q1), .second, .val (.long q2), .second, .val (.int q3), .val (.long w0), .second, .val (.long k0), .second, .unset, .unset] [(.long k0), (.long (2 : Int64))]))
      refine own_st (fun t k => XS.lmul X0.here hx rfl (hb hby at_63) rfl k) ?_
      show OGo p e below s room_1 (OLawQ n0) (T0.setTop (mkF m 64 #[.val (.long q1), .second, .val (.long q2), .second, .val (.int q3), .val (.long w0), .second, .val (.long k0), .second, .unset, .unset] [(.long ((2 : Int64) * k0))]))
      refine own_st (fun t k => XS.lload X0.here hx rfl (hb hby at_64) rfl k) ?_
      show OGo p e below s room_1 (OLawQ n0) (T0.setTop (mkF m 66 #[.val (.long q1), .second, .val (.long q2), .second, .val (.int q3), .val (.long w0), .second, .val (.long k0), .second, .unset, .unset] [(.long w0), (.long ((2 : Int64) * k0))]))
      refine own_st (fun t k => XS.lcmp X0.here hx rfl (hb hby at_66) rfl k) ?_
      show OGo p e below s room_1 (OLawQ n0) (T0.setTop (mkF m 67 #[.val (.long q1), .second, .val (.long q2), .second, .val (.int q3), .val (.long w0), .second, .val (.long k0), .second, .unset, .unset] [(.int (lcmpW ((2 : Int64) * k0) w0))]))
      by_cases hc67 : w0 < ((2 : Int64) * k0)
      · refine own_st (fun t k => XS.ifYes X0.here hx rfl (pc0 := 67) (pc' := 86) rfl (hb hby at_67) rfl ((if0 _ _).trans (tlt ((lw_gt ((2 : Int64) * k0) w0).mpr hc67)).2.2.1) (by decide) (by decide) k) ?_
        show OGo p e below s room_1 (OLawQ n0) (T0.setTop (mkF m 86 #[.val (.long q1), .second, .val (.long q2), .second, .val (.int q3), .val (.long w0), .second, .val (.long k0), .second, .unset, .unset] []))
        refine own_st (fun t k => XS.lconst X0.here hx rfl (hb hby at_86) k) ?_
        show OGo p e below s room_1 (OLawQ n0) (T0.setTop (mkF m 87 #[.val (.long q1), .second, .val (.long q2), .second, .val (.int q3), .val (.long w0), .second, .val (.long k0), .second, .unset, .unset] [(.long (1 : Int64))]))
        refine own_st (X0.ldc2Long hx hown (mvT hZ (hw _ (List.mem_of_getElem? (i := 21) rfl))) (g := (mkF m 87 #[.val (.long q1), .second, .val (.long q2), .second, .val (.int q3), .val (.long w0), .second, .val (.long k0), .second, .unset, .unset] [(.long (1 : Int64))])) rfl (hb hby at_87)) ?_
        show OGo p e below s room_1 (OLawQ n0) (T0.setTop (mkF m 90 #[.val (.long q1), .second, .val (.long q2), .second, .val (.int q3), .val (.long w0), .second, .val (.long k0), .second, .unset, .unset] [(.long (4 : Int64)), (.long (1 : Int64))]))
        refine own_st (fun t k => XS.lload X0.here hx rfl (hb hby at_90) rfl k) ?_
        show OGo p e below s room_1 (OLawQ n0) (T0.setTop (mkF m 92 #[.val (.long q1), .second, .val (.long q2), .second, .val (.int q3), .val (.long w0), .second, .val (.long k0), .second, .unset, .unset] [(.long w0), (.long (4 : Int64)), (.long (1 : Int64))]))
        refine own_st (fun t k => XS.lmul X0.here hx rfl (hb hby at_92) rfl k) ?_
        show OGo p e below s room_1 (OLawQ n0) (T0.setTop (mkF m 93 #[.val (.long q1), .second, .val (.long q2), .second, .val (.int q3), .val (.long w0), .second, .val (.long k0), .second, .unset, .unset] [(.long ((4 : Int64) * w0)), (.long (1 : Int64))]))
        refine own_st (fun t k => XS.ladd X0.here hx rfl (hb hby at_93) rfl k) ?_
        show OGo p e below s room_1 (OLawQ n0) (T0.setTop (mkF m 94 #[.val (.long q1), .second, .val (.long q2), .second, .val (.int q3), .val (.long w0), .second, .val (.long k0), .second, .unset, .unset] [(.long ((1 : Int64) + ((4 : Int64) * w0)))]))
        refine own_st (X0.ldc2Long hx hown (mvT hZ (hw _ (List.mem_of_getElem? (i := 22) rfl))) (g := (mkF m 94 #[.val (.long q1), .second, .val (.long q2), .second, .val (.int q3), .val (.long w0), .second, .val (.long k0), .second, .unset, .unset] [(.long ((1 : Int64) + ((4 : Int64) * w0)))])) rfl (hb hby at_94)) ?_
        show OGo p e below s room_1 (OLawQ n0) (T0.setTop (mkF m 97 #[.val (.long q1), .second, .val (.long q2), .second, .val (.int q3), .val (.long w0), .second, .val (.long k0), .second, .unset, .unset] [(.long (3 : Int64)), (.long ((1 : Int64) + ((4 : Int64) * w0)))]))
        refine own_st (fun t k => XS.lload X0.here hx rfl (hb hby at_97) rfl k) ?_
        show OGo p e below s room_1 (OLawQ n0) (T0.setTop (mkF m 99 #[.val (.long q1), .second, .val (.long q2), .second, .val (.int q3), .val (.long w0), .second, .val (.long k0), .second, .unset, .unset] [(.long k0), (.long (3 : Int64)), (.long ((1 : Int64) + ((4 : Int64) * w0)))]))
        refine own_st (fun t k => XS.lmul X0.here hx rfl (hb hby at_99) rfl k) ?_
        show OGo p e below s room_1 (OLawQ n0) (T0.setTop (mkF m 100 #[.val (.long q1), .second, .val (.long q2), .second, .val (.int q3), .val (.long w0), .second, .val (.long k0), .second, .unset, .unset] [(.long ((3 : Int64) * k0)), (.long ((1 : Int64) + ((4 : Int64) * w0)))]))
        refine own_st (fun t k => XS.lsub X0.here hx rfl (hb hby at_100) rfl k) ?_
        show OGo p e below s room_1 (OLawQ n0) (T0.setTop (mkF m 101 #[.val (.long q1), .second, .val (.long q2), .second, .val (.int q3), .val (.long w0), .second, .val (.long k0), .second, .unset, .unset] [(.long (((1 : Int64) + ((4 : Int64) * w0)) - ((3 : Int64) * k0)))]))
        refine own_st (fun t k => XS.lstore X0.here hx rfl (hb hby at_101) rfl (l' := #[.val (.long q1), .second, .val (.long q2), .second, .val (.int q3), .val (.long w0), .second, .val (.long k0), .second, .val (.long (((1 : Int64) + ((4 : Int64) * w0)) - ((3 : Int64) * k0))), .second]) rfl k) ?_
        show OGo p e below s room_1 (OLawQ n0) (T0.setTop (mkF m 103 #[.val (.long q1), .second, .val (.long q2), .second, .val (.int q3), .val (.long w0), .second, .val (.long k0), .second, .val (.long (((1 : Int64) + ((4 : Int64) * w0)) - ((3 : Int64) * k0))), .second] []))
        exact J103 _ _ _ h1 h2 h3 h4 (own_c3 h1 h2 h3 h4 hc46 hc67)
      · refine own_st (fun t k => XS.ifNo X0.here hx rfl (hb hby at_67) rfl ((if0 _ _).trans (flt ((not_congr (lw_gt ((2 : Int64) * k0) w0)).mpr hc67)).2.2.1) k) ?_
        show OGo p e below s room_1 (OLawQ n0) (T0.setTop (mkF m 70 #[.val (.long q1), .second, .val (.long q2), .second, .val (.int q3), .val (.long w0), .second, .val (.long k0), .second, .unset, .unset] []))
        refine own_st (fun t k => XS.lconst X0.here hx rfl (hb hby at_70) k) ?_
        show OGo p e below s room_1 (OLawQ n0) (T0.setTop (mkF m 71 #[.val (.long q1), .second, .val (.long q2), .second, .val (.int q3), .val (.long w0), .second, .val (.long k0), .second, .unset, .unset] [(.long (1 : Int64))]))
        refine own_st (fun t k => XS.lload X0.here hx rfl (hb hby at_71) rfl k) ?_
        show OGo p e below s room_1 (OLawQ n0) (T0.setTop (mkF m 73 #[.val (.long q1), .second, .val (.long q2), .second, .val (.int q3), .val (.long w0), .second, .val (.long k0), .second, .unset, .unset] [(.long k0), (.long (1 : Int64))]))
        refine own_st (fun t k => XS.ladd X0.here hx rfl (hb hby at_73) rfl k) ?_
        show OGo p e below s room_1 (OLawQ n0) (T0.setTop (mkF m 74 #[.val (.long q1), .second, .val (.long q2), .second, .val (.int q3), .val (.long w0), .second, .val (.long k0), .second, .unset, .unset] [(.long ((1 : Int64) + k0))]))
        refine own_st (X0.ldc2Long hx hown (mvT hZ (hw _ (List.mem_of_getElem? (i := 20) rfl))) (g := (mkF m 74 #[.val (.long q1), .second, .val (.long q2), .second, .val (.int q3), .val (.long w0), .second, .val (.long k0), .second, .unset, .unset] [(.long ((1 : Int64) + k0))])) rfl (hb hby at_74)) ?_
        show OGo p e below s room_1 (OLawQ n0) (T0.setTop (mkF m 77 #[.val (.long q1), .second, .val (.long q2), .second, .val (.int q3), .val (.long w0), .second, .val (.long k0), .second, .unset, .unset] [(.long (2 : Int64)), (.long ((1 : Int64) + k0))]))
        refine own_st (fun t k => XS.lload X0.here hx rfl (hb hby at_77) rfl k) ?_
        show OGo p e below s room_1 (OLawQ n0) (T0.setTop (mkF m 79 #[.val (.long q1), .second, .val (.long q2), .second, .val (.int q3), .val (.long w0), .second, .val (.long k0), .second, .unset, .unset] [(.long w0), (.long (2 : Int64)), (.long ((1 : Int64) + k0))]))
        refine own_st (fun t k => XS.lmul X0.here hx rfl (hb hby at_79) rfl k) ?_
        show OGo p e below s room_1 (OLawQ n0) (T0.setTop (mkF m 80 #[.val (.long q1), .second, .val (.long q2), .second, .val (.int q3), .val (.long w0), .second, .val (.long k0), .second, .unset, .unset] [(.long ((2 : Int64) * w0)), (.long ((1 : Int64) + k0))]))
        refine own_st (fun t k => XS.ladd X0.here hx rfl (hb hby at_80) rfl k) ?_
        show OGo p e below s room_1 (OLawQ n0) (T0.setTop (mkF m 81 #[.val (.long q1), .second, .val (.long q2), .second, .val (.int q3), .val (.long w0), .second, .val (.long k0), .second, .unset, .unset] [(.long (((1 : Int64) + k0) + ((2 : Int64) * w0)))]))
        refine own_st (fun t k => XS.lstore X0.here hx rfl (hb hby at_81) rfl (l' := #[.val (.long q1), .second, .val (.long q2), .second, .val (.int q3), .val (.long w0), .second, .val (.long k0), .second, .val (.long (((1 : Int64) + k0) + ((2 : Int64) * w0))), .second]) rfl k) ?_
        show OGo p e below s room_1 (OLawQ n0) (T0.setTop (mkF m 83 #[.val (.long q1), .second, .val (.long q2), .second, .val (.int q3), .val (.long w0), .second, .val (.long k0), .second, .val (.long (((1 : Int64) + k0) + ((2 : Int64) * w0))), .second] []))
        refine own_st (fun t k => XS.goto X0.here hx rfl (pc0 := 83) (pc' := 103) rfl (hb hby at_83) (by decide) (by decide) k) ?_
        show OGo p e below s room_1 (OLawQ n0) (T0.setTop (mkF m 103 #[.val (.long q1), .second, .val (.long q2), .second, .val (.int q3), .val (.long w0), .second, .val (.long k0), .second, .val (.long (((1 : Int64) + k0) + ((2 : Int64) * w0))), .second] []))
        exact J103 _ _ _ h1 h2 h3 h4 (own_c2 h1 h2 h3 h4 hc46 hc67)
    · refine own_st (fun t k => XS.ifNo X0.here hx rfl (hb hby at_46) rfl ((if0 _ _).trans (flt ((not_congr (lw_lt k0 w0)).mpr hc46)).1) k) ?_
      show OGo p e below s room_1 (OLawQ n0) (T0.setTop (mkF m 49 #[.val (.long q1), .second, .val (.long q2), .second, .val (.int q3), .val (.long w0), .second, .val (.long k0), .second, .unset, .unset] []))
      refine own_st (fun t k => XS.lconst X0.here hx rfl (hb hby at_49) k) ?_
      show OGo p e below s room_1 (OLawQ n0) (T0.setTop (mkF m 50 #[.val (.long q1), .second, .val (.long q2), .second, .val (.int q3), .val (.long w0), .second, .val (.long k0), .second, .unset, .unset] [(.long (1 : Int64))]))
      refine own_st (fun t k => XS.lload X0.here hx rfl (hb hby at_50) rfl k) ?_
      show OGo p e below s room_1 (OLawQ n0) (T0.setTop (mkF m 52 #[.val (.long q1), .second, .val (.long q2), .second, .val (.int q3), .val (.long w0), .second, .val (.long k0), .second, .unset, .unset] [(.long w0), (.long (1 : Int64))]))
      refine own_st (fun t k => XS.ladd X0.here hx rfl (hb hby at_52) rfl k) ?_
      show OGo p e below s room_1 (OLawQ n0) (T0.setTop (mkF m 53 #[.val (.long q1), .second, .val (.long q2), .second, .val (.int q3), .val (.long w0), .second, .val (.long k0), .second, .unset, .unset] [(.long ((1 : Int64) + w0))]))
      refine own_st (fun t k => XS.lstore X0.here hx rfl (hb hby at_53) rfl (l' := #[.val (.long q1), .second, .val (.long q2), .second, .val (.int q3), .val (.long w0), .second, .val (.long k0), .second, .val (.long ((1 : Int64) + w0)), .second]) rfl k) ?_
      show OGo p e below s room_1 (OLawQ n0) (T0.setTop (mkF m 55 #[.val (.long q1), .second, .val (.long q2), .second, .val (.int q3), .val (.long w0), .second, .val (.long k0), .second, .val (.long ((1 : Int64) + w0)), .second] []))
      refine own_st (fun t k => XS.goto X0.here hx rfl (pc0 := 55) (pc' := 103) rfl (hb hby at_55) (by decide) (by decide) k) ?_
      show OGo p e below s room_1 (OLawQ n0) (T0.setTop (mkF m 103 #[.val (.long q1), .second, .val (.long q2), .second, .val (.int q3), .val (.long w0), .second, .val (.long k0), .second, .val (.long ((1 : Int64) + w0)), .second] []))
      exact J103 _ _ _ h1 h2 h3 h4 (own_c1 h1 h2 h3 h4 hc46)
  show OGo p e below s room_1 (OLawQ n0) (T0.setTop (mkF m 0 #[.val (.long q1), .second, .val (.long q2), .second, .val (.int q3), .unset, .unset, .unset, .unset, .unset, .unset] []))
  refine own_st (fun t k => XS.lconst X0.here hx rfl (hb hby at_0) k) ?_
  show OGo p e below s room_1 (OLawQ n0) (T0.setTop (mkF m 1 #[.val (.long q1), .second, .val (.long q2), .second, .val (.int q3), .unset, .unset, .unset, .unset, .unset, .unset] [(.long (1 : Int64))]))
  refine own_st (fun t k => XS.lloadN X0.here hx rfl (hb hby at_1) rfl k) ?_
  show OGo p e below s room_1 (OLawQ n0) (T0.setTop (mkF m 2 #[.val (.long q1), .second, .val (.long q2), .second, .val (.int q3), .unset, .unset, .unset, .unset, .unset, .unset] [(.long q2), (.long (1 : Int64))]))
  refine own_st (X0.ldc2Long hx hown (mvT hZ (hw _ (List.mem_of_getElem? (i := 0) rfl))) (g := (mkF m 2 #[.val (.long q1), .second, .val (.long q2), .second, .val (.int q3), .unset, .unset, .unset, .unset, .unset, .unset] [(.long q2), (.long (1 : Int64))])) rfl (hb hby at_2)) ?_
  show OGo p e below s room_1 (OLawQ n0) (T0.setTop (mkF m 5 #[.val (.long q1), .second, .val (.long q2), .second, .val (.int q3), .unset, .unset, .unset, .unset, .unset, .unset] [(.long (1048575 : Int64)), (.long q2), (.long (1 : Int64))]))
  refine own_st (fun t k => XS.land X0.here hx rfl (hb hby at_5) rfl k) ?_
  show OGo p e below s room_1 (OLawQ n0) (T0.setTop (mkF m 6 #[.val (.long q1), .second, .val (.long q2), .second, .val (.int q3), .unset, .unset, .unset, .unset, .unset, .unset] [(.long (q2 &&& (1048575 : Int64))), (.long (1 : Int64))]))
  refine own_st (fun t k => XS.ladd X0.here hx rfl (hb hby at_6) rfl k) ?_
  show OGo p e below s room_1 (OLawQ n0) (T0.setTop (mkF m 7 #[.val (.long q1), .second, .val (.long q2), .second, .val (.int q3), .unset, .unset, .unset, .unset, .unset, .unset] [(.long ((1 : Int64) + (q2 &&& (1048575 : Int64))))]))
  refine own_st (fun t k => XS.lstore X0.here hx rfl (hb hby at_7) rfl (l' := #[.val (.long q1), .second, .val (.long q2), .second, .val (.int q3), .val (.long ((1 : Int64) + (q2 &&& (1048575 : Int64)))), .second, .unset, .unset, .unset, .unset]) rfl k) ?_
  show OGo p e below s room_1 (OLawQ n0) (T0.setTop (mkF m 9 #[.val (.long q1), .second, .val (.long q2), .second, .val (.int q3), .val (.long ((1 : Int64) + (q2 &&& (1048575 : Int64)))), .second, .unset, .unset, .unset, .unset] []))
  refine own_st (fun t k => XS.iload X0.here hx rfl (hb hby at_9) rfl k) ?_
  show OGo p e below s room_1 (OLawQ n0) (T0.setTop (mkF m 11 #[.val (.long q1), .second, .val (.long q2), .second, .val (.int q3), .val (.long ((1 : Int64) + (q2 &&& (1048575 : Int64)))), .second, .unset, .unset, .unset, .unset] [(.int q3)]))
  refine own_st (fun t k => XS.iconst X0.here hx rfl (hb hby at_11) k) ?_
  show OGo p e below s room_1 (OLawQ n0) (T0.setTop (mkF m 12 #[.val (.long q1), .second, .val (.long q2), .second, .val (.int q3), .val (.long ((1 : Int64) + (q2 &&& (1048575 : Int64)))), .second, .unset, .unset, .unset, .unset] [(.int (1 : Int32)), (.int q3)]))
  refine own_st (fun t k => XS.iand X0.here hx rfl (hb hby at_12) rfl k) ?_
  show OGo p e below s room_1 (OLawQ n0) (T0.setTop (mkF m 13 #[.val (.long q1), .second, .val (.long q2), .second, .val (.int q3), .val (.long ((1 : Int64) + (q2 &&& (1048575 : Int64)))), .second, .unset, .unset, .unset, .unset] [(.int (q3 &&& (1 : Int32)))]))
  by_cases hc13 : (q3 &&& (1 : Int32)) = (0 : Int32)
  · refine own_st (fun t k => XS.ifYes X0.here hx rfl (pc0 := 13) (pc' := 28) rfl (hb hby at_13) rfl ((if0 _ _).trans (teq (hc13)).1) (by decide) (by decide) k) ?_
    show OGo p e below s room_1 (OLawQ n0) (T0.setTop (mkF m 28 #[.val (.long q1), .second, .val (.long q2), .second, .val (.int q3), .val (.long ((1 : Int64) + (q2 &&& (1048575 : Int64)))), .second, .unset, .unset, .unset, .unset] []))
    refine own_st (fun t k => XS.lconst X0.here hx rfl (hb hby at_28) k) ?_
    show OGo p e below s room_1 (OLawQ n0) (T0.setTop (mkF m 29 #[.val (.long q1), .second, .val (.long q2), .second, .val (.int q3), .val (.long ((1 : Int64) + (q2 &&& (1048575 : Int64)))), .second, .unset, .unset, .unset, .unset] [(.long (1 : Int64))]))
    refine own_st (fun t k => XS.lloadN X0.here hx rfl (hb hby at_29) rfl k) ?_
    show OGo p e below s room_1 (OLawQ n0) (T0.setTop (mkF m 30 #[.val (.long q1), .second, .val (.long q2), .second, .val (.int q3), .val (.long ((1 : Int64) + (q2 &&& (1048575 : Int64)))), .second, .unset, .unset, .unset, .unset] [(.long q1), (.long (1 : Int64))]))
    refine own_st (X0.ldc2Long hx hown (mvT hZ (hw _ (List.mem_of_getElem? (i := 1) rfl))) (g := (mkF m 30 #[.val (.long q1), .second, .val (.long q2), .second, .val (.int q3), .val (.long ((1 : Int64) + (q2 &&& (1048575 : Int64)))), .second, .unset, .unset, .unset, .unset] [(.long q1), (.long (1 : Int64))])) rfl (hb hby at_30)) ?_
    show OGo p e below s room_1 (OLawQ n0) (T0.setTop (mkF m 33 #[.val (.long q1), .second, .val (.long q2), .second, .val (.int q3), .val (.long ((1 : Int64) + (q2 &&& (1048575 : Int64)))), .second, .unset, .unset, .unset, .unset] [(.long (9223372036854775807 : Int64)), (.long q1), (.long (1 : Int64))]))
    refine own_st (fun t k => XS.land X0.here hx rfl (hb hby at_33) rfl k) ?_
    show OGo p e below s room_1 (OLawQ n0) (T0.setTop (mkF m 34 #[.val (.long q1), .second, .val (.long q2), .second, .val (.int q3), .val (.long ((1 : Int64) + (q2 &&& (1048575 : Int64)))), .second, .unset, .unset, .unset, .unset] [(.long (q1 &&& (9223372036854775807 : Int64))), (.long (1 : Int64))]))
    refine own_st (X0.ldc2Long hx hown (mvT hZ (hw _ (List.mem_of_getElem? (i := 2) rfl))) (g := (mkF m 34 #[.val (.long q1), .second, .val (.long q2), .second, .val (.int q3), .val (.long ((1 : Int64) + (q2 &&& (1048575 : Int64)))), .second, .unset, .unset, .unset, .unset] [(.long (q1 &&& (9223372036854775807 : Int64))), (.long (1 : Int64))])) rfl (hb hby at_34)) ?_
    show OGo p e below s room_1 (OLawQ n0) (T0.setTop (mkF m 37 #[.val (.long q1), .second, .val (.long q2), .second, .val (.int q3), .val (.long ((1 : Int64) + (q2 &&& (1048575 : Int64)))), .second, .unset, .unset, .unset, .unset] [(.long (2147483647 : Int64)), (.long (q1 &&& (9223372036854775807 : Int64))), (.long (1 : Int64))]))
    refine own_st (fun t k => XS.lrem X0.here hx rfl (hb hby at_37) rfl (by decide) k) ?_
    show OGo p e below s room_1 (OLawQ n0) (T0.setTop (mkF m 38 #[.val (.long q1), .second, .val (.long q2), .second, .val (.int q3), .val (.long ((1 : Int64) + (q2 &&& (1048575 : Int64)))), .second, .unset, .unset, .unset, .unset] [(.long ((q1 &&& (9223372036854775807 : Int64)) - ((q1 &&& (9223372036854775807 : Int64)) / (2147483647 : Int64)) * (2147483647 : Int64))), (.long (1 : Int64))]))
    refine own_st (fun t k => XS.ladd X0.here hx rfl (hb hby at_38) rfl k) ?_
    show OGo p e below s room_1 (OLawQ n0) (T0.setTop (mkF m 39 #[.val (.long q1), .second, .val (.long q2), .second, .val (.int q3), .val (.long ((1 : Int64) + (q2 &&& (1048575 : Int64)))), .second, .unset, .unset, .unset, .unset] [(.long ((1 : Int64) + ((q1 &&& (9223372036854775807 : Int64)) - ((q1 &&& (9223372036854775807 : Int64)) / (2147483647 : Int64)) * (2147483647 : Int64))))]))
    refine own_st (fun t k => XS.lstore X0.here hx rfl (hb hby at_39) rfl (l' := #[.val (.long q1), .second, .val (.long q2), .second, .val (.int q3), .val (.long ((1 : Int64) + (q2 &&& (1048575 : Int64)))), .second, .val (.long ((1 : Int64) + ((q1 &&& (9223372036854775807 : Int64)) - ((q1 &&& (9223372036854775807 : Int64)) / (2147483647 : Int64)) * (2147483647 : Int64)))), .second, .unset, .unset]) rfl k) ?_
    show OGo p e below s room_1 (OLawQ n0) (T0.setTop (mkF m 41 #[.val (.long q1), .second, .val (.long q2), .second, .val (.int q3), .val (.long ((1 : Int64) + (q2 &&& (1048575 : Int64)))), .second, .val (.long ((1 : Int64) + ((q1 &&& (9223372036854775807 : Int64)) - ((q1 &&& (9223372036854775807 : Int64)) / (2147483647 : Int64)) * (2147483647 : Int64)))), .second, .unset, .unset] []))
    exact J41 _ _ (own_k2 _ (own_nn _)).1 (own_k2 _ (own_nn _)).2 (own_w _).1 (own_w _).2
  · refine own_st (fun t k => XS.ifNo X0.here hx rfl (hb hby at_13) rfl ((if0 _ _).trans (feq (hc13)).1) k) ?_
    show OGo p e below s room_1 (OLawQ n0) (T0.setTop (mkF m 16 #[.val (.long q1), .second, .val (.long q2), .second, .val (.int q3), .val (.long ((1 : Int64) + (q2 &&& (1048575 : Int64)))), .second, .unset, .unset, .unset, .unset] []))
    refine own_st (fun t k => XS.lconst X0.here hx rfl (hb hby at_16) k) ?_
    show OGo p e below s room_1 (OLawQ n0) (T0.setTop (mkF m 17 #[.val (.long q1), .second, .val (.long q2), .second, .val (.int q3), .val (.long ((1 : Int64) + (q2 &&& (1048575 : Int64)))), .second, .unset, .unset, .unset, .unset] [(.long (1 : Int64))]))
    refine own_st (fun t k => XS.lloadN X0.here hx rfl (hb hby at_17) rfl k) ?_
    show OGo p e below s room_1 (OLawQ n0) (T0.setTop (mkF m 18 #[.val (.long q1), .second, .val (.long q2), .second, .val (.int q3), .val (.long ((1 : Int64) + (q2 &&& (1048575 : Int64)))), .second, .unset, .unset, .unset, .unset] [(.long q1), (.long (1 : Int64))]))
    refine own_st (X0.ldc2Long hx hown (mvT hZ (hw _ (List.mem_of_getElem? (i := 19) rfl))) (g := (mkF m 18 #[.val (.long q1), .second, .val (.long q2), .second, .val (.int q3), .val (.long ((1 : Int64) + (q2 &&& (1048575 : Int64)))), .second, .unset, .unset, .unset, .unset] [(.long q1), (.long (1 : Int64))])) rfl (hb hby at_18)) ?_
    show OGo p e below s room_1 (OLawQ n0) (T0.setTop (mkF m 21 #[.val (.long q1), .second, .val (.long q2), .second, .val (.int q3), .val (.long ((1 : Int64) + (q2 &&& (1048575 : Int64)))), .second, .unset, .unset, .unset, .unset] [(.long (2097151 : Int64)), (.long q1), (.long (1 : Int64))]))
    refine own_st (fun t k => XS.land X0.here hx rfl (hb hby at_21) rfl k) ?_
    show OGo p e below s room_1 (OLawQ n0) (T0.setTop (mkF m 22 #[.val (.long q1), .second, .val (.long q2), .second, .val (.int q3), .val (.long ((1 : Int64) + (q2 &&& (1048575 : Int64)))), .second, .unset, .unset, .unset, .unset] [(.long (q1 &&& (2097151 : Int64))), (.long (1 : Int64))]))
    refine own_st (fun t k => XS.ladd X0.here hx rfl (hb hby at_22) rfl k) ?_
    show OGo p e below s room_1 (OLawQ n0) (T0.setTop (mkF m 23 #[.val (.long q1), .second, .val (.long q2), .second, .val (.int q3), .val (.long ((1 : Int64) + (q2 &&& (1048575 : Int64)))), .second, .unset, .unset, .unset, .unset] [(.long ((1 : Int64) + (q1 &&& (2097151 : Int64))))]))
    refine own_st (fun t k => XS.lstore X0.here hx rfl (hb hby at_23) rfl (l' := #[.val (.long q1), .second, .val (.long q2), .second, .val (.int q3), .val (.long ((1 : Int64) + (q2 &&& (1048575 : Int64)))), .second, .val (.long ((1 : Int64) + (q1 &&& (2097151 : Int64)))), .second, .unset, .unset]) rfl k) ?_
    show OGo p e below s room_1 (OLawQ n0) (T0.setTop (mkF m 25 #[.val (.long q1), .second, .val (.long q2), .second, .val (.int q3), .val (.long ((1 : Int64) + (q2 &&& (1048575 : Int64)))), .second, .val (.long ((1 : Int64) + (q1 &&& (2097151 : Int64)))), .second, .unset, .unset] []))
    refine own_st (fun t k => XS.goto X0.here hx rfl (pc0 := 25) (pc' := 41) rfl (hb hby at_25) (by decide) (by decide) k) ?_
    show OGo p e below s room_1 (OLawQ n0) (T0.setTop (mkF m 41 #[.val (.long q1), .second, .val (.long q2), .second, .val (.int q3), .val (.long ((1 : Int64) + (q2 &&& (1048575 : Int64)))), .second, .val (.long ((1 : Int64) + (q1 &&& (2097151 : Int64)))), .second, .unset, .unset] []))
    exact J41 _ _ (own_k1 _).1 (own_k1 _).2 (own_w _).1 (own_w _).2
set_option maxRecDepth 65536 in
set_option maxHeartbeats 40000000 in
theorem comes_1 {Post : Tables → Env → Array Value → State → Outcome → State → Prop} (hpost : ∀ tb e args s v u, (limb_1_1.after args s (.returned v) u = true ∧ limb_1_2.after args s (.returned v) u = true ∧ True) → FrameEnd s (.returned v) u (Jvm.fieldLocs frame_1_writes args s ++ Jvm.arrayLocs frame_1_arrays args s ++ Jvm.staticLocs frame_1_statics s) 0 0 → Post tb e args s (.returned v) u) :
    ArmFor flags0 classFile x code maxLocals ret World_1 tables_1 room_1 Calls_1 rest_1 Pre_1 Post := by
  intro l hfl _ _ p e ha hc hk s m args below hf hA hF happ hP
  obtain ⟨hcalls, hrest, hpre⟩ := hP
  obtain ⟨-, -, -, hnamed, -, -, -, hat⟩ := (Spec.applies_iff hf).mp happ
  obtain ⟨hg, hn⟩ := and_e (Cond.before_iff.mp (show (Jvm.Cond.and given_1 narrow_1).before args s = true from hpre))
  obtain ⟨gs1, gs2⟩ := and_e hg
  obtain ⟨gs3, gs4⟩ := and_e gs2
  obtain ⟨gs5, gs6⟩ := and_e gs4
  obtain ⟨w0, w1, w2, rfl⟩ : ∃ w0 w1 w2 : Value, args = #[w0, w1, w2] := by
    have hs : args.size = 3 := by simpa [Cond.value, given_1] using gs1
    obtain ⟨L⟩ := args
    match L, hs with
    | [w0, w1, w2], _ => exact ⟨w0, w1, w2, rfl⟩
  have hw := fun d (hd : d ∈ tables_1) => atoms_spec (ws := Jvm.Cond.code x code maxLocals ret :: tables_1) hat d (List.mem_cons_of_mem _ hd)
  have hfit : Fit s := fun {y c} hc i hi => by
    obtain ⟨ha, rfl⟩ := Array.getElem?_eq_some_iff.mp hc
    have q := List.all_eq_true.mp ((Array.all_eq_true_iff_forall_mem.mp hF) _ (Array.getElem_mem ha)) i (List.mem_range.mpr hi)
    simpa [Array.getElem?_eq_getElem hi] using q
  obtain ⟨i0, ei0⟩ := isL_v gs3
  obtain rfl : w0 = (.long i0) := Option.some.inj ei0
  obtain ⟨i1, ei1⟩ := isL_v gs5
  obtain rfl : w1 = (.long i1) := Option.some.inj ei1
  obtain ⟨i2, ei2⟩ := is_v gs6
  obtain rfl : w2 = (.int i2) := Option.some.inj ei2
  obtain ⟨n, o, h1, h2, h3, _, L, rfl, ⟨rfl, N⟩, hq⟩ := rm0 l s _ hw tables_1 i0 i1 i2 s.heap s.heap.size (Nat.le_refl _) p e ha hc hk s m _ below hf ((Spec.applies_iff_loose hf).mp happ).1 ⟨rfl, State.Warmed39.refl s, rfl⟩ trivial
  refine ⟨n, _, h1, h2, h3, hpost _ _ _ _ _ _ ⟨Cond.after_iff.mpr rfl, Cond.after_iff.mpr (eq_i res_at (Term.int_eval (1)) rfl), trivial⟩ ⟨hq.1, hq.2.1, (hq.2.2.sift fun y hy => Or.inr (N y hy)).mono (by decide) (by decide)⟩⟩
theorem main_1_1 : Claimed_1_1 := comes_1 fun _ _ _ _ _ _ h hF => ⟨h.1, hF⟩
theorem main_1_2 : Claimed_1_2 := comes_1 fun _ _ _ _ _ _ h hF => ⟨h.2.1, hF⟩
end Jvm.Pilot.@@N@@
namespace Jvm.Pilot.@@N@@
open Jvm Jvm.ClassFile Sem Op Lib Jvm.Free Jvm.Stand Jvm.Pilot.@@N@@.Jvm.D
/-! MADE BY PROGRAM (witnessworld.py) out of the Statement's table words and the real class files: 12 classes; the members and pool entries that the words name. The judged class is class 1, her method 1. -/
namespace start1
open Jvm.ClassFile
def u (s : String) : CpInfo := .utf8 (stringToUtf16 s)
/-- a pool by its gaps: so many unusable entries, then the entry; so many at the end -/
def gap : Nat → List CpInfo → List CpInfo
  | 0, r => r
  | n + 1, r => .unusable :: gap n r
def poolList (es : List (Nat × CpInfo)) (last : Nat) : List CpInfo := es.foldr (fun e r => gap e.1 (e.2 :: r)) (gap last [])
def pool (es : List (Nat × CpInfo)) (last : Nat) : Array CpInfo := ⟨poolList es last⟩
def fileOf (pool : Array CpInfo) (this : Nat) (attrs : Array Attribute := #[]) (ms : Array MethodInfo := #[]) (fl : Nat := 33) (sup : Nat := 0) (ifs : Array Nat := #[]) (fds : Array FieldInfo := #[]) : ClassFile where
  minorVersion := 0
  majorVersion := 65
  constantPool := pool
  accessFlags := fl
  thisClass := this
  superClass := sup
  interfaces := ifs
  fields := fds
  methods := ms
  attributes := attrs
def plain (name : String) (sup : Option ClassId) : Class where
  name := name
  kind := .ordinary
  loader := none
  accessFlags := 33
  super := sup
  interfaces := #[]
  cf := none
  fields := #[]
  methods := #[]
  instanceTypes := #[]
  staticTypes := #[]
  resolved := #[]
  callSites := []
  init := .initialized
  statics := none
  mirror := none

def pool0 : Array CpInfo := pool [(5, u "<init>"), (0, u "()V"), (1, .class_ 10), (1, u "java/lang/Object")] 113

def k0m0 : Method := { name := "<init>", desc := "()V", sig := { parameters := [], returnType := none }, accessFlags := 1, code := none }
/-- java/lang/Object -/
def k0 : Class := { plain "java/lang/Object" none with
  accessFlags := 33
  interfaces := #[]
  cf := some (fileOf pool0 8 #[] #[{ accessFlags := 1, nameIndex := 5, descriptorIndex := 6, attributes := #[] }] 33 0 #[] #[])
  fields := #[]
  methods := #[k0m0]
  instanceTypes := #[]
  staticTypes := #[]
  resolved := Array.replicate 124 none
  statics := none }

def pool1 : Array CpInfo := pool [(2, .class_ 4), (1, u "java/lang/Object"), (0, u "<init>"), (0, u "()V"), (0, .long 1048575), (1, .long 2097151), (3, .long 9223372036854775807), (1, .long 2147483647), (1, .long 2), (1, .long 4), (1, .long 3), (1, .methodref 24 25), (0, .class_ 26), (0, .nameAndType 27 28), (0, u "com/example/do_all/doall/algo/SlotTree"), (0, u "words"), (0, u "(JJ)I"), (0, .class_ 30), (0, u "com/example/do_all/doall/algo/SlotTreeWordsPinLaw"), (2, u "law"), (0, u "(JJI)Z")] 3

def k1m0 : Method := { name := "<init>", desc := "()V", sig := { parameters := [], returnType := none }, accessFlags := 1, code := none }
def k1c1 : Code := { maxStack := 6, maxLocals := 11, code := code, exceptionTable := #[], attributes := #[] }
def k1m1 : Method := { name := "law", desc := "(JJI)Z", sig := { parameters := [.long, .long, .int], returnType := some .boolean }, accessFlags := 9, code := some k1c1 }
/-- com/example/do_all/doall/algo/SlotTreeWordsPinLaw -/
def k1 : Class := { plain "com/example/do_all/doall/algo/SlotTreeWordsPinLaw" (some 0) with
  accessFlags := 49
  interfaces := #[]
  cf := some (fileOf pool1 29 #[] #[{ accessFlags := 1, nameIndex := 5, descriptorIndex := 6, attributes := #[] }, { accessFlags := 9, nameIndex := 33, descriptorIndex := 34, attributes := #[] }] 49 2 #[] #[])
  fields := #[]
  methods := #[k1m0, k1m1]
  instanceTypes := #[]
  staticTypes := #[]
  resolved := Array.replicate 38 none
  statics := none }

def pool2 : Array CpInfo := pool [(1, .class_ 2), (0, u "java/lang/AutoCloseable"), (0, .class_ 4), (0, u "java/lang/Object")] 7

/-- java/lang/AutoCloseable -/
def k2 : Class := { plain "java/lang/AutoCloseable" (some 0) with
  accessFlags := 1537
  interfaces := #[]
  cf := some (fileOf pool2 1 #[] #[] 1537 3 #[] #[])
  fields := #[]
  methods := #[]
  instanceTypes := #[]
  staticTypes := #[]
  resolved := Array.replicate 12 none
  statics := none }

def pool3 : Array CpInfo := pool [(1, .class_ 2), (0, u "com/example/do_all/doall/api/Slots"), (0, .class_ 4), (0, u "java/lang/Object"), (0, .class_ 6), (0, u "java/lang/AutoCloseable")] 9

/-- com/example/do_all/doall/api/Slots -/
def k3 : Class := { plain "com/example/do_all/doall/api/Slots" (some 0) with
  accessFlags := 1537
  interfaces := #[2]
  cf := some (fileOf pool3 1 #[] #[] 1537 3 #[5] #[])
  fields := #[]
  methods := #[]
  instanceTypes := #[]
  staticTypes := #[]
  resolved := Array.replicate 16 none
  statics := none }

def pool4 : Array CpInfo := pool [(4, .class_ 6), (1, u "com/example/do_all/doall/algo/SlotTree"), (0, u "words"), (0, u "(JJ)I"), (8, .class_ 19), (1, u "java/lang/Object"), (6, u "self"), (0, u "Ljava/lang/ThreadLocal;"), (17, u "capacity"), (0, u "I"), (2, u "workers"), (0, .methodref 51 52), (0, .class_ 53), (0, .nameAndType 54 55), (0, u "java/lang/Math"), (0, u "min"), (0, u "(II)I"), (2, u "admitted"), (5, u "shape"), (0, u "Lcom/example/do_all/doall/algo/TreeShape;"), (0, .methodref 4 67), (0, .nameAndType 68 55), (0, u "mergeBlocks"), (7, u "firstBlock"), (0, u "[I"), (9, u "firstBlockWord"), (2, u "Lcom/example/do_all/doall/memory/SharedWords;"), (2, .long 2147483647), (4, .long 1048576), (2, .methodref 51 102), (0, .nameAndType 54 103), (0, u "(JJ)J"), (7, .class_ 112), (0, u "com/example/do_all/doall/algo/SlotTree$Worker"), (62, u "Z"), (11, u "closed"), (43, .class_ 232), (0, u "com/example/do_all/doall/api/Slots"), (0, u "MAX_WORKERS"), (2, u "ROOT"), (1, u "REGISTERED"), (0, u "FAST"), (1, u "FIRST_NAME"), (1, u "SPINS"), (1, u "NONE")] 42

def k4c0 : Code := { maxStack := 4, maxLocals := 6, code := prog_3_method_3_code, exceptionTable := #[], attributes := #[] }
def k4m0 : Method := { name := "words", desc := "(JJ)I", sig := { parameters := [.long, .long], returnType := some .int }, accessFlags := 9, code := some k4c0 }
def k4c1 : Code := { maxStack := 3, maxLocals := 2, code := prog_3_method_4_code, exceptionTable := #[], attributes := #[] }
def k4m1 : Method := { name := "mergeBlocks", desc := "(II)I", sig := { parameters := [.int, .int], returnType := some .int }, accessFlags := 10, code := some k4c1 }
/-- com/example/do_all/doall/algo/SlotTree -/
def k4 : Class := { plain "com/example/do_all/doall/algo/SlotTree" (some 0) with
  accessFlags := 49
  interfaces := #[3]
  cf := some (fileOf pool4 4 #[.nestMembers #[111]] #[{ accessFlags := 9, nameIndex := 7, descriptorIndex := 8, attributes := #[] }, { accessFlags := 10, nameIndex := 68, descriptorIndex := 55, attributes := #[] }] 49 17 #[231] #[{ accessFlags := 26, nameIndex := 233, descriptorIndex := 46, attributes := #[] }, { accessFlags := 26, nameIndex := 236, descriptorIndex := 46, attributes := #[] }, { accessFlags := 26, nameIndex := 238, descriptorIndex := 46, attributes := #[] }, { accessFlags := 26, nameIndex := 239, descriptorIndex := 46, attributes := #[] }, { accessFlags := 26, nameIndex := 241, descriptorIndex := 46, attributes := #[] }, { accessFlags := 26, nameIndex := 243, descriptorIndex := 46, attributes := #[] }, { accessFlags := 26, nameIndex := 245, descriptorIndex := 46, attributes := #[] }, { accessFlags := 18, nameIndex := 45, descriptorIndex := 46, attributes := #[] }, { accessFlags := 18, nameIndex := 49, descriptorIndex := 46, attributes := #[] }, { accessFlags := 18, nameIndex := 58, descriptorIndex := 46, attributes := #[] }, { accessFlags := 18, nameIndex := 64, descriptorIndex := 65, attributes := #[] }, { accessFlags := 18, nameIndex := 68, descriptorIndex := 46, attributes := #[] }, { accessFlags := 18, nameIndex := 76, descriptorIndex := 77, attributes := #[] }, { accessFlags := 18, nameIndex := 87, descriptorIndex := 46, attributes := #[] }, { accessFlags := 18, nameIndex := 7, descriptorIndex := 90, attributes := #[] }, { accessFlags := 18, nameIndex := 26, descriptorIndex := 27, attributes := #[] }, { accessFlags := 66, nameIndex := 187, descriptorIndex := 175, attributes := #[] }])
  fields := #[{ name := "MAX_WORKERS", type := .int, accessFlags := 26, slot := 0, constantValue := 0 }, { name := "ROOT", type := .int, accessFlags := 26, slot := 1, constantValue := 0 }, { name := "REGISTERED", type := .int, accessFlags := 26, slot := 2, constantValue := 0 }, { name := "FAST", type := .int, accessFlags := 26, slot := 3, constantValue := 0 }, { name := "FIRST_NAME", type := .int, accessFlags := 26, slot := 4, constantValue := 0 }, { name := "SPINS", type := .int, accessFlags := 26, slot := 5, constantValue := 0 }, { name := "NONE", type := .int, accessFlags := 26, slot := 6, constantValue := 0 }, { name := "capacity", type := .int, accessFlags := 18, slot := 0, constantValue := 0 }, { name := "workers", type := .int, accessFlags := 18, slot := 1, constantValue := 0 }, { name := "admitted", type := .int, accessFlags := 18, slot := 2, constantValue := 0 }, { name := "shape", type := (.object "com/example/do_all/doall/algo/TreeShape"), accessFlags := 18, slot := 3, constantValue := 0 }, { name := "mergeBlocks", type := .int, accessFlags := 18, slot := 4, constantValue := 0 }, { name := "firstBlock", type := (.array .int), accessFlags := 18, slot := 5, constantValue := 0 }, { name := "firstBlockWord", type := .int, accessFlags := 18, slot := 6, constantValue := 0 }, { name := "words", type := (.object "com/example/do_all/doall/memory/SharedWords"), accessFlags := 18, slot := 7, constantValue := 0 }, { name := "self", type := (.object "java/lang/ThreadLocal"), accessFlags := 18, slot := 8, constantValue := 0 }, { name := "closed", type := .boolean, accessFlags := 66, slot := 9, constantValue := 0 }]
  methods := #[k4m0, k4m1]
  instanceTypes := #[.int, .int, .int, (.object "com/example/do_all/doall/algo/TreeShape"), .int, (.array .int), .int, (.object "com/example/do_all/doall/memory/SharedWords"), (.object "java/lang/ThreadLocal"), .boolean]
  staticTypes := #[.int, .int, .int, .int, .int, .int, .int]
  resolved := Array.replicate 288 none
  statics := none }

def pool5 : Array CpInfo := pool [(1, .class_ 2), (0, u "java/lang/Math"), (1, .class_ 6), (1, u "java/lang/Object"), (0, u "<init>"), (0, u "()V"), (89, .class_ 100), (1, u "java/lang/Math$RandomNumberGeneratorHolder"), (20, u "(JJ)J"), (50, u "negativeZeroFloatBits"), (0, u "J"), (2, u "negativeZeroDoubleBits"), (24, u "min"), (43, u "$assertionsDisabled"), (0, u "Z"), (88, u "(II)I"), (2, u "twoToTheDoubleScaleDown"), (0, u "D"), (4, u "twoToTheDoubleScaleUp"), (9, u "E"), (3, u "PI"), (2, u "TAU"), (2, u "DEGREES_TO_RADIANS"), (0, u "RADIANS_TO_DEGREES")] 94

def k5m0 : Method := { name := "<init>", desc := "()V", sig := { parameters := [], returnType := none }, accessFlags := 2, code := none }
def k5c1 : Code := { maxStack := 2, maxLocals := 2, code := jdk_29_method_69_code, exceptionTable := #[], attributes := #[] }
def k5m1 : Method := { name := "min", desc := "(II)I", sig := { parameters := [.int, .int], returnType := some .int }, accessFlags := 9, code := some k5c1 }
def k5c2 : Code := { maxStack := 4, maxLocals := 4, code := jdk_29_method_70_code, exceptionTable := #[], attributes := #[] }
def k5m2 : Method := { name := "min", desc := "(JJ)J", sig := { parameters := [.long, .long], returnType := some .long }, accessFlags := 9, code := some k5c2 }
/-- java/lang/Math -/
def k5 : Class := { plain "java/lang/Math" (some 0) with
  accessFlags := 49
  interfaces := #[]
  cf := some (fileOf pool5 1 #[.nestMembers #[98]] #[{ accessFlags := 2, nameIndex := 7, descriptorIndex := 8, attributes := #[] }, { accessFlags := 9, nameIndex := 201, descriptorIndex := 335, attributes := #[] }, { accessFlags := 9, nameIndex := 201, descriptorIndex := 121, attributes := #[] }] 49 4 #[] #[{ accessFlags := 25, nameIndex := 354, descriptorIndex := 339, attributes := #[] }, { accessFlags := 25, nameIndex := 358, descriptorIndex := 339, attributes := #[] }, { accessFlags := 25, nameIndex := 361, descriptorIndex := 339, attributes := #[] }, { accessFlags := 26, nameIndex := 364, descriptorIndex := 339, attributes := #[] }, { accessFlags := 26, nameIndex := 365, descriptorIndex := 339, attributes := #[] }, { accessFlags := 26, nameIndex := 172, descriptorIndex := 173, attributes := #[] }, { accessFlags := 26, nameIndex := 176, descriptorIndex := 173, attributes := #[] }, { accessFlags := 8, nameIndex := 344, descriptorIndex := 339, attributes := #[] }, { accessFlags := 8, nameIndex := 338, descriptorIndex := 339, attributes := #[] }, { accessFlags := 4120, nameIndex := 245, descriptorIndex := 246, attributes := #[] }])
  fields := #[{ name := "E", type := .double, accessFlags := 25, slot := 0, constantValue := 0 }, { name := "PI", type := .double, accessFlags := 25, slot := 1, constantValue := 0 }, { name := "TAU", type := .double, accessFlags := 25, slot := 2, constantValue := 0 }, { name := "DEGREES_TO_RADIANS", type := .double, accessFlags := 26, slot := 3, constantValue := 0 }, { name := "RADIANS_TO_DEGREES", type := .double, accessFlags := 26, slot := 4, constantValue := 0 }, { name := "negativeZeroFloatBits", type := .long, accessFlags := 26, slot := 5, constantValue := 0 }, { name := "negativeZeroDoubleBits", type := .long, accessFlags := 26, slot := 6, constantValue := 0 }, { name := "twoToTheDoubleScaleUp", type := .double, accessFlags := 8, slot := 7, constantValue := 0 }, { name := "twoToTheDoubleScaleDown", type := .double, accessFlags := 8, slot := 8, constantValue := 0 }, { name := "$assertionsDisabled", type := .boolean, accessFlags := 4120, slot := 9, constantValue := 0 }]
  methods := #[k5m0, k5m1, k5m2]
  instanceTypes := #[]
  staticTypes := #[.double, .double, .double, .double, .double, .long, .long, .double, .double, .boolean]
  resolved := Array.replicate 460 none
  statics := none }

def pool6 : Array CpInfo := pool [(1, u "java/lang/Cloneable"), (0, .class_ 1), (0, u "java/lang/Object"), (0, .class_ 3)] 3

/-- java/lang/Cloneable -/
def k6 : Class := { plain "java/lang/Cloneable" (some 0) with
  accessFlags := 1537
  interfaces := #[]
  cf := some (fileOf pool6 2 #[] #[] 1537 4 #[] #[])
  fields := #[]
  methods := #[]
  instanceTypes := #[]
  staticTypes := #[]
  resolved := Array.replicate 8 none
  statics := none }

def pool7 : Array CpInfo := pool [(1, u "java/io/Serializable"), (0, .class_ 1), (0, u "java/lang/Object"), (0, .class_ 3)] 3

/-- java/io/Serializable -/
def k7 : Class := { plain "java/io/Serializable" (some 0) with
  accessFlags := 1537
  interfaces := #[]
  cf := some (fileOf pool7 2 #[] #[] 1537 4 #[] #[])
  fields := #[]
  methods := #[]
  instanceTypes := #[]
  staticTypes := #[]
  resolved := Array.replicate 8 none
  statics := none }

/-- the primitive byte -/
def k8 : Class := { plain "byte" none with kind := .primitive 'B', accessFlags := 0x411 }
/-- [B -/
def k9 : Class := { plain "[B" (some 0) with kind := .array 8 .byte, interfaces := #[6, 7], accessFlags := 1041 }

/-- the primitive int -/
def k10 : Class := { plain "int" none with kind := .primitive 'I', accessFlags := 0x411 }
/-- [I -/
def k11 : Class := { plain "[I" (some 0) with kind := .array 10 .int, interfaces := #[6, 7], accessFlags := 1041 }

def heap : Heap := #[]
def classes : Array Class := #[k0, k1, k2, k3, k4, k5, k6, k7, k8, k9, k10, k11]
def interned : List (Array UInt16 × Addr) := []
def slotsUsed : Nat := 0
def theMethod : MethodId := ⟨1, 1⟩
def args0 : Array Value := #[.long 5, .long 7, .int 1]
def aboutOver (below : List Frame) : State where
  vm := { classes := classes, interned := interned.toArray }
  heap := heap
  slotsUsed := slotsUsed
  threads := #[{ frames := .invoking theMethod args0 :: below }]
def below0 : List Frame := [.native { method := ⟨0, 0⟩, args := #[] }]
def about1 : State := aboutOver below0
def p0 : Program := .bare "" "" ""
def e0 : Env := launch0.env 0 0 0
theorem w_frames : about1.frames = Frame.invoking theMethod args0 :: below0 := rfl
set_option maxRecDepth 65536 in
theorem w_args : argsFit about1.vm theMethod args0 = true := by decide +kernel
set_option maxRecDepth 65536 in
theorem w_heap : heapFits about1 = true := by decide +kernel
set_option maxRecDepth 65536 in
theorem w_runnable : about1.curStatus? = some .runnable := by decide +kernel
set_option maxRecDepth 65536 in
theorem w_alone : about1.alone = true := by decide +kernel
set_option maxRecDepth 65536 in
theorem w_named : about1.methodNamed? x = some theMethod := by decide +kernel
set_option maxRecDepth 65536 in
theorem w_hears : about1.hears theMethod below0 = true := by decide +kernel
set_option maxRecDepth 65536 in
theorem w_ripe : about1.ripe theMethod args0 below0 = true := by decide +kernel
theorem w_running : about1.status = .running := rfl
set_option maxRecDepth 65536 in
theorem w_room : about1.hasRoom e0.platform room_1 = true :=
  launch0.hasRoom_least _ room_1 (by decide +kernel) (by decide +kernel) (by decide +kernel) (by decide +kernel) (by decide +kernel) (by decide +kernel)
theorem allAtoms_all (ts : List Jvm.Cond) (a : Array Jvm.Value) (st : Jvm.State) : (allAtoms ts).before a st = ts.all (fun c => c.before a st) := by
  induction ts with
  | nil => rfl
  | cons c t ih =>
    show (Jvm.Cond.and c (allAtoms t)).before a st = _
    rw [Jvm.Cond.before_and, ih, List.all_cons]
def words1 : List Jvm.Cond := Jvm.Cond.code x code maxLocals ret :: tables_1
/-- a 'code' word, met by the world's own term for the bytes: nothing is compared byte by byte -/
theorem code_word {y : MethodName} {bytes : ByteArray} {mx : Nat} {rt : Option FieldType} {a : Array Value} {s : State} {m : MethodId} {meth : Method} {c : Code} (h1 : s.methodNamed? y = some m) (h2 : s.vm.method? m = some meth) (h3 : meth.code = some c) (h4 : c.code = bytes)
    (h5 : (c.maxLocals == mx && c.exceptionTable.isEmpty && decide (c.maxStack ≤ mostOperands) && decide (meth.sig.returnType = rt) && !meth.locks && decide (parseMethodDescriptor y.desc = some meth.sig)) = true) : (Jvm.Cond.code y bytes mx rt).before a s = true := by
  simp only [Bool.and_eq_true, beq_iff_eq, Bool.not_eq_true', decide_eq_true_eq] at h5
  obtain ⟨⟨⟨⟨⟨g1, g2⟩, g3⟩, g4⟩, g5⟩, g6⟩ := h5
  simp [Cond.before, Cond.holds, Cond.value, h1, h2, h3, h4, g1, g2, g3, g4, g5, g6]
def isCode : Jvm.Cond → Bool
  | .code _ _ _ _ => true
  | _ => false
theorem all_split {L : List Jvm.Cond} {P : Jvm.Cond → Bool} (h1 : L.all (fun c => isCode c || P c) = true) (h2 : ∀ c ∈ L.filter isCode, P c = true) : L.all P = true := by
  refine List.all_eq_true.mpr fun c hc => ?_
  have h := List.all_eq_true.mp h1 c hc
  rcases Bool.eq_false_or_eq_true (isCode c) with hi | hi
  · exact h2 c (List.mem_filter.mpr ⟨hc, hi⟩)
  · simpa [hi] using h
set_option maxRecDepth 65536 in
theorem w_c0 : (Jvm.Cond.code x code maxLocals ret).before args0 about1 = true := code_word (m := ⟨1, 1⟩) (meth := k1m1) (c := k1c1) (by decide +kernel) rfl rfl rfl (by decide +kernel)
set_option maxRecDepth 65536 in
theorem w_c1 : (Jvm.Cond.code ({ cls := "com/example/do_all/doall/algo/SlotTree", name := "words", desc := "(JJ)I" } : Jvm.MethodName) prog_3_method_3_code (6 : Nat) (Option.some Jvm.ClassFile.FieldType.int)).before args0 about1 = true := code_word (m := ⟨4, 0⟩) (meth := k4m0) (c := k4c0) (by decide +kernel) rfl rfl rfl (by decide +kernel)
set_option maxRecDepth 65536 in
theorem w_c2 : (Jvm.Cond.code ({ cls := "java/lang/Math", name := "min", desc := "(JJ)J" } : Jvm.MethodName) jdk_29_method_70_code (4 : Nat) (Option.some Jvm.ClassFile.FieldType.long)).before args0 about1 = true := code_word (m := ⟨5, 2⟩) (meth := k5m2) (c := k5c2) (by decide +kernel) rfl rfl rfl (by decide +kernel)
set_option maxRecDepth 65536 in
theorem w_c3 : (Jvm.Cond.code ({ cls := "com/example/do_all/doall/algo/SlotTree", name := "mergeBlocks", desc := "(II)I" } : Jvm.MethodName) prog_3_method_4_code (2 : Nat) (Option.some Jvm.ClassFile.FieldType.int)).before args0 about1 = true := code_word (m := ⟨4, 1⟩) (meth := k4m1) (c := k4c1) (by decide +kernel) rfl rfl rfl (by decide +kernel)
set_option maxRecDepth 65536 in
theorem w_c4 : (Jvm.Cond.code ({ cls := "java/lang/Math", name := "min", desc := "(II)I" } : Jvm.MethodName) jdk_29_method_69_code (2 : Nat) (Option.some Jvm.ClassFile.FieldType.int)).before args0 about1 = true := code_word (m := ⟨5, 1⟩) (meth := k5m1) (c := k5c1) (by decide +kernel) rfl rfl rfl (by decide +kernel)
def codes1 : List Jvm.Cond := [Jvm.Cond.code x code maxLocals ret, Jvm.Cond.code ({ cls := "com/example/do_all/doall/algo/SlotTree", name := "words", desc := "(JJ)I" } : Jvm.MethodName) prog_3_method_3_code (6 : Nat) (Option.some Jvm.ClassFile.FieldType.int), Jvm.Cond.code ({ cls := "java/lang/Math", name := "min", desc := "(JJ)J" } : Jvm.MethodName) jdk_29_method_70_code (4 : Nat) (Option.some Jvm.ClassFile.FieldType.long), Jvm.Cond.code ({ cls := "com/example/do_all/doall/algo/SlotTree", name := "mergeBlocks", desc := "(II)I" } : Jvm.MethodName) prog_3_method_4_code (2 : Nat) (Option.some Jvm.ClassFile.FieldType.int), Jvm.Cond.code ({ cls := "java/lang/Math", name := "min", desc := "(II)I" } : Jvm.MethodName) jdk_29_method_69_code (2 : Nat) (Option.some Jvm.ClassFile.FieldType.int)]
set_option maxRecDepth 65536 in
theorem codes_eq : words1.filter isCode = codes1 := rfl
theorem w_codes : ∀ c ∈ words1.filter isCode, c.before args0 about1 = true := by
  rw [codes_eq]
  intro c hc
  simp only [codes1, List.mem_cons, List.not_mem_nil, or_false] at hc
  rcases hc with rfl | rfl | rfl | rfl | rfl
  · exact w_c0
  · exact w_c1
  · exact w_c2
  · exact w_c3
  · exact w_c4
set_option maxRecDepth 65536 in
theorem w_t1 : words1.all (fun c => isCode c || c.before args0 about1) = true := by decide +kernel
theorem w_tables : (allAtoms (Jvm.Cond.code x code maxLocals ret :: tables_1)).before args0 about1 = true := by
  rw [allAtoms_all]
  show words1.all (fun c => c.before args0 about1) = true
  refine all_split ?_ w_codes
  rw [w_t1]
set_option maxRecDepth 65536 in
theorem w_case : (Jvm.Cond.and given_1 narrow_1).before args0 about1 = true := by decide +kernel
theorem w_applies : (headSpec (Jvm.Cond.code x code maxLocals ret :: tables_1) room_1).applies x e0.platform about1 = true :=
  (Spec.applies_iff w_frames).mpr ⟨w_running, w_runnable, w_alone, w_named, w_hears, w_ripe, w_room, w_tables⟩
theorem atStart : AtStart classFile x code maxLocals ret World_1 tables_1 room_1 Calls_1 rest_1 Pre_1 launch0 p0 e0 about1 theMethod args0 below0 :=
  ⟨lists_1, trivial, launch0.admits_env _ _ _, launch0.least_env, fairChoices_fair.cas, fairChoices_fair.clock, w_frames, w_args, w_heap, w_applies, trivial, trivial, w_case⟩
end start1
theorem witness_1 : WitnessClaimed_1 := ⟨start1.p0, start1.e0, start1.about1, start1.theMethod, start1.args0, start1.below0, start1.atStart⟩
end Jvm.Pilot.@@N@@
