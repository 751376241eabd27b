import JvmDerived
import JvmDerived.Pilot.@@N@@Statement
import JvmDerived.Pilot.@@N@@Code
set_option linter.unusedVariables false
set_option linter.unusedSimpArgs false
namespace Jvm.Pilot.@@N@@
open Jvm Jvm.ClassFile Sem Op Lib Jvm.Free Jvm.Stand Jvm.LawKit Jvm.RoadKit Bundle Jvm.Pilot.@@N@@.Jvm.D
section OwnKit
variable {p : Program} {l : Launch} {e : Env} {R : Room} {s : State} {m : MethodId} {args : Array Value} {below : List Frame} {meth : Method} {c : Code} {T : State} {locs : List Loc} {cells slots : Nat} {Z : State} {a0 : Array Value} {h : Heap}
/-- from U the invocation ends, returns v, and Q holds of v, the heap and the written places -/
def OGo (p : Program) (e : Env) (below : List Frame) (s : State) (R : Room) (Q : Option Value → Heap → List Loc → Prop) (U : State) : Prop :=
  ∃ s₂ o, Steps p.tables e below U s₂ ∧ s₂.status = .running ∧ Ended s₂ below o ∧ ∃ v L, o = .returned v ∧ Q v s₂.heap L ∧ FrameEnd s o s₂ L R.cells R.slots
variable {Q : Option Value → Heap → List Loc → Prop}
theorem own_st {A B : State} (hs : ∀ t, Steps p.tables e below A t → Steps p.tables e below B t) (k : OGo p e below s R Q A) : OGo p e below s R Q B := by
  obtain ⟨t, o, h1, h2⟩ := k
  exact ⟨t, o, hs t h1, h2⟩
theorem own_ret {v : Option Value} {U : State} (X : Stand p l e R s m args below meth c T locs cells slots) (hlk : meth.locks = false) (hv : meth.sig.returnType = none → v = none) (hc : cells ≤ R.cells) (hs : slots ≤ R.slots) (hq : Q v T.heap locs)
    (st : ∀ fs, (∀ (f : JFrame) (acts : List Action), f.method = m → f.locked = none → f.entered = [] → (doReturn e (T.setTop f) acts v).1 = T.setFrames fs) → Steps p.tables e below U (T.setFrames fs)) : OGo p e below s R Q U := by
  obtain ⟨fs, hr, hrun, hended, hW, hsame⟩ := X.leave (v := v) hv hlk
  exact ⟨_, _, st fs hr, hrun, hended, v, locs, rfl, hq, ⟨_, rfl⟩, hW, hsame.mono hc hs⟩
theorem own_retV (X : Stand p l e R s m args below meth c T locs cells slots) (hx : p.tables.exec = Jvm.exec) (hlk : meth.locks = false) {pc : Nat} {Ls : Array Slot} (hret : meth.sig.returnType = none) (hd : decode c.code pc = .ok (.return_, 1)) (hc : cells ≤ R.cells) (hs : slots ≤ R.slots) (hq : Q none T.heap locs) :
    OGo p e below s R Q (T.setTop (mkF m pc Ls [])) :=
  own_ret X hlk (fun _ => rfl) hc hs hq fun fs hr => X.returnOut hx hret hd hr
theorem own_retN (X : Stand p l e R s m args below meth c T locs cells slots) (hx : p.tables.exec = Jvm.exec) (hlk : meth.locks = false) {pc : Nat} {Ls : Array Slot} {z : Int32} {t : FieldType} {rest : List Value} (hret : meth.sig.returnType = some t) (ht : t = .boolean ∨ t = .byte ∨ t = .char ∨ t = .short)
    (hd : decode c.code pc = .ok (.ireturn, 1)) (hc : cells ≤ R.cells) (hs : slots ≤ R.slots) (hq : Q (some (.int (nar t z))) T.heap locs) : OGo p e below s R Q (T.setTop (mkF m pc Ls (.int z :: rest))) :=
  own_ret X hlk (fun q => by rw [hret] at q; cases q) hc hs hq fun fs hr => retN X hx hret ht hd hr
theorem own_retI (X : Stand p l e R s m args below meth c T locs cells slots) (hx : p.tables.exec = Jvm.exec) (hlk : meth.locks = false) {pc : Nat} {Ls : Array Slot} {z : Int32} {rest : List Value} (hret : meth.sig.returnType = some .int)
    (hd : decode c.code pc = .ok (.ireturn, 1)) (hc : cells ≤ R.cells) (hs : slots ≤ R.slots) (hq : Q (some (.int z)) T.heap locs) : OGo p e below s R Q (T.setTop (mkF m pc Ls (.int z :: rest))) :=
  own_ret X hlk (fun q => by rw [hret] at q; cases q) hc hs hq fun fs hr => by
    have hm' : T.vm.method? m = some meth := X.method'
    have hn : narrow .int (.int z) = .int z := rfl
    show Steps p.tables e below (T.setTop { method := m, pc := pc, locals := Ls, stack := _ :: rest, locked := none }) _
    jvm_step X.here [X.here.top, hx, hd, hm', hret, hn]
    first | (intro acts; rw [hr _ acts rfl rfl rfl]) | rw [hr _ _ rfl rfl rfl]
    exact Steps.refl _
theorem own_retJ (X : Stand p l e R s m args below meth c T locs cells slots) (hx : p.tables.exec = Jvm.exec) (hlk : meth.locks = false) {pc : Nat} {Ls : Array Slot} {z : Int64} {rest : List Value} (hret : meth.sig.returnType = some .long)
    (hd : decode c.code pc = .ok (.lreturn, 1)) (hc : cells ≤ R.cells) (hs : slots ≤ R.slots) (hq : Q (some (.long z)) T.heap locs) : OGo p e below s R Q (T.setTop (mkF m pc Ls (.long z :: rest))) :=
  own_ret X hlk (fun q => by rw [hret] at q; cases q) hc hs hq fun fs hr => by
    show Steps p.tables e below (T.setTop { method := m, pc := pc, locals := Ls, stack := _ :: rest, locked := none }) _
    jvm_step X.here [X.here.top, hx, hd, X.method', hret, narrow]
    first | (intro acts; rw [hr _ acts rfl rfl rfl]) | rw [hr _ _ rfl rfl rfl]
    exact Steps.refl _
theorem own_retA (X : Stand p l e R s m args below meth c T locs cells slots) (hx : p.tables.exec = Jvm.exec) (hlk : meth.locks = false) {pc : Nat} {Ls : Array Slot} {z : Value} {rest : List Value} {t : FieldType} (hret : meth.sig.returnType = some t) (hz : z.isRef = true) (ht : t.isReference = true)
    (hd : decode c.code pc = .ok (.areturn, 1)) (hc : cells ≤ R.cells) (hs : slots ≤ R.slots) (hq : Q (some z) T.heap locs) : OGo p e below s R Q (T.setTop (mkF m pc Ls (z :: rest))) :=
  own_ret X hlk (fun q => by rw [hret] at q; cases q) hc hs hq fun fs hr => by
    show Steps p.tables e below (T.setTop { method := m, pc := pc, locals := Ls, stack := _ :: rest, locked := none }) _
    jvm_step X.here [X.here.top, hx, hd, X.method', hret, hz, ht]
    first | (intro acts; rw [hr _ acts rfl rfl rfl]) | rw [hr _ _ rfl rfl rfl]
    exact Steps.refl _
/-- the contract of a body at the arguments 'as' and the heap h0 -/
abbrev OMet (l : Launch) (Z : State) (y : MethodName) (bytes : ByteArray) (ml : Nat) (rt : Option FieldType) (ws : List Jvm.Cond) (R : Room) (as : Array Value) (h0 : Heap) (Q : Option Value → Heap → List Loc → Prop) : Prop :=
  MetFree l y (head1 (Jvm.Cond.code y bytes ml rt :: ws) R) (fun a U => a = as ∧ Z.Warmed39 U.vm ∧ U.heap = h0) (fun _ _ _ _ _ => True) (fun _ U o U' => ∃ v L, o = .returned v ∧ Q v U'.heap L ∧ FrameEnd U o U' L R.cells R.slots)
/-- .. of one that returns v and leaves everything -/
abbrev OPure (l : Launch) (Z : State) (y : MethodName) (bytes : ByteArray) (ml : Nat) (rt : Option FieldType) (ws : List Jvm.Cond) (R : Room) (as : Array Value) (h0 : Heap) (v : Option Value) : Prop :=
  OMet l Z y bytes ml rt ws R as h0 (fun v' h' L => v' = v ∧ L = [] ∧ h' = h0)
theorem own_body {y : MethodName} {bytes : ByteArray} {ml : Nat} {rt : Option FieldType} {ws : List Jvm.Cond} {as : Array Value} {h0 : Heap} {L0 : Array Slot} (hp : plainFor y = true) (ef : ∀ m, entryFrame m as ml = mkF m 0 L0 [])
    (body : ∀ p e s m below meth c T, p.tables.exec = Jvm.exec → c.code = bytes → c.maxLocals = ml → s.vm.findClass y.cls = some m.cls → meth.name = y.name → meth.sig.returnType = rt → meth.locks = false → Z.Warmed39 s.vm →
      Stand p l e R s m as below meth c T [] 0 0 → T.heap = h0 → OGo p e below s R Q (T.setTop (mkF m 0 L0 []))) : OMet l Z y bytes ml rt ws R as h0 Q := by
  refine MetFree.of_bodySF hp hisR ?_
  intro p e s m args below meth c s₁ Bd hml0 hP hK
  obtain ⟨rfl, hZ, hh⟩ := hP
  have X0 : Stand p l e R s m _ below meth c s₁ [] 0 0 := Stand.of_body Bd
  obtain ⟨t, o, h1, h2⟩ := body p e s m below meth c s₁ Bd.exec Bd.bytes hml0 (findClass_of_methodNamed Bd.named) (name_of_methodNamed Bd.named Bd.method).1 Bd.returns Bd.notSynchronized hZ X0 (by rw [← hh, Bd.state]; rfl)
  exact ⟨t, o, castTop (ef m) h1, h2⟩
variable {own : String} {index : Nat} {y z : MethodName} {bytes : ByteArray} {ml W : Nat} {rt : Option FieldType} {rm : Room} {as : Array Value}
theorem own_callS (X : Stand p l e R s m args below meth c T locs cells slots) (hx : p.tables.exec = Jvm.exec) (hZ : Z.Warmed39 s.vm) (hown : s.vm.findClass own = some m.cls)
    (w1 : (Jvm.Cond.methodLink own index y).before a0 Z = true) (w2 : (Jvm.Cond.static y).before a0 Z = true) (w3 : (Jvm.Cond.initialized y.cls).before a0 Z = true) (w4 : (Jvm.Cond.code y bytes ml rt).before a0 Z = true)
    (hy : y.cls ≠ "java/lang/invoke/MethodHandle" ∧ y.cls ≠ "java/lang/invoke/VarHandle") (hM : OMet l Z y bytes ml rt [] rm as h Q) (hf : rm.frames + 1 ≤ R.frames) (hl : W + (ml + 11) + rm.locals ≤ R.locals)
    {g : JFrame} (hg : g.method = m) (hsz : g.locals.size = c.maxLocals) {argsL rest : List Value} (hlen : ∀ sig, parseMethodDescriptor y.desc = some sig → argsL.length = sig.parameters.length) (hstack : g.stack = argsL.reverse ++ rest)
    (hW : 2 * g.monitorRoom + (rest.map fun v => v.category).sum ≤ W) (hd : decode c.code g.pc = .ok (.invokestatic index, 3)) (ha : argsL.toArray = as) (eT : T.heap = h) (hc : cells + rm.cells ≤ R.cells) (hs : slots + rm.slots ≤ R.slots) :
    ∃ v T' L, Stand p l e R s m args below meth c T' (locs ++ L) (cells + rm.cells) (slots + rm.slots) ∧ Q v T'.heap L ∧ ∀ t, Steps p.tables e below (T'.setTop { g with pc := g.pc + 3, stack := v.toList ++ rest }) t → Steps p.tables e below (T.setTop g) t := by
  obtain ⟨v, _, ⟨T3, L3, k3, n3⟩, -, X3, ⟨Lc3, hQ3, l3, y3, z3⟩, st3⟩ := Jvm.LawKit.callS X hx (y := y) hown (mvT hZ w1) (mvT hZ w2) (mvT hZ w3) (mvT hZ w4) hy (backOf (W := W) hM hZ w4 w3 hf hl) hg hsz hlen hstack hW hd (fun _ _ => ⟨ha, eT, hc, hs⟩)
  dsimp only [Pt.U, Pt.locs, Pt.cells, Pt.slots] at X3 l3 y3 z3 st3 hQ3
  subst l3 y3 z3
  exact ⟨v, T3, Lc3, X3, hQ3, st3⟩
theorem own_callSP {v0 : Option Value} (X : Stand p l e R s m args below meth c T locs cells slots) (hx : p.tables.exec = Jvm.exec) (hZ : Z.Warmed39 s.vm) (hown : s.vm.findClass own = some m.cls)
    (w1 : (Jvm.Cond.methodLink own index y).before a0 Z = true) (w2 : (Jvm.Cond.static y).before a0 Z = true) (w3 : (Jvm.Cond.initialized y.cls).before a0 Z = true) (w4 : (Jvm.Cond.code y bytes ml rt).before a0 Z = true)
    (hy : y.cls ≠ "java/lang/invoke/MethodHandle" ∧ y.cls ≠ "java/lang/invoke/VarHandle") (hM : OPure l Z y bytes ml rt [] rm as h v0) (hf : rm.frames + 1 ≤ R.frames) (hl : W + (ml + 11) + rm.locals ≤ R.locals)
    {g : JFrame} (hg : g.method = m) (hsz : g.locals.size = c.maxLocals) {argsL rest : List Value} (hlen : ∀ sig, parseMethodDescriptor y.desc = some sig → argsL.length = sig.parameters.length) (hstack : g.stack = argsL.reverse ++ rest)
    (hW : 2 * g.monitorRoom + (rest.map fun v => v.category).sum ≤ W) (hd : decode c.code g.pc = .ok (.invokestatic index, 3)) (ha : argsL.toArray = as) (eT : T.heap = h) (hc : cells + rm.cells ≤ R.cells) (hs : slots + rm.slots ≤ R.slots) :
    ∃ T', Stand p l e R s m args below meth c T' locs (cells + rm.cells) (slots + rm.slots) ∧ T'.heap = h ∧ ∀ t, Steps p.tables e below (T'.setTop { g with pc := g.pc + 3, stack := v0.toList ++ rest }) t → Steps p.tables e below (T.setTop g) t := by
  obtain ⟨v, T', L, X', ⟨rfl, rfl, e'⟩, st⟩ := own_callS X hx hZ hown w1 w2 w3 w4 hy hM hf hl hg hsz hlen hstack hW hd ha eT hc hs
  rw [List.append_nil] at X'
  exact ⟨T', X', e', st⟩
theorem own_callI (X : Stand p l e R s m args below meth c T locs cells slots) (hx : p.tables.exec = Jvm.exec) (hZ : Z.Warmed39 s.vm) (hy1 : y.name = "<init>") (hown : s.vm.findClass own = some m.cls)
    (w1 : (Jvm.Cond.methodLink own index y).before a0 Z = true) (w2 : (Jvm.Cond.instanceMethod y).before a0 Z = true) (w4 : (Jvm.Cond.code y bytes ml none).before a0 Z = true) (w3 : (Jvm.Cond.initialized y.cls).before a0 Z = true)
    (hy : y.cls ≠ "java/lang/invoke/MethodHandle" ∧ y.cls ≠ "java/lang/invoke/VarHandle") (hM : OMet l Z y bytes ml none [] rm as h Q) (hf : rm.frames + 1 ≤ R.frames) (hl : W + (ml + 11) + rm.locals ≤ R.locals) {a : Addr}
    {g : JFrame} (hg : g.method = m) (hsz : g.locals.size = c.maxLocals) {argsL rest : List Value} (hlen : ∀ sig, parseMethodDescriptor y.desc = some sig → argsL.length = sig.parameters.length) (hstack : g.stack = argsL.reverse ++ .ref a :: rest)
    (hW : 2 * g.monitorRoom + (rest.map fun v => v.category).sum ≤ W) (hd : decode c.code g.pc = .ok (.invokespecial index, 3)) (ha : (.ref a :: argsL).toArray = as) (eT : T.heap = h) (hc : cells + rm.cells ≤ R.cells) (hs : slots + rm.slots ≤ R.slots) :
    ∃ v T' L, Stand p l e R s m args below meth c T' (locs ++ L) (cells + rm.cells) (slots + rm.slots) ∧ Q v T'.heap L ∧ ∀ t, Steps p.tables e below (T'.setTop { g with pc := g.pc + 3, stack := v.toList ++ rest }) t → Steps p.tables e below (T.setTop g) t := by
  obtain ⟨v, _, ⟨T3, L3, k3, n3⟩, -, X3, ⟨Lc3, hQ3, l3, y3, z3⟩, st3⟩ := X.specialBack hx (y := y) hy1 hown (mvT hZ w1) (mvT hZ w2) (mvT hZ w4) hy (backOf (W := W) hM hZ w4 w3 hf hl) hg hsz (Steps.refl _) (a := a) hlen hstack hW hd (fun _ _ => ⟨ha, eT, hc, hs⟩)
  dsimp only [Pt.U, Pt.locs, Pt.cells, Pt.slots] at X3 l3 y3 z3 st3 hQ3
  subst l3 y3 z3
  exact ⟨v, T3, Lc3, X3, hQ3, fun t k => st3.trans k⟩
theorem own_callIP {v0 : Option Value} (X : Stand p l e R s m args below meth c T locs cells slots) (hx : p.tables.exec = Jvm.exec) (hZ : Z.Warmed39 s.vm) (hy1 : y.name = "<init>") (hown : s.vm.findClass own = some m.cls)
    (w1 : (Jvm.Cond.methodLink own index y).before a0 Z = true) (w2 : (Jvm.Cond.instanceMethod y).before a0 Z = true) (w4 : (Jvm.Cond.code y bytes ml none).before a0 Z = true) (w3 : (Jvm.Cond.initialized y.cls).before a0 Z = true)
    (hy : y.cls ≠ "java/lang/invoke/MethodHandle" ∧ y.cls ≠ "java/lang/invoke/VarHandle") (hM : OPure l Z y bytes ml none [] rm as h v0) (hf : rm.frames + 1 ≤ R.frames) (hl : W + (ml + 11) + rm.locals ≤ R.locals) {a : Addr}
    {g : JFrame} (hg : g.method = m) (hsz : g.locals.size = c.maxLocals) {argsL rest : List Value} (hlen : ∀ sig, parseMethodDescriptor y.desc = some sig → argsL.length = sig.parameters.length) (hstack : g.stack = argsL.reverse ++ .ref a :: rest)
    (hW : 2 * g.monitorRoom + (rest.map fun v => v.category).sum ≤ W) (hd : decode c.code g.pc = .ok (.invokespecial index, 3)) (ha : (.ref a :: argsL).toArray = as) (eT : T.heap = h) (hc : cells + rm.cells ≤ R.cells) (hs : slots + rm.slots ≤ R.slots) :
    ∃ T', Stand p l e R s m args below meth c T' locs (cells + rm.cells) (slots + rm.slots) ∧ T'.heap = h ∧ ∀ t, Steps p.tables e below (T'.setTop { g with pc := g.pc + 3, stack := v0.toList ++ rest }) t → Steps p.tables e below (T.setTop g) t := by
  obtain ⟨v, T', L, X', ⟨rfl, rfl, e'⟩, st⟩ := own_callI X hx hZ hy1 hown w1 w2 w4 w3 hy hM hf hl hg hsz hlen hstack hW hd ha eT hc hs
  rw [List.append_nil] at X'
  exact ⟨T', X', e', st⟩
theorem own_callV {C : String} (X : Stand p l e R s m args below meth c T locs cells slots) (hx : p.tables.exec = Jvm.exec) (hZ : Z.Warmed39 s.vm) (hown : s.vm.findClass own = some m.cls)
    (w1 : (Jvm.Cond.methodLink own index y).before a0 Z = true) (w2 : (Jvm.Cond.declares y).before a0 Z = true) (hnf : NotFace s y) (ws : (Jvm.Cond.selects C y z).before a0 Z = true) (wi : (Jvm.Cond.instanceMethod z).before a0 Z = true)
    (w4 : (Jvm.Cond.code z bytes ml rt).before a0 Z = true) (w3 : (Jvm.Cond.initialized z.cls).before a0 Z = true)
    (hy : y.cls ≠ "java/lang/invoke/MethodHandle" ∧ y.cls ≠ "java/lang/invoke/VarHandle") (hM : OMet l Z z bytes ml rt [] rm as h Q) (hf : rm.frames + 1 ≤ R.frames) (hl : W + (ml + 11) + rm.locals ≤ R.locals) {a : Addr} (E : Exa Z h a C)
    {g : JFrame} (hg : g.method = m) (hsz : g.locals.size = c.maxLocals) {argsL rest : List Value} (hlen : ∀ sig, parseMethodDescriptor y.desc = some sig → argsL.length = sig.parameters.length) (hstack : g.stack = argsL.reverse ++ .ref a :: rest)
    (hW : 2 * g.monitorRoom + (rest.map fun v => v.category).sum ≤ W) (hd : decode c.code g.pc = .ok (.invokevirtual index, 3)) (ha : (.ref a :: argsL).toArray = as) (eT : T.heap = h) (hc : cells + rm.cells ≤ R.cells) (hs : slots + rm.slots ≤ R.slots) :
    ∃ v T' L, Stand p l e R s m args below meth c T' (locs ++ L) (cells + rm.cells) (slots + rm.slots) ∧ Q v T'.heap L ∧ ∀ t, Steps p.tables e below (T'.setTop { g with pc := g.pc + 3, stack := v.toList ++ rest }) t → Steps p.tables e below (T.setTop g) t := by
  obtain ⟨cq, kq, qa, qb, qc⟩ := isOf hZ eT E
  obtain ⟨v, _, ⟨T3, L3, k3, n3⟩, -, X3, ⟨Lc3, hQ3, l3, y3, z3⟩, st3⟩ := X.virtualBack hx (y := y) (z := z) hown (mvT hZ w1) (mvT hZ w2) hnf (mvT hZ ws) (mvT hZ wi) hy (backOf (W := W) hM hZ w4 w3 hf hl) qa qc hg hsz (Steps.refl _) hlen hstack hW hd (fun _ _ => ⟨ha, eT, hc, hs⟩)
  dsimp only [Pt.U, Pt.locs, Pt.cells, Pt.slots] at X3 l3 y3 z3 st3 hQ3
  subst l3 y3 z3
  exact ⟨v, T3, Lc3, X3, hQ3, fun t k => st3.trans k⟩
theorem own_callVP {C : String} {v0 : Option Value} (X : Stand p l e R s m args below meth c T locs cells slots) (hx : p.tables.exec = Jvm.exec) (hZ : Z.Warmed39 s.vm) (hown : s.vm.findClass own = some m.cls)
    (w1 : (Jvm.Cond.methodLink own index y).before a0 Z = true) (w2 : (Jvm.Cond.declares y).before a0 Z = true) (hnf : NotFace s y) (ws : (Jvm.Cond.selects C y z).before a0 Z = true) (wi : (Jvm.Cond.instanceMethod z).before a0 Z = true)
    (w4 : (Jvm.Cond.code z bytes ml rt).before a0 Z = true) (w3 : (Jvm.Cond.initialized z.cls).before a0 Z = true)
    (hy : y.cls ≠ "java/lang/invoke/MethodHandle" ∧ y.cls ≠ "java/lang/invoke/VarHandle") (hM : OPure l Z z bytes ml rt [] rm as h v0) (hf : rm.frames + 1 ≤ R.frames) (hl : W + (ml + 11) + rm.locals ≤ R.locals) {a : Addr} (E : Exa Z h a C)
    {g : JFrame} (hg : g.method = m) (hsz : g.locals.size = c.maxLocals) {argsL rest : List Value} (hlen : ∀ sig, parseMethodDescriptor y.desc = some sig → argsL.length = sig.parameters.length) (hstack : g.stack = argsL.reverse ++ .ref a :: rest)
    (hW : 2 * g.monitorRoom + (rest.map fun v => v.category).sum ≤ W) (hd : decode c.code g.pc = .ok (.invokevirtual index, 3)) (ha : (.ref a :: argsL).toArray = as) (eT : T.heap = h) (hc : cells + rm.cells ≤ R.cells) (hs : slots + rm.slots ≤ R.slots) :
    ∃ T', Stand p l e R s m args below meth c T' locs (cells + rm.cells) (slots + rm.slots) ∧ T'.heap = h ∧ ∀ t, Steps p.tables e below (T'.setTop { g with pc := g.pc + 3, stack := v0.toList ++ rest }) t → Steps p.tables e below (T.setTop g) t := by
  obtain ⟨v, T', L, X', ⟨rfl, rfl, e'⟩, st⟩ := own_callV X hx hZ hown w1 w2 hnf ws wi w4 w3 hy hM hf hl E hg hsz hlen hstack hW hd ha eT hc hs
  rw [List.append_nil] at X'
  exact ⟨T', X', e', st⟩
theorem own_callR (X : Stand p l e R s m args below meth c T locs cells slots) (hx : p.tables.exec = Jvm.exec) (hZ : Z.Warmed39 s.vm) (hown : s.vm.findClass own = some m.cls)
    (w1 : (Jvm.Cond.methodLink own index y).before a0 Z = true) (w2 : (Jvm.Cond.instanceMethod y).before a0 Z = true) (ws : (Jvm.Cond.selects y.cls y y).before a0 Z = true) (wp : (Jvm.Cond.privateMethod y).before a0 Z = true)
    (w4 : (Jvm.Cond.code y bytes ml rt).before a0 Z = true) (w3 : (Jvm.Cond.initialized y.cls).before a0 Z = true)
    (hy : y.cls ≠ "java/lang/invoke/MethodHandle" ∧ y.cls ≠ "java/lang/invoke/VarHandle") (hM : OMet l Z y bytes ml rt [] rm as h Q) (hf : rm.frames + 1 ≤ R.frames) (hl : W + (ml + 11) + rm.locals ≤ R.locals) {a : Addr} {C : String} (E : Exa Z h a C)
    {g : JFrame} (hg : g.method = m) (hsz : g.locals.size = c.maxLocals) {argsL rest : List Value} (hlen : ∀ sig, parseMethodDescriptor y.desc = some sig → argsL.length = sig.parameters.length) (hstack : g.stack = argsL.reverse ++ .ref a :: rest)
    (hW : 2 * g.monitorRoom + (rest.map fun v => v.category).sum ≤ W) (hd : decode c.code g.pc = .ok (.invokevirtual index, 3)) (ha : (.ref a :: argsL).toArray = as) (eT : T.heap = h) (hc : cells + rm.cells ≤ R.cells) (hs : slots + rm.slots ≤ R.slots) :
    ∃ v T' L, Stand p l e R s m args below meth c T' (locs ++ L) (cells + rm.cells) (slots + rm.slots) ∧ Q v T'.heap L ∧ ∀ t, Steps p.tables e below (T'.setTop { g with pc := g.pc + 3, stack := v.toList ++ rest }) t → Steps p.tables e below (T.setTop g) t := by
  obtain ⟨cq, qa, qb⟩ := E.cell
  obtain ⟨v, _, ⟨T3, L3, k3, n3⟩, -, X3, ⟨Lc3, hQ3, l3, y3, z3⟩, st3⟩ := X.privateBack hx (y := y) hown (mvT hZ w1) (mvT hZ w2) (mvT hZ ws) (Cond.privateMethod_at (mvP hZ wp (args := #[]))) (mvT hZ w4) hy (backOf (W := W) hM hZ w4 w3 hf hl) hg hsz (Steps.refl _) (a := a) (by rw [eT]; exact qa) qb hlen hstack hW hd (fun _ _ => ⟨ha, eT, hc, hs⟩)
  dsimp only [Pt.U, Pt.locs, Pt.cells, Pt.slots] at X3 l3 y3 z3 st3 hQ3
  subst l3 y3 z3
  exact ⟨v, T3, Lc3, X3, hQ3, fun t k => st3.trans k⟩
theorem own_callRP {v0 : Option Value} (X : Stand p l e R s m args below meth c T locs cells slots) (hx : p.tables.exec = Jvm.exec) (hZ : Z.Warmed39 s.vm) (hown : s.vm.findClass own = some m.cls)
    (w1 : (Jvm.Cond.methodLink own index y).before a0 Z = true) (w2 : (Jvm.Cond.instanceMethod y).before a0 Z = true) (ws : (Jvm.Cond.selects y.cls y y).before a0 Z = true) (wp : (Jvm.Cond.privateMethod y).before a0 Z = true)
    (w4 : (Jvm.Cond.code y bytes ml rt).before a0 Z = true) (w3 : (Jvm.Cond.initialized y.cls).before a0 Z = true)
    (hy : y.cls ≠ "java/lang/invoke/MethodHandle" ∧ y.cls ≠ "java/lang/invoke/VarHandle") (hM : OPure l Z y bytes ml rt [] rm as h v0) (hf : rm.frames + 1 ≤ R.frames) (hl : W + (ml + 11) + rm.locals ≤ R.locals) {a : Addr} {C : String} (E : Exa Z h a C)
    {g : JFrame} (hg : g.method = m) (hsz : g.locals.size = c.maxLocals) {argsL rest : List Value} (hlen : ∀ sig, parseMethodDescriptor y.desc = some sig → argsL.length = sig.parameters.length) (hstack : g.stack = argsL.reverse ++ .ref a :: rest)
    (hW : 2 * g.monitorRoom + (rest.map fun v => v.category).sum ≤ W) (hd : decode c.code g.pc = .ok (.invokevirtual index, 3)) (ha : (.ref a :: argsL).toArray = as) (eT : T.heap = h) (hc : cells + rm.cells ≤ R.cells) (hs : slots + rm.slots ≤ R.slots) :
    ∃ T', Stand p l e R s m args below meth c T' locs (cells + rm.cells) (slots + rm.slots) ∧ T'.heap = h ∧ ∀ t, Steps p.tables e below (T'.setTop { g with pc := g.pc + 3, stack := v0.toList ++ rest }) t → Steps p.tables e below (T.setTop g) t := by
  obtain ⟨v, T', L, X', ⟨rfl, rfl, e'⟩, st⟩ := own_callR X hx hZ hown w1 w2 ws wp w4 w3 hy hM hf hl E hg hsz hlen hstack hW hd ha eT hc hs
  rw [List.append_nil] at X'
  exact ⟨T', X', e', st⟩
/-- the array at a has n places; place j holds f j -/
def OAr (Z : State) (h : Heap) (a : Addr) (ty : FieldType) (n : Nat) (f : Nat → Value) : Prop := ∃ c : Cell, Arr Z h a c ty ∧ c.slots.size = n ∧ ∀ j, j < n → c.slots[j]? = some (f j)
section OwnArr
variable {h' : Heap} {a b : Addr} {ty : FieldType} {n sl : Nat} {f f' : Nat → Value} {v : Value} {k : ClassId} {i : Int32}
theorem OAr.lt (F : OAr Z h a ty n f) : a < h.size := by obtain ⟨c, A, -⟩ := F; exact A.lt
theorem OAr.ext (F : OAr Z h a ty n f) (E : Ext h h') : OAr Z h' a ty n f := by obtain ⟨c, A, r⟩ := F; exact ⟨c, A.ext E, r⟩
theorem OAr.other (F : OAr Z h a ty n f) (W : Wr h h' b sl v) (q : a ≠ b) : OAr Z h' a ty n f := by obtain ⟨c, A, r⟩ := F; exact ⟨c, A.other W q, r⟩
theorem OAr.keep {ws : List Addr} (F : OAr Z h a ty n f) (K : Keep h h' ws) (q : a ∉ ws) : OAr Z h' a ty n f := by obtain ⟨c, A, r⟩ := F; exact ⟨c, ⟨K.2.1 a c A.1 q, A.2⟩, r⟩
theorem OAr.cong (F : OAr Z h a ty n f) (q : ∀ j, j < n → f j = f' j) : OAr Z h a ty n f' := by obtain ⟨c, A, S, H⟩ := F; exact ⟨c, A, S, fun j hj => by rw [← q j hj]; exact H j hj⟩
theorem OAr.new (A : Arr Z h a (newA k ty i) ty) : OAr Z h a ty i.toNatClampNeg (fun _ => defaultValue ty) := ⟨_, A, sz_new _ _ _, fun j hj => by simp [newA, hj]⟩
theorem OAr.set {c : Cell} (A : Arr Z h a c ty) (S : c.slots.size = n) (H : ∀ j, j < n → c.slots[j]? = some (f j)) (W : Wr h h' a sl v) : OAr Z h' a ty n (fun j => if j = sl then v else f j) := by
  refine ⟨_, A.same W, by rw [sz_set]; exact S, fun j hj => ?_⟩
  by_cases q : j = sl
  · subst q
    simp [Cell.setSlot, S, hj]
  · simp only [q, if_false, Cell.setSlot]
    rw [Array.getElem?_setIfInBounds_ne (Ne.symm q)]
    exact H j hj
theorem own_in {c : Cell} (S : c.slots.size = n) (h0 : ¬ i < 0) (h1 : i.toNatClampNeg < n) : ¬ (i < 0 ∨ c.slots.size ≤ i.toNatClampNeg) := by
  rintro (q | q)
  · exact h0 q
  · omega
/-- the clone of an array -/
theorem own_clone {own ad : String} {index : Nat} (X : Stand p l e R s m args below meth c T locs cells slots) (hx : p.tables.exec = Jvm.exec) (hZ : Z.Warmed39 s.vm) (hown : s.vm.findClass own = some m.cls)
    (w1 : (Jvm.Cond.methodLink own index ⟨ad, "clone", "()Ljava/lang/Object;"⟩).before a0 Z = true) (w2 : (Jvm.Cond.sameMethod ad "java/lang/Object" "clone" "()Ljava/lang/Object;").before a0 Z = true) (w3 : (Jvm.Cond.native ⟨"java/lang/Object", "clone", "()Ljava/lang/Object;"⟩).before a0 Z = true)
    (w4 : (Jvm.Cond.instanceMethod ⟨"java/lang/Object", "clone", "()Ljava/lang/Object;"⟩).before a0 Z = true) (w5 : (Jvm.Cond.selects ad ⟨ad, "clone", "()Ljava/lang/Object;"⟩ ⟨"java/lang/Object", "clone", "()Ljava/lang/Object;"⟩).before a0 Z = true) (w6 : (Jvm.Cond.castable ad "java/lang/Cloneable").before a0 Z = true)
    (eT : T.heap = h) (F : OAr Z h a ty n f) (E : Exa Z h a ad) (hfit : ∀ j, j < n → fits ty (f j) = true) {g : JFrame} (hg : g.method = m) (hsize : g.locals.size = c.maxLocals) {rest : List Value} (hst : g.stack = .ref a :: rest) (hd : decode c.code g.pc = .ok (.invokevirtual index, 3))
    (hf : 1 ≤ R.frames) {W : Nat} (hW : 2 * g.monitorRoom + (rest.map fun v => v.category).sum ≤ W) (hl : W + 14 ≤ R.locals) {cap : Nat} (hcap : n ≤ cap) (hc : cells + 1 ≤ R.cells) (hsl : slots + cap ≤ R.slots) :
    ∃ T' h', Stand p l e R s m args below meth c T' locs (cells + 1) (slots + cap) ∧ T'.heap = h' ∧ Ext h h' ∧ OAr Z h' h.size ty n f ∧ Exa Z h' h.size ad ∧
      ∀ target, Steps p.tables e below (T'.setTop { g with pc := g.pc + 3, stack := .ref h.size :: rest }) target → Steps p.tables e below (T.setTop g) target := by
  obtain ⟨cl, A, S, H⟩ := F
  have FC : FitC Z cl := fitC_of A fun i hi v hv => by rw [H i (S ▸ hi)] at hv; cases hv; exact hfit i (S ▸ hi)
  obtain ⟨T', h', X', e', ex, A', E', st⟩ := cloneA X hx hZ hown w1 w2 w3 w4 w5 w6 eT A E FC hg hsize hst hd hf hW hl (cap := cap) (by rw [S]; exact hcap) hc hsl
  exact ⟨T', h', X', e', ex, ⟨cloneOf cl, A', S, H⟩, E', st⟩
end OwnArr
theorem own_nat {i : Nat} (hi : i < 2 ^ 31) : (Int32.ofNat i).toNatClampNeg = i ∧ ¬ Int32.ofNat i < 0 ∧ (Int32.ofNat i).toInt = i := by
  have q : (Int32.ofNat i).toInt = i := Int32.toInt_ofNat_of_lt hi
  have z : (0 : Int32).toInt = 0 := by decide
  refine ⟨by rw [Int32.toNatClampNeg, q]; simp, ?_, q⟩
  rw [Int32.lt_iff_toInt_lt, q, z]; omega
theorem own_lt {i n : Nat} (hi : i < 2 ^ 31) (hn : n < 2 ^ 31) : Int32.ofNat i < Int32.ofNat n ↔ i < n := by
  rw [Int32.lt_iff_toInt_lt, (own_nat hi).2.2, (own_nat hn).2.2]; omega
theorem own_up (i : Nat) : Int32.ofNat i + (1 : Int32) = Int32.ofNat (i + 1) := (Int32.ofNat_add i 1).symm
/-- a static stands where none of the written cells holds statics -/
theorem own_sta_keep {h' : Heap} {C n d : String} {v : Value} {ws : List Addr} (F : Sta Z h C n d v) (K : Keep h h' ws) (q : ∀ w ∈ ws, ∃ c : Cell, h[w]? = some c ∧ c.vm.isStatics = false) : Sta Z h' C n d v := by
  obtain ⟨cf, i, k, f, st, cell, h1, h2, h3, h4, h5, h6, h7⟩ := F
  refine ⟨cf, i, k, f, st, cell, h1, h2, h3, h4, K.2.1 st cell h5 (fun z => ?_), h6, h7⟩
  obtain ⟨c, e1, e2⟩ := q st z
  rw [h5] at e1; cases e1
  rw [h6] at e2; cases e2
theorem own_pl_exa {a : Addr} {C : String} (E : Exa Z h a C) : ∃ c : Cell, h[a]? = some c ∧ c.vm.isStatics = false := by obtain ⟨c, k, h1, -, -, h4, -⟩ := E; exact ⟨c, h1, h4⟩
theorem own_pl_arr {a : Addr} {ty : FieldType} {n : Nat} {f : Nat → Value} (F : OAr Z h a ty n f) : ∃ c : Cell, h[a]? = some c ∧ c.vm.isStatics = false := by obtain ⟨c, A, -⟩ := F; exact ⟨c, A.1, A.plain⟩
theorem own_shr0 (x : Int32) : x >>> ((0 : Int32) &&& 31) = x := Int32.toInt_inj.mp (by rw [c_ishr x 0 0 (by decide)]; simp)
abbrev OLawQ (n0 : Nat) : Option Value → Heap → List Loc → Prop := fun v _ L => v = some (.int (1 : Int32)) ∧ Fr n0 L
/-- a boolean as the machine's int -/
def OB (b : Bool) : Int32 := if b then 1 else 0
theorem own_b1 : nar .boolean (1 : Int32) = 1 := by decide
theorem own_b0 : nar .boolean (0 : Int32) = 0 := by decide
theorem own_nb (b : Bool) : nar .boolean (OB b) = OB b := by cases b <;> decide
end OwnKit
theorem own_w {Z : State} {a0 : Array Value} (hw : ∀ d ∈ tables_1, d.before a0 Z = true) (i : Nat) {d : Jvm.Cond} (h : tables_1[i]? = some d) : d.before a0 Z = true := hw d (List.mem_of_getElem? h)
section OwnWide
variable {p : Program} {l : Launch} {e : Env} {R : Room} {s : State} {m : MethodId} {args : Array Value} {below : List Frame} {meth : Method} {c : Code} {T : State} {locs : List Loc} {cells slots : Nat} {Z : State} {a0 : Array Value} {h h0 : Heap} {EL : List (String × Nat)} {vm0 : Vm} {k0 : Nat} {Q : Option Value → Heap → List Loc → Prop}
def OGoW (p : Program) (e : Env) (below : List Frame) (s : State) (R : Room) (Z : State) (EL : List (String × Nat)) (Q : Option Value → Heap → List Loc → Prop) (U : State) : Prop :=
  ∃ s₂ o, Steps p.tables e below U s₂ ∧ s₂.status = .running ∧ Ended s₂ below o ∧ ∃ v L, o = .returned v ∧ Q v s₂.heap L ∧ CHr Z EL s.vm s.heap s₂.vm s₂.heap ∧ ReturnedEndW s o s₂ L R.cells R.slots
theorem own_stW {A B : State} (hs : ∀ t, Steps p.tables e below A t → Steps p.tables e below B t) (k : OGoW p e below s R Z EL Q A) : OGoW p e below s R Z EL Q B := by
  obtain ⟨t, o, h1, h2⟩ := k
  exact ⟨t, o, hs t h1, h2⟩
theorem own_retW {v : Option Value} {U : State} (X : Stand p l e R (s.setVm vm0) m args below meth c T locs cells slots) (hlk : meth.locks = false) (hv : meth.sig.returnType = none → v = none) (hc : cells ≤ R.cells) (hs : slots ≤ R.slots)
    (hS : s.Since vm0 k0) (eT : T.heap = h) (es : s.heap = h0) (hk : k0 ≤ h.size) (hZ : Z.Warmed39 vm0) (hEL : EW Z a0 EL) (CH : CHr Z EL s.vm h0 vm0 h) (hq : Q v T.heap locs)
    (st : ∀ fs, (∀ (f : JFrame) (acts : List Action), f.method = m → f.locked = none → f.entered = [] → (doReturn e (T.setTop f) acts v).1 = T.setFrames fs) → Steps p.tables e below U (T.setFrames fs)) : OGoW p e below s R Z EL Q U := by
  subst eT es
  obtain ⟨fs, hr, hrun, hended, hend⟩ := X.leaveW hS hk (v := v) hv hlk
  have q := CHv.at X hZ hEL CH.1
  exact ⟨_, _, st fs hr, hrun, hended, v, locs, rfl, hq, CH.trans q, hend.1, hend.2.1, hend.2.2.1, hend.2.2.2.mono hc hs⟩
theorem own_retWV (X : Stand p l e R (s.setVm vm0) m args below meth c T locs cells slots) (hx : p.tables.exec = Jvm.exec) (hlk : meth.locks = false) {pc : Nat} {Ls : Array Slot} (hret : meth.sig.returnType = none) (hd : decode c.code pc = .ok (.return_, 1)) (hc : cells ≤ R.cells) (hs : slots ≤ R.slots)
    (hS : s.Since vm0 k0) (eT : T.heap = h) (es : s.heap = h0) (hk : k0 ≤ h.size) (hZ : Z.Warmed39 vm0) (hEL : EW Z a0 EL) (CH : CHr Z EL s.vm h0 vm0 h) (hq : Q none T.heap locs) : OGoW p e below s R Z EL Q (T.setTop (mkF m pc Ls [])) :=
  own_retW X hlk (fun _ => rfl) hc hs hS eT es hk hZ hEL CH hq fun fs hr => X.returnOut hx hret hd hr
theorem own_retWN (X : Stand p l e R (s.setVm vm0) m args below meth c T locs cells slots) (hx : p.tables.exec = Jvm.exec) (hlk : meth.locks = false) {pc : Nat} {Ls : Array Slot} {z : Int32} {t : FieldType} {rest : List Value} (hret : meth.sig.returnType = some t) (ht : t = .boolean ∨ t = .byte ∨ t = .char ∨ t = .short)
    (hd : decode c.code pc = .ok (.ireturn, 1)) (hc : cells ≤ R.cells) (hs : slots ≤ R.slots)
    (hS : s.Since vm0 k0) (eT : T.heap = h) (es : s.heap = h0) (hk : k0 ≤ h.size) (hZ : Z.Warmed39 vm0) (hEL : EW Z a0 EL) (CH : CHr Z EL s.vm h0 vm0 h) (hq : Q (some (.int (nar t z))) T.heap locs) : OGoW p e below s R Z EL Q (T.setTop (mkF m pc Ls (.int z :: rest))) :=
  own_retW X hlk (fun q => by rw [hret] at q; cases q) hc hs hS eT es hk hZ hEL CH hq fun fs hr => retN X hx hret ht hd hr
theorem own_retWA (X : Stand p l e R (s.setVm vm0) m args below meth c T locs cells slots) (hx : p.tables.exec = Jvm.exec) (hlk : meth.locks = false) {pc : Nat} {Ls : Array Slot} {z : Value} {rest : List Value} {t : FieldType} (hret : meth.sig.returnType = some t) (hz : z.isRef = true) (ht : t.isReference = true)
    (hd : decode c.code pc = .ok (.areturn, 1)) (hc : cells ≤ R.cells) (hs : slots ≤ R.slots)
    (hS : s.Since vm0 k0) (eT : T.heap = h) (es : s.heap = h0) (hk : k0 ≤ h.size) (hZ : Z.Warmed39 vm0) (hEL : EW Z a0 EL) (CH : CHr Z EL s.vm h0 vm0 h) (hq : Q (some z) T.heap locs) : OGoW p e below s R Z EL Q (T.setTop (mkF m pc Ls (z :: rest))) :=
  own_retW X hlk (fun q => by rw [hret] at q; cases q) hc hs hS eT es hk hZ hEL CH hq fun fs hr => by
    show Steps p.tables e below (T.setTop { method := m, pc := pc, locals := Ls, stack := _ :: rest, locked := none }) _
    jvm_step X.here [X.here.top, hx, hd, X.method', hret, hz, ht]
    first | (intro acts; rw [hr _ acts rfl rfl rfl]) | rw [hr _ _ rfl rfl rfl]
    exact Steps.refl _
abbrev OMetW (l : Launch) (Z : State) (EL : List (String × Nat)) (y : MethodName) (bytes : ByteArray) (ml : Nat) (rt : Option FieldType) (ws : List Jvm.Cond) (R : Room) (as : Array Value) (h0 : Heap) (Q : Option Value → Heap → List Loc → Prop) : Prop :=
  MetFree l y (head1 (Jvm.Cond.code y bytes ml rt :: ws) R) (fun a U => a = as ∧ Z.Warmed39 U.vm ∧ U.heap = h0 ∧ CHv Z EL U.vm h0) (fun _ _ _ _ _ => True) (fun _ U o U' => ∃ v L, o = .returned v ∧ Q v U'.heap L ∧ CHr Z EL U.vm U.heap U'.vm U'.heap ∧ ReturnedEndW U o U' L R.cells R.slots)
theorem own_bodyW {y : MethodName} {bytes : ByteArray} {ml : Nat} {rt : Option FieldType} {ws : List Jvm.Cond} {as : Array Value} {L0 : Array Slot} (hp : plainFor y = true) (ef : ∀ m, entryFrame m as ml = mkF m 0 L0 [])
    (body : ∀ p e s m below meth c T, p.tables.exec = Jvm.exec → c.code = bytes → c.maxLocals = ml → s.vm.findClass y.cls = some m.cls → meth.name = y.name → meth.sig.returnType = rt → meth.locks = false → Z.Warmed39 s.vm →
      Stand p l e R (s.setVm s.vm) m as below meth c T [] 0 0 → T.heap = h0 → s.heap = h0 → s.Since s.vm h0.size → CHr Z EL s.vm h0 s.vm h0 → OGoW p e below s R Z EL Q (T.setTop (mkF m 0 L0 []))) : OMetW l Z EL y bytes ml rt ws R as h0 Q := by
  refine MetFree.of_bodySF hp hisR ?_
  intro p e s m args below meth c s₁ Bd hml0 hP hK
  obtain ⟨rfl, hZ, hh, hC⟩ := hP
  have X0 : Stand p l e R s m _ below meth c s₁ [] 0 0 := Stand.of_body Bd
  obtain ⟨t, o, h1, h2⟩ := body p e s m below meth c s₁ Bd.exec Bd.bytes hml0 (findClass_of_methodNamed Bd.named) (name_of_methodNamed Bd.named Bd.method).1 Bd.returns Bd.notSynchronized hZ X0 (by rw [← hh, Bd.state]; rfl) hh ((State.WarmedH.refl s).since _) (CHr.refl hC)
  exact ⟨t, o, castTop (ef m) h1, h2⟩
variable {own : String} {index : Nat} {y z : MethodName} {bytes : ByteArray} {ml W : Nat} {rt : Option FieldType} {rm : Room} {as : Array Value}
theorem own_callIW (X : Stand p l e R (s.setVm vm0) m args below meth c T locs cells slots) (hx : p.tables.exec = Jvm.exec) (hZ : Z.Warmed39 vm0) (hS : s.Since vm0 k0) (hk : k0 ≤ h.size) (hEL : EW Z a0 EL) (CH : CHv Z EL vm0 h) (hy1 : y.name = "<init>") (hown : vm0.findClass own = some m.cls)
    (w1 : (Jvm.Cond.methodLink own index y).before a0 Z = true) (w2 : (Jvm.Cond.instanceMethod y).before a0 Z = true) (w4 : (Jvm.Cond.code y bytes ml none).before a0 Z = true) (w3 : (Jvm.Cond.initialized y.cls).before a0 Z = true)
    (hy : y.cls ≠ "java/lang/invoke/MethodHandle" ∧ y.cls ≠ "java/lang/invoke/VarHandle") (hM : OMetW l Z EL y bytes ml none [] rm as h Q) (hf : rm.frames + 1 ≤ R.frames) (hl : W + (ml + 11) + rm.locals ≤ R.locals) {a : Addr}
    {g : JFrame} (hg : g.method = m) (hsz : g.locals.size = c.maxLocals) {argsL rest : List Value} (hlen : ∀ sig, parseMethodDescriptor y.desc = some sig → argsL.length = sig.parameters.length) (hstack : g.stack = argsL.reverse ++ .ref a :: rest)
    (hW : 2 * g.monitorRoom + (rest.map fun v => v.category).sum ≤ W) (hd : decode c.code g.pc = .ok (.invokespecial index, 3)) (ha : (.ref a :: argsL).toArray = as) (eT : T.heap = h) (hc : cells + rm.cells ≤ R.cells) (hs : slots + rm.slots ≤ R.slots) :
    ∃ v T' L, Stand p l e R (s.setVm T'.vm) m args below meth c T' (locs ++ L) (cells + rm.cells) (slots + rm.slots) ∧ Q v T'.heap L ∧ s.Since T'.vm T'.heap.size ∧ Z.Warmed39 (s.setVm T'.vm).vm ∧ (s.setVm T'.vm).vm.findClass own = some m.cls ∧ CHr Z EL vm0 h T'.vm T'.heap ∧
      ∀ t, Steps p.tables e below (T'.setTop { g with pc := g.pc + 3, stack := v.toList ++ rest }) t → Steps p.tables e below (T.setTop g) t := by
  obtain ⟨v, _, ⟨T3, L3, k3, n3⟩, -, X3, S3, G3, ⟨Lc3, hQ3, l3, y3, z3, C3⟩, st3⟩ := X.specialBackS hx (y := y) hy1 hown (mvT (s := s.setVm vm0) hZ w1) (mvT (s := s.setVm vm0) hZ w2) (mvT (s := s.setVm vm0) hZ w4) hy (backOfSH (W := W) hM hZ w4 w3 hf hl hEL CH) hg hsz (Steps.refl _) (a := a) hlen hstack hW hd (fun _ _ => ⟨ha, eT, hc, hs⟩)
  dsimp only [Pt.U, Pt.locs, Pt.cells, Pt.slots] at X3 S3 G3 l3 y3 z3 st3 hQ3 C3
  subst l3 y3 z3
  obtain ⟨X', S', hZ', hown'⟩ := rebS hS (by rw [eT]; exact hk) X3 S3 G3 hZ hown
  exact ⟨v, T3, Lc3, X', hQ3, S', hZ', hown', C3, fun t k => st3.trans k⟩
theorem own_callSW (X : Stand p l e R (s.setVm vm0) m args below meth c T locs cells slots) (hx : p.tables.exec = Jvm.exec) (hZ : Z.Warmed39 vm0) (hS : s.Since vm0 k0) (hk : k0 ≤ h.size) (hEL : EW Z a0 EL) (CH : CHv Z EL vm0 h) (hown : vm0.findClass own = some m.cls)
    (w1 : (Jvm.Cond.methodLink own index y).before a0 Z = true) (w2 : (Jvm.Cond.static y).before a0 Z = true) (w3 : (Jvm.Cond.initialized y.cls).before a0 Z = true) (w4 : (Jvm.Cond.code y bytes ml rt).before a0 Z = true)
    (hy : y.cls ≠ "java/lang/invoke/MethodHandle" ∧ y.cls ≠ "java/lang/invoke/VarHandle") (hM : OMetW l Z EL y bytes ml rt [] rm as h Q) (hf : rm.frames + 1 ≤ R.frames) (hl : W + (ml + 11) + rm.locals ≤ R.locals)
    {g : JFrame} (hg : g.method = m) (hsz : g.locals.size = c.maxLocals) {argsL rest : List Value} (hlen : ∀ sig, parseMethodDescriptor y.desc = some sig → argsL.length = sig.parameters.length) (hstack : g.stack = argsL.reverse ++ rest)
    (hW : 2 * g.monitorRoom + (rest.map fun v => v.category).sum ≤ W) (hd : decode c.code g.pc = .ok (.invokestatic index, 3)) (ha : argsL.toArray = as) (eT : T.heap = h) (hc : cells + rm.cells ≤ R.cells) (hs : slots + rm.slots ≤ R.slots) :
    ∃ v T' L, Stand p l e R (s.setVm T'.vm) m args below meth c T' (locs ++ L) (cells + rm.cells) (slots + rm.slots) ∧ Q v T'.heap L ∧ s.Since T'.vm T'.heap.size ∧ Z.Warmed39 (s.setVm T'.vm).vm ∧ (s.setVm T'.vm).vm.findClass own = some m.cls ∧ CHr Z EL vm0 h T'.vm T'.heap ∧
      ∀ t, Steps p.tables e below (T'.setTop { g with pc := g.pc + 3, stack := v.toList ++ rest }) t → Steps p.tables e below (T.setTop g) t := by
  obtain ⟨v, _, ⟨T3, L3, k3, n3⟩, -, X3, S3, G3, ⟨Lc3, hQ3, l3, y3, z3, C3⟩, st3⟩ := callSS X hx (y := y) hown (mvT (s := s.setVm vm0) hZ w1) (mvT (s := s.setVm vm0) hZ w2) (mvT (s := s.setVm vm0) hZ w3) (mvT (s := s.setVm vm0) hZ w4) hy (backOfSH (W := W) hM hZ w4 w3 hf hl hEL CH) hg hsz hlen hstack hW hd (fun _ _ => ⟨ha, eT, hc, hs⟩)
  dsimp only [Pt.U, Pt.locs, Pt.cells, Pt.slots] at X3 S3 G3 l3 y3 z3 st3 hQ3 C3
  subst l3 y3 z3
  obtain ⟨X', S', hZ', hown'⟩ := rebS hS (by rw [eT]; exact hk) X3 S3 G3 hZ hown
  exact ⟨v, T3, Lc3, X', hQ3, S', hZ', hown', C3, fun t k => st3.trans k⟩
/-- a String whose value is still null is no booked one -/
theorem own_safe_null {a : Addr} (hal : Z.vm.Alike vm0) (E : Exa Z h a "java/lang/String") (F : Fld Z h a "java/lang/String" "value" "[B" .null) : Safe Z EL vm0 h a := fun B => by
  obtain ⟨pr, hp, u, a', hb, q, rfl, hSl, hy⟩ := B
  rcases hy with rfl | rfl
  · obtain ⟨cS, ⟨⟨h1, -, -, ⟨c1, k1, i1, f1, -⟩, -, -, -, v1, -⟩, -⟩, -⟩ := hSl
    obtain ⟨cell, cf, k, i, f, g1, g2, -, -, -, -, g7⟩ := F
    obtain ⟨k', e1⟩ := ff_back (U := Wst Z vm0 h) hal f1
    have e2 := e1.symm.trans g2
    simp only [Option.some.injEq, Prod.mk.injEq] at e2
    have e3 : some q.sC = some cell := h1.symm.trans g1
    cases e3
    rw [e2.2.2.2, g7] at v1
    cases v1
  · have hd := hSl.hd
    obtain ⟨cS, -, -, h4, -⟩ := hSl
    obtain ⟨cell, k, e1, e2, -⟩ := E
    have e3 : some q.SA = some cell := hd.symm.trans e1
    cases e3
    have e4 : Z.vm.findClass "[B" = some q.SA.cls := by rw [← hal.findClass]; exact h4
    exact ids_ne e2 e4 (by decide) rfl
theorem own_safe_arr {a : Addr} {ty : FieldType} {n : Nat} {f : Nat → Value} (hal : Z.vm.Alike vm0) (F : OAr Z h a ty n f) (ht : ty ≠ .byte) : Safe Z EL vm0 h a := by
  obtain ⟨c, A, -⟩ := F
  exact Safe.arr hal A ht
theorem own_ch0 {vm1 : Vm} {h' : Heap} (g : h.size ≤ h'.size) : CHr Z [] vm0 h vm1 h' := by
  refine ⟨fun pr hp => absurd hp List.not_mem_nil, g, fun y B => ?_⟩
  obtain ⟨pr, hp, -⟩ := B
  exact absurd hp List.not_mem_nil
theorem own_safe0 {a : Addr} : Safe Z [] vm0 h a := fun B => by
  obtain ⟨pr, hp, -⟩ := B
  exact absurd hp List.not_mem_nil
theorem own_arv {a : Addr} {k : ClassId} {ty : FieldType} {zz : Int32} {vs : List Value} {dv : Value} {n : Nat} {f : Nat → Value} (F : Arv Z h a k ty zz vs dv) (hn : zz.toNatClampNeg = n) (hf : ∀ j, j < n → vs.getD j dv = f j) : OAr Z h a ty n f := by
  obtain ⟨c, A, -, S, -, H, -⟩ := F
  exact ⟨c, A, S.trans hn, fun j hj => by rw [H j (by omega), hf j hj]⟩
/-- what a call has made is no booked String's -/
theorem own_safe_fresh {ws : List Addr} {h' : Heap} {a : Addr} (K : Keep h h' ws) (hs : ∀ x ∈ ws, Safe Z EL vm0 h x) (H : CHv Z EL vm0 h) (hx : h.size ≤ a) : Safe Z EL vm0 h' a := fun B => Safe.new hx ((H.keepStep K hs).2 _ B)
end OwnWide
section OwnSB
variable {p : Program} {l : Launch} {e : Env} {R : Room} {s : State} {m : MethodId} {args : Array Value} {below : List Frame} {meth : Method} {c : Code} {T : State} {locs : List Loc} {cells slots : Nat} {Z : State} {a0 : Array Value} {h h' h0 : Heap} {EL : List (String × Nat)} {vm0 : Vm} {k0 : Nat} {Q : Option Value → Heap → List Loc → Prop}
variable {own : String} {index : Nat} {y z : MethodName} {bytes : ByteArray} {ml W : Nat} {rt : Option FieldType} {rm : Room} {as : Array Value} {a b : Addr} {n n' sl : Nat} {v : Value}
/-- an array of n bytes, whatever they are -/
def OBy (Z : State) (h : Heap) (a : Addr) (n : Nat) : Prop := ∃ c : Cell, Arr Z h a c .byte ∧ c.slots.size = n ∧ ∀ (j : Nat) (v : Value), c.slots[j]? = some v → fits .byte v = true
theorem OBy.lt (F : OBy Z h a n) : a < h.size := by obtain ⟨c, A, -⟩ := F; exact A.lt
theorem OBy.ext (F : OBy Z h a n) (E : Ext h h') : OBy Z h' a n := by obtain ⟨c, A, r⟩ := F; exact ⟨c, A.ext E, r⟩
theorem OBy.other (F : OBy Z h a n) (W : Wr h h' b sl v) (q : a ≠ b) : OBy Z h' a n := by obtain ⟨c, A, r⟩ := F; exact ⟨c, A.other W q, r⟩
theorem OBy.keep {ws : List Addr} (F : OBy Z h a n) (K : Keep h h' ws) (q : a ∉ ws) : OBy Z h' a n := by obtain ⟨c, A, r⟩ := F; exact ⟨c, ⟨K.2.1 a c A.1 q, A.2⟩, r⟩
theorem own_pl_by (F : OBy Z h a n) : ∃ c : Cell, h[a]? = some c ∧ c.vm.isStatics = false := by obtain ⟨c, A, -⟩ := F; exact ⟨c, A.1, A.plain⟩
theorem own_by {f : Nat → Value} (F : OAr Z h a .byte n f) (q : ∀ j, j < n → fits .byte (f j) = true) : OBy Z h a n := by
  obtain ⟨c, A, S, H⟩ := F
  refine ⟨c, A, S, fun j v hv => ?_⟩
  have hj : j < n := S ▸ (Array.getElem?_eq_some_iff.mp hv).1
  rw [H j hj] at hv
  cases hv
  exact q j hj
theorem own_by_arv {k : ClassId} {zz : Int32} {vs : List Value} {dv : Value} (F : Arv Z h a k .byte zz vs dv) (hn : zz.toNatClampNeg = n) : OBy Z h a n := by
  obtain ⟨c, A, -, S, -, H, G⟩ := F
  refine ⟨c, A, S.trans hn, fun j v hv => ?_⟩
  have hj := (Array.getElem?_eq_some_iff.mp hv).1
  rw [H j hj] at hv
  cases hv
  exact G j hj
theorem OBy.oar (F : OBy Z h a n) : ∃ f, OAr Z h a .byte n f ∧ ∀ j, j < n → fits .byte (f j) = true := by
  obtain ⟨c, A, S, H⟩ := F
  refine ⟨fun j => c.slots.getD j .null, ⟨c, A, S, fun j hj => ?_⟩, fun j hj => ?_⟩
  · show c.slots[j]? = some (c.slots.getD j .null)
    rw [Array.getD_eq_getD_getElem?, Array.getElem?_eq_getElem (S ▸ hj)]; rfl
  · refine H j _ (?_ : c.slots[j]? = some (c.slots.getD j .null))
    rw [Array.getD_eq_getD_getElem?, Array.getElem?_eq_getElem (S ▸ hj)]; rfl
theorem OBy.arv (F : OBy Z h a n) (hn : n < 2 ^ 31) : ∃ k vs, vs.length = n ∧ Arv Z h a k .byte (Int32.ofNat n) vs (.int 0) := by
  obtain ⟨c, A, S, H⟩ := F
  have hh : Has c c.slots.toList (.int 0) := fun j hj => by
    rw [List.getD_eq_getElem?_getD, Array.getElem?_toList, Array.getElem?_eq_getElem hj]; rfl
  exact ⟨c.cls, c.slots.toList, by simpa using S, c, A, rfl, by rw [(own_nat hn).1]; exact S, (own_nat hn).2.1, hh, fun i hi => H i _ (hh i hi)⟩
/-- System.arraycopy between byte arrays -/
theorem own_acopy (X : Stand p l e R s m args below meth c T locs cells slots) (hx : p.tables.exec = Jvm.exec) (hZ : Z.Warmed39 s.vm) (hown : s.vm.findClass own = some m.cls)
    (w1 : (Cond.methodLink own index Jvm.Stand.acN).before a0 Z = true) (w2 : (Cond.native Jvm.Stand.acN).before a0 Z = true) (w3 : (Cond.static Jvm.Stand.acN).before a0 Z = true) (w4 : (Cond.initialized "java/lang/System").before a0 Z = true) (eT : T.heap = h)
    (A : OBy Z h a n) (B : OBy Z h b n') (hn : n < 2 ^ 31) (hn' : n' < 2 ^ 31) {sp dp nn : Int32} (h1 : ¬ sp < 0) (h2 : ¬ dp < 0) (h3 : ¬ nn < 0) (h4 : sp.toNatClampNeg + nn.toNatClampNeg ≤ n) (h5 : dp.toNatClampNeg + nn.toNatClampNeg ≤ n')
    {n0 : Nat} (N : Fr n0 locs) (ge : n0 ≤ b)
    {g : JFrame} (hg : g.method = m) (hsize : g.locals.size = c.maxLocals) {rest : List Value} (hs : g.stack = .int nn :: .int dp :: .ref b :: .int sp :: .ref a :: rest) (hd : decode c.code g.pc = .ok (.invokestatic index, 3))
    (hf : 1 ≤ R.frames) (hW : 2 * g.monitorRoom + (rest.map fun v => v.category).sum ≤ W) (hlo : W + (nativeFrameWords "java/lang/System" "arraycopy" 5 + 11) ≤ R.locals) :
    ∃ T' h' L, Stand p l e R s m args below meth c T' L cells slots ∧ T'.heap = h' ∧ Fr n0 L ∧ Keep h h' [b] ∧ OBy Z h' b n' ∧
      ∀ target, Steps p.tables e below (T'.setTop { g with pc := g.pc + 3, stack := rest }) target → Steps p.tables e below (T.setTop g) target := by
  obtain ⟨k1, vs1, l1, A1⟩ := A.arv hn
  obtain ⟨k2, vs2, l2, A2⟩ := B.arv hn'
  obtain ⟨T', h', L, X', e', N', K', F', st⟩ := cpA X hx hZ hown w1 w2 w3 w4 eT A1 A2 (Or.inl ⟨rfl, rfl⟩) h1 h2 h3 (by rw [(own_nat hn).1]; exact h4) (by rw [(own_nat hn').1]; exact h5) rfl (by rw [l2]; exact h5) N ge hg hsize hs hd hf hW hlo
  exact ⟨T', h', L, X', e', N', K', own_by_arv F' (own_nat hn').1, st⟩
/-- a class of which a method is selected is no interface -/
theorem own_ord {C : String} (w : (Jvm.Cond.selects C y y).before a0 Z = true) : ∃ c k, Z.vm.findClass y.cls = some c ∧ Z.vm.classes[c]? = some k ∧ k.isInterface = false := by
  obtain ⟨c2, r2, m2, q1, q2, q3, q4, kP, hkP, hkPi⟩ := Cond.selects_spec w
  exact ⟨_, kP, findClass_of_methodNamed q3, hkP, hkPi⟩
theorem own_selfsel (o : ∃ c k, Z.vm.findClass y.cls = some c ∧ Z.vm.classes[c]? = some k ∧ k.isInterface = false) (wp : (Jvm.Cond.privateMethod y).before a0 Z = true) (wi : (Jvm.Cond.instanceMethod y).before a0 Z = true) (hy : y.cls ≠ "java/lang/invoke/MethodHandle" ∧ y.cls ≠ "java/lang/invoke/VarHandle") : (Jvm.Cond.selects y.cls y y).before a0 Z = true := by
  obtain ⟨c, k, h1, h2, h3⟩ := o
  exact Jvm.Stand.selects_self_of_private h1 h2 h3 (Cond.privateMethod_at wp) wi hy
theorem own_same (o : ∃ c k, Z.vm.findClass y.cls = some c ∧ Z.vm.classes[c]? = some k ∧ k.isInterface = false) (wi : (Jvm.Cond.instanceMethod y).before a0 Z = true) (hy : y.cls ≠ "java/lang/invoke/MethodHandle" ∧ y.cls ≠ "java/lang/invoke/VarHandle") : (Jvm.Cond.sameMethod y.cls y.cls y.name y.desc).before a0 Z = true := by
  obtain ⟨c, k, h1, h2, h3⟩ := o
  obtain ⟨mk, methM, hnamed, -, -, -⟩ := Cond.instanceMethod_spec wi
  have hfound : Z.methodFound? y.cls y.name y.desc = some mk := State.methodFound?_of_named hnamed hy
  have hn' : Z.methodNamed? ⟨y.cls, y.name, y.desc⟩ = some mk := hnamed
  simp only [Cond.before, Cond.holds, Cond.value, h1, hfound, hn', h2]
  simp [h3]
theorem own_nface (hZ : Z.Warmed39 s.vm) (o : ∃ c k, Z.vm.findClass y.cls = some c ∧ Z.vm.classes[c]? = some k ∧ k.isInterface = false) : NotFace s y := fun r0 hr => by
  obtain ⟨c, k, h1, h2, h3⟩ := o
  have q := findClass_of_methodNamed hr
  rw [hZ.alike.findClass, h1] at q
  cases q
  obtain ⟨k', q1, q2⟩ := hZ.alike.2.2 _ _ h2
  exact ⟨k', q1, by rw [q2]; exact h3⟩
/-- a call of the superclass's method -/
theorem own_callU {C : String} (X : Stand p l e R s m args below meth c T locs cells slots) (hx : p.tables.exec = Jvm.exec) (hZ : Z.Warmed39 s.vm) (hown : s.vm.findClass own = some m.cls)
    (w1 : (Jvm.Cond.methodLink own index y).before a0 Z = true) (w2 : (Jvm.Cond.sameMethod y.cls y.cls y.name y.desc).before a0 Z = true) (wi : (Jvm.Cond.instanceMethod y).before a0 Z = true) (wu : (Jvm.Cond.superclass own y.cls).before a0 Z = true) (hn : y.name ≠ "<init>")
    (w4 : (Jvm.Cond.code y bytes ml rt).before a0 Z = true) (w3 : (Jvm.Cond.initialized y.cls).before a0 Z = true)
    (hM : OMet l Z y bytes ml rt [] rm as h Q) (hf : rm.frames + 1 ≤ R.frames) (hl : W + (ml + 11) + rm.locals ≤ R.locals) (E : Exa Z h a C)
    {g : JFrame} (hg : g.method = m) (hsz : g.locals.size = c.maxLocals) {argsL rest : List Value} (hlen : ∀ sig, parseMethodDescriptor y.desc = some sig → argsL.length = sig.parameters.length) (hstack : g.stack = argsL.reverse ++ .ref a :: rest)
    (hW : 2 * g.monitorRoom + (rest.map fun v => v.category).sum ≤ W) (hd : decode c.code g.pc = .ok (.invokespecial index, 3)) (ha : (.ref a :: argsL).toArray = as) (eT : T.heap = h) (hc : cells + rm.cells ≤ R.cells) (hs : slots + rm.slots ≤ R.slots) :
    ∃ v T' L, Stand p l e R s m args below meth c T' (locs ++ L) (cells + rm.cells) (slots + rm.slots) ∧ Q v T'.heap L ∧ ∀ t, Steps p.tables e below (T'.setTop { g with pc := g.pc + 3, stack := v.toList ++ rest }) t → Steps p.tables e below (T.setTop g) t := by
  obtain ⟨v, _, ⟨T3, L3, k3, n3⟩, -, X3, ⟨Lc3, hQ3, l3, y3, z3⟩, st3⟩ := superBack X hx hZ (y := y) hown w1 w2 wi wu hn (backOf (W := W) hM hZ w4 w3 hf hl) eT (Ins.self E) hg hsz w4 hlen hstack hW hd (fun _ _ => ⟨ha, eT, hc, hs⟩)
  dsimp only [Pt.U, Pt.locs, Pt.cells, Pt.slots] at X3 l3 y3 z3 st3 hQ3
  subst l3 y3 z3
  exact ⟨v, T3, Lc3, X3, hQ3, fun t k => st3.trans k⟩
theorem own_callUP {C : String} {v0 : Option Value} (X : Stand p l e R s m args below meth c T locs cells slots) (hx : p.tables.exec = Jvm.exec) (hZ : Z.Warmed39 s.vm) (hown : s.vm.findClass own = some m.cls)
    (w1 : (Jvm.Cond.methodLink own index y).before a0 Z = true) (w2 : (Jvm.Cond.sameMethod y.cls y.cls y.name y.desc).before a0 Z = true) (wi : (Jvm.Cond.instanceMethod y).before a0 Z = true) (wu : (Jvm.Cond.superclass own y.cls).before a0 Z = true) (hn : y.name ≠ "<init>")
    (w4 : (Jvm.Cond.code y bytes ml rt).before a0 Z = true) (w3 : (Jvm.Cond.initialized y.cls).before a0 Z = true)
    (hM : OPure l Z y bytes ml rt [] rm as h v0) (hf : rm.frames + 1 ≤ R.frames) (hl : W + (ml + 11) + rm.locals ≤ R.locals) (E : Exa Z h a C)
    {g : JFrame} (hg : g.method = m) (hsz : g.locals.size = c.maxLocals) {argsL rest : List Value} (hlen : ∀ sig, parseMethodDescriptor y.desc = some sig → argsL.length = sig.parameters.length) (hstack : g.stack = argsL.reverse ++ .ref a :: rest)
    (hW : 2 * g.monitorRoom + (rest.map fun v => v.category).sum ≤ W) (hd : decode c.code g.pc = .ok (.invokespecial index, 3)) (ha : (.ref a :: argsL).toArray = as) (eT : T.heap = h) (hc : cells + rm.cells ≤ R.cells) (hs : slots + rm.slots ≤ R.slots) :
    ∃ T', Stand p l e R s m args below meth c T' locs (cells + rm.cells) (slots + rm.slots) ∧ T'.heap = h ∧ ∀ t, Steps p.tables e below (T'.setTop { g with pc := g.pc + 3, stack := v0.toList ++ rest }) t → Steps p.tables e below (T.setTop g) t := by
  obtain ⟨v, T', L, X', ⟨rfl, rfl, e'⟩, st⟩ := own_callU X hx hZ hown w1 w2 wi wu hn w4 w3 hM hf hl E hg hsz hlen hstack hW hd ha eT hc hs
  rw [List.append_nil] at X'
  exact ⟨T', X', e', st⟩
/-- a private method, wide -/
theorem own_callRW {C : String} (X : Stand p l e R (s.setVm vm0) m args below meth c T locs cells slots) (hx : p.tables.exec = Jvm.exec) (hZ : Z.Warmed39 vm0) (hS : s.Since vm0 k0) (hk : k0 ≤ h.size) (hEL : EW Z a0 EL) (CH : CHv Z EL vm0 h) (hown : vm0.findClass own = some m.cls)
    (w1 : (Jvm.Cond.methodLink own index y).before a0 Z = true) (w2 : (Jvm.Cond.instanceMethod y).before a0 Z = true) (ws : (Jvm.Cond.selects y.cls y y).before a0 Z = true) (wp : (Jvm.Cond.privateMethod y).before a0 Z = true)
    (w4 : (Jvm.Cond.code y bytes ml rt).before a0 Z = true) (w3 : (Jvm.Cond.initialized y.cls).before a0 Z = true)
    (hy : y.cls ≠ "java/lang/invoke/MethodHandle" ∧ y.cls ≠ "java/lang/invoke/VarHandle") (hM : OMetW l Z EL y bytes ml rt [] rm as h Q) (hf : rm.frames + 1 ≤ R.frames) (hl : W + (ml + 11) + rm.locals ≤ R.locals) (E : Exa Z h a C)
    {g : JFrame} (hg : g.method = m) (hsz : g.locals.size = c.maxLocals) {argsL rest : List Value} (hlen : ∀ sig, parseMethodDescriptor y.desc = some sig → argsL.length = sig.parameters.length) (hstack : g.stack = argsL.reverse ++ .ref a :: rest)
    (hW : 2 * g.monitorRoom + (rest.map fun v => v.category).sum ≤ W) (hd : decode c.code g.pc = .ok (.invokevirtual index, 3)) (ha : (.ref a :: argsL).toArray = as) (eT : T.heap = h) (hc : cells + rm.cells ≤ R.cells) (hs : slots + rm.slots ≤ R.slots) :
    ∃ v T' L, Stand p l e R (s.setVm T'.vm) m args below meth c T' (locs ++ L) (cells + rm.cells) (slots + rm.slots) ∧ Q v T'.heap L ∧ s.Since T'.vm T'.heap.size ∧ Z.Warmed39 (s.setVm T'.vm).vm ∧ (s.setVm T'.vm).vm.findClass own = some m.cls ∧ CHr Z EL vm0 h T'.vm T'.heap ∧
      ∀ t, Steps p.tables e below (T'.setTop { g with pc := g.pc + 3, stack := v.toList ++ rest }) t → Steps p.tables e below (T.setTop g) t := by
  obtain ⟨cq, qa, qb⟩ := E.cell
  obtain ⟨v, _, ⟨T3, L3, k3, n3⟩, -, X3, S3, G3, ⟨Lc3, hQ3, l3, y3, z3, C3⟩, st3⟩ := X.privateBackS hx (y := y) hown (mvT (s := s.setVm vm0) hZ w1) (mvT (s := s.setVm vm0) hZ w2) (mvT (s := s.setVm vm0) hZ ws) (Cond.privateMethod_at (mvP (s := s.setVm vm0) hZ wp (args := #[]))) (mvT (s := s.setVm vm0) hZ w4) hy (backOfSH (W := W) hM hZ w4 w3 hf hl hEL CH) hg hsz (Steps.refl _) (a := a) (by rw [eT]; exact qa) qb hlen hstack hW hd (fun _ _ => ⟨ha, eT, hc, hs⟩)
  dsimp only [Pt.U, Pt.locs, Pt.cells, Pt.slots] at X3 S3 G3 l3 y3 z3 st3 hQ3 C3
  subst l3 y3 z3
  obtain ⟨X', S', hZ', hown'⟩ := rebS hS (by rw [eT]; exact hk) X3 S3 G3 hZ hown
  exact ⟨v, T3, Lc3, X', hQ3, S', hZ', hown', C3, fun t k => st3.trans k⟩
end OwnSB
/-- a char's byte in a Latin-1 string -/
def own_lb (x : Int32) : Int32 := nar .byte x.toInt8.toInt32
def own_lbs (f : Nat → Int32) (g : Nat → Value) (k j : Nat) : Value := if j < k then .int (own_lb (f j)) else g j
theorem own_lbs0 (f : Nat → Int32) (g : Nat → Value) (n : Nat) : ∀ j, j < n → g j = own_lbs f g 0 j := fun j _ => by simp [own_lbs]
theorem own_lbsS (f : Nat → Int32) (g : Nat → Value) (n i : Nat) (hi : i < 2 ^ 31) : ∀ j, j < n → (if j = (Int32.ofNat i).toNatClampNeg then Value.int (nar .byte (f i).toInt8.toInt32) else own_lbs f g i j) = own_lbs f g (i + 1) j := fun j _ => by
  rw [(own_nat hi).1]
  by_cases q : j = i
  · subst q; simp [own_lbs, own_lb]
  · have e : (j < i + 1) ↔ (j < i) := by omega
    simp [own_lbs, q, e]
theorem own_lbsN (f : Nat → Int32) (g : Nat → Value) (n : Nat) : ∀ j, j < n → own_lbs f g n j = .int (own_lb (f j)) := fun j hj => by simp [own_lbs, hj]
theorem own_st6 {z0 z1 z2 z3 z4 z5 : Value} {s6 : Slot} {v : Int32} (h : One s6) : storeLocals #[.val z0, .val z1, .val z2, .val z3, .val z4, .val z5, s6] 6 (.int v) = some #[.val z0, .val z1, .val z2, .val z3, .val z4, .val z5, .val (.int v)] := by
  rcases h with rfl | ⟨w, rfl, hw⟩
  · rfl
  · cases w <;> first | rfl | (simp [Value.category] at hw)
theorem d7_0 : decode jdk_52_method_21_code 0 = .ok (.iconst 0, 1) := by decide +kernel
theorem d7_1 : decode jdk_52_method_21_code 1 = .ok (.istore 5, 2) := by decide +kernel
theorem d7_3 : decode jdk_52_method_21_code 3 = .ok (.iload 5, 2) := by decide +kernel
theorem d7_5 : decode jdk_52_method_21_code 5 = .ok (.iload 4, 2) := by decide +kernel
theorem d7_7 : decode jdk_52_method_21_code 7 = .ok (.if_icmp .ge 37, 3) := by decide +kernel
theorem d7_44 : decode jdk_52_method_21_code 44 = .ok (.iload 4, 2) := by decide +kernel
theorem d7_46 : decode jdk_52_method_21_code 46 = .ok (.ireturn, 1) := by decide +kernel
theorem d7_10 : decode jdk_52_method_21_code 10 = .ok (.aload_n 0, 1) := by decide +kernel
theorem d7_11 : decode jdk_52_method_21_code 11 = .ok (.iload_n 1, 1) := by decide +kernel
theorem d7_12 : decode jdk_52_method_21_code 12 = .ok (.caload, 1) := by decide +kernel
theorem d7_13 : decode jdk_52_method_21_code 13 = .ok (.istore 6, 2) := by decide +kernel
theorem d7_15 : decode jdk_52_method_21_code 15 = .ok (.iload 6, 2) := by decide +kernel
theorem d7_17 : decode jdk_52_method_21_code 17 = .ok (.sipush 255, 3) := by decide +kernel
theorem d7_20 : decode jdk_52_method_21_code 20 = .ok (.if_icmp .le 6, 3) := by decide +kernel
theorem d7_26 : decode jdk_52_method_21_code 26 = .ok (.aload_n 2, 1) := by decide +kernel
theorem d7_27 : decode jdk_52_method_21_code 27 = .ok (.iload_n 3, 1) := by decide +kernel
theorem d7_28 : decode jdk_52_method_21_code 28 = .ok (.iload 6, 2) := by decide +kernel
theorem d7_30 : decode jdk_52_method_21_code 30 = .ok (.i2b, 1) := by decide +kernel
theorem d7_31 : decode jdk_52_method_21_code 31 = .ok (.bastore, 1) := by decide +kernel
theorem d7_32 : decode jdk_52_method_21_code 32 = .ok (.iinc 1 1, 3) := by decide +kernel
theorem d7_35 : decode jdk_52_method_21_code 35 = .ok (.iinc 3 1, 3) := by decide +kernel
theorem d7_38 : decode jdk_52_method_21_code 38 = .ok (.iinc 5 1, 3) := by decide +kernel
theorem d7_41 : decode jdk_52_method_21_code 41 = .ok (.goto (-38), 3) := by decide +kernel
theorem pn_java_lang_StringUTF16 : plainName "java/lang/StringUTF16" = true := by first | (simp [plainName, overriddenIn]; done) | decide +kernel
theorem ef_7_RIRII (m : MethodId) (x0 : Addr) (x1 : Int32) (x2 : Addr) (x3 : Int32) (x4 : Int32) : entryFrame m #[(.ref x0), (.int x1), (.ref x2), (.int x3), (.int x4)] 7 = mkF m 0 #[.val (.ref x0), .val (.int x1), .val (.ref x2), .val (.int x3), .val (.int x4), .unset, .unset] [] := by first | (simp [entryFrame, mkF, argsToLocals, Value.category]; done) | rfl
set_option maxRecDepth 65536 in
set_option maxHeartbeats 40000000 in
theorem sc1 (l : Launch) (Z : State) (a0 : Array Value) (hw : ∀ d ∈ tables_1, d.before a0 Z = true) (a1 : Addr) (a2 : Addr) (n : Nat) (cf : Nat → Int32) (gf : Nat → Value) (h0 : Heap) (n0 : Nat) (Z0 : n0 ≤ h0.size) (old_a2 : n0 ≤ a2) (ne_a1_a2 : a1 ≠ a2) (A_a1 : OAr Z h0 a1 .char n (fun j => .int (cf j))) (A_a2 : OAr Z h0 a2 .byte n gf) (hn : n < 2 ^ 31) (hc : ∀ j, j < n → ¬ (255 : Int32) < cf j) :
    OMet l Z (⟨"java/lang/StringUTF16", "compress", "([CI[BII)I"⟩ : MethodName) jdk_52_method_21_code 7 (some .int) [] ({ frames := 0, cells := 0, slots := 0, locals := 0 } : Room) #[(.ref a1), (.int (0 : Int32)), (.ref a2), (.int (0 : Int32)), (.int (Int32.ofNat n))] h0 (fun v h' L => v = some (.int (Int32.ofNat n)) ∧ Fr n0 L ∧ Keep h0 h' [a2] ∧ OAr Z h' a2 .byte n (fun j => .int (own_lb (cf j)))) := by
  refine own_body (plainFor_of_name pn_java_lang_StringUTF16) (fun m => ef_7_RIRII m a1 (0 : Int32) a2 (0 : Int32) (Int32.ofNat n)) ?_
  intro p e s m below meth c T0 hx hby hml hown hnm hret hlk hZ X0 e0
  have hown : s.vm.findClass "java/lang/StringUTF16" = some m.cls := hown
  have hml : c.maxLocals = 7 := hml
  have N0 := Fr.nil n0
  have K0 := Keep.refl h0 [a2]
  show OGo p e below s _ _ (T0.setTop (mkF m 0 #[.val (.ref a1), .val (.int (0 : Int32)), .val (.ref a2), .val (.int (0 : Int32)), .val (.int (Int32.ofNat n)), .unset, .unset] []))
  refine own_st (fun _ z => XS.iconst X0.here hx rfl (hb hby d7_0) z) ?_
  show OGo p e below s _ _ (T0.setTop (mkF m 1 #[.val (.ref a1), .val (.int (0 : Int32)), .val (.ref a2), .val (.int (0 : Int32)), .val (.int (Int32.ofNat n)), .unset, .unset] [(.int (0 : Int32))]))
  refine own_st (fun _ z => XS.istore X0.here hx rfl (hb hby d7_1) rfl (l' := #[.val (.ref a1), .val (.int (0 : Int32)), .val (.ref a2), .val (.int (0 : Int32)), .val (.int (Int32.ofNat n)), .val (.int (0 : Int32)), .unset]) rfl z) ?_
  show OGo p e below s _ _ (T0.setTop (mkF m 3 #[.val (.ref a1), .val (.int (0 : Int32)), .val (.ref a2), .val (.int (0 : Int32)), .val (.int (Int32.ofNat n)), .val (.int (0 : Int32)), .unset] []))
  have A_a2 := A_a2.cong (own_lbs0 cf gf n)
  have loop : ∀ (k i : Nat) (TL : State) (LL : List Loc) (hL : Heap) (s6 : Slot), i + k = n → One s6 → Stand p l e ({ frames := 0, cells := 0, slots := 0, locals := 0 } : Room) s m #[(.ref a1), (.int (0 : Int32)), (.ref a2), (.int (0 : Int32)), (.int (Int32.ofNat n))] below meth c TL LL 0 0 → TL.heap = hL → Fr n0 LL → n0 ≤ hL.size → Keep h0 hL [a2] → OAr Z hL a1 .char n (fun j => .int (cf j)) → OAr Z hL a2 .byte n (own_lbs cf gf i) → OGo p e below s ({ frames := 0, cells := 0, slots := 0, locals := 0 } : Room) (fun v h' L => v = some (.int (Int32.ofNat n)) ∧ Fr n0 L ∧ Keep h0 h' [a2] ∧ OAr Z h' a2 .byte n (fun j => .int (own_lb (cf j)))) (TL.setTop (mkF m 3 #[.val (.ref a1), .val (.int (Int32.ofNat i)), .val (.ref a2), .val (.int (Int32.ofNat i)), .val (.int (Int32.ofNat n)), .val (.int (Int32.ofNat i)), s6] [])) := by
    intro k
    induction k with
    | zero =>
      intro i TL LL hL s6 hi hs6 XL eL NL Z0 K0 A_a1 A_a2
      obtain rfl : n = i := by omega
      show OGo p e below s _ _ (TL.setTop (mkF m 3 #[.val (.ref a1), .val (.int (Int32.ofNat n)), .val (.ref a2), .val (.int (Int32.ofNat n)), .val (.int (Int32.ofNat n)), .val (.int (Int32.ofNat n)), s6] []))
      refine own_st (fun _ z => XS.iload XL.here hx rfl (hb hby d7_3) rfl z) ?_
      show OGo p e below s _ _ (TL.setTop (mkF m 5 #[.val (.ref a1), .val (.int (Int32.ofNat n)), .val (.ref a2), .val (.int (Int32.ofNat n)), .val (.int (Int32.ofNat n)), .val (.int (Int32.ofNat n)), s6] [(.int (Int32.ofNat n))]))
      refine own_st (fun _ z => XS.iload XL.here hx rfl (hb hby d7_5) rfl z) ?_
      show OGo p e below s _ _ (TL.setTop (mkF m 7 #[.val (.ref a1), .val (.int (Int32.ofNat n)), .val (.ref a2), .val (.int (Int32.ofNat n)), .val (.int (Int32.ofNat n)), .val (.int (Int32.ofNat n)), s6] [(.int (Int32.ofNat n)), (.int (Int32.ofNat n))]))
      refine own_st (fun _ z => XS.icmpYes XL.here hx rfl (pc0 := 7) (pc' := 44) rfl (hb hby d7_7) rfl (flt ((fun q => absurd ((own_lt hn hn).mp q) (Nat.lt_irrefl _)))).2.1 (by decide) (by decide) z) ?_
      show OGo p e below s _ _ (TL.setTop (mkF m 44 #[.val (.ref a1), .val (.int (Int32.ofNat n)), .val (.ref a2), .val (.int (Int32.ofNat n)), .val (.int (Int32.ofNat n)), .val (.int (Int32.ofNat n)), s6] []))
      refine own_st (fun _ z => XS.iload XL.here hx rfl (hb hby d7_44) rfl z) ?_
      show OGo p e below s _ _ (TL.setTop (mkF m 46 #[.val (.ref a1), .val (.int (Int32.ofNat n)), .val (.ref a2), .val (.int (Int32.ofNat n)), .val (.int (Int32.ofNat n)), .val (.int (Int32.ofNat n)), s6] [(.int (Int32.ofNat n))]))
      have A_a2 := A_a2.cong (own_lbsN cf gf n)
      exact own_retI XL hx hlk hret (hb hby d7_46) (by decide) (by decide) (⟨rfl, NL, (by rw [eL]; exact K0), (by rw [eL]; exact A_a2)⟩)
    | succ k ih =>
      intro i TL LL hL s6 hi hs6 XL eL NL Z0 K0 A_a1 A_a2
      show OGo p e below s _ _ (TL.setTop (mkF m 3 #[.val (.ref a1), .val (.int (Int32.ofNat i)), .val (.ref a2), .val (.int (Int32.ofNat i)), .val (.int (Int32.ofNat n)), .val (.int (Int32.ofNat i)), s6] []))
      refine own_st (fun _ z => XS.iload XL.here hx rfl (hb hby d7_3) rfl z) ?_
      show OGo p e below s _ _ (TL.setTop (mkF m 5 #[.val (.ref a1), .val (.int (Int32.ofNat i)), .val (.ref a2), .val (.int (Int32.ofNat i)), .val (.int (Int32.ofNat n)), .val (.int (Int32.ofNat i)), s6] [(.int (Int32.ofNat i))]))
      refine own_st (fun _ z => XS.iload XL.here hx rfl (hb hby d7_5) rfl z) ?_
      show OGo p e below s _ _ (TL.setTop (mkF m 7 #[.val (.ref a1), .val (.int (Int32.ofNat i)), .val (.ref a2), .val (.int (Int32.ofNat i)), .val (.int (Int32.ofNat n)), .val (.int (Int32.ofNat i)), s6] [(.int (Int32.ofNat n)), (.int (Int32.ofNat i))]))
      refine own_st (fun _ z => XS.icmpNo XL.here hx rfl (hb hby d7_7) rfl (tlt (((own_lt (by omega) hn).mpr (by omega)))).2.1 z) ?_
      show OGo p e below s _ _ (TL.setTop (mkF m 10 #[.val (.ref a1), .val (.int (Int32.ofNat i)), .val (.ref a2), .val (.int (Int32.ofNat i)), .val (.int (Int32.ofNat n)), .val (.int (Int32.ofNat i)), s6] []))
      refine own_st (fun _ z => XS.aloadN XL.here hx rfl (hb hby d7_10) rfl rfl z) ?_
      show OGo p e below s _ _ (TL.setTop (mkF m 11 #[.val (.ref a1), .val (.int (Int32.ofNat i)), .val (.ref a2), .val (.int (Int32.ofNat i)), .val (.int (Int32.ofNat n)), .val (.int (Int32.ofNat i)), s6] [(.ref a1)]))
      refine own_st (fun _ z => XS.iloadN XL.here hx rfl (hb hby d7_11) rfl z) ?_
      show OGo p e below s _ _ (TL.setTop (mkF m 12 #[.val (.ref a1), .val (.int (Int32.ofNat i)), .val (.ref a2), .val (.int (Int32.ofNat i)), .val (.int (Int32.ofNat n)), .val (.int (Int32.ofNat i)), s6] [(.int (Int32.ofNat i)), (.ref a1)]))
      obtain ⟨cl1, Ar1, Sz1, Hh1⟩ := id A_a1
      have hin1 := own_in (i := (Int32.ofNat i)) Sz1 (own_nat (by omega)).2.1 (by rw [(own_nat (by omega)).1]; omega)
      refine own_st (XL.caload hx (j := (Int32.ofNat i)) (v := (.int (cf i))) (by rw [eL]; exact Ar1.1) (State.isArrayOf_alike hZ.alike Ar1.2.1) Ar1.2.2 hin1 ((Hh1 _ (by rw [(own_nat (by omega)).1]; omega)).trans (congrArg some (by rw [(own_nat (by omega)).1]))) (g := (mkF m 12 #[.val (.ref a1), .val (.int (Int32.ofNat i)), .val (.ref a2), .val (.int (Int32.ofNat i)), .val (.int (Int32.ofNat n)), .val (.int (Int32.ofNat i)), s6] [(.int (Int32.ofNat i)), (.ref a1)])) rfl rfl (hb hby d7_12)) ?_
      show OGo p e below s _ _ (TL.setTop (mkF m 13 #[.val (.ref a1), .val (.int (Int32.ofNat i)), .val (.ref a2), .val (.int (Int32.ofNat i)), .val (.int (Int32.ofNat n)), .val (.int (Int32.ofNat i)), s6] [(.int (cf i))]))
      refine own_st (fun _ z => XS.istore XL.here hx rfl (hb hby d7_13) rfl (l' := #[.val (.ref a1), .val (.int (Int32.ofNat i)), .val (.ref a2), .val (.int (Int32.ofNat i)), .val (.int (Int32.ofNat n)), .val (.int (Int32.ofNat i)), .val (.int (cf i))]) (own_st6 hs6) z) ?_
      show OGo p e below s _ _ (TL.setTop (mkF m 15 #[.val (.ref a1), .val (.int (Int32.ofNat i)), .val (.ref a2), .val (.int (Int32.ofNat i)), .val (.int (Int32.ofNat n)), .val (.int (Int32.ofNat i)), .val (.int (cf i))] []))
      refine own_st (fun _ z => XS.iload XL.here hx rfl (hb hby d7_15) rfl z) ?_
      show OGo p e below s _ _ (TL.setTop (mkF m 17 #[.val (.ref a1), .val (.int (Int32.ofNat i)), .val (.ref a2), .val (.int (Int32.ofNat i)), .val (.int (Int32.ofNat n)), .val (.int (Int32.ofNat i)), .val (.int (cf i))] [(.int (cf i))]))
      refine own_st (fun _ z => XS.sipush XL.here hx rfl (hb hby d7_17) z) ?_
      show OGo p e below s _ _ (TL.setTop (mkF m 20 #[.val (.ref a1), .val (.int (Int32.ofNat i)), .val (.ref a2), .val (.int (Int32.ofNat i)), .val (.int (Int32.ofNat n)), .val (.int (Int32.ofNat i)), .val (.int (cf i))] [(.int (255 : Int32)), (.int (cf i))]))
      refine own_st (fun _ z => XS.icmpYes XL.here hx rfl (pc0 := 20) (pc' := 26) rfl (hb hby d7_20) rfl (flt ((hc i (by omega)))).2.2.2 (by decide) (by decide) z) ?_
      show OGo p e below s _ _ (TL.setTop (mkF m 26 #[.val (.ref a1), .val (.int (Int32.ofNat i)), .val (.ref a2), .val (.int (Int32.ofNat i)), .val (.int (Int32.ofNat n)), .val (.int (Int32.ofNat i)), .val (.int (cf i))] []))
      refine own_st (fun _ z => XS.aloadN XL.here hx rfl (hb hby d7_26) rfl rfl z) ?_
      show OGo p e below s _ _ (TL.setTop (mkF m 27 #[.val (.ref a1), .val (.int (Int32.ofNat i)), .val (.ref a2), .val (.int (Int32.ofNat i)), .val (.int (Int32.ofNat n)), .val (.int (Int32.ofNat i)), .val (.int (cf i))] [(.ref a2)]))
      refine own_st (fun _ z => XS.iloadN XL.here hx rfl (hb hby d7_27) rfl z) ?_
      show OGo p e below s _ _ (TL.setTop (mkF m 28 #[.val (.ref a1), .val (.int (Int32.ofNat i)), .val (.ref a2), .val (.int (Int32.ofNat i)), .val (.int (Int32.ofNat n)), .val (.int (Int32.ofNat i)), .val (.int (cf i))] [(.int (Int32.ofNat i)), (.ref a2)]))
      refine own_st (fun _ z => XS.iload XL.here hx rfl (hb hby d7_28) rfl z) ?_
      show OGo p e below s _ _ (TL.setTop (mkF m 30 #[.val (.ref a1), .val (.int (Int32.ofNat i)), .val (.ref a2), .val (.int (Int32.ofNat i)), .val (.int (Int32.ofNat n)), .val (.int (Int32.ofNat i)), .val (.int (cf i))] [(.int (cf i)), (.int (Int32.ofNat i)), (.ref a2)]))
      refine own_st (fun _ z => XS.i2b XL.here hx rfl (hb hby d7_30) rfl z) ?_
      show OGo p e below s _ _ (TL.setTop (mkF m 31 #[.val (.ref a1), .val (.int (Int32.ofNat i)), .val (.ref a2), .val (.int (Int32.ofNat i)), .val (.int (Int32.ofNat n)), .val (.int (Int32.ofNat i)), .val (.int (cf i))] [(.int (cf i).toInt8.toInt32), (.int (Int32.ofNat i)), (.ref a2)]))
      obtain ⟨cl2, Ar2, Sz2, Hh2⟩ := id A_a2
      obtain ⟨T2, hp2, X2, e2, Ww2, st2⟩ := stB XL hx hZ eL Ar2 (j := (Int32.ofNat i)) (own_in Sz2 (own_nat (by omega)).2.1 (by rw [(own_nat (by omega)).1]; omega)) (g := (mkF m 31 #[.val (.ref a1), .val (.int (Int32.ofNat i)), .val (.ref a2), .val (.int (Int32.ofNat i)), .val (.int (Int32.ofNat n)), .val (.int (Int32.ofNat i)), .val (.int (cf i))] [(.int (cf i).toInt8.toInt32), (.int (Int32.ofNat i)), (.ref a2)])) rfl rfl (hb hby d7_31)
      have Nf2 := Fr.snoc X2 NL old_a2
      have Z0 := Nat.le_trans Z0 (Keep.of_wr Ww2).1
      have K0 := K0.wr Ww2 (Or.inl (List.mem_of_getElem? (i := 0) rfl))
      have A_a1 := A_a1.other Ww2 ne_a1_a2
      have A_a2 := OAr.set Ar2 Sz2 Hh2 Ww2
      refine own_st st2 ?_
      show OGo p e below s _ _ (T2.setTop (mkF m 32 #[.val (.ref a1), .val (.int (Int32.ofNat i)), .val (.ref a2), .val (.int (Int32.ofNat i)), .val (.int (Int32.ofNat n)), .val (.int (Int32.ofNat i)), .val (.int (cf i))] []))
      have A_a2 := A_a2.cong (own_lbsS cf gf n i (by omega))
      refine own_st (fun _ z => XS.iinc X2.here hx rfl (hb hby d7_32) rfl (l' := #[.val (.ref a1), .val (.int ((Int32.ofNat i) + (1 : Int32))), .val (.ref a2), .val (.int (Int32.ofNat i)), .val (.int (Int32.ofNat n)), .val (.int (Int32.ofNat i)), .val (.int (cf i))]) rfl z) ?_
      show OGo p e below s _ _ (T2.setTop (mkF m 35 #[.val (.ref a1), .val (.int ((Int32.ofNat i) + (1 : Int32))), .val (.ref a2), .val (.int (Int32.ofNat i)), .val (.int (Int32.ofNat n)), .val (.int (Int32.ofNat i)), .val (.int (cf i))] []))
      refine own_st (fun _ z => XS.iinc X2.here hx rfl (hb hby d7_35) rfl (l' := #[.val (.ref a1), .val (.int ((Int32.ofNat i) + (1 : Int32))), .val (.ref a2), .val (.int ((Int32.ofNat i) + (1 : Int32))), .val (.int (Int32.ofNat n)), .val (.int (Int32.ofNat i)), .val (.int (cf i))]) rfl z) ?_
      show OGo p e below s _ _ (T2.setTop (mkF m 38 #[.val (.ref a1), .val (.int ((Int32.ofNat i) + (1 : Int32))), .val (.ref a2), .val (.int ((Int32.ofNat i) + (1 : Int32))), .val (.int (Int32.ofNat n)), .val (.int (Int32.ofNat i)), .val (.int (cf i))] []))
      refine own_st (fun _ z => XS.iinc X2.here hx rfl (hb hby d7_38) rfl (l' := #[.val (.ref a1), .val (.int ((Int32.ofNat i) + (1 : Int32))), .val (.ref a2), .val (.int ((Int32.ofNat i) + (1 : Int32))), .val (.int (Int32.ofNat n)), .val (.int ((Int32.ofNat i) + (1 : Int32))), .val (.int (cf i))]) rfl z) ?_
      show OGo p e below s _ _ (T2.setTop (mkF m 41 #[.val (.ref a1), .val (.int ((Int32.ofNat i) + (1 : Int32))), .val (.ref a2), .val (.int ((Int32.ofNat i) + (1 : Int32))), .val (.int (Int32.ofNat n)), .val (.int ((Int32.ofNat i) + (1 : Int32))), .val (.int (cf i))] []))
      refine own_st (fun _ z => XS.goto X2.here hx rfl (pc0 := 41) (pc' := 3) rfl (hb hby d7_41) (by decide) (by decide) z) ?_
      show OGo p e below s _ _ (T2.setTop (mkF m 3 #[.val (.ref a1), .val (.int ((Int32.ofNat i) + (1 : Int32))), .val (.ref a2), .val (.int ((Int32.ofNat i) + (1 : Int32))), .val (.int (Int32.ofNat n)), .val (.int ((Int32.ofNat i) + (1 : Int32))), .val (.int (cf i))] []))
      rw [own_up]
      exact ih (i + 1) T2 _ hp2 _ (by omega) (One.val rfl) X2 e2 Nf2 Z0 K0 A_a1 A_a2
  exact loop n 0 _ _ _ _ (by omega) One.u X0 e0 N0 Z0 K0 A_a1 A_a2
theorem d6_0 : decode jdk_52_method_16_code 0 = .ok (.iload_n 2, 1) := by decide +kernel
theorem d6_1 : decode jdk_52_method_16_code 1 = .ok (.newarray .byte, 2) := by decide +kernel
theorem d6_3 : decode jdk_52_method_16_code 3 = .ok (.astore_n 3, 1) := by decide +kernel
theorem d6_4 : decode jdk_52_method_16_code 4 = .ok (.aload_n 0, 1) := by decide +kernel
theorem d6_5 : decode jdk_52_method_16_code 5 = .ok (.iload_n 1, 1) := by decide +kernel
theorem d6_6 : decode jdk_52_method_16_code 6 = .ok (.aload_n 3, 1) := by decide +kernel
theorem d6_7 : decode jdk_52_method_16_code 7 = .ok (.iconst 0, 1) := by decide +kernel
theorem d6_8 : decode jdk_52_method_16_code 8 = .ok (.iload_n 2, 1) := by decide +kernel
theorem d6_9 : decode jdk_52_method_16_code 9 = .ok (.invokestatic 115, 3) := by decide +kernel
theorem pd_0 : parseMethodDescriptor "([CI[BII)I" = some ⟨[(.array .char), .int, (.array .byte), .int, .int], some .int⟩ := by decide +kernel
theorem d6_12 : decode jdk_52_method_16_code 12 = .ok (.istore 4, 2) := by decide +kernel
theorem d6_14 : decode jdk_52_method_16_code 14 = .ok (.iload 4, 2) := by decide +kernel
theorem d6_16 : decode jdk_52_method_16_code 16 = .ok (.iload_n 2, 1) := by decide +kernel
theorem d6_17 : decode jdk_52_method_16_code 17 = .ok (.if_icmp .eq 40, 3) := by decide +kernel
theorem d6_57 : decode jdk_52_method_16_code 57 = .ok (.aload_n 3, 1) := by decide +kernel
theorem d6_58 : decode jdk_52_method_16_code 58 = .ok (.areturn, 1) := by decide +kernel
theorem ef_6_RII (m : MethodId) (x0 : Addr) (x1 : Int32) (x2 : Int32) : entryFrame m #[(.ref x0), (.int x1), (.int x2)] 6 = mkF m 0 #[.val (.ref x0), .val (.int x1), .val (.int x2), .unset, .unset, .unset] [] := by first | (simp [entryFrame, mkF, argsToLocals, Value.category]; done) | rfl
set_option maxRecDepth 65536 in
set_option maxHeartbeats 40000000 in
theorem sc2 (l : Launch) (Z : State) (a0 : Array Value) (hw : ∀ d ∈ tables_1, d.before a0 Z = true) (a1 : Addr) (n : Nat) (cf : Nat → Int32) (h0 : Heap) (n0 : Nat) (Z0 : n0 ≤ h0.size) (A_a1 : OAr Z h0 a1 .char n (fun j => .int (cf j))) (hn : n ≤ 3) (h1 : 0 < n) (hc : ∀ j, j < n → ¬ (255 : Int32) < cf j) :
    OMet l Z (⟨"java/lang/StringUTF16", "compress", "([CII)[B"⟩ : MethodName) jdk_52_method_16_code 6 (some (.array .byte)) [] ({ frames := 1, cells := 1, slots := 3, locals := 18 } : Room) #[(.ref a1), (.int (0 : Int32)), (.int (Int32.ofNat n))] h0 (fun v h' L => ∃ t1 : Addr, v = some (.ref t1) ∧ Fr n0 L ∧ Keep h0 h' [] ∧ h0.size ≤ t1 ∧ OAr Z h' t1 .byte n (fun j => .int (own_lb (cf j)))) := by
  refine own_body (plainFor_of_name pn_java_lang_StringUTF16) (fun m => ef_6_RII m a1 (0 : Int32) (Int32.ofNat n)) ?_
  intro p e s m below meth c T0 hx hby hml hown hnm hret hlk hZ X0 e0
  have hown : s.vm.findClass "java/lang/StringUTF16" = some m.cls := hown
  have hml : c.maxLocals = 6 := hml
  have N0 := Fr.nil n0
  have K0 := Keep.refl h0 []
  show OGo p e below s _ _ (T0.setTop (mkF m 0 #[.val (.ref a1), .val (.int (0 : Int32)), .val (.int (Int32.ofNat n)), .unset, .unset, .unset] []))
  refine own_st (fun _ z => XS.iloadN X0.here hx rfl (hb hby d6_0) rfl z) ?_
  show OGo p e below s _ _ (T0.setTop (mkF m 1 #[.val (.ref a1), .val (.int (0 : Int32)), .val (.int (Int32.ofNat n)), .unset, .unset, .unset] [(.int (Int32.ofNat n))]))
  obtain ⟨T3, hp3, kk3, X3, e3, Ex3, Aa3, st3⟩ := newP X0 hx hZ (own_w hw 27 rfl) e0 (g := (mkF m 1 #[.val (.ref a1), .val (.int (0 : Int32)), .val (.int (Int32.ofNat n)), .unset, .unset, .unset] [(.int (Int32.ofNat n))])) rfl (hb hby d6_1) rfl (own_nat (i := n) (by omega)).2.1 (cap := 3) (by rw [(own_nat (i := n) (by omega)).1]; exact hn) (by decide) (by decide) (by decide)
  obtain ⟨t1, gs3⟩ : ∃ z, z = h0.size := ⟨_, rfl⟩
  rw [← gs3] at Aa3 st3
  have ne_a1_t1 : a1 ≠ t1 := Nat.ne_of_lt (Nat.lt_of_lt_of_le A_a1.lt (Nat.le_of_eq gs3.symm))
  have old_t1 : n0 ≤ t1 := Nat.le_trans Z0 (Nat.le_of_eq gs3.symm)
  have fr_t1 : h0.size ≤ t1 := Nat.le_trans K0.1 (Nat.le_of_eq gs3.symm)
  have K0 := K0.ext Ex3
  have Z0 := Nat.le_trans Z0 Ex3.1
  have A_a1 := A_a1.ext Ex3
  have A_t1 := OAr.new Aa3
  refine own_st st3 ?_
  show OGo p e below s _ _ (T3.setTop (mkF m 3 #[.val (.ref a1), .val (.int (0 : Int32)), .val (.int (Int32.ofNat n)), .unset, .unset, .unset] [(.ref t1)]))
  rw [(own_nat (i := n) (by omega)).1] at A_t1
  refine own_st (fun _ z => XS.astoreN X3.here hx rfl (hb hby d6_3) rfl rfl (l' := #[.val (.ref a1), .val (.int (0 : Int32)), .val (.int (Int32.ofNat n)), .val (.ref t1), .unset, .unset]) rfl z) ?_
  show OGo p e below s _ _ (T3.setTop (mkF m 4 #[.val (.ref a1), .val (.int (0 : Int32)), .val (.int (Int32.ofNat n)), .val (.ref t1), .unset, .unset] []))
  refine own_st (fun _ z => XS.aloadN X3.here hx rfl (hb hby d6_4) rfl rfl z) ?_
  show OGo p e below s _ _ (T3.setTop (mkF m 5 #[.val (.ref a1), .val (.int (0 : Int32)), .val (.int (Int32.ofNat n)), .val (.ref t1), .unset, .unset] [(.ref a1)]))
  refine own_st (fun _ z => XS.iloadN X3.here hx rfl (hb hby d6_5) rfl z) ?_
  show OGo p e below s _ _ (T3.setTop (mkF m 6 #[.val (.ref a1), .val (.int (0 : Int32)), .val (.int (Int32.ofNat n)), .val (.ref t1), .unset, .unset] [(.int (0 : Int32)), (.ref a1)]))
  refine own_st (fun _ z => XS.aloadN X3.here hx rfl (hb hby d6_6) rfl rfl z) ?_
  show OGo p e below s _ _ (T3.setTop (mkF m 7 #[.val (.ref a1), .val (.int (0 : Int32)), .val (.int (Int32.ofNat n)), .val (.ref t1), .unset, .unset] [(.ref t1), (.int (0 : Int32)), (.ref a1)]))
  refine own_st (fun _ z => XS.iconst X3.here hx rfl (hb hby d6_7) z) ?_
  show OGo p e below s _ _ (T3.setTop (mkF m 8 #[.val (.ref a1), .val (.int (0 : Int32)), .val (.int (Int32.ofNat n)), .val (.ref t1), .unset, .unset] [(.int (0 : Int32)), (.ref t1), (.int (0 : Int32)), (.ref a1)]))
  refine own_st (fun _ z => XS.iloadN X3.here hx rfl (hb hby d6_8) rfl z) ?_
  show OGo p e below s _ _ (T3.setTop (mkF m 9 #[.val (.ref a1), .val (.int (0 : Int32)), .val (.int (Int32.ofNat n)), .val (.ref t1), .unset, .unset] [(.int (Int32.ofNat n)), (.int (0 : Int32)), (.ref t1), (.int (0 : Int32)), (.ref a1)]))
  obtain ⟨_, T4, Lc4, X4, hQ4, st4⟩ := own_callS X3 hx hZ (y := (⟨"java/lang/StringUTF16", "compress", "([CI[BII)I"⟩ : MethodName)) (W := 0) hown (own_w hw 28 rfl) (own_w hw 29 rfl) (own_w hw 25 rfl) (own_w hw 30 rfl) (by decide) (sc1 l Z a0 hw a1 t1 n cf (fun _ => defaultValue .byte) hp3 n0 Z0 old_t1 ne_a1_t1 A_a1 A_t1 (by omega) hc) (by decide) (by decide) (g := (mkF m 9 #[.val (.ref a1), .val (.int (0 : Int32)), .val (.int (Int32.ofNat n)), .val (.ref t1), .unset, .unset] [(.int (Int32.ofNat n)), (.int (0 : Int32)), (.ref t1), (.int (0 : Int32)), (.ref a1)])) rfl (by rw [hml]; rfl) (argsL := [(.ref a1), (.int (0 : Int32)), (.ref t1), (.int (0 : Int32)), (.int (Int32.ofNat n))]) (rest := []) (lenOf pd_0 rfl) rfl (by show 2 * 0 + _ ≤ _; exact Nat.le_of_eq rfl) (hb hby d6_9) rfl e3 (by decide) (by decide)
  obtain ⟨rfl, Nq4, Kq4, q4_0⟩ := hQ4
  have Z0 := Nat.le_trans Z0 Kq4.1
  have K0 := K0.trans Kq4 (allS (Or.inr fr_t1) all0)
  have A_a1 := A_a1.keep Kq4 (ninS ne_a1_t1 nin0)
  have Nr4 := Fr.app N0 Nq4
  have A_t1 := q4_0
  refine own_st st4 ?_
  show OGo p e below s _ _ (T4.setTop (mkF m 12 #[.val (.ref a1), .val (.int (0 : Int32)), .val (.int (Int32.ofNat n)), .val (.ref t1), .unset, .unset] [(.int (Int32.ofNat n))]))
  refine own_st (fun _ z => XS.istore X4.here hx rfl (hb hby d6_12) rfl (l' := #[.val (.ref a1), .val (.int (0 : Int32)), .val (.int (Int32.ofNat n)), .val (.ref t1), .val (.int (Int32.ofNat n)), .unset]) rfl z) ?_
  show OGo p e below s _ _ (T4.setTop (mkF m 14 #[.val (.ref a1), .val (.int (0 : Int32)), .val (.int (Int32.ofNat n)), .val (.ref t1), .val (.int (Int32.ofNat n)), .unset] []))
  refine own_st (fun _ z => XS.iload X4.here hx rfl (hb hby d6_14) rfl z) ?_
  show OGo p e below s _ _ (T4.setTop (mkF m 16 #[.val (.ref a1), .val (.int (0 : Int32)), .val (.int (Int32.ofNat n)), .val (.ref t1), .val (.int (Int32.ofNat n)), .unset] [(.int (Int32.ofNat n))]))
  refine own_st (fun _ z => XS.iloadN X4.here hx rfl (hb hby d6_16) rfl z) ?_
  show OGo p e below s _ _ (T4.setTop (mkF m 17 #[.val (.ref a1), .val (.int (0 : Int32)), .val (.int (Int32.ofNat n)), .val (.ref t1), .val (.int (Int32.ofNat n)), .unset] [(.int (Int32.ofNat n)), (.int (Int32.ofNat n))]))
  refine own_st (fun _ z => XS.icmpYes X4.here hx rfl (pc0 := 17) (pc' := 57) rfl (hb hby d6_17) rfl (teq (rfl)).1 (by decide) (by decide) z) ?_
  show OGo p e below s _ _ (T4.setTop (mkF m 57 #[.val (.ref a1), .val (.int (0 : Int32)), .val (.int (Int32.ofNat n)), .val (.ref t1), .val (.int (Int32.ofNat n)), .unset] []))
  refine own_st (fun _ z => XS.aloadN X4.here hx rfl (hb hby d6_57) rfl rfl z) ?_
  show OGo p e below s _ _ (T4.setTop (mkF m 58 #[.val (.ref a1), .val (.int (0 : Int32)), .val (.int (Int32.ofNat n)), .val (.ref t1), .val (.int (Int32.ofNat n)), .unset] [(.ref t1)]))
  exact own_retA X4 hx hlk hret rfl rfl (hb hby d6_58) (by decide) (by decide) (⟨t1, rfl, Nr4, K0, fr_t1, A_t1⟩)
theorem own_len (n : Nat) : n.toInt32 = Int32.ofNat n := rfl
theorem own_cfa (x : Int32) : (((x - x).toUInt32 >>> ((31 : Int32) &&& 31).toUInt32).toInt32).toInt8.toInt32 = 0 := by rw [Int32.sub_self]; decide
theorem d8_0 : decode jdk_52_method_15_code 0 = .ok (.iload_n 1, 1) := by decide +kernel
theorem d8_1 : decode jdk_52_method_15_code 1 = .ok (.aload_n 0, 1) := by decide +kernel
theorem d8_2 : decode jdk_52_method_15_code 2 = .ok (.arraylength, 1) := by decide +kernel
theorem d8_3 : decode jdk_52_method_15_code 3 = .ok (.isub, 1) := by decide +kernel
theorem d8_4 : decode jdk_52_method_15_code 4 = .ok (.bipush 31, 2) := by decide +kernel
theorem d8_6 : decode jdk_52_method_15_code 6 = .ok (.iushr, 1) := by decide +kernel
theorem d8_7 : decode jdk_52_method_15_code 7 = .ok (.i2b, 1) := by decide +kernel
theorem d8_8 : decode jdk_52_method_15_code 8 = .ok (.ireturn, 1) := by decide +kernel
theorem ef_8_RI (m : MethodId) (x0 : Addr) (x1 : Int32) : entryFrame m #[(.ref x0), (.int x1)] 2 = mkF m 0 #[.val (.ref x0), .val (.int x1)] [] := by first | (simp [entryFrame, mkF, argsToLocals, Value.category]; done) | rfl
set_option maxRecDepth 65536 in
set_option maxHeartbeats 40000000 in
theorem sc3 (l : Launch) (Z : State) (a0 : Array Value) (hw : ∀ d ∈ tables_1, d.before a0 Z = true) (a1 : Addr) (n : Nat) (gf : Nat → Value) (h0 : Heap) (A_a1 : OAr Z h0 a1 .byte n gf) :
    OPure l Z (⟨"java/lang/StringUTF16", "coderFromArrayLen", "([BI)B"⟩ : MethodName) jdk_52_method_15_code 2 (some .byte) [] ({ frames := 0, cells := 0, slots := 0, locals := 0 } : Room) #[(.ref a1), (.int (Int32.ofNat n))] h0 (some (.int (0 : Int32))) := by
  refine own_body (plainFor_of_name pn_java_lang_StringUTF16) (fun m => ef_8_RI m a1 (Int32.ofNat n)) ?_
  intro p e s m below meth c T0 hx hby hml hown hnm hret hlk hZ X0 e0
  have hown : s.vm.findClass "java/lang/StringUTF16" = some m.cls := hown
  have hml : c.maxLocals = 2 := hml
  show OGo p e below s _ _ (T0.setTop (mkF m 0 #[.val (.ref a1), .val (.int (Int32.ofNat n))] []))
  refine own_st (fun _ z => XS.iloadN X0.here hx rfl (hb hby d8_0) rfl z) ?_
  show OGo p e below s _ _ (T0.setTop (mkF m 1 #[.val (.ref a1), .val (.int (Int32.ofNat n))] [(.int (Int32.ofNat n))]))
  refine own_st (fun _ z => XS.aloadN X0.here hx rfl (hb hby d8_1) rfl rfl z) ?_
  show OGo p e below s _ _ (T0.setTop (mkF m 2 #[.val (.ref a1), .val (.int (Int32.ofNat n))] [(.ref a1), (.int (Int32.ofNat n))]))
  obtain ⟨cl5, Ar5, Sz5, -⟩ := id A_a1
  refine own_st (X0.arraylength hx (by rw [e0]; exact Ar5.1) (State.isArrayOf_alike hZ.alike Ar5.2.1) (g := (mkF m 2 #[.val (.ref a1), .val (.int (Int32.ofNat n))] [(.ref a1), (.int (Int32.ofNat n))])) rfl rfl (hb hby d8_2)) ?_
  rw [Sz5, own_len n]
  show OGo p e below s _ _ (T0.setTop (mkF m 3 #[.val (.ref a1), .val (.int (Int32.ofNat n))] [(.int (Int32.ofNat n)), (.int (Int32.ofNat n))]))
  refine own_st (fun _ z => XS.isub X0.here hx rfl (hb hby d8_3) rfl z) ?_
  show OGo p e below s _ _ (T0.setTop (mkF m 4 #[.val (.ref a1), .val (.int (Int32.ofNat n))] [(.int ((Int32.ofNat n) - (Int32.ofNat n)))]))
  refine own_st (fun _ z => XS.bipush X0.here hx rfl (hb hby d8_4) z) ?_
  show OGo p e below s _ _ (T0.setTop (mkF m 6 #[.val (.ref a1), .val (.int (Int32.ofNat n))] [(.int (31 : Int32)), (.int ((Int32.ofNat n) - (Int32.ofNat n)))]))
  refine own_st (fun _ z => XS.iushr X0.here hx rfl (hb hby d8_6) rfl z) ?_
  show OGo p e below s _ _ (T0.setTop (mkF m 7 #[.val (.ref a1), .val (.int (Int32.ofNat n))] [(.int ((((Int32.ofNat n) - (Int32.ofNat n)).toUInt32 >>> ((31 : Int32) &&& 31).toUInt32).toInt32))]))
  refine own_st (fun _ z => XS.i2b X0.here hx rfl (hb hby d8_7) rfl z) ?_
  show OGo p e below s _ _ (T0.setTop (mkF m 8 #[.val (.ref a1), .val (.int (Int32.ofNat n))] [(.int ((((Int32.ofNat n) - (Int32.ofNat n)).toUInt32 >>> ((31 : Int32) &&& 31).toUInt32).toInt32).toInt8.toInt32)]))
  rw [own_cfa]
  exact own_retN X0 hx hlk (t := .byte) hret (by simp) (hb hby d8_8) (by decide) (by decide) (⟨rfl, rfl, e0⟩)
theorem own_nz {n : Nat} (h : 0 < n) (hn : n < 2 ^ 31) : ¬ Int32.ofNat n = 0 := fun q => by
  have e := (own_nat hn).2.2
  rw [q, show (0 : Int32).toInt = 0 from by decide] at e
  omega
theorem d4_0 : decode jdk_42_method_149_code 0 = .ok (.aload_n 0, 1) := by decide +kernel
theorem d4_1 : decode jdk_42_method_149_code 1 = .ok (.invokespecial 1, 3) := by decide +kernel
theorem d4_4 : decode jdk_42_method_149_code 4 = .ok (.iload_n 3, 1) := by decide +kernel
theorem d4_5 : decode jdk_42_method_149_code 5 = .ok (.ifCond .ne 22, 3) := by decide +kernel
theorem d4_27 : decode jdk_42_method_149_code 27 = .ok (.getstatic 38, 3) := by decide +kernel
theorem d4_30 : decode jdk_42_method_149_code 30 = .ok (.ifCond .eq 28, 3) := by decide +kernel
theorem d4_33 : decode jdk_42_method_149_code 33 = .ok (.aload_n 1, 1) := by decide +kernel
theorem d4_34 : decode jdk_42_method_149_code 34 = .ok (.iload_n 2, 1) := by decide +kernel
theorem d4_35 : decode jdk_42_method_149_code 35 = .ok (.iload_n 3, 1) := by decide +kernel
theorem d4_36 : decode jdk_42_method_149_code 36 = .ok (.invokestatic 177, 3) := by decide +kernel
theorem pd_1 : parseMethodDescriptor "([CII)[B" = some ⟨[(.array .char), .int, .int], some (.array .byte)⟩ := by decide +kernel
theorem d4_39 : decode jdk_42_method_149_code 39 = .ok (.astore 5, 2) := by decide +kernel
theorem d4_41 : decode jdk_42_method_149_code 41 = .ok (.aload_n 0, 1) := by decide +kernel
theorem d4_42 : decode jdk_42_method_149_code 42 = .ok (.aload 5, 2) := by decide +kernel
theorem d4_44 : decode jdk_42_method_149_code 44 = .ok (.iload_n 3, 1) := by decide +kernel
theorem d4_45 : decode jdk_42_method_149_code 45 = .ok (.invokestatic 47, 3) := by decide +kernel
theorem pd_2 : parseMethodDescriptor "([BI)B" = some ⟨[(.array .byte), .int], some .byte⟩ := by decide +kernel
theorem d4_48 : decode jdk_42_method_149_code 48 = .ok (.putfield 15, 3) := by decide +kernel
theorem d4_51 : decode jdk_42_method_149_code 51 = .ok (.aload_n 0, 1) := by decide +kernel
theorem d4_52 : decode jdk_42_method_149_code 52 = .ok (.aload 5, 2) := by decide +kernel
theorem d4_54 : decode jdk_42_method_149_code 54 = .ok (.putfield 9, 3) := by decide +kernel
theorem d4_57 : decode jdk_42_method_149_code 57 = .ok (.return_, 1) := by decide +kernel
theorem pn_java_lang_String : plainName "java/lang/String" = true := by first | (simp [plainName, overriddenIn]; done) | decide +kernel
theorem ef_4_RRII0 (m : MethodId) (x0 : Addr) (x1 : Addr) (x2 : Int32) (x3 : Int32) : entryFrame m #[(.ref x0), (.ref x1), (.int x2), (.int x3), .null] 6 = mkF m 0 #[.val (.ref x0), .val (.ref x1), .val (.int x2), .val (.int x3), .val .null, .unset] [] := by first | (simp [entryFrame, mkF, argsToLocals, Value.category]; done) | rfl
set_option maxRecDepth 65536 in
set_option maxHeartbeats 40000000 in
theorem sc4 (l : Launch) (Z : State) (a0 : Array Value) (hw : ∀ d ∈ tables_1, d.before a0 Z = true) (a1 : Addr) (a2 : Addr) (n : Nat) (cf : Nat → Int32) (cs : Int32) (h0 : Heap) (n0 : Nat) (Z0 : n0 ≤ h0.size) (old_a1 : n0 ≤ a1) (ne_a2_a1 : a2 ≠ a1) (E_a1 : Exa Z h0 a1 "java/lang/String") (F_coder_a1 : Fld Z h0 a1 "java/lang/String" "coder" "B" (.int (0 : Int32))) (F_value_a1 : Fld Z h0 a1 "java/lang/String" "value" "[B" .null) (A_a2 : OAr Z h0 a2 .char n (fun j => .int (cf j))) (S_COMPACT_STRINGS : Sta Z h0 "java/lang/String" "COMPACT_STRINGS" "Z" (.int cs)) (hn : n ≤ 3) (h1 : 0 < n) (hc : ∀ j, j < n → ¬ (255 : Int32) < cf j) (hcs : ¬ cs = (0 : Int32)) :
    OMet l Z (⟨"java/lang/String", "<init>", "([CIILjava/lang/Void;)V"⟩ : MethodName) jdk_42_method_149_code 6 none [] ({ frames := 2, cells := 1, slots := 3, locals := 35 } : Room) #[(.ref a1), (.ref a2), (.int (0 : Int32)), (.int (Int32.ofNat n)), .null] h0 (fun v h' L => ∃ t1 : Addr, v = none ∧ Fr n0 L ∧ Keep h0 h' [a1] ∧ h0.size ≤ t1 ∧ Exa Z h' a1 "java/lang/String" ∧ Fld Z h' a1 "java/lang/String" "coder" "B" (.int (0 : Int32)) ∧ Fld Z h' a1 "java/lang/String" "value" "[B" (.ref t1) ∧ OAr Z h' t1 .byte n (fun j => .int (own_lb (cf j)))) := by
  refine own_body (plainFor_of_name pn_java_lang_String) (fun m => ef_4_RRII0 m a1 a2 (0 : Int32) (Int32.ofNat n)) ?_
  intro p e s m below meth c T0 hx hby hml hown hnm hret hlk hZ X0 e0
  have hown : s.vm.findClass "java/lang/String" = some m.cls := hown
  have hml : c.maxLocals = 6 := hml
  have N0 := Fr.nil n0
  have K0 := Keep.refl h0 [a1]
  show OGo p e below s _ _ (T0.setTop (mkF m 0 #[.val (.ref a1), .val (.ref a2), .val (.int (0 : Int32)), .val (.int (Int32.ofNat n)), .val .null, .unset] []))
  refine own_st (fun _ z => XS.aloadN X0.here hx rfl (hb hby d4_0) rfl rfl z) ?_
  show OGo p e below s _ _ (T0.setTop (mkF m 1 #[.val (.ref a1), .val (.ref a2), .val (.int (0 : Int32)), .val (.int (Int32.ofNat n)), .val .null, .unset] [(.ref a1)]))
  obtain ⟨T6, X6, e6, st6⟩ := initO X0 hx hZ hown (own_w hw 19 rfl) (own_w hw 20 rfl) (own_w hw 21 rfl) e0 (g := (mkF m 1 #[.val (.ref a1), .val (.ref a2), .val (.int (0 : Int32)), .val (.int (Int32.ofNat n)), .val .null, .unset] [(.ref a1)])) rfl (by rw [hml]; rfl) rfl (hb hby d4_1) (by decide) (W := 0) (by show 2 * 0 + _ ≤ _; exact Nat.le_of_eq rfl) (by decide)
  refine own_st st6 ?_
  show OGo p e below s _ _ (T6.setTop (mkF m 4 #[.val (.ref a1), .val (.ref a2), .val (.int (0 : Int32)), .val (.int (Int32.ofNat n)), .val .null, .unset] []))
  refine own_st (fun _ z => XS.iloadN X6.here hx rfl (hb hby d4_4) rfl z) ?_
  show OGo p e below s _ _ (T6.setTop (mkF m 5 #[.val (.ref a1), .val (.ref a2), .val (.int (0 : Int32)), .val (.int (Int32.ofNat n)), .val .null, .unset] [(.int (Int32.ofNat n))]))
  refine own_st (fun _ z => XS.ifYes X6.here hx rfl (pc0 := 5) (pc' := 27) rfl (hb hby d4_5) rfl ((if0 _ _).trans (feq ((own_nz h1 (by omega)))).2) (by decide) (by decide) z) ?_
  show OGo p e below s _ _ (T6.setTop (mkF m 27 #[.val (.ref a1), .val (.ref a2), .val (.int (0 : Int32)), .val (.int (Int32.ofNat n)), .val .null, .unset] []))
  obtain ⟨T7, X7, e7, st7⟩ := getS2 X6 hx hZ hown (host := "") (Or.inl (own_w hw 22 rfl)) Via.refl e6 S_COMPACT_STRINGS (g := (mkF m 27 #[.val (.ref a1), .val (.ref a2), .val (.int (0 : Int32)), .val (.int (Int32.ofNat n)), .val .null, .unset] [])) rfl (hb hby d4_27)
  refine own_st st7 ?_
  show OGo p e below s _ _ (T7.setTop (mkF m 30 #[.val (.ref a1), .val (.ref a2), .val (.int (0 : Int32)), .val (.int (Int32.ofNat n)), .val .null, .unset] [(.int cs)]))
  refine own_st (fun _ z => XS.ifNo X7.here hx rfl (hb hby d4_30) rfl ((if0 _ _).trans (feq (hcs)).1) z) ?_
  show OGo p e below s _ _ (T7.setTop (mkF m 33 #[.val (.ref a1), .val (.ref a2), .val (.int (0 : Int32)), .val (.int (Int32.ofNat n)), .val .null, .unset] []))
  refine own_st (fun _ z => XS.aloadN X7.here hx rfl (hb hby d4_33) rfl rfl z) ?_
  show OGo p e below s _ _ (T7.setTop (mkF m 34 #[.val (.ref a1), .val (.ref a2), .val (.int (0 : Int32)), .val (.int (Int32.ofNat n)), .val .null, .unset] [(.ref a2)]))
  refine own_st (fun _ z => XS.iloadN X7.here hx rfl (hb hby d4_34) rfl z) ?_
  show OGo p e below s _ _ (T7.setTop (mkF m 35 #[.val (.ref a1), .val (.ref a2), .val (.int (0 : Int32)), .val (.int (Int32.ofNat n)), .val .null, .unset] [(.int (0 : Int32)), (.ref a2)]))
  refine own_st (fun _ z => XS.iloadN X7.here hx rfl (hb hby d4_35) rfl z) ?_
  show OGo p e below s _ _ (T7.setTop (mkF m 36 #[.val (.ref a1), .val (.ref a2), .val (.int (0 : Int32)), .val (.int (Int32.ofNat n)), .val .null, .unset] [(.int (Int32.ofNat n)), (.int (0 : Int32)), (.ref a2)]))
  obtain ⟨_, T8, Lc8, X8, hQ8, st8⟩ := own_callS X7 hx hZ (y := (⟨"java/lang/StringUTF16", "compress", "([CII)[B"⟩ : MethodName)) (W := 0) hown (own_w hw 23 rfl) (own_w hw 24 rfl) (own_w hw 25 rfl) (own_w hw 26 rfl) (by decide) (sc2 l Z a0 hw a2 n cf h0 n0 Z0 A_a2 hn h1 hc) (by decide) (by decide) (g := (mkF m 36 #[.val (.ref a1), .val (.ref a2), .val (.int (0 : Int32)), .val (.int (Int32.ofNat n)), .val .null, .unset] [(.int (Int32.ofNat n)), (.int (0 : Int32)), (.ref a2)])) rfl (by rw [hml]; rfl) (argsL := [(.ref a2), (.int (0 : Int32)), (.int (Int32.ofNat n))]) (rest := []) (lenOf pd_1 rfl) rfl (by show 2 * 0 + _ ≤ _; exact Nat.le_of_eq rfl) (hb hby d4_36) rfl e7 (by decide) (by decide)
  obtain ⟨t1, rfl, Nq8, Kq8, fq8_t1, q8_0⟩ := hQ8
  have ne_a1_t1 : a1 ≠ t1 := Nat.ne_of_lt (Nat.lt_of_lt_of_le E_a1.lt fq8_t1)
  have ne_a2_t1 : a2 ≠ t1 := Nat.ne_of_lt (Nat.lt_of_lt_of_le A_a2.lt fq8_t1)
  have old_t1 : n0 ≤ t1 := Nat.le_trans Z0 fq8_t1
  have fr_t1 : h0.size ≤ t1 := Nat.le_trans K0.1 fq8_t1
  have hpl_Kq8 : ∀ w ∈ ([] : List Addr), ∃ c : Cell, h0[w]? = some c ∧ c.vm.isStatics = false := all0
  have Z0 := Nat.le_trans Z0 Kq8.1
  have K0 := K0.trans Kq8 all0
  have E_a1 := E_a1.keep Kq8
  have F_coder_a1 := F_coder_a1.keep Kq8 nin0
  have F_value_a1 := F_value_a1.keep Kq8 nin0
  have A_a2 := A_a2.keep Kq8 nin0
  have S_COMPACT_STRINGS := own_sta_keep S_COMPACT_STRINGS Kq8 hpl_Kq8
  have Nr8 := Fr.app N0 Nq8
  have A_t1 := q8_0
  refine own_st st8 ?_
  show OGo p e below s _ _ (T8.setTop (mkF m 39 #[.val (.ref a1), .val (.ref a2), .val (.int (0 : Int32)), .val (.int (Int32.ofNat n)), .val .null, .unset] [(.ref t1)]))
  refine own_st (fun _ z => XS.astore X8.here hx rfl (hb hby d4_39) rfl rfl (l' := #[.val (.ref a1), .val (.ref a2), .val (.int (0 : Int32)), .val (.int (Int32.ofNat n)), .val .null, .val (.ref t1)]) rfl z) ?_
  show OGo p e below s _ _ (T8.setTop (mkF m 41 #[.val (.ref a1), .val (.ref a2), .val (.int (0 : Int32)), .val (.int (Int32.ofNat n)), .val .null, .val (.ref t1)] []))
  refine own_st (fun _ z => XS.aloadN X8.here hx rfl (hb hby d4_41) rfl rfl z) ?_
  show OGo p e below s _ _ (T8.setTop (mkF m 42 #[.val (.ref a1), .val (.ref a2), .val (.int (0 : Int32)), .val (.int (Int32.ofNat n)), .val .null, .val (.ref t1)] [(.ref a1)]))
  refine own_st (fun _ z => XS.aload X8.here hx rfl (hb hby d4_42) rfl rfl z) ?_
  show OGo p e below s _ _ (T8.setTop (mkF m 44 #[.val (.ref a1), .val (.ref a2), .val (.int (0 : Int32)), .val (.int (Int32.ofNat n)), .val .null, .val (.ref t1)] [(.ref t1), (.ref a1)]))
  refine own_st (fun _ z => XS.iloadN X8.here hx rfl (hb hby d4_44) rfl z) ?_
  show OGo p e below s _ _ (T8.setTop (mkF m 45 #[.val (.ref a1), .val (.ref a2), .val (.int (0 : Int32)), .val (.int (Int32.ofNat n)), .val .null, .val (.ref t1)] [(.int (Int32.ofNat n)), (.ref t1), (.ref a1)]))
  obtain ⟨T9, X9, e9, st9⟩ := own_callSP X8 hx hZ (y := (⟨"java/lang/StringUTF16", "coderFromArrayLen", "([BI)B"⟩ : MethodName)) (W := 1) hown (own_w hw 31 rfl) (own_w hw 32 rfl) (own_w hw 25 rfl) (own_w hw 33 rfl) (by decide) (sc3 l Z a0 hw t1 n (fun j => .int (own_lb (cf j))) T8.heap A_t1) (by decide) (by decide) (g := (mkF m 45 #[.val (.ref a1), .val (.ref a2), .val (.int (0 : Int32)), .val (.int (Int32.ofNat n)), .val .null, .val (.ref t1)] [(.int (Int32.ofNat n)), (.ref t1), (.ref a1)])) rfl (by rw [hml]; rfl) (argsL := [(.ref t1), (.int (Int32.ofNat n))]) (rest := [(.ref a1)]) (lenOf pd_2 rfl) rfl (by show 2 * 0 + _ ≤ _; exact Nat.le_of_eq rfl) (hb hby d4_45) rfl rfl (by decide) (by decide)
  refine own_st st9 ?_
  show OGo p e below s _ _ (T9.setTop (mkF m 48 #[.val (.ref a1), .val (.ref a2), .val (.int (0 : Int32)), .val (.int (Int32.ofNat n)), .val .null, .val (.ref t1)] [(.int (0 : Int32)), (.ref a1)]))
  obtain ⟨T10, hp10, X10, e10, Ww10, st10⟩ := putFN X9 hx hZ hown (own_w hw 34 rfl) Via.refl e9 F_coder_a1 E_a1 (Or.inr ⟨(own_w hw 35 rfl), rfl, hnm⟩) (own_w hw 9 rfl) (ty := .byte) (v' := (.int (0 : Int32))) (by decide) rfl (by decide) (g := (mkF m 48 #[.val (.ref a1), .val (.ref a2), .val (.int (0 : Int32)), .val (.int (Int32.ofNat n)), .val .null, .val (.ref t1)] [(.int (0 : Int32)), (.ref a1)])) rfl rfl (hb hby d4_48)
  have Nf10 := Fr.snoc X10 Nr8 old_a1
  have Z0 := Nat.le_trans Z0 (Keep.of_wr Ww10).1
  have K0 := K0.wr Ww10 (Or.inl (List.mem_of_getElem? (i := 0) rfl))
  have E_a1 := E_a1.wr Ww10
  have F_coder_a1 := F_coder_a1.same Ww10
  have F_value_a1 := F_value_a1.other Ww10 (Or.inr (slot_ne (Or.inr (own_w hw 37 rfl)) (Or.inr (own_w hw 35 rfl)) (by decide) (t := (.array .byte)) (t' := .byte) (by decide) (by decide)))
  have A_a2 := A_a2.other Ww10 ne_a2_a1
  have S_COMPACT_STRINGS := S_COMPACT_STRINGS.wr Ww10
  have A_t1 := A_t1.other Ww10 (Ne.symm ne_a1_t1)
  refine own_st st10 ?_
  show OGo p e below s _ _ (T10.setTop (mkF m 51 #[.val (.ref a1), .val (.ref a2), .val (.int (0 : Int32)), .val (.int (Int32.ofNat n)), .val .null, .val (.ref t1)] []))
  refine own_st (fun _ z => XS.aloadN X10.here hx rfl (hb hby d4_51) rfl rfl z) ?_
  show OGo p e below s _ _ (T10.setTop (mkF m 52 #[.val (.ref a1), .val (.ref a2), .val (.int (0 : Int32)), .val (.int (Int32.ofNat n)), .val .null, .val (.ref t1)] [(.ref a1)]))
  refine own_st (fun _ z => XS.aload X10.here hx rfl (hb hby d4_52) rfl rfl z) ?_
  show OGo p e below s _ _ (T10.setTop (mkF m 54 #[.val (.ref a1), .val (.ref a2), .val (.int (0 : Int32)), .val (.int (Int32.ofNat n)), .val .null, .val (.ref t1)] [(.ref t1), (.ref a1)]))
  obtain ⟨T11, hp11, X11, e11, Ww11, st11⟩ := putF X10 hx hZ hown (host := "") (Or.inl (own_w hw 36 rfl)) Via.refl e10 F_value_a1 E_a1 (Or.inr ⟨(own_w hw 37 rfl), rfl, hnm⟩) (own_w hw 9 rfl) (ty := (.array .byte)) (by decide) rfl rfl (g := (mkF m 54 #[.val (.ref a1), .val (.ref a2), .val (.int (0 : Int32)), .val (.int (Int32.ofNat n)), .val .null, .val (.ref t1)] [(.ref t1), (.ref a1)])) rfl rfl (hb hby d4_54)
  have Nf11 := Fr.snoc X11 Nf10 old_a1
  have Z0 := Nat.le_trans Z0 (Keep.of_wr Ww11).1
  have K0 := K0.wr Ww11 (Or.inl (List.mem_of_getElem? (i := 0) rfl))
  have E_a1 := E_a1.wr Ww11
  have F_coder_a1 := F_coder_a1.other Ww11 (Or.inr (slot_ne (Or.inr (own_w hw 35 rfl)) (Or.inr (own_w hw 37 rfl)) (by decide) (t := .byte) (t' := (.array .byte)) (by decide) (by decide)))
  have F_value_a1 := F_value_a1.same Ww11
  have A_a2 := A_a2.other Ww11 ne_a2_a1
  have S_COMPACT_STRINGS := S_COMPACT_STRINGS.wr Ww11
  have A_t1 := A_t1.other Ww11 (Ne.symm ne_a1_t1)
  refine own_st st11 ?_
  show OGo p e below s _ _ (T11.setTop (mkF m 57 #[.val (.ref a1), .val (.ref a2), .val (.int (0 : Int32)), .val (.int (Int32.ofNat n)), .val .null, .val (.ref t1)] []))
  exact own_retV X11 hx hlk hret (hb hby d4_57) (by decide) (by decide) (⟨t1, rfl, Nf11, (by rw [e11]; exact K0), fr_t1, (by rw [e11]; exact E_a1), (by rw [e11]; exact F_coder_a1), (by rw [e11]; exact F_value_a1), (by rw [e11]; exact A_t1)⟩)
theorem d3_0 : decode jdk_42_method_3_code 0 = .ok (.aload_n 0, 1) := by decide +kernel
theorem d3_1 : decode jdk_42_method_3_code 1 = .ok (.aload_n 1, 1) := by decide +kernel
theorem d3_2 : decode jdk_42_method_3_code 2 = .ok (.iconst 0, 1) := by decide +kernel
theorem d3_3 : decode jdk_42_method_3_code 3 = .ok (.aload_n 1, 1) := by decide +kernel
theorem d3_4 : decode jdk_42_method_3_code 4 = .ok (.arraylength, 1) := by decide +kernel
theorem d3_5 : decode jdk_42_method_3_code 5 = .ok (.aconst_null, 1) := by decide +kernel
theorem d3_6 : decode jdk_42_method_3_code 6 = .ok (.invokespecial 27, 3) := by decide +kernel
theorem pd_3 : parseMethodDescriptor "([CIILjava/lang/Void;)V" = some ⟨[(.array .char), .int, .int, (.object "java/lang/Void")], none⟩ := by decide +kernel
theorem d3_9 : decode jdk_42_method_3_code 9 = .ok (.return_, 1) := by decide +kernel
theorem ef_3_RR (m : MethodId) (x0 : Addr) (x1 : Addr) : entryFrame m #[(.ref x0), (.ref x1)] 2 = mkF m 0 #[.val (.ref x0), .val (.ref x1)] [] := by first | (simp [entryFrame, mkF, argsToLocals, Value.category]; done) | rfl
set_option maxRecDepth 65536 in
set_option maxHeartbeats 40000000 in
theorem sc5 (l : Launch) (Z : State) (a0 : Array Value) (hw : ∀ d ∈ tables_1, d.before a0 Z = true) (a1 : Addr) (a2 : Addr) (n : Nat) (cf : Nat → Int32) (cs : Int32) (h0 : Heap) (n0 : Nat) (Z0 : n0 ≤ h0.size) (old_a1 : n0 ≤ a1) (ne_a2_a1 : a2 ≠ a1) (E_a1 : Exa Z h0 a1 "java/lang/String") (F_coder_a1 : Fld Z h0 a1 "java/lang/String" "coder" "B" (.int (0 : Int32))) (F_value_a1 : Fld Z h0 a1 "java/lang/String" "value" "[B" .null) (A_a2 : OAr Z h0 a2 .char n (fun j => .int (cf j))) (S_COMPACT_STRINGS : Sta Z h0 "java/lang/String" "COMPACT_STRINGS" "Z" (.int cs)) (hn : n ≤ 3) (h1 : 0 < n) (hc : ∀ j, j < n → ¬ (255 : Int32) < cf j) (hcs : ¬ cs = (0 : Int32)) :
    OMet l Z (⟨"java/lang/String", "<init>", "([C)V"⟩ : MethodName) jdk_42_method_3_code 2 none [] ({ frames := 3, cells := 1, slots := 3, locals := 52 } : Room) #[(.ref a1), (.ref a2)] h0 (fun v h' L => ∃ t1 : Addr, v = none ∧ Fr n0 L ∧ Keep h0 h' [a1] ∧ h0.size ≤ t1 ∧ Exa Z h' a1 "java/lang/String" ∧ Fld Z h' a1 "java/lang/String" "coder" "B" (.int (0 : Int32)) ∧ Fld Z h' a1 "java/lang/String" "value" "[B" (.ref t1) ∧ OAr Z h' t1 .byte n (fun j => .int (own_lb (cf j)))) := by
  refine own_body (plainFor_of_name pn_java_lang_String) (fun m => ef_3_RR m a1 a2) ?_
  intro p e s m below meth c T0 hx hby hml hown hnm hret hlk hZ X0 e0
  have hown : s.vm.findClass "java/lang/String" = some m.cls := hown
  have hml : c.maxLocals = 2 := hml
  have N0 := Fr.nil n0
  have K0 := Keep.refl h0 [a1]
  show OGo p e below s _ _ (T0.setTop (mkF m 0 #[.val (.ref a1), .val (.ref a2)] []))
  refine own_st (fun _ z => XS.aloadN X0.here hx rfl (hb hby d3_0) rfl rfl z) ?_
  show OGo p e below s _ _ (T0.setTop (mkF m 1 #[.val (.ref a1), .val (.ref a2)] [(.ref a1)]))
  refine own_st (fun _ z => XS.aloadN X0.here hx rfl (hb hby d3_1) rfl rfl z) ?_
  show OGo p e below s _ _ (T0.setTop (mkF m 2 #[.val (.ref a1), .val (.ref a2)] [(.ref a2), (.ref a1)]))
  refine own_st (fun _ z => XS.iconst X0.here hx rfl (hb hby d3_2) z) ?_
  show OGo p e below s _ _ (T0.setTop (mkF m 3 #[.val (.ref a1), .val (.ref a2)] [(.int (0 : Int32)), (.ref a2), (.ref a1)]))
  refine own_st (fun _ z => XS.aloadN X0.here hx rfl (hb hby d3_3) rfl rfl z) ?_
  show OGo p e below s _ _ (T0.setTop (mkF m 4 #[.val (.ref a1), .val (.ref a2)] [(.ref a2), (.int (0 : Int32)), (.ref a2), (.ref a1)]))
  obtain ⟨cl12, Ar12, Sz12, -⟩ := id A_a2
  refine own_st (X0.arraylength hx (by rw [e0]; exact Ar12.1) (State.isArrayOf_alike hZ.alike Ar12.2.1) (g := (mkF m 4 #[.val (.ref a1), .val (.ref a2)] [(.ref a2), (.int (0 : Int32)), (.ref a2), (.ref a1)])) rfl rfl (hb hby d3_4)) ?_
  rw [Sz12, own_len n]
  show OGo p e below s _ _ (T0.setTop (mkF m 5 #[.val (.ref a1), .val (.ref a2)] [(.int (Int32.ofNat n)), (.int (0 : Int32)), (.ref a2), (.ref a1)]))
  refine own_st (fun _ z => XS.aconstNull X0.here hx rfl (hb hby d3_5) z) ?_
  show OGo p e below s _ _ (T0.setTop (mkF m 6 #[.val (.ref a1), .val (.ref a2)] [.null, (.int (Int32.ofNat n)), (.int (0 : Int32)), (.ref a2), (.ref a1)]))
  obtain ⟨_, T13, Lc13, X13, hQ13, st13⟩ := own_callI X0 hx hZ (y := (⟨"java/lang/String", "<init>", "([CIILjava/lang/Void;)V"⟩ : MethodName)) (W := 0) rfl hown (own_w hw 15 rfl) (own_w hw 16 rfl) (own_w hw 18 rfl) (own_w hw 10 rfl) (by decide) (sc4 l Z a0 hw a1 a2 n cf cs h0 n0 Z0 old_a1 ne_a2_a1 E_a1 F_coder_a1 F_value_a1 A_a2 S_COMPACT_STRINGS hn h1 hc hcs) (by decide) (by decide) (a := a1) (g := (mkF m 6 #[.val (.ref a1), .val (.ref a2)] [.null, (.int (Int32.ofNat n)), (.int (0 : Int32)), (.ref a2), (.ref a1)])) rfl (by rw [hml]; rfl) (argsL := [(.ref a2), (.int (0 : Int32)), (.int (Int32.ofNat n)), .null]) (rest := []) (lenOf pd_3 rfl) rfl (by show 2 * 0 + _ ≤ _; exact Nat.le_of_eq rfl) (hb hby d3_6) rfl e0 (by decide) (by decide)
  obtain ⟨t1, rfl, Nq13, Kq13, fq13_t1, q13_0, q13_1, q13_2, q13_3⟩ := hQ13
  have ne_a1_t1 : a1 ≠ t1 := Nat.ne_of_lt (Nat.lt_of_lt_of_le E_a1.lt fq13_t1)
  have ne_a2_t1 : a2 ≠ t1 := Nat.ne_of_lt (Nat.lt_of_lt_of_le A_a2.lt fq13_t1)
  have old_t1 : n0 ≤ t1 := Nat.le_trans Z0 fq13_t1
  have fr_t1 : h0.size ≤ t1 := Nat.le_trans K0.1 fq13_t1
  have hpl_Kq13 : ∀ w ∈ [a1], ∃ c : Cell, h0[w]? = some c ∧ c.vm.isStatics = false := (allS (own_pl_exa E_a1) all0)
  have Z0 := Nat.le_trans Z0 Kq13.1
  have K0 := K0.trans Kq13 (allS (Or.inl (List.mem_of_getElem? (i := 0) rfl)) all0)
  have A_a2 := A_a2.keep Kq13 (ninS ne_a2_a1 nin0)
  have S_COMPACT_STRINGS := own_sta_keep S_COMPACT_STRINGS Kq13 hpl_Kq13
  have Nr13 := Fr.app N0 Nq13
  have E_a1 := q13_0
  have F_coder_a1 := q13_1
  have F_value_a1 := q13_2
  have A_t1 := q13_3
  refine own_st st13 ?_
  show OGo p e below s _ _ (T13.setTop (mkF m 9 #[.val (.ref a1), .val (.ref a2)] []))
  exact own_retV X13 hx hlk hret (hb hby d3_9) (by decide) (by decide) (⟨t1, rfl, Nr13, K0, fr_t1, E_a1, F_coder_a1, F_value_a1, A_t1⟩)
theorem d12_0 : decode jdk_42_method_152_code 0 = .ok (.getstatic 38, 3) := by decide +kernel
theorem d12_3 : decode jdk_42_method_152_code 3 = .ok (.ifCond .eq 10, 3) := by decide +kernel
theorem d12_6 : decode jdk_42_method_152_code 6 = .ok (.aload_n 0, 1) := by decide +kernel
theorem d12_7 : decode jdk_42_method_152_code 7 = .ok (.getfield 15, 3) := by decide +kernel
theorem d12_10 : decode jdk_42_method_152_code 10 = .ok (.goto 4, 3) := by decide +kernel
theorem d12_14 : decode jdk_42_method_152_code 14 = .ok (.ireturn, 1) := by decide +kernel
theorem ef_12_R (m : MethodId) (x0 : Addr) : entryFrame m #[(.ref x0)] 1 = mkF m 0 #[.val (.ref x0)] [] := by first | (simp [entryFrame, mkF, argsToLocals, Value.category]; done) | rfl
set_option maxRecDepth 65536 in
set_option maxHeartbeats 40000000 in
theorem sc6 (l : Launch) (Z : State) (a0 : Array Value) (hw : ∀ d ∈ tables_1, d.before a0 Z = true) (a1 : Addr) (cs : Int32) (h0 : Heap) (F_coder_a1 : Fld Z h0 a1 "java/lang/String" "coder" "B" (.int (0 : Int32))) (S_COMPACT_STRINGS : Sta Z h0 "java/lang/String" "COMPACT_STRINGS" "Z" (.int cs)) (hcs : ¬ cs = (0 : Int32)) :
    OPure l Z (⟨"java/lang/String", "coder", "()B"⟩ : MethodName) jdk_42_method_152_code 1 (some .byte) [] ({ frames := 0, cells := 0, slots := 0, locals := 0 } : Room) #[(.ref a1)] h0 (some (.int (0 : Int32))) := by
  refine own_body (plainFor_of_name pn_java_lang_String) (fun m => ef_12_R m a1) ?_
  intro p e s m below meth c T0 hx hby hml hown hnm hret hlk hZ X0 e0
  have hown : s.vm.findClass "java/lang/String" = some m.cls := hown
  have hml : c.maxLocals = 1 := hml
  show OGo p e below s _ _ (T0.setTop (mkF m 0 #[.val (.ref a1)] []))
  obtain ⟨T14, X14, e14, st14⟩ := getS2 X0 hx hZ hown (host := "") (Or.inl (own_w hw 22 rfl)) Via.refl e0 S_COMPACT_STRINGS (g := (mkF m 0 #[.val (.ref a1)] [])) rfl (hb hby d12_0)
  refine own_st st14 ?_
  show OGo p e below s _ _ (T14.setTop (mkF m 3 #[.val (.ref a1)] [(.int cs)]))
  refine own_st (fun _ z => XS.ifNo X14.here hx rfl (hb hby d12_3) rfl ((if0 _ _).trans (feq (hcs)).1) z) ?_
  show OGo p e below s _ _ (T14.setTop (mkF m 6 #[.val (.ref a1)] []))
  refine own_st (fun _ z => XS.aloadN X14.here hx rfl (hb hby d12_6) rfl rfl z) ?_
  show OGo p e below s _ _ (T14.setTop (mkF m 7 #[.val (.ref a1)] [(.ref a1)]))
  obtain ⟨T15, X15, e15, st15⟩ := getF X14 hx hZ hown (host := "") (Or.inl (own_w hw 34 rfl)) Via.refl e14 F_coder_a1 (g := (mkF m 7 #[.val (.ref a1)] [(.ref a1)])) rfl rfl (hb hby d12_7)
  refine own_st st15 ?_
  show OGo p e below s _ _ (T15.setTop (mkF m 10 #[.val (.ref a1)] [(.int (0 : Int32))]))
  refine own_st (fun _ z => XS.goto X15.here hx rfl (pc0 := 10) (pc' := 14) rfl (hb hby d12_10) (by decide) (by decide) z) ?_
  show OGo p e below s _ _ (T15.setTop (mkF m 14 #[.val (.ref a1)] [(.int (0 : Int32))]))
  exact own_retN X15 hx hlk (t := .byte) hret (by simp) (hb hby d12_14) (by decide) (by decide) (⟨rfl, rfl, e15⟩)
theorem own_shl0 (x : Int32) : x <<< ((0 : Int32) &&& 31) = x := Int32.toInt_inj.mp (by have h := c_ishl x 0 0 (by decide); have r := rng32 x; have r2 := rng32 (x <<< ((0 : Int32) &&& 31)); omega)
theorem own_addn (k m : Nat) : Int32.ofNat k + Int32.ofNat m = Int32.ofNat (k + m) := (Int32.ofNat_add k m).symm
theorem own_subi {k m : Nat} (hk : k < 2 ^ 30) (hm : m < 2 ^ 30) : (Int32.ofNat k - Int32.ofNat m).toInt = (k : Int) - m := by
  have e1 := (own_nat (i := k) (by omega)).2.2
  have e2 := (own_nat (i := m) (by omega)).2.2
  have h := c_isub (Int32.ofNat k) (Int32.ofNat m)
  have r := rng32 (Int32.ofNat k - Int32.ofNat m)
  omega
theorem own_subnp {k m : Nat} (hk : k ≤ m) (hm : m < 2 ^ 30) : ¬ (0 : Int32) < Int32.ofNat k - Int32.ofNat m := by
  rw [Int32.lt_iff_toInt_lt, own_subi (by omega) hm, show (0 : Int32).toInt = 0 from by decide]; omega
theorem own_subp {k m : Nat} (hk : m < k) (hm : k < 2 ^ 30) : (0 : Int32) < Int32.ofNat k - Int32.ofNat m := by
  rw [Int32.lt_iff_toInt_lt, own_subi hm (by omega), show (0 : Int32).toInt = 0 from by decide]; omega
theorem own_sub16 {k : Nat} (hk : k < 34) : Int32.ofNat k - (16 : Int32) < (18 : Int32) := by
  have h := own_subi (k := k) (m := 16) (by omega) (by omega)
  rw [Int32.lt_iff_toInt_lt, show (18 : Int32).toInt = 18 from by decide]
  show (Int32.ofNat k - Int32.ofNat 16).toInt < 18
  omega
theorem own_sub0 (x : Int32) : x - (0 : Int32) = x := Int32.sub_zero x
theorem own_neqn {k m : Nat} (h : k ≠ m) (hk : k < 2 ^ 30) (hm : m < 2 ^ 30) : ¬ Int32.ofNat k = Int32.ofNat m := fun q => by
  have e1 := (own_nat (i := k) (by omega)).2.2
  have e2 := (own_nat (i := m) (by omega)).2.2
  rw [q, e2] at e1; omega
theorem own_fd : fits .byte (defaultValue .byte) = true := by decide
theorem d11_0 : decode jdk_42_method_54_code 0 = .ok (.aload_n 0, 1) := by decide +kernel
theorem d11_1 : decode jdk_42_method_54_code 1 = .ok (.getfield 9, 3) := by decide +kernel
theorem d11_4 : decode jdk_42_method_54_code 4 = .ok (.arraylength, 1) := by decide +kernel
theorem d11_5 : decode jdk_42_method_54_code 5 = .ok (.aload_n 0, 1) := by decide +kernel
theorem d11_6 : decode jdk_42_method_54_code 6 = .ok (.invokevirtual 335, 3) := by decide +kernel
theorem pd_4 : parseMethodDescriptor "()B" = some ⟨[], some .byte⟩ := by decide +kernel
theorem d11_9 : decode jdk_42_method_54_code 9 = .ok (.ishr, 1) := by decide +kernel
theorem d11_10 : decode jdk_42_method_54_code 10 = .ok (.ireturn, 1) := by decide +kernel
theorem ef_11_R (m : MethodId) (x0 : Addr) : entryFrame m #[(.ref x0)] 1 = mkF m 0 #[.val (.ref x0)] [] := by first | (simp [entryFrame, mkF, argsToLocals, Value.category]; done) | rfl
set_option maxRecDepth 65536 in
set_option maxHeartbeats 40000000 in
theorem bl (l : Launch) (Z : State) (a0 : Array Value) (hw : ∀ d ∈ tables_1, d.before a0 Z = true) (a1 : Addr) (t1 : Addr) (n : Nat) (cs : Int32) (h0 : Heap) (E_a1 : Exa Z h0 a1 "java/lang/String") (F_coder_a1 : Fld Z h0 a1 "java/lang/String" "coder" "B" (.int (0 : Int32))) (F_value_a1 : Fld Z h0 a1 "java/lang/String" "value" "[B" (.ref t1)) (B_t1 : OBy Z h0 t1 n) (S_COMPACT_STRINGS : Sta Z h0 "java/lang/String" "COMPACT_STRINGS" "Z" (.int cs)) (hcs : ¬ cs = (0 : Int32)) :
    OPure l Z (⟨"java/lang/String", "length", "()I"⟩ : MethodName) jdk_42_method_54_code 1 (some .int) [] ({ frames := 1, cells := 0, slots := 0, locals := 13 } : Room) #[(.ref a1)] h0 (some (.int (Int32.ofNat n))) := by
  refine own_body (plainFor_of_name pn_java_lang_String) (fun m => ef_11_R m a1) ?_
  intro p e s m below meth c T0 hx hby hml hown hnm hret hlk hZ X0 e0
  have hown : s.vm.findClass "java/lang/String" = some m.cls := hown
  have hml : c.maxLocals = 1 := hml
  show OGo p e below s _ _ (T0.setTop (mkF m 0 #[.val (.ref a1)] []))
  refine own_st (fun _ z => XS.aloadN X0.here hx rfl (hb hby d11_0) rfl rfl z) ?_
  show OGo p e below s _ _ (T0.setTop (mkF m 1 #[.val (.ref a1)] [(.ref a1)]))
  obtain ⟨T16, X16, e16, st16⟩ := getF X0 hx hZ hown (host := "") (Or.inl (own_w hw 36 rfl)) Via.refl e0 F_value_a1 (g := (mkF m 1 #[.val (.ref a1)] [(.ref a1)])) rfl rfl (hb hby d11_1)
  refine own_st st16 ?_
  show OGo p e below s _ _ (T16.setTop (mkF m 4 #[.val (.ref a1)] [(.ref t1)]))
  obtain ⟨cl17, Ar17, Sz17, -⟩ := id B_t1
  refine own_st (X16.arraylength hx (by rw [e16]; exact Ar17.1) (State.isArrayOf_alike hZ.alike Ar17.2.1) (g := (mkF m 4 #[.val (.ref a1)] [(.ref t1)])) rfl rfl (hb hby d11_4)) ?_
  rw [Sz17, own_len n]
  show OGo p e below s _ _ (T16.setTop (mkF m 5 #[.val (.ref a1)] [(.int (Int32.ofNat n))]))
  refine own_st (fun _ z => XS.aloadN X16.here hx rfl (hb hby d11_5) rfl rfl z) ?_
  show OGo p e below s _ _ (T16.setTop (mkF m 6 #[.val (.ref a1)] [(.ref a1), (.int (Int32.ofNat n))]))
  obtain ⟨T18, X18, e18, st18⟩ := own_callVP X16 hx hZ (y := (⟨"java/lang/String", "coder", "()B"⟩ : MethodName)) (z := (⟨"java/lang/String", "coder", "()B"⟩ : MethodName)) (W := 1) hown (own_w hw 57 rfl) (own_w hw 58 rfl) (notFace_of_selects (args := #[]) (mvT hZ (own_w hw 60 rfl))) (own_w hw 60 rfl) (own_w hw 59 rfl) (own_w hw 61 rfl) (own_w hw 10 rfl) (by decide) (sc6 l Z a0 hw a1 cs h0 F_coder_a1 S_COMPACT_STRINGS hcs) (by decide) (by decide) E_a1 (g := (mkF m 6 #[.val (.ref a1)] [(.ref a1), (.int (Int32.ofNat n))])) rfl (by rw [hml]; rfl) (argsL := []) (rest := [(.int (Int32.ofNat n))]) (lenOf pd_4 rfl) rfl (by show 2 * 0 + _ ≤ _; exact Nat.le_of_eq rfl) (hb hby d11_6) rfl e16 (by decide) (by decide)
  refine own_st st18 ?_
  show OGo p e below s _ _ (T18.setTop (mkF m 9 #[.val (.ref a1)] [(.int (0 : Int32)), (.int (Int32.ofNat n))]))
  refine own_st (fun _ z => XS.ishr X18.here hx rfl (hb hby d11_9) rfl z) ?_
  show OGo p e below s _ _ (T18.setTop (mkF m 10 #[.val (.ref a1)] [(.int ((Int32.ofNat n) >>> ((0 : Int32) &&& 31)))]))
  rw [own_shr0]
  exact own_retI X18 hx hlk hret (hb hby d11_10) (by decide) (by decide) (⟨rfl, rfl, e18⟩)
theorem d21_0 : decode jdk_68_method_2_code 0 = .ok (.aload_n 0, 1) := by decide +kernel
theorem d21_1 : decode jdk_68_method_2_code 1 = .ok (.invokespecial 3, 3) := by decide +kernel
theorem d21_4 : decode jdk_68_method_2_code 4 = .ok (.getstatic 18, 3) := by decide +kernel
theorem d21_7 : decode jdk_68_method_2_code 7 = .ok (.ifCond .eq 18, 3) := by decide +kernel
theorem d21_10 : decode jdk_68_method_2_code 10 = .ok (.aload_n 0, 1) := by decide +kernel
theorem d21_11 : decode jdk_68_method_2_code 11 = .ok (.iload_n 1, 1) := by decide +kernel
theorem d21_12 : decode jdk_68_method_2_code 12 = .ok (.newarray .byte, 2) := by decide +kernel
theorem d21_14 : decode jdk_68_method_2_code 14 = .ok (.putfield 15, 3) := by decide +kernel
theorem d21_17 : decode jdk_68_method_2_code 17 = .ok (.aload_n 0, 1) := by decide +kernel
theorem d21_18 : decode jdk_68_method_2_code 18 = .ok (.iconst 0, 1) := by decide +kernel
theorem d21_19 : decode jdk_68_method_2_code 19 = .ok (.putfield 22, 3) := by decide +kernel
theorem d21_22 : decode jdk_68_method_2_code 22 = .ok (.goto 16, 3) := by decide +kernel
theorem d21_38 : decode jdk_68_method_2_code 38 = .ok (.return_, 1) := by decide +kernel
theorem pn_java_lang_AbstractStringBuilder : plainName "java/lang/AbstractStringBuilder" = true := by first | (simp [plainName, overriddenIn]; done) | decide +kernel
theorem ef_21_RI (m : MethodId) (x0 : Addr) (x1 : Int32) : entryFrame m #[(.ref x0), (.int x1)] 2 = mkF m 0 #[.val (.ref x0), .val (.int x1)] [] := by first | (simp [entryFrame, mkF, argsToLocals, Value.category]; done) | rfl
set_option maxRecDepth 65536 in
set_option maxHeartbeats 40000000 in
theorem b1_ (l : Launch) (Z : State) (a0 : Array Value) (hw : ∀ d ∈ tables_1, d.before a0 Z = true) (a1 : Addr) (cs : Int32) (h0 : Heap) (n0 : Nat) (Z0 : n0 ≤ h0.size) (old_a1 : n0 ≤ a1) (E_a1 : Exa Z h0 a1 "java/lang/StringBuilder") (F_value_a1 : Fld Z h0 a1 "java/lang/AbstractStringBuilder" "value" "[B" .null) (F_coder_a1 : Fld Z h0 a1 "java/lang/AbstractStringBuilder" "coder" "B" (.int (0 : Int32))) (F_count_a1 : Fld Z h0 a1 "java/lang/AbstractStringBuilder" "count" "I" (.int (0 : Int32))) (S_COMPACT_STRINGS : Sta Z h0 "java/lang/String" "COMPACT_STRINGS" "Z" (.int cs)) (hcs : ¬ cs = (0 : Int32)) :
    OMet l Z (⟨"java/lang/AbstractStringBuilder", "<init>", "(I)V"⟩ : MethodName) jdk_68_method_2_code 2 none [] ({ frames := 1, cells := 1, slots := 16, locals := 12 } : Room) #[(.ref a1), (.int (16 : Int32))] h0 (fun v h' L => ∃ t1 : Addr, v = none ∧ Fr n0 L ∧ Keep h0 h' [a1] ∧ h0.size ≤ t1 ∧ Exa Z h' a1 "java/lang/StringBuilder" ∧ Fld Z h' a1 "java/lang/AbstractStringBuilder" "value" "[B" (.ref t1) ∧ Fld Z h' a1 "java/lang/AbstractStringBuilder" "coder" "B" (.int (0 : Int32)) ∧ Fld Z h' a1 "java/lang/AbstractStringBuilder" "count" "I" (.int (0 : Int32)) ∧ Exa Z h' t1 "[B" ∧ OBy Z h' t1 16) := by
  refine own_body (plainFor_of_name pn_java_lang_AbstractStringBuilder) (fun m => ef_21_RI m a1 (16 : Int32)) ?_
  intro p e s m below meth c T0 hx hby hml hown hnm hret hlk hZ X0 e0
  have hown : s.vm.findClass "java/lang/AbstractStringBuilder" = some m.cls := hown
  have hml : c.maxLocals = 2 := hml
  have N0 := Fr.nil n0
  have K0 := Keep.refl h0 [a1]
  show OGo p e below s _ _ (T0.setTop (mkF m 0 #[.val (.ref a1), .val (.int (16 : Int32))] []))
  refine own_st (fun _ z => XS.aloadN X0.here hx rfl (hb hby d21_0) rfl rfl z) ?_
  show OGo p e below s _ _ (T0.setTop (mkF m 1 #[.val (.ref a1), .val (.int (16 : Int32))] [(.ref a1)]))
  obtain ⟨T19, X19, e19, st19⟩ := initO X0 hx hZ hown (own_w hw 108 rfl) (own_w hw 20 rfl) (own_w hw 21 rfl) e0 (g := (mkF m 1 #[.val (.ref a1), .val (.int (16 : Int32))] [(.ref a1)])) rfl (by rw [hml]; rfl) rfl (hb hby d21_1) (by decide) (W := 0) (by show 2 * 0 + _ ≤ _; exact Nat.le_of_eq rfl) (by decide)
  refine own_st st19 ?_
  show OGo p e below s _ _ (T19.setTop (mkF m 4 #[.val (.ref a1), .val (.int (16 : Int32))] []))
  obtain ⟨T20, X20, e20, st20⟩ := getS2 X19 hx hZ hown (host := "") (Or.inl (own_w hw 109 rfl)) Via.refl e19 S_COMPACT_STRINGS (g := (mkF m 4 #[.val (.ref a1), .val (.int (16 : Int32))] [])) rfl (hb hby d21_4)
  refine own_st st20 ?_
  show OGo p e below s _ _ (T20.setTop (mkF m 7 #[.val (.ref a1), .val (.int (16 : Int32))] [(.int cs)]))
  refine own_st (fun _ z => XS.ifNo X20.here hx rfl (hb hby d21_7) rfl ((if0 _ _).trans (feq (hcs)).1) z) ?_
  show OGo p e below s _ _ (T20.setTop (mkF m 10 #[.val (.ref a1), .val (.int (16 : Int32))] []))
  refine own_st (fun _ z => XS.aloadN X20.here hx rfl (hb hby d21_10) rfl rfl z) ?_
  show OGo p e below s _ _ (T20.setTop (mkF m 11 #[.val (.ref a1), .val (.int (16 : Int32))] [(.ref a1)]))
  refine own_st (fun _ z => XS.iloadN X20.here hx rfl (hb hby d21_11) rfl z) ?_
  show OGo p e below s _ _ (T20.setTop (mkF m 12 #[.val (.ref a1), .val (.int (16 : Int32))] [(.int (16 : Int32)), (.ref a1)]))
  obtain ⟨T21, hp21, kk21, X21, e21, Ex21, Aa21, Bb21, st21⟩ := newPE X20 hx hZ (own_w hw 27 rfl) e20 (g := (mkF m 12 #[.val (.ref a1), .val (.int (16 : Int32))] [(.int (16 : Int32)), (.ref a1)])) rfl (hb hby d21_12) rfl (by decide) (cap := 16) (by decide) (by decide) (by decide) (by decide) (ad := "[B") (by decide)
  obtain ⟨t1, gs21⟩ : ∃ z, z = h0.size := ⟨_, rfl⟩
  rw [← gs21] at Aa21 Bb21 st21
  have ne_a1_t1 : a1 ≠ t1 := Nat.ne_of_lt (Nat.lt_of_lt_of_le E_a1.lt (Nat.le_of_eq gs21.symm))
  have old_t1 : n0 ≤ t1 := Nat.le_trans Z0 (Nat.le_of_eq gs21.symm)
  have fr_t1 : h0.size ≤ t1 := Nat.le_trans K0.1 (Nat.le_of_eq gs21.symm)
  have K0 := K0.ext Ex21
  have Z0 := Nat.le_trans Z0 Ex21.1
  have E_a1 := E_a1.ext Ex21
  have F_value_a1 := F_value_a1.ext Ex21
  have F_coder_a1 := F_coder_a1.ext Ex21
  have F_count_a1 := F_count_a1.ext Ex21
  have S_COMPACT_STRINGS := S_COMPACT_STRINGS.ext Ex21
  have A_t1 := OAr.new Aa21
  have E_t1 := Bb21
  refine own_st st21 ?_
  show OGo p e below s _ _ (T21.setTop (mkF m 14 #[.val (.ref a1), .val (.int (16 : Int32))] [(.ref t1), (.ref a1)]))
  rw [show (16 : Int32).toNatClampNeg = 16 from by decide] at A_t1
  have B_t1 : OBy Z _ t1 16 := own_by A_t1 (fun _ _ => own_fd)
  obtain ⟨T22, hp22, X22, e22, Ww22, st22⟩ := putF X21 hx hZ hown (host := "") (Or.inl (own_w hw 110 rfl)) Via.refl e21 F_value_a1 E_a1 (Or.inl (own_w hw 111 rfl)) (own_w hw 97 rfl) (ty := (.array .byte)) (by decide) rfl rfl (g := (mkF m 14 #[.val (.ref a1), .val (.int (16 : Int32))] [(.ref t1), (.ref a1)])) rfl rfl (hb hby d21_14)
  have Nf22 := Fr.snoc X22 N0 old_a1
  have Z0 := Nat.le_trans Z0 (Keep.of_wr Ww22).1
  have K0 := K0.wr Ww22 (Or.inl (List.mem_of_getElem? (i := 0) rfl))
  have E_a1 := E_a1.wr Ww22
  have F_value_a1 := F_value_a1.same Ww22
  have F_coder_a1 := F_coder_a1.other Ww22 (Or.inr (slot_ne (Or.inl (own_w hw 113 rfl)) (Or.inl (own_w hw 111 rfl)) (by decide) (t := .byte) (t' := (.array .byte)) (by decide) (by decide)))
  have F_count_a1 := F_count_a1.other Ww22 (Or.inr (slot_ne (Or.inl (own_w hw 127 rfl)) (Or.inl (own_w hw 111 rfl)) (by decide) (t := .int) (t' := (.array .byte)) (by decide) (by decide)))
  have S_COMPACT_STRINGS := S_COMPACT_STRINGS.wr Ww22
  have E_t1 := E_t1.wr Ww22
  have B_t1 := B_t1.other Ww22 (Ne.symm ne_a1_t1)
  refine own_st st22 ?_
  show OGo p e below s _ _ (T22.setTop (mkF m 17 #[.val (.ref a1), .val (.int (16 : Int32))] []))
  refine own_st (fun _ z => XS.aloadN X22.here hx rfl (hb hby d21_17) rfl rfl z) ?_
  show OGo p e below s _ _ (T22.setTop (mkF m 18 #[.val (.ref a1), .val (.int (16 : Int32))] [(.ref a1)]))
  refine own_st (fun _ z => XS.iconst X22.here hx rfl (hb hby d21_18) z) ?_
  show OGo p e below s _ _ (T22.setTop (mkF m 19 #[.val (.ref a1), .val (.int (16 : Int32))] [(.int (0 : Int32)), (.ref a1)]))
  obtain ⟨T23, hp23, X23, e23, Ww23, st23⟩ := putFN X22 hx hZ hown (own_w hw 112 rfl) Via.refl e22 F_coder_a1 E_a1 (Or.inl (own_w hw 113 rfl)) (own_w hw 97 rfl) (ty := .byte) (v' := (.int (0 : Int32))) (by decide) rfl (by decide) (g := (mkF m 19 #[.val (.ref a1), .val (.int (16 : Int32))] [(.int (0 : Int32)), (.ref a1)])) rfl rfl (hb hby d21_19)
  have Nf23 := Fr.snoc X23 Nf22 old_a1
  have Z0 := Nat.le_trans Z0 (Keep.of_wr Ww23).1
  have K0 := K0.wr Ww23 (Or.inl (List.mem_of_getElem? (i := 0) rfl))
  have E_a1 := E_a1.wr Ww23
  have F_value_a1 := F_value_a1.other Ww23 (Or.inr (slot_ne (Or.inl (own_w hw 111 rfl)) (Or.inl (own_w hw 113 rfl)) (by decide) (t := (.array .byte)) (t' := .byte) (by decide) (by decide)))
  have F_coder_a1 := F_coder_a1.same Ww23
  have F_count_a1 := F_count_a1.other Ww23 (Or.inr (slot_ne (Or.inl (own_w hw 127 rfl)) (Or.inl (own_w hw 113 rfl)) (by decide) (t := .int) (t' := .byte) (by decide) (by decide)))
  have S_COMPACT_STRINGS := S_COMPACT_STRINGS.wr Ww23
  have E_t1 := E_t1.wr Ww23
  have B_t1 := B_t1.other Ww23 (Ne.symm ne_a1_t1)
  refine own_st st23 ?_
  show OGo p e below s _ _ (T23.setTop (mkF m 22 #[.val (.ref a1), .val (.int (16 : Int32))] []))
  refine own_st (fun _ z => XS.goto X23.here hx rfl (pc0 := 22) (pc' := 38) rfl (hb hby d21_22) (by decide) (by decide) z) ?_
  show OGo p e below s _ _ (T23.setTop (mkF m 38 #[.val (.ref a1), .val (.int (16 : Int32))] []))
  exact own_retV X23 hx hlk hret (hb hby d21_38) (by decide) (by decide) (⟨t1, rfl, Nf23, (by rw [e23]; exact K0), fr_t1, (by rw [e23]; exact E_a1), (by rw [e23]; exact F_value_a1), (by rw [e23]; exact F_coder_a1), (by rw [e23]; exact F_count_a1), (by rw [e23]; exact E_t1), (by rw [e23]; exact B_t1)⟩)
theorem d20_0 : decode jdk_67_method_1_code 0 = .ok (.aload_n 0, 1) := by decide +kernel
theorem d20_1 : decode jdk_67_method_1_code 1 = .ok (.bipush 16, 2) := by decide +kernel
theorem d20_3 : decode jdk_67_method_1_code 3 = .ok (.invokespecial 1, 3) := by decide +kernel
theorem pd_5 : parseMethodDescriptor "(I)V" = some ⟨[.int], none⟩ := by decide +kernel
theorem d20_6 : decode jdk_67_method_1_code 6 = .ok (.return_, 1) := by decide +kernel
theorem pn_java_lang_StringBuilder : plainName "java/lang/StringBuilder" = true := by first | (simp [plainName, overriddenIn]; done) | decide +kernel
theorem ef_20_R (m : MethodId) (x0 : Addr) : entryFrame m #[(.ref x0)] 1 = mkF m 0 #[.val (.ref x0)] [] := by first | (simp [entryFrame, mkF, argsToLocals, Value.category]; done) | rfl
set_option maxRecDepth 65536 in
set_option maxHeartbeats 40000000 in
theorem b2_ (l : Launch) (Z : State) (a0 : Array Value) (hw : ∀ d ∈ tables_1, d.before a0 Z = true) (a1 : Addr) (cs : Int32) (h0 : Heap) (n0 : Nat) (Z0 : n0 ≤ h0.size) (old_a1 : n0 ≤ a1) (E_a1 : Exa Z h0 a1 "java/lang/StringBuilder") (F_value_a1 : Fld Z h0 a1 "java/lang/AbstractStringBuilder" "value" "[B" .null) (F_coder_a1 : Fld Z h0 a1 "java/lang/AbstractStringBuilder" "coder" "B" (.int (0 : Int32))) (F_count_a1 : Fld Z h0 a1 "java/lang/AbstractStringBuilder" "count" "I" (.int (0 : Int32))) (S_COMPACT_STRINGS : Sta Z h0 "java/lang/String" "COMPACT_STRINGS" "Z" (.int cs)) (hcs : ¬ cs = (0 : Int32)) :
    OMet l Z (⟨"java/lang/StringBuilder", "<init>", "()V"⟩ : MethodName) jdk_67_method_1_code 1 none [] ({ frames := 2, cells := 1, slots := 16, locals := 25 } : Room) #[(.ref a1)] h0 (fun v h' L => ∃ t1 : Addr, v = none ∧ Fr n0 L ∧ Keep h0 h' [a1] ∧ h0.size ≤ t1 ∧ Exa Z h' a1 "java/lang/StringBuilder" ∧ Fld Z h' a1 "java/lang/AbstractStringBuilder" "value" "[B" (.ref t1) ∧ Fld Z h' a1 "java/lang/AbstractStringBuilder" "coder" "B" (.int (0 : Int32)) ∧ Fld Z h' a1 "java/lang/AbstractStringBuilder" "count" "I" (.int (0 : Int32)) ∧ Exa Z h' t1 "[B" ∧ OBy Z h' t1 16) := by
  refine own_body (plainFor_of_name pn_java_lang_StringBuilder) (fun m => ef_20_R m a1) ?_
  intro p e s m below meth c T0 hx hby hml hown hnm hret hlk hZ X0 e0
  have hown : s.vm.findClass "java/lang/StringBuilder" = some m.cls := hown
  have hml : c.maxLocals = 1 := hml
  have N0 := Fr.nil n0
  have K0 := Keep.refl h0 [a1]
  show OGo p e below s _ _ (T0.setTop (mkF m 0 #[.val (.ref a1)] []))
  refine own_st (fun _ z => XS.aloadN X0.here hx rfl (hb hby d20_0) rfl rfl z) ?_
  show OGo p e below s _ _ (T0.setTop (mkF m 1 #[.val (.ref a1)] [(.ref a1)]))
  refine own_st (fun _ z => XS.bipush X0.here hx rfl (hb hby d20_1) z) ?_
  show OGo p e below s _ _ (T0.setTop (mkF m 3 #[.val (.ref a1)] [(.int (16 : Int32)), (.ref a1)]))
  obtain ⟨_, T24, Lc24, X24, hQ24, st24⟩ := own_callI X0 hx hZ (y := (⟨"java/lang/AbstractStringBuilder", "<init>", "(I)V"⟩ : MethodName)) (W := 0) rfl hown (own_w hw 102 rfl) (own_w hw 103 rfl) (own_w hw 107 rfl) (own_w hw 106 rfl) (by decide) (b1_ l Z a0 hw a1 cs h0 n0 Z0 old_a1 E_a1 F_value_a1 F_coder_a1 F_count_a1 S_COMPACT_STRINGS hcs) (by decide) (by decide) (a := a1) (g := (mkF m 3 #[.val (.ref a1)] [(.int (16 : Int32)), (.ref a1)])) rfl (by rw [hml]; rfl) (argsL := [(.int (16 : Int32))]) (rest := []) (lenOf pd_5 rfl) rfl (by show 2 * 0 + _ ≤ _; exact Nat.le_of_eq rfl) (hb hby d20_3) rfl e0 (by decide) (by decide)
  obtain ⟨t1, rfl, Nq24, Kq24, fq24_t1, q24_0, q24_1, q24_2, q24_3, q24_4, q24_5⟩ := hQ24
  have ne_a1_t1 : a1 ≠ t1 := Nat.ne_of_lt (Nat.lt_of_lt_of_le E_a1.lt fq24_t1)
  have old_t1 : n0 ≤ t1 := Nat.le_trans Z0 fq24_t1
  have fr_t1 : h0.size ≤ t1 := Nat.le_trans K0.1 fq24_t1
  have hpl_Kq24 : ∀ w ∈ [a1], ∃ c : Cell, h0[w]? = some c ∧ c.vm.isStatics = false := (allS (own_pl_exa E_a1) all0)
  have Z0 := Nat.le_trans Z0 Kq24.1
  have K0 := K0.trans Kq24 (allS (Or.inl (List.mem_of_getElem? (i := 0) rfl)) all0)
  have S_COMPACT_STRINGS := own_sta_keep S_COMPACT_STRINGS Kq24 hpl_Kq24
  have Nr24 := Fr.app N0 Nq24
  have E_a1 := q24_0
  have F_value_a1 := q24_1
  have F_coder_a1 := q24_2
  have F_count_a1 := q24_3
  have E_t1 := q24_4
  have B_t1 := q24_5
  refine own_st st24 ?_
  show OGo p e below s _ _ (T24.setTop (mkF m 6 #[.val (.ref a1)] []))
  exact own_retV X24 hx hlk hret (hb hby d20_6) (by decide) (by decide) (⟨t1, rfl, Nr24, K0, fr_t1, E_a1, F_value_a1, F_coder_a1, F_count_a1, E_t1, B_t1⟩)
theorem d30_0 : decode jdk_29_method_65_code 0 = .ok (.iload_n 0, 1) := by decide +kernel
theorem d30_1 : decode jdk_29_method_65_code 1 = .ok (.iload_n 1, 1) := by decide +kernel
theorem d30_2 : decode jdk_29_method_65_code 2 = .ok (.if_icmp .lt 7, 3) := by decide +kernel
theorem d30_9 : decode jdk_29_method_65_code 9 = .ok (.iload_n 1, 1) := by decide +kernel
theorem d30_10 : decode jdk_29_method_65_code 10 = .ok (.ireturn, 1) := by decide +kernel
theorem ef_30_II (m : MethodId) (x0 : Int32) (x1 : Int32) : entryFrame m #[(.int x0), (.int x1)] 2 = mkF m 0 #[.val (.int x0), .val (.int x1)] [] := by first | (simp [entryFrame, mkF, argsToLocals, Value.category]; done) | rfl
set_option maxRecDepth 65536 in
set_option maxHeartbeats 40000000 in
theorem m1_ (l : Launch) (Z : State) (a0 : Array Value) (hw : ∀ d ∈ tables_1, d.before a0 Z = true) (q1 : Int32) (q2 : Int32) (h0 : Heap) (hq : q1 < q2) :
    OPure l Z (⟨"java/lang/Math", "max", "(II)I"⟩ : MethodName) jdk_29_method_65_code 2 (some .int) [] ({ frames := 0, cells := 0, slots := 0, locals := 0 } : Room) #[(.int q1), (.int q2)] h0 (some (.int q2)) := by
  refine own_body (Jvm.Free.JP.mathPlain rfl (by decide +kernel)) (fun m => ef_30_II m q1 q2) ?_
  intro p e s m below meth c T0 hx hby hml hown hnm hret hlk hZ X0 e0
  have hown : s.vm.findClass "java/lang/Math" = some m.cls := hown
  have hml : c.maxLocals = 2 := hml
  show OGo p e below s _ _ (T0.setTop (mkF m 0 #[.val (.int q1), .val (.int q2)] []))
  refine own_st (fun _ z => XS.iloadN X0.here hx rfl (hb hby d30_0) rfl z) ?_
  show OGo p e below s _ _ (T0.setTop (mkF m 1 #[.val (.int q1), .val (.int q2)] [(.int q1)]))
  refine own_st (fun _ z => XS.iloadN X0.here hx rfl (hb hby d30_1) rfl z) ?_
  show OGo p e below s _ _ (T0.setTop (mkF m 2 #[.val (.int q1), .val (.int q2)] [(.int q2), (.int q1)]))
  refine own_st (fun _ z => XS.icmpYes X0.here hx rfl (pc0 := 2) (pc' := 9) rfl (hb hby d30_2) rfl (tlt (hq)).1 (by decide) (by decide) z) ?_
  show OGo p e below s _ _ (T0.setTop (mkF m 9 #[.val (.int q1), .val (.int q2)] []))
  refine own_st (fun _ z => XS.iloadN X0.here hx rfl (hb hby d30_9) rfl z) ?_
  show OGo p e below s _ _ (T0.setTop (mkF m 10 #[.val (.int q1), .val (.int q2)] [(.int q2)]))
  exact own_retI X0 hx hlk hret (hb hby d30_10) (by decide) (by decide) (⟨rfl, rfl, e0⟩)
theorem d32_0 : decode jdk_29_method_69_code 0 = .ok (.iload_n 0, 1) := by decide +kernel
theorem d32_1 : decode jdk_29_method_69_code 1 = .ok (.iload_n 1, 1) := by decide +kernel
theorem d32_2 : decode jdk_29_method_69_code 2 = .ok (.if_icmp .gt 7, 3) := by decide +kernel
theorem d32_5 : decode jdk_29_method_69_code 5 = .ok (.iload_n 0, 1) := by decide +kernel
theorem d32_6 : decode jdk_29_method_69_code 6 = .ok (.goto 4, 3) := by decide +kernel
theorem d32_10 : decode jdk_29_method_69_code 10 = .ok (.ireturn, 1) := by decide +kernel
theorem ef_32_II (m : MethodId) (x0 : Int32) (x1 : Int32) : entryFrame m #[(.int x0), (.int x1)] 2 = mkF m 0 #[.val (.int x0), .val (.int x1)] [] := by first | (simp [entryFrame, mkF, argsToLocals, Value.category]; done) | rfl
set_option maxRecDepth 65536 in
set_option maxHeartbeats 40000000 in
theorem m2_ (l : Launch) (Z : State) (a0 : Array Value) (hw : ∀ d ∈ tables_1, d.before a0 Z = true) (q1 : Int32) (q2 : Int32) (h0 : Heap) (hq : ¬ q2 < q1) :
    OPure l Z (⟨"java/lang/Math", "min", "(II)I"⟩ : MethodName) jdk_29_method_69_code 2 (some .int) [] ({ frames := 0, cells := 0, slots := 0, locals := 0 } : Room) #[(.int q1), (.int q2)] h0 (some (.int q1)) := by
  refine own_body (Jvm.Free.JP.mathPlain rfl (by decide +kernel)) (fun m => ef_32_II m q1 q2) ?_
  intro p e s m below meth c T0 hx hby hml hown hnm hret hlk hZ X0 e0
  have hown : s.vm.findClass "java/lang/Math" = some m.cls := hown
  have hml : c.maxLocals = 2 := hml
  show OGo p e below s _ _ (T0.setTop (mkF m 0 #[.val (.int q1), .val (.int q2)] []))
  refine own_st (fun _ z => XS.iloadN X0.here hx rfl (hb hby d32_0) rfl z) ?_
  show OGo p e below s _ _ (T0.setTop (mkF m 1 #[.val (.int q1), .val (.int q2)] [(.int q1)]))
  refine own_st (fun _ z => XS.iloadN X0.here hx rfl (hb hby d32_1) rfl z) ?_
  show OGo p e below s _ _ (T0.setTop (mkF m 2 #[.val (.int q1), .val (.int q2)] [(.int q2), (.int q1)]))
  refine own_st (fun _ z => XS.icmpNo X0.here hx rfl (hb hby d32_2) rfl (flt (hq)).2.2.1 z) ?_
  show OGo p e below s _ _ (T0.setTop (mkF m 5 #[.val (.int q1), .val (.int q2)] []))
  refine own_st (fun _ z => XS.iloadN X0.here hx rfl (hb hby d32_5) rfl z) ?_
  show OGo p e below s _ _ (T0.setTop (mkF m 6 #[.val (.int q1), .val (.int q2)] [(.int q1)]))
  refine own_st (fun _ z => XS.goto X0.here hx rfl (pc0 := 6) (pc' := 10) rfl (hb hby d32_6) (by decide) (by decide) z) ?_
  show OGo p e below s _ _ (T0.setTop (mkF m 10 #[.val (.int q1), .val (.int q2)] [(.int q1)]))
  exact own_retI X0 hx hlk hret (hb hby d32_10) (by decide) (by decide) (⟨rfl, rfl, e0⟩)
theorem d32_9 : decode jdk_29_method_69_code 9 = .ok (.iload_n 1, 1) := by decide +kernel
set_option maxRecDepth 65536 in
set_option maxHeartbeats 40000000 in
theorem m3_ (l : Launch) (Z : State) (a0 : Array Value) (hw : ∀ d ∈ tables_1, d.before a0 Z = true) (q1 : Int32) (q2 : Int32) (h0 : Heap) (hq : q2 < q1) :
    OPure l Z (⟨"java/lang/Math", "min", "(II)I"⟩ : MethodName) jdk_29_method_69_code 2 (some .int) [] ({ frames := 0, cells := 0, slots := 0, locals := 0 } : Room) #[(.int q1), (.int q2)] h0 (some (.int q2)) := by
  refine own_body (Jvm.Free.JP.mathPlain rfl (by decide +kernel)) (fun m => ef_32_II m q1 q2) ?_
  intro p e s m below meth c T0 hx hby hml hown hnm hret hlk hZ X0 e0
  have hown : s.vm.findClass "java/lang/Math" = some m.cls := hown
  have hml : c.maxLocals = 2 := hml
  show OGo p e below s _ _ (T0.setTop (mkF m 0 #[.val (.int q1), .val (.int q2)] []))
  refine own_st (fun _ z => XS.iloadN X0.here hx rfl (hb hby d32_0) rfl z) ?_
  show OGo p e below s _ _ (T0.setTop (mkF m 1 #[.val (.int q1), .val (.int q2)] [(.int q1)]))
  refine own_st (fun _ z => XS.iloadN X0.here hx rfl (hb hby d32_1) rfl z) ?_
  show OGo p e below s _ _ (T0.setTop (mkF m 2 #[.val (.int q1), .val (.int q2)] [(.int q2), (.int q1)]))
  refine own_st (fun _ z => XS.icmpYes X0.here hx rfl (pc0 := 2) (pc' := 9) rfl (hb hby d32_2) rfl (tlt (hq)).2.2.1 (by decide) (by decide) z) ?_
  show OGo p e below s _ _ (T0.setTop (mkF m 9 #[.val (.int q1), .val (.int q2)] []))
  refine own_st (fun _ z => XS.iloadN X0.here hx rfl (hb hby d32_9) rfl z) ?_
  show OGo p e below s _ _ (T0.setTop (mkF m 10 #[.val (.int q1), .val (.int q2)] [(.int q2)]))
  exact own_retI X0 hx hlk hret (hb hby d32_10) (by decide) (by decide) (⟨rfl, rfl, e0⟩)
theorem d29_0 : decode jdk_48_method_27_code 0 = .ok (.iload_n 0, 1) := by decide +kernel
theorem d29_1 : decode jdk_48_method_27_code 1 = .ok (.iload_n 1, 1) := by decide +kernel
theorem d29_2 : decode jdk_48_method_27_code 2 = .ok (.iload_n 2, 1) := by decide +kernel
theorem d29_3 : decode jdk_48_method_27_code 3 = .ok (.invokestatic 194, 3) := by decide +kernel
theorem pd_6 : parseMethodDescriptor "(II)I" = some ⟨[.int, .int], some .int⟩ := by decide +kernel
theorem d29_6 : decode jdk_48_method_27_code 6 = .ok (.iadd, 1) := by decide +kernel
theorem d29_7 : decode jdk_48_method_27_code 7 = .ok (.istore_n 3, 1) := by decide +kernel
theorem d29_8 : decode jdk_48_method_27_code 8 = .ok (.iconst 0, 1) := by decide +kernel
theorem d29_9 : decode jdk_48_method_27_code 9 = .ok (.iload_n 3, 1) := by decide +kernel
theorem d29_10 : decode jdk_48_method_27_code 10 = .ok (.if_icmp .ge 11, 3) := by decide +kernel
theorem d29_13 : decode jdk_48_method_27_code 13 = .ok (.iload_n 3, 1) := by decide +kernel
theorem d29_14 : decode jdk_48_method_27_code 14 = .ok (.ldc 200, 2) := by decide +kernel
theorem d29_16 : decode jdk_48_method_27_code 16 = .ok (.if_icmp .gt 5, 3) := by decide +kernel
theorem d29_19 : decode jdk_48_method_27_code 19 = .ok (.iload_n 3, 1) := by decide +kernel
theorem d29_20 : decode jdk_48_method_27_code 20 = .ok (.ireturn, 1) := by decide +kernel
theorem pn_jdk_internal_util_ArraysSupport : plainName "jdk/internal/util/ArraysSupport" = true := by first | (simp [plainName, overriddenIn]; done) | decide +kernel
theorem ef_29_III (m : MethodId) (x0 : Int32) (x1 : Int32) (x2 : Int32) : entryFrame m #[(.int x0), (.int x1), (.int x2)] 4 = mkF m 0 #[.val (.int x0), .val (.int x1), .val (.int x2), .unset] [] := by first | (simp [entryFrame, mkF, argsToLocals, Value.category]; done) | rfl
set_option maxRecDepth 65536 in
set_option maxHeartbeats 40000000 in
theorem c1_ (l : Launch) (Z : State) (a0 : Array Value) (hw : ∀ d ∈ tables_1, d.before a0 Z = true) (q2 : Int32) (h0 : Heap) (hq : q2 < (18 : Int32)) :
    OPure l Z (⟨"jdk/internal/util/ArraysSupport", "newLength", "(III)I"⟩ : MethodName) jdk_48_method_27_code 4 (some .int) [] ({ frames := 1, cells := 0, slots := 0, locals := 14 } : Room) #[(.int (16 : Int32)), (.int q2), (.int (18 : Int32))] h0 (some (.int (34 : Int32))) := by
  refine own_body (plainFor_of_name pn_jdk_internal_util_ArraysSupport) (fun m => ef_29_III m (16 : Int32) q2 (18 : Int32)) ?_
  intro p e s m below meth c T0 hx hby hml hown hnm hret hlk hZ X0 e0
  have hown : s.vm.findClass "jdk/internal/util/ArraysSupport" = some m.cls := hown
  have hml : c.maxLocals = 4 := hml
  show OGo p e below s _ _ (T0.setTop (mkF m 0 #[.val (.int (16 : Int32)), .val (.int q2), .val (.int (18 : Int32)), .unset] []))
  refine own_st (fun _ z => XS.iloadN X0.here hx rfl (hb hby d29_0) rfl z) ?_
  show OGo p e below s _ _ (T0.setTop (mkF m 1 #[.val (.int (16 : Int32)), .val (.int q2), .val (.int (18 : Int32)), .unset] [(.int (16 : Int32))]))
  refine own_st (fun _ z => XS.iloadN X0.here hx rfl (hb hby d29_1) rfl z) ?_
  show OGo p e below s _ _ (T0.setTop (mkF m 2 #[.val (.int (16 : Int32)), .val (.int q2), .val (.int (18 : Int32)), .unset] [(.int q2), (.int (16 : Int32))]))
  refine own_st (fun _ z => XS.iloadN X0.here hx rfl (hb hby d29_2) rfl z) ?_
  show OGo p e below s _ _ (T0.setTop (mkF m 3 #[.val (.int (16 : Int32)), .val (.int q2), .val (.int (18 : Int32)), .unset] [(.int (18 : Int32)), (.int q2), (.int (16 : Int32))]))
  obtain ⟨T25, X25, e25, st25⟩ := own_callSP X0 hx hZ (y := (⟨"java/lang/Math", "max", "(II)I"⟩ : MethodName)) (W := 1) hown (own_w hw 163 rfl) (own_w hw 164 rfl) (own_w hw 165 rfl) (own_w hw 166 rfl) (by decide) (m1_ l Z a0 hw q2 (18 : Int32) h0 hq) (by decide) (by decide) (g := (mkF m 3 #[.val (.int (16 : Int32)), .val (.int q2), .val (.int (18 : Int32)), .unset] [(.int (18 : Int32)), (.int q2), (.int (16 : Int32))])) rfl (by rw [hml]; rfl) (argsL := [(.int q2), (.int (18 : Int32))]) (rest := [(.int (16 : Int32))]) (lenOf pd_6 rfl) rfl (by show 2 * 0 + _ ≤ _; exact Nat.le_of_eq rfl) (hb hby d29_3) rfl e0 (by decide) (by decide)
  refine own_st st25 ?_
  show OGo p e below s _ _ (T25.setTop (mkF m 6 #[.val (.int (16 : Int32)), .val (.int q2), .val (.int (18 : Int32)), .unset] [(.int (18 : Int32)), (.int (16 : Int32))]))
  refine own_st (fun _ z => XS.iadd X25.here hx rfl (hb hby d29_6) rfl z) ?_
  show OGo p e below s _ _ (T25.setTop (mkF m 7 #[.val (.int (16 : Int32)), .val (.int q2), .val (.int (18 : Int32)), .unset] [(.int ((16 : Int32) + (18 : Int32)))]))
  rw [show (16 : Int32) + (18 : Int32) = (34 : Int32) from by decide]
  refine own_st (fun _ z => XS.istoreN X25.here hx rfl (hb hby d29_7) rfl (l' := #[.val (.int (16 : Int32)), .val (.int q2), .val (.int (18 : Int32)), .val (.int (34 : Int32))]) rfl z) ?_
  show OGo p e below s _ _ (T25.setTop (mkF m 8 #[.val (.int (16 : Int32)), .val (.int q2), .val (.int (18 : Int32)), .val (.int (34 : Int32))] []))
  refine own_st (fun _ z => XS.iconst X25.here hx rfl (hb hby d29_8) z) ?_
  show OGo p e below s _ _ (T25.setTop (mkF m 9 #[.val (.int (16 : Int32)), .val (.int q2), .val (.int (18 : Int32)), .val (.int (34 : Int32))] [(.int (0 : Int32))]))
  refine own_st (fun _ z => XS.iloadN X25.here hx rfl (hb hby d29_9) rfl z) ?_
  show OGo p e below s _ _ (T25.setTop (mkF m 10 #[.val (.int (16 : Int32)), .val (.int q2), .val (.int (18 : Int32)), .val (.int (34 : Int32))] [(.int (34 : Int32)), (.int (0 : Int32))]))
  refine own_st (fun _ z => XS.icmpNo X25.here hx rfl (hb hby d29_10) rfl (tlt ((by decide : (0 : Int32) < (34 : Int32)))).2.1 z) ?_
  show OGo p e below s _ _ (T25.setTop (mkF m 13 #[.val (.int (16 : Int32)), .val (.int q2), .val (.int (18 : Int32)), .val (.int (34 : Int32))] []))
  refine own_st (fun _ z => XS.iloadN X25.here hx rfl (hb hby d29_13) rfl z) ?_
  show OGo p e below s _ _ (T25.setTop (mkF m 14 #[.val (.int (16 : Int32)), .val (.int q2), .val (.int (18 : Int32)), .val (.int (34 : Int32))] [(.int (34 : Int32))]))
  refine own_st (X25.ldcInt hx hown (mvT hZ (own_w hw 167 rfl)) (g := (mkF m 14 #[.val (.int (16 : Int32)), .val (.int q2), .val (.int (18 : Int32)), .val (.int (34 : Int32))] [(.int (34 : Int32))])) rfl (hb hby d29_14)) ?_
  show OGo p e below s _ _ (T25.setTop (mkF m 16 #[.val (.int (16 : Int32)), .val (.int q2), .val (.int (18 : Int32)), .val (.int (34 : Int32))] [(.int (2147483639 : Int32)), (.int (34 : Int32))]))
  refine own_st (fun _ z => XS.icmpNo X25.here hx rfl (hb hby d29_16) rfl (flt ((by decide : ¬ (2147483639 : Int32) < (34 : Int32)))).2.2.1 z) ?_
  show OGo p e below s _ _ (T25.setTop (mkF m 19 #[.val (.int (16 : Int32)), .val (.int q2), .val (.int (18 : Int32)), .val (.int (34 : Int32))] []))
  refine own_st (fun _ z => XS.iloadN X25.here hx rfl (hb hby d29_19) rfl z) ?_
  show OGo p e below s _ _ (T25.setTop (mkF m 20 #[.val (.int (16 : Int32)), .val (.int q2), .val (.int (18 : Int32)), .val (.int (34 : Int32))] [(.int (34 : Int32))]))
  exact own_retI X25 hx hlk hret (hb hby d29_20) (by decide) (by decide) (⟨rfl, rfl, e25⟩)
theorem d28_0 : decode jdk_68_method_10_code 0 = .ok (.aload_n 0, 1) := by decide +kernel
theorem d28_1 : decode jdk_68_method_10_code 1 = .ok (.getfield 15, 3) := by decide +kernel
theorem d28_4 : decode jdk_68_method_10_code 4 = .ok (.arraylength, 1) := by decide +kernel
theorem d28_5 : decode jdk_68_method_10_code 5 = .ok (.istore_n 2, 1) := by decide +kernel
theorem d28_6 : decode jdk_68_method_10_code 6 = .ok (.iload_n 1, 1) := by decide +kernel
theorem d28_7 : decode jdk_68_method_10_code 7 = .ok (.aload_n 0, 1) := by decide +kernel
theorem d28_8 : decode jdk_68_method_10_code 8 = .ok (.getfield 22, 3) := by decide +kernel
theorem d28_11 : decode jdk_68_method_10_code 11 = .ok (.ishl, 1) := by decide +kernel
theorem d28_12 : decode jdk_68_method_10_code 12 = .ok (.istore_n 3, 1) := by decide +kernel
theorem d28_13 : decode jdk_68_method_10_code 13 = .ok (.iload_n 3, 1) := by decide +kernel
theorem d28_14 : decode jdk_68_method_10_code 14 = .ok (.iload_n 2, 1) := by decide +kernel
theorem d28_15 : decode jdk_68_method_10_code 15 = .ok (.isub, 1) := by decide +kernel
theorem d28_16 : decode jdk_68_method_10_code 16 = .ok (.istore 4, 2) := by decide +kernel
theorem d28_18 : decode jdk_68_method_10_code 18 = .ok (.iload_n 2, 1) := by decide +kernel
theorem d28_19 : decode jdk_68_method_10_code 19 = .ok (.iload 4, 2) := by decide +kernel
theorem d28_21 : decode jdk_68_method_10_code 21 = .ok (.iload_n 2, 1) := by decide +kernel
theorem d28_22 : decode jdk_68_method_10_code 22 = .ok (.iconst 2, 1) := by decide +kernel
theorem d28_23 : decode jdk_68_method_10_code 23 = .ok (.aload_n 0, 1) := by decide +kernel
theorem d28_24 : decode jdk_68_method_10_code 24 = .ok (.getfield 22, 3) := by decide +kernel
theorem d28_27 : decode jdk_68_method_10_code 27 = .ok (.ishl, 1) := by decide +kernel
theorem d28_28 : decode jdk_68_method_10_code 28 = .ok (.iadd, 1) := by decide +kernel
theorem pd_7 : parseMethodDescriptor "(III)I" = some ⟨[.int, .int, .int], some .int⟩ := by decide +kernel
theorem d28_29 : decode jdk_68_method_10_code 29 = .ok (.invokestatic 114, 3) := by decide +kernel
theorem d28_32 : decode jdk_68_method_10_code 32 = .ok (.istore 5, 2) := by decide +kernel
theorem d28_34 : decode jdk_68_method_10_code 34 = .ok (.iload 5, 2) := by decide +kernel
theorem d28_36 : decode jdk_68_method_10_code 36 = .ok (.ldc 39, 2) := by decide +kernel
theorem d28_38 : decode jdk_68_method_10_code 38 = .ok (.if_icmp .ne 13, 3) := by decide +kernel
theorem d28_51 : decode jdk_68_method_10_code 51 = .ok (.iload 5, 2) := by decide +kernel
theorem d28_53 : decode jdk_68_method_10_code 53 = .ok (.aload_n 0, 1) := by decide +kernel
theorem d28_54 : decode jdk_68_method_10_code 54 = .ok (.getfield 22, 3) := by decide +kernel
theorem d28_57 : decode jdk_68_method_10_code 57 = .ok (.ishr, 1) := by decide +kernel
theorem d28_58 : decode jdk_68_method_10_code 58 = .ok (.ireturn, 1) := by decide +kernel
theorem ef_28_RI (m : MethodId) (x0 : Addr) (x1 : Int32) : entryFrame m #[(.ref x0), (.int x1)] 6 = mkF m 0 #[.val (.ref x0), .val (.int x1), .unset, .unset, .unset, .unset] [] := by first | (simp [entryFrame, mkF, argsToLocals, Value.category]; done) | rfl
set_option maxRecDepth 65536 in
set_option maxHeartbeats 40000000 in
theorem c2_ (l : Launch) (Z : State) (a0 : Array Value) (hw : ∀ d ∈ tables_1, d.before a0 Z = true) (a1 : Addr) (k : Nat) (t1 : Addr) (h0 : Heap) (F_value_a1 : Fld Z h0 a1 "java/lang/AbstractStringBuilder" "value" "[B" (.ref t1)) (F_coder_a1 : Fld Z h0 a1 "java/lang/AbstractStringBuilder" "coder" "B" (.int (0 : Int32))) (B_t1 : OBy Z h0 t1 16) (hk2 : k < 34) :
    OPure l Z (⟨"java/lang/AbstractStringBuilder", "newCapacity", "(I)I"⟩ : MethodName) jdk_68_method_10_code 6 (some .int) [] ({ frames := 2, cells := 0, slots := 0, locals := 29 } : Room) #[(.ref a1), (.int (Int32.ofNat k))] h0 (some (.int (34 : Int32))) := by
  refine own_body (plainFor_of_name pn_java_lang_AbstractStringBuilder) (fun m => ef_28_RI m a1 (Int32.ofNat k)) ?_
  intro p e s m below meth c T0 hx hby hml hown hnm hret hlk hZ X0 e0
  have hown : s.vm.findClass "java/lang/AbstractStringBuilder" = some m.cls := hown
  have hml : c.maxLocals = 6 := hml
  show OGo p e below s _ _ (T0.setTop (mkF m 0 #[.val (.ref a1), .val (.int (Int32.ofNat k)), .unset, .unset, .unset, .unset] []))
  refine own_st (fun _ z => XS.aloadN X0.here hx rfl (hb hby d28_0) rfl rfl z) ?_
  show OGo p e below s _ _ (T0.setTop (mkF m 1 #[.val (.ref a1), .val (.int (Int32.ofNat k)), .unset, .unset, .unset, .unset] [(.ref a1)]))
  obtain ⟨T26, X26, e26, st26⟩ := getF X0 hx hZ hown (host := "") (Or.inl (own_w hw 110 rfl)) Via.refl e0 F_value_a1 (g := (mkF m 1 #[.val (.ref a1), .val (.int (Int32.ofNat k)), .unset, .unset, .unset, .unset] [(.ref a1)])) rfl rfl (hb hby d28_1)
  refine own_st st26 ?_
  show OGo p e below s _ _ (T26.setTop (mkF m 4 #[.val (.ref a1), .val (.int (Int32.ofNat k)), .unset, .unset, .unset, .unset] [(.ref t1)]))
  obtain ⟨cl27, Ar27, Sz27, -⟩ := id B_t1
  refine own_st (X26.arraylength hx (by rw [e26]; exact Ar27.1) (State.isArrayOf_alike hZ.alike Ar27.2.1) (g := (mkF m 4 #[.val (.ref a1), .val (.int (Int32.ofNat k)), .unset, .unset, .unset, .unset] [(.ref t1)])) rfl rfl (hb hby d28_4)) ?_
  rw [Sz27, (by decide : Nat.toInt32 16 = (16 : Int32))]
  show OGo p e below s _ _ (T26.setTop (mkF m 5 #[.val (.ref a1), .val (.int (Int32.ofNat k)), .unset, .unset, .unset, .unset] [(.int (16 : Int32))]))
  refine own_st (fun _ z => XS.istoreN X26.here hx rfl (hb hby d28_5) rfl (l' := #[.val (.ref a1), .val (.int (Int32.ofNat k)), .val (.int (16 : Int32)), .unset, .unset, .unset]) rfl z) ?_
  show OGo p e below s _ _ (T26.setTop (mkF m 6 #[.val (.ref a1), .val (.int (Int32.ofNat k)), .val (.int (16 : Int32)), .unset, .unset, .unset] []))
  refine own_st (fun _ z => XS.iloadN X26.here hx rfl (hb hby d28_6) rfl z) ?_
  show OGo p e below s _ _ (T26.setTop (mkF m 7 #[.val (.ref a1), .val (.int (Int32.ofNat k)), .val (.int (16 : Int32)), .unset, .unset, .unset] [(.int (Int32.ofNat k))]))
  refine own_st (fun _ z => XS.aloadN X26.here hx rfl (hb hby d28_7) rfl rfl z) ?_
  show OGo p e below s _ _ (T26.setTop (mkF m 8 #[.val (.ref a1), .val (.int (Int32.ofNat k)), .val (.int (16 : Int32)), .unset, .unset, .unset] [(.ref a1), (.int (Int32.ofNat k))]))
  obtain ⟨T28, X28, e28, st28⟩ := getF X26 hx hZ hown (host := "") (Or.inl (own_w hw 112 rfl)) Via.refl e26 F_coder_a1 (g := (mkF m 8 #[.val (.ref a1), .val (.int (Int32.ofNat k)), .val (.int (16 : Int32)), .unset, .unset, .unset] [(.ref a1), (.int (Int32.ofNat k))])) rfl rfl (hb hby d28_8)
  refine own_st st28 ?_
  show OGo p e below s _ _ (T28.setTop (mkF m 11 #[.val (.ref a1), .val (.int (Int32.ofNat k)), .val (.int (16 : Int32)), .unset, .unset, .unset] [(.int (0 : Int32)), (.int (Int32.ofNat k))]))
  refine own_st (fun _ z => XS.ishl X28.here hx rfl (hb hby d28_11) rfl z) ?_
  show OGo p e below s _ _ (T28.setTop (mkF m 12 #[.val (.ref a1), .val (.int (Int32.ofNat k)), .val (.int (16 : Int32)), .unset, .unset, .unset] [(.int ((Int32.ofNat k) <<< ((0 : Int32) &&& 31)))]))
  rw [own_shl0]
  refine own_st (fun _ z => XS.istoreN X28.here hx rfl (hb hby d28_12) rfl (l' := #[.val (.ref a1), .val (.int (Int32.ofNat k)), .val (.int (16 : Int32)), .val (.int (Int32.ofNat k)), .unset, .unset]) rfl z) ?_
  show OGo p e below s _ _ (T28.setTop (mkF m 13 #[.val (.ref a1), .val (.int (Int32.ofNat k)), .val (.int (16 : Int32)), .val (.int (Int32.ofNat k)), .unset, .unset] []))
  refine own_st (fun _ z => XS.iloadN X28.here hx rfl (hb hby d28_13) rfl z) ?_
  show OGo p e below s _ _ (T28.setTop (mkF m 14 #[.val (.ref a1), .val (.int (Int32.ofNat k)), .val (.int (16 : Int32)), .val (.int (Int32.ofNat k)), .unset, .unset] [(.int (Int32.ofNat k))]))
  refine own_st (fun _ z => XS.iloadN X28.here hx rfl (hb hby d28_14) rfl z) ?_
  show OGo p e below s _ _ (T28.setTop (mkF m 15 #[.val (.ref a1), .val (.int (Int32.ofNat k)), .val (.int (16 : Int32)), .val (.int (Int32.ofNat k)), .unset, .unset] [(.int (16 : Int32)), (.int (Int32.ofNat k))]))
  refine own_st (fun _ z => XS.isub X28.here hx rfl (hb hby d28_15) rfl z) ?_
  show OGo p e below s _ _ (T28.setTop (mkF m 16 #[.val (.ref a1), .val (.int (Int32.ofNat k)), .val (.int (16 : Int32)), .val (.int (Int32.ofNat k)), .unset, .unset] [(.int ((Int32.ofNat k) - (16 : Int32)))]))
  obtain ⟨gg, hgg⟩ : ∃ z, z = ((Int32.ofNat k) - (16 : Int32)) := ⟨_, rfl⟩
  rw [← hgg]
  refine own_st (fun _ z => XS.istore X28.here hx rfl (hb hby d28_16) rfl (l' := #[.val (.ref a1), .val (.int (Int32.ofNat k)), .val (.int (16 : Int32)), .val (.int (Int32.ofNat k)), .val (.int gg), .unset]) rfl z) ?_
  show OGo p e below s _ _ (T28.setTop (mkF m 18 #[.val (.ref a1), .val (.int (Int32.ofNat k)), .val (.int (16 : Int32)), .val (.int (Int32.ofNat k)), .val (.int gg), .unset] []))
  refine own_st (fun _ z => XS.iloadN X28.here hx rfl (hb hby d28_18) rfl z) ?_
  show OGo p e below s _ _ (T28.setTop (mkF m 19 #[.val (.ref a1), .val (.int (Int32.ofNat k)), .val (.int (16 : Int32)), .val (.int (Int32.ofNat k)), .val (.int gg), .unset] [(.int (16 : Int32))]))
  refine own_st (fun _ z => XS.iload X28.here hx rfl (hb hby d28_19) rfl z) ?_
  show OGo p e below s _ _ (T28.setTop (mkF m 21 #[.val (.ref a1), .val (.int (Int32.ofNat k)), .val (.int (16 : Int32)), .val (.int (Int32.ofNat k)), .val (.int gg), .unset] [(.int gg), (.int (16 : Int32))]))
  refine own_st (fun _ z => XS.iloadN X28.here hx rfl (hb hby d28_21) rfl z) ?_
  show OGo p e below s _ _ (T28.setTop (mkF m 22 #[.val (.ref a1), .val (.int (Int32.ofNat k)), .val (.int (16 : Int32)), .val (.int (Int32.ofNat k)), .val (.int gg), .unset] [(.int (16 : Int32)), (.int gg), (.int (16 : Int32))]))
  refine own_st (fun _ z => XS.iconst X28.here hx rfl (hb hby d28_22) z) ?_
  show OGo p e below s _ _ (T28.setTop (mkF m 23 #[.val (.ref a1), .val (.int (Int32.ofNat k)), .val (.int (16 : Int32)), .val (.int (Int32.ofNat k)), .val (.int gg), .unset] [(.int (2 : Int32)), (.int (16 : Int32)), (.int gg), (.int (16 : Int32))]))
  refine own_st (fun _ z => XS.aloadN X28.here hx rfl (hb hby d28_23) rfl rfl z) ?_
  show OGo p e below s _ _ (T28.setTop (mkF m 24 #[.val (.ref a1), .val (.int (Int32.ofNat k)), .val (.int (16 : Int32)), .val (.int (Int32.ofNat k)), .val (.int gg), .unset] [(.ref a1), (.int (2 : Int32)), (.int (16 : Int32)), (.int gg), (.int (16 : Int32))]))
  obtain ⟨T29, X29, e29, st29⟩ := getF X28 hx hZ hown (host := "") (Or.inl (own_w hw 112 rfl)) Via.refl e28 F_coder_a1 (g := (mkF m 24 #[.val (.ref a1), .val (.int (Int32.ofNat k)), .val (.int (16 : Int32)), .val (.int (Int32.ofNat k)), .val (.int gg), .unset] [(.ref a1), (.int (2 : Int32)), (.int (16 : Int32)), (.int gg), (.int (16 : Int32))])) rfl rfl (hb hby d28_24)
  refine own_st st29 ?_
  show OGo p e below s _ _ (T29.setTop (mkF m 27 #[.val (.ref a1), .val (.int (Int32.ofNat k)), .val (.int (16 : Int32)), .val (.int (Int32.ofNat k)), .val (.int gg), .unset] [(.int (0 : Int32)), (.int (2 : Int32)), (.int (16 : Int32)), (.int gg), (.int (16 : Int32))]))
  refine own_st (fun _ z => XS.ishl X29.here hx rfl (hb hby d28_27) rfl z) ?_
  show OGo p e below s _ _ (T29.setTop (mkF m 28 #[.val (.ref a1), .val (.int (Int32.ofNat k)), .val (.int (16 : Int32)), .val (.int (Int32.ofNat k)), .val (.int gg), .unset] [(.int ((2 : Int32) <<< ((0 : Int32) &&& 31))), (.int (16 : Int32)), (.int gg), (.int (16 : Int32))]))
  rw [show (2 : Int32) <<< ((0 : Int32) &&& 31) = (2 : Int32) from by decide]
  refine own_st (fun _ z => XS.iadd X29.here hx rfl (hb hby d28_28) rfl z) ?_
  show OGo p e below s _ _ (T29.setTop (mkF m 29 #[.val (.ref a1), .val (.int (Int32.ofNat k)), .val (.int (16 : Int32)), .val (.int (Int32.ofNat k)), .val (.int gg), .unset] [(.int ((16 : Int32) + (2 : Int32))), (.int gg), (.int (16 : Int32))]))
  rw [show (16 : Int32) + (2 : Int32) = (18 : Int32) from by decide]
  obtain ⟨T30, X30, e30, st30⟩ := own_callSP X29 hx hZ (y := (⟨"jdk/internal/util/ArraysSupport", "newLength", "(III)I"⟩ : MethodName)) (W := 0) hown (own_w hw 159 rfl) (own_w hw 160 rfl) (own_w hw 161 rfl) (own_w hw 162 rfl) (by decide) (c1_ l Z a0 hw gg h0 (by rw [hgg]; exact own_sub16 hk2)) (by decide) (by decide) (g := (mkF m 29 #[.val (.ref a1), .val (.int (Int32.ofNat k)), .val (.int (16 : Int32)), .val (.int (Int32.ofNat k)), .val (.int gg), .unset] [(.int (18 : Int32)), (.int gg), (.int (16 : Int32))])) rfl (by rw [hml]; rfl) (argsL := [(.int (16 : Int32)), (.int gg), (.int (18 : Int32))]) (rest := []) (lenOf pd_7 rfl) rfl (by show 2 * 0 + _ ≤ _; exact Nat.le_of_eq rfl) (hb hby d28_29) rfl e29 (by decide) (by decide)
  refine own_st st30 ?_
  show OGo p e below s _ _ (T30.setTop (mkF m 32 #[.val (.ref a1), .val (.int (Int32.ofNat k)), .val (.int (16 : Int32)), .val (.int (Int32.ofNat k)), .val (.int gg), .unset] [(.int (34 : Int32))]))
  refine own_st (fun _ z => XS.istore X30.here hx rfl (hb hby d28_32) rfl (l' := #[.val (.ref a1), .val (.int (Int32.ofNat k)), .val (.int (16 : Int32)), .val (.int (Int32.ofNat k)), .val (.int gg), .val (.int (34 : Int32))]) rfl z) ?_
  show OGo p e below s _ _ (T30.setTop (mkF m 34 #[.val (.ref a1), .val (.int (Int32.ofNat k)), .val (.int (16 : Int32)), .val (.int (Int32.ofNat k)), .val (.int gg), .val (.int (34 : Int32))] []))
  refine own_st (fun _ z => XS.iload X30.here hx rfl (hb hby d28_34) rfl z) ?_
  show OGo p e below s _ _ (T30.setTop (mkF m 36 #[.val (.ref a1), .val (.int (Int32.ofNat k)), .val (.int (16 : Int32)), .val (.int (Int32.ofNat k)), .val (.int gg), .val (.int (34 : Int32))] [(.int (34 : Int32))]))
  refine own_st (X30.ldcInt hx hown (mvT hZ (own_w hw 168 rfl)) (g := (mkF m 36 #[.val (.ref a1), .val (.int (Int32.ofNat k)), .val (.int (16 : Int32)), .val (.int (Int32.ofNat k)), .val (.int gg), .val (.int (34 : Int32))] [(.int (34 : Int32))])) rfl (hb hby d28_36)) ?_
  show OGo p e below s _ _ (T30.setTop (mkF m 38 #[.val (.ref a1), .val (.int (Int32.ofNat k)), .val (.int (16 : Int32)), .val (.int (Int32.ofNat k)), .val (.int gg), .val (.int (34 : Int32))] [(.int (2147483647 : Int32)), (.int (34 : Int32))]))
  refine own_st (fun _ z => XS.icmpYes X30.here hx rfl (pc0 := 38) (pc' := 51) rfl (hb hby d28_38) rfl (feq ((by decide : ¬ (34 : Int32) = (2147483647 : Int32)))).2 (by decide) (by decide) z) ?_
  show OGo p e below s _ _ (T30.setTop (mkF m 51 #[.val (.ref a1), .val (.int (Int32.ofNat k)), .val (.int (16 : Int32)), .val (.int (Int32.ofNat k)), .val (.int gg), .val (.int (34 : Int32))] []))
  refine own_st (fun _ z => XS.iload X30.here hx rfl (hb hby d28_51) rfl z) ?_
  show OGo p e below s _ _ (T30.setTop (mkF m 53 #[.val (.ref a1), .val (.int (Int32.ofNat k)), .val (.int (16 : Int32)), .val (.int (Int32.ofNat k)), .val (.int gg), .val (.int (34 : Int32))] [(.int (34 : Int32))]))
  refine own_st (fun _ z => XS.aloadN X30.here hx rfl (hb hby d28_53) rfl rfl z) ?_
  show OGo p e below s _ _ (T30.setTop (mkF m 54 #[.val (.ref a1), .val (.int (Int32.ofNat k)), .val (.int (16 : Int32)), .val (.int (Int32.ofNat k)), .val (.int gg), .val (.int (34 : Int32))] [(.ref a1), (.int (34 : Int32))]))
  obtain ⟨T31, X31, e31, st31⟩ := getF X30 hx hZ hown (host := "") (Or.inl (own_w hw 112 rfl)) Via.refl e30 F_coder_a1 (g := (mkF m 54 #[.val (.ref a1), .val (.int (Int32.ofNat k)), .val (.int (16 : Int32)), .val (.int (Int32.ofNat k)), .val (.int gg), .val (.int (34 : Int32))] [(.ref a1), (.int (34 : Int32))])) rfl rfl (hb hby d28_54)
  refine own_st st31 ?_
  show OGo p e below s _ _ (T31.setTop (mkF m 57 #[.val (.ref a1), .val (.int (Int32.ofNat k)), .val (.int (16 : Int32)), .val (.int (Int32.ofNat k)), .val (.int gg), .val (.int (34 : Int32))] [(.int (0 : Int32)), (.int (34 : Int32))]))
  refine own_st (fun _ z => XS.ishr X31.here hx rfl (hb hby d28_57) rfl z) ?_
  show OGo p e below s _ _ (T31.setTop (mkF m 58 #[.val (.ref a1), .val (.int (Int32.ofNat k)), .val (.int (16 : Int32)), .val (.int (Int32.ofNat k)), .val (.int gg), .val (.int (34 : Int32))] [(.int ((34 : Int32) >>> ((0 : Int32) &&& 31)))]))
  rw [own_shr0]
  exact own_retI X31 hx hlk hret (hb hby d28_58) (by decide) (by decide) (⟨rfl, rfl, e31⟩)
theorem d31_0 : decode jdk_65_method_121_code 0 = .ok (.iload_n 1, 1) := by decide +kernel
theorem d31_1 : decode jdk_65_method_121_code 1 = .ok (.aload_n 0, 1) := by decide +kernel
theorem d31_2 : decode jdk_65_method_121_code 2 = .ok (.arraylength, 1) := by decide +kernel
theorem d31_3 : decode jdk_65_method_121_code 3 = .ok (.if_icmp .ne 11, 3) := by decide +kernel
theorem d31_14 : decode jdk_65_method_121_code 14 = .ok (.iload_n 1, 1) := by decide +kernel
theorem d31_15 : decode jdk_65_method_121_code 15 = .ok (.newarray .byte, 2) := by decide +kernel
theorem d31_17 : decode jdk_65_method_121_code 17 = .ok (.astore_n 2, 1) := by decide +kernel
theorem d31_18 : decode jdk_65_method_121_code 18 = .ok (.aload_n 0, 1) := by decide +kernel
theorem d31_19 : decode jdk_65_method_121_code 19 = .ok (.iconst 0, 1) := by decide +kernel
theorem d31_20 : decode jdk_65_method_121_code 20 = .ok (.aload_n 2, 1) := by decide +kernel
theorem d31_21 : decode jdk_65_method_121_code 21 = .ok (.iconst 0, 1) := by decide +kernel
theorem d31_22 : decode jdk_65_method_121_code 22 = .ok (.aload_n 0, 1) := by decide +kernel
theorem d31_23 : decode jdk_65_method_121_code 23 = .ok (.arraylength, 1) := by decide +kernel
theorem d31_24 : decode jdk_65_method_121_code 24 = .ok (.iload_n 1, 1) := by decide +kernel
theorem d31_25 : decode jdk_65_method_121_code 25 = .ok (.invokestatic 304, 3) := by decide +kernel
theorem d31_28 : decode jdk_65_method_121_code 28 = .ok (.invokestatic 150, 3) := by decide +kernel
theorem d31_31 : decode jdk_65_method_121_code 31 = .ok (.aload_n 2, 1) := by decide +kernel
theorem d31_32 : decode jdk_65_method_121_code 32 = .ok (.areturn, 1) := by decide +kernel
theorem pn_java_util_Arrays : plainName "java/util/Arrays" = true := by first | (simp [plainName, overriddenIn]; done) | decide +kernel
theorem ef_31_RI (m : MethodId) (x0 : Addr) (x1 : Int32) : entryFrame m #[(.ref x0), (.int x1)] 3 = mkF m 0 #[.val (.ref x0), .val (.int x1), .unset] [] := by first | (simp [entryFrame, mkF, argsToLocals, Value.category]; done) | rfl
set_option maxRecDepth 65536 in
set_option maxHeartbeats 40000000 in
theorem c3_ (l : Launch) (Z : State) (a0 : Array Value) (hw : ∀ d ∈ tables_1, d.before a0 Z = true) (a1 : Addr) (h0 : Heap) (n0 : Nat) (Z0 : n0 ≤ h0.size) (B_a1 : OBy Z h0 a1 16) :
    OMet l Z (⟨"java/util/Arrays", "copyOf", "([BI)[B"⟩ : MethodName) jdk_65_method_121_code 3 (some (.array .byte)) [] ({ frames := 1, cells := 1, slots := 34, locals := 18 } : Room) #[(.ref a1), (.int (34 : Int32))] h0 (fun v h' L => ∃ t2 : Addr, v = some (.ref t2) ∧ Fr n0 L ∧ Keep h0 h' [] ∧ h0.size ≤ t2 ∧ Exa Z h' t2 "[B" ∧ OBy Z h' t2 34) := by
  refine own_body (plainFor_of_name pn_java_util_Arrays) (fun m => ef_31_RI m a1 (34 : Int32)) ?_
  intro p e s m below meth c T0 hx hby hml hown hnm hret hlk hZ X0 e0
  have hown : s.vm.findClass "java/util/Arrays" = some m.cls := hown
  have hml : c.maxLocals = 3 := hml
  have N0 := Fr.nil n0
  have K0 := Keep.refl h0 []
  show OGo p e below s _ _ (T0.setTop (mkF m 0 #[.val (.ref a1), .val (.int (34 : Int32)), .unset] []))
  refine own_st (fun _ z => XS.iloadN X0.here hx rfl (hb hby d31_0) rfl z) ?_
  show OGo p e below s _ _ (T0.setTop (mkF m 1 #[.val (.ref a1), .val (.int (34 : Int32)), .unset] [(.int (34 : Int32))]))
  refine own_st (fun _ z => XS.aloadN X0.here hx rfl (hb hby d31_1) rfl rfl z) ?_
  show OGo p e below s _ _ (T0.setTop (mkF m 2 #[.val (.ref a1), .val (.int (34 : Int32)), .unset] [(.ref a1), (.int (34 : Int32))]))
  obtain ⟨cl32, Ar32, Sz32, -⟩ := id B_a1
  refine own_st (X0.arraylength hx (by rw [e0]; exact Ar32.1) (State.isArrayOf_alike hZ.alike Ar32.2.1) (g := (mkF m 2 #[.val (.ref a1), .val (.int (34 : Int32)), .unset] [(.ref a1), (.int (34 : Int32))])) rfl rfl (hb hby d31_2)) ?_
  rw [Sz32, (by decide : Nat.toInt32 16 = (16 : Int32))]
  show OGo p e below s _ _ (T0.setTop (mkF m 3 #[.val (.ref a1), .val (.int (34 : Int32)), .unset] [(.int (16 : Int32)), (.int (34 : Int32))]))
  refine own_st (fun _ z => XS.icmpYes X0.here hx rfl (pc0 := 3) (pc' := 14) rfl (hb hby d31_3) rfl (feq ((by decide : ¬ (34 : Int32) = (16 : Int32)))).2 (by decide) (by decide) z) ?_
  show OGo p e below s _ _ (T0.setTop (mkF m 14 #[.val (.ref a1), .val (.int (34 : Int32)), .unset] []))
  refine own_st (fun _ z => XS.iloadN X0.here hx rfl (hb hby d31_14) rfl z) ?_
  show OGo p e below s _ _ (T0.setTop (mkF m 15 #[.val (.ref a1), .val (.int (34 : Int32)), .unset] [(.int (34 : Int32))]))
  obtain ⟨T33, hp33, kk33, X33, e33, Ex33, Aa33, Bb33, st33⟩ := newPE X0 hx hZ (own_w hw 27 rfl) e0 (g := (mkF m 15 #[.val (.ref a1), .val (.int (34 : Int32)), .unset] [(.int (34 : Int32))])) rfl (hb hby d31_15) rfl (by decide) (cap := 34) (by decide) (by decide) (by decide) (by decide) (ad := "[B") (by decide)
  obtain ⟨t2, gs33⟩ : ∃ z, z = h0.size := ⟨_, rfl⟩
  rw [← gs33] at Aa33 Bb33 st33
  have ne_a1_t2 : a1 ≠ t2 := Nat.ne_of_lt (Nat.lt_of_lt_of_le B_a1.lt (Nat.le_of_eq gs33.symm))
  have old_t2 : n0 ≤ t2 := Nat.le_trans Z0 (Nat.le_of_eq gs33.symm)
  have fr_t2 : h0.size ≤ t2 := Nat.le_trans K0.1 (Nat.le_of_eq gs33.symm)
  have K0 := K0.ext Ex33
  have Z0 := Nat.le_trans Z0 Ex33.1
  have B_a1 := B_a1.ext Ex33
  have A_t2 := OAr.new Aa33
  have E_t2 := Bb33
  refine own_st st33 ?_
  show OGo p e below s _ _ (T33.setTop (mkF m 17 #[.val (.ref a1), .val (.int (34 : Int32)), .unset] [(.ref t2)]))
  rw [show (34 : Int32).toNatClampNeg = 34 from by decide] at A_t2
  have B_t2 : OBy Z _ t2 34 := own_by A_t2 (fun _ _ => own_fd)
  refine own_st (fun _ z => XS.astoreN X33.here hx rfl (hb hby d31_17) rfl rfl (l' := #[.val (.ref a1), .val (.int (34 : Int32)), .val (.ref t2)]) rfl z) ?_
  show OGo p e below s _ _ (T33.setTop (mkF m 18 #[.val (.ref a1), .val (.int (34 : Int32)), .val (.ref t2)] []))
  refine own_st (fun _ z => XS.aloadN X33.here hx rfl (hb hby d31_18) rfl rfl z) ?_
  show OGo p e below s _ _ (T33.setTop (mkF m 19 #[.val (.ref a1), .val (.int (34 : Int32)), .val (.ref t2)] [(.ref a1)]))
  refine own_st (fun _ z => XS.iconst X33.here hx rfl (hb hby d31_19) z) ?_
  show OGo p e below s _ _ (T33.setTop (mkF m 20 #[.val (.ref a1), .val (.int (34 : Int32)), .val (.ref t2)] [(.int (0 : Int32)), (.ref a1)]))
  refine own_st (fun _ z => XS.aloadN X33.here hx rfl (hb hby d31_20) rfl rfl z) ?_
  show OGo p e below s _ _ (T33.setTop (mkF m 21 #[.val (.ref a1), .val (.int (34 : Int32)), .val (.ref t2)] [(.ref t2), (.int (0 : Int32)), (.ref a1)]))
  refine own_st (fun _ z => XS.iconst X33.here hx rfl (hb hby d31_21) z) ?_
  show OGo p e below s _ _ (T33.setTop (mkF m 22 #[.val (.ref a1), .val (.int (34 : Int32)), .val (.ref t2)] [(.int (0 : Int32)), (.ref t2), (.int (0 : Int32)), (.ref a1)]))
  refine own_st (fun _ z => XS.aloadN X33.here hx rfl (hb hby d31_22) rfl rfl z) ?_
  show OGo p e below s _ _ (T33.setTop (mkF m 23 #[.val (.ref a1), .val (.int (34 : Int32)), .val (.ref t2)] [(.ref a1), (.int (0 : Int32)), (.ref t2), (.int (0 : Int32)), (.ref a1)]))
  obtain ⟨cl34, Ar34, Sz34, -⟩ := id B_a1
  refine own_st (X33.arraylength hx (by rw [e33]; exact Ar34.1) (State.isArrayOf_alike hZ.alike Ar34.2.1) (g := (mkF m 23 #[.val (.ref a1), .val (.int (34 : Int32)), .val (.ref t2)] [(.ref a1), (.int (0 : Int32)), (.ref t2), (.int (0 : Int32)), (.ref a1)])) rfl rfl (hb hby d31_23)) ?_
  rw [Sz34, (by decide : Nat.toInt32 16 = (16 : Int32))]
  show OGo p e below s _ _ (T33.setTop (mkF m 24 #[.val (.ref a1), .val (.int (34 : Int32)), .val (.ref t2)] [(.int (16 : Int32)), (.int (0 : Int32)), (.ref t2), (.int (0 : Int32)), (.ref a1)]))
  refine own_st (fun _ z => XS.iloadN X33.here hx rfl (hb hby d31_24) rfl z) ?_
  show OGo p e below s _ _ (T33.setTop (mkF m 25 #[.val (.ref a1), .val (.int (34 : Int32)), .val (.ref t2)] [(.int (34 : Int32)), (.int (16 : Int32)), (.int (0 : Int32)), (.ref t2), (.int (0 : Int32)), (.ref a1)]))
  obtain ⟨T35, X35, e35, st35⟩ := own_callSP X33 hx hZ (y := (⟨"java/lang/Math", "min", "(II)I"⟩ : MethodName)) (W := 4) hown (own_w hw 173 rfl) (own_w hw 174 rfl) (own_w hw 165 rfl) (own_w hw 175 rfl) (by decide) (m2_ l Z a0 hw (16 : Int32) (34 : Int32) hp33 (by decide)) (by decide) (by decide) (g := (mkF m 25 #[.val (.ref a1), .val (.int (34 : Int32)), .val (.ref t2)] [(.int (34 : Int32)), (.int (16 : Int32)), (.int (0 : Int32)), (.ref t2), (.int (0 : Int32)), (.ref a1)])) rfl (by rw [hml]; rfl) (argsL := [(.int (16 : Int32)), (.int (34 : Int32))]) (rest := [(.int (0 : Int32)), (.ref t2), (.int (0 : Int32)), (.ref a1)]) (lenOf pd_6 rfl) rfl (by show 2 * 0 + _ ≤ _; exact Nat.le_of_eq rfl) (hb hby d31_25) rfl e33 (by decide) (by decide)
  refine own_st st35 ?_
  show OGo p e below s _ _ (T35.setTop (mkF m 28 #[.val (.ref a1), .val (.int (34 : Int32)), .val (.ref t2)] [(.int (16 : Int32)), (.int (0 : Int32)), (.ref t2), (.int (0 : Int32)), (.ref a1)]))
  obtain ⟨T36, hp36, Lq36, X36, e36, Na36, Kc36, Bq36, st36⟩ := own_acopy X35 hx hZ hown (own_w hw 176 rfl) (own_w hw 152 rfl) (own_w hw 150 rfl) (own_w hw 151 rfl) e35 B_a1 B_t2 (by decide) (by decide) (sp := (0 : Int32)) (dp := (0 : Int32)) (nn := (16 : Int32)) (by decide) (by decide) (by decide) (by decide) (by decide) N0 old_t2 (g := (mkF m 28 #[.val (.ref a1), .val (.int (34 : Int32)), .val (.ref t2)] [(.int (16 : Int32)), (.int (0 : Int32)), (.ref t2), (.int (0 : Int32)), (.ref a1)])) rfl (by rw [hml]; rfl) rfl (hb hby d31_28) (by decide) (W := 0) (by show 2 * 0 + _ ≤ _; exact Nat.le_of_eq rfl) (by decide)
  have Z0 := Nat.le_trans Z0 Kc36.1
  have K0 := K0.trans Kc36 (allS (Or.inr fr_t2) all0)
  have B_a1 := B_a1.keep Kc36 (ninS ne_a1_t2 nin0)
  have E_t2 := E_t2.keep Kc36
  have B_t2 := Bq36
  refine own_st st36 ?_
  show OGo p e below s _ _ (T36.setTop (mkF m 31 #[.val (.ref a1), .val (.int (34 : Int32)), .val (.ref t2)] []))
  refine own_st (fun _ z => XS.aloadN X36.here hx rfl (hb hby d31_31) rfl rfl z) ?_
  show OGo p e below s _ _ (T36.setTop (mkF m 32 #[.val (.ref a1), .val (.int (34 : Int32)), .val (.ref t2)] [(.ref t2)]))
  exact own_retA X36 hx hlk hret rfl rfl (hb hby d31_32) (by decide) (by decide) (⟨t2, rfl, Na36, (by rw [e36]; exact K0), fr_t2, (by rw [e36]; exact E_t2), (by rw [e36]; exact B_t2)⟩)
theorem d24_0 : decode jdk_68_method_9_code 0 = .ok (.aload_n 0, 1) := by decide +kernel
theorem d24_1 : decode jdk_68_method_9_code 1 = .ok (.getfield 15, 3) := by decide +kernel
theorem d24_4 : decode jdk_68_method_9_code 4 = .ok (.arraylength, 1) := by decide +kernel
theorem d24_5 : decode jdk_68_method_9_code 5 = .ok (.aload_n 0, 1) := by decide +kernel
theorem d24_6 : decode jdk_68_method_9_code 6 = .ok (.getfield 22, 3) := by decide +kernel
theorem d24_9 : decode jdk_68_method_9_code 9 = .ok (.ishr, 1) := by decide +kernel
theorem d24_10 : decode jdk_68_method_9_code 10 = .ok (.istore_n 2, 1) := by decide +kernel
theorem d24_11 : decode jdk_68_method_9_code 11 = .ok (.iload_n 1, 1) := by decide +kernel
theorem d24_12 : decode jdk_68_method_9_code 12 = .ok (.iload_n 2, 1) := by decide +kernel
theorem d24_13 : decode jdk_68_method_9_code 13 = .ok (.isub, 1) := by decide +kernel
theorem d24_14 : decode jdk_68_method_9_code 14 = .ok (.ifCond .le 24, 3) := by decide +kernel
theorem d24_38 : decode jdk_68_method_9_code 38 = .ok (.return_, 1) := by decide +kernel
theorem ef_24_RI (m : MethodId) (x0 : Addr) (x1 : Int32) : entryFrame m #[(.ref x0), (.int x1)] 3 = mkF m 0 #[.val (.ref x0), .val (.int x1), .unset] [] := by first | (simp [entryFrame, mkF, argsToLocals, Value.category]; done) | rfl
set_option maxRecDepth 65536 in
set_option maxHeartbeats 40000000 in
theorem c4_ (l : Launch) (Z : State) (a0 : Array Value) (hw : ∀ d ∈ tables_1, d.before a0 Z = true) (a1 : Addr) (k : Nat) (t1 : Addr) (cap : Nat) (h0 : Heap) (F_value_a1 : Fld Z h0 a1 "java/lang/AbstractStringBuilder" "value" "[B" (.ref t1)) (F_coder_a1 : Fld Z h0 a1 "java/lang/AbstractStringBuilder" "coder" "B" (.int (0 : Int32))) (B_t1 : OBy Z h0 t1 cap) (hk : k ≤ cap) (hcap : cap < 2 ^ 30) :
    OPure l Z (⟨"java/lang/AbstractStringBuilder", "ensureCapacityInternal", "(I)V"⟩ : MethodName) jdk_68_method_9_code 3 none [] ({ frames := 0, cells := 0, slots := 0, locals := 0 } : Room) #[(.ref a1), (.int (Int32.ofNat k))] h0 (none) := by
  refine own_body (plainFor_of_name pn_java_lang_AbstractStringBuilder) (fun m => ef_24_RI m a1 (Int32.ofNat k)) ?_
  intro p e s m below meth c T0 hx hby hml hown hnm hret hlk hZ X0 e0
  have hown : s.vm.findClass "java/lang/AbstractStringBuilder" = some m.cls := hown
  have hml : c.maxLocals = 3 := hml
  show OGo p e below s _ _ (T0.setTop (mkF m 0 #[.val (.ref a1), .val (.int (Int32.ofNat k)), .unset] []))
  refine own_st (fun _ z => XS.aloadN X0.here hx rfl (hb hby d24_0) rfl rfl z) ?_
  show OGo p e below s _ _ (T0.setTop (mkF m 1 #[.val (.ref a1), .val (.int (Int32.ofNat k)), .unset] [(.ref a1)]))
  obtain ⟨T37, X37, e37, st37⟩ := getF X0 hx hZ hown (host := "") (Or.inl (own_w hw 110 rfl)) Via.refl e0 F_value_a1 (g := (mkF m 1 #[.val (.ref a1), .val (.int (Int32.ofNat k)), .unset] [(.ref a1)])) rfl rfl (hb hby d24_1)
  refine own_st st37 ?_
  show OGo p e below s _ _ (T37.setTop (mkF m 4 #[.val (.ref a1), .val (.int (Int32.ofNat k)), .unset] [(.ref t1)]))
  obtain ⟨cl38, Ar38, Sz38, -⟩ := id B_t1
  refine own_st (X37.arraylength hx (by rw [e37]; exact Ar38.1) (State.isArrayOf_alike hZ.alike Ar38.2.1) (g := (mkF m 4 #[.val (.ref a1), .val (.int (Int32.ofNat k)), .unset] [(.ref t1)])) rfl rfl (hb hby d24_4)) ?_
  rw [Sz38, own_len cap]
  show OGo p e below s _ _ (T37.setTop (mkF m 5 #[.val (.ref a1), .val (.int (Int32.ofNat k)), .unset] [(.int (Int32.ofNat cap))]))
  refine own_st (fun _ z => XS.aloadN X37.here hx rfl (hb hby d24_5) rfl rfl z) ?_
  show OGo p e below s _ _ (T37.setTop (mkF m 6 #[.val (.ref a1), .val (.int (Int32.ofNat k)), .unset] [(.ref a1), (.int (Int32.ofNat cap))]))
  obtain ⟨T39, X39, e39, st39⟩ := getF X37 hx hZ hown (host := "") (Or.inl (own_w hw 112 rfl)) Via.refl e37 F_coder_a1 (g := (mkF m 6 #[.val (.ref a1), .val (.int (Int32.ofNat k)), .unset] [(.ref a1), (.int (Int32.ofNat cap))])) rfl rfl (hb hby d24_6)
  refine own_st st39 ?_
  show OGo p e below s _ _ (T39.setTop (mkF m 9 #[.val (.ref a1), .val (.int (Int32.ofNat k)), .unset] [(.int (0 : Int32)), (.int (Int32.ofNat cap))]))
  refine own_st (fun _ z => XS.ishr X39.here hx rfl (hb hby d24_9) rfl z) ?_
  show OGo p e below s _ _ (T39.setTop (mkF m 10 #[.val (.ref a1), .val (.int (Int32.ofNat k)), .unset] [(.int ((Int32.ofNat cap) >>> ((0 : Int32) &&& 31)))]))
  rw [own_shr0]
  refine own_st (fun _ z => XS.istoreN X39.here hx rfl (hb hby d24_10) rfl (l' := #[.val (.ref a1), .val (.int (Int32.ofNat k)), .val (.int (Int32.ofNat cap))]) rfl z) ?_
  show OGo p e below s _ _ (T39.setTop (mkF m 11 #[.val (.ref a1), .val (.int (Int32.ofNat k)), .val (.int (Int32.ofNat cap))] []))
  refine own_st (fun _ z => XS.iloadN X39.here hx rfl (hb hby d24_11) rfl z) ?_
  show OGo p e below s _ _ (T39.setTop (mkF m 12 #[.val (.ref a1), .val (.int (Int32.ofNat k)), .val (.int (Int32.ofNat cap))] [(.int (Int32.ofNat k))]))
  refine own_st (fun _ z => XS.iloadN X39.here hx rfl (hb hby d24_12) rfl z) ?_
  show OGo p e below s _ _ (T39.setTop (mkF m 13 #[.val (.ref a1), .val (.int (Int32.ofNat k)), .val (.int (Int32.ofNat cap))] [(.int (Int32.ofNat cap)), (.int (Int32.ofNat k))]))
  refine own_st (fun _ z => XS.isub X39.here hx rfl (hb hby d24_13) rfl z) ?_
  show OGo p e below s _ _ (T39.setTop (mkF m 14 #[.val (.ref a1), .val (.int (Int32.ofNat k)), .val (.int (Int32.ofNat cap))] [(.int ((Int32.ofNat k) - (Int32.ofNat cap)))]))
  refine own_st (fun _ z => XS.ifYes X39.here hx rfl (pc0 := 14) (pc' := 38) rfl (hb hby d24_14) rfl ((if0 _ _).trans (flt ((own_subnp hk hcap))).2.2.2) (by decide) (by decide) z) ?_
  show OGo p e below s _ _ (T39.setTop (mkF m 38 #[.val (.ref a1), .val (.int (Int32.ofNat k)), .val (.int (Int32.ofNat cap))] []))
  exact own_retV X39 hx hlk hret (hb hby d24_38) (by decide) (by decide) (⟨rfl, rfl, e39⟩)
theorem d24_17 : decode jdk_68_method_9_code 17 = .ok (.aload_n 0, 1) := by decide +kernel
theorem d24_18 : decode jdk_68_method_9_code 18 = .ok (.aload_n 0, 1) := by decide +kernel
theorem d24_19 : decode jdk_68_method_9_code 19 = .ok (.getfield 15, 3) := by decide +kernel
theorem d24_22 : decode jdk_68_method_9_code 22 = .ok (.aload_n 0, 1) := by decide +kernel
theorem d24_23 : decode jdk_68_method_9_code 23 = .ok (.iload_n 1, 1) := by decide +kernel
theorem d24_24 : decode jdk_68_method_9_code 24 = .ok (.invokevirtual 104, 3) := by decide +kernel
theorem pd_8 : parseMethodDescriptor "(I)I" = some ⟨[.int], some .int⟩ := by decide +kernel
theorem d24_27 : decode jdk_68_method_9_code 27 = .ok (.aload_n 0, 1) := by decide +kernel
theorem d24_28 : decode jdk_68_method_9_code 28 = .ok (.getfield 22, 3) := by decide +kernel
theorem d24_31 : decode jdk_68_method_9_code 31 = .ok (.ishl, 1) := by decide +kernel
theorem pd_9 : parseMethodDescriptor "([BI)[B" = some ⟨[(.array .byte), .int], some (.array .byte)⟩ := by decide +kernel
theorem d24_32 : decode jdk_68_method_9_code 32 = .ok (.invokestatic 108, 3) := by decide +kernel
theorem d24_35 : decode jdk_68_method_9_code 35 = .ok (.putfield 15, 3) := by decide +kernel
set_option maxRecDepth 65536 in
set_option maxHeartbeats 40000000 in
theorem c5_ (l : Launch) (Z : State) (a0 : Array Value) (hw : ∀ d ∈ tables_1, d.before a0 Z = true) (a1 : Addr) (k : Nat) (t1 : Addr) (j : Nat) (h0 : Heap) (n0 : Nat) (Z0 : n0 ≤ h0.size) (old_a1 : n0 ≤ a1) (ne_t1_a1 : t1 ≠ a1) (E_a1 : Exa Z h0 a1 "java/lang/StringBuilder") (F_value_a1 : Fld Z h0 a1 "java/lang/AbstractStringBuilder" "value" "[B" (.ref t1)) (F_coder_a1 : Fld Z h0 a1 "java/lang/AbstractStringBuilder" "coder" "B" (.int (0 : Int32))) (F_count_a1 : Fld Z h0 a1 "java/lang/AbstractStringBuilder" "count" "I" (.int (Int32.ofNat j))) (E_t1 : Exa Z h0 t1 "[B") (B_t1 : OBy Z h0 t1 16) (hk1 : 16 < k) (hk2 : k < 34) :
    OMet l Z (⟨"java/lang/AbstractStringBuilder", "ensureCapacityInternal", "(I)V"⟩ : MethodName) jdk_68_method_9_code 3 none [] ({ frames := 3, cells := 1, slots := 34, locals := 48 } : Room) #[(.ref a1), (.int (Int32.ofNat k))] h0 (fun v h' L => ∃ t2 : Addr, v = none ∧ Fr n0 L ∧ Keep h0 h' [a1] ∧ h0.size ≤ t2 ∧ Exa Z h' a1 "java/lang/StringBuilder" ∧ Fld Z h' a1 "java/lang/AbstractStringBuilder" "value" "[B" (.ref t2) ∧ Fld Z h' a1 "java/lang/AbstractStringBuilder" "coder" "B" (.int (0 : Int32)) ∧ Fld Z h' a1 "java/lang/AbstractStringBuilder" "count" "I" (.int (Int32.ofNat j)) ∧ Exa Z h' t2 "[B" ∧ OBy Z h' t2 34) := by
  refine own_body (plainFor_of_name pn_java_lang_AbstractStringBuilder) (fun m => ef_24_RI m a1 (Int32.ofNat k)) ?_
  intro p e s m below meth c T0 hx hby hml hown hnm hret hlk hZ X0 e0
  have hown : s.vm.findClass "java/lang/AbstractStringBuilder" = some m.cls := hown
  have hml : c.maxLocals = 3 := hml
  have N0 := Fr.nil n0
  have K0 := Keep.refl h0 [a1]
  show OGo p e below s _ _ (T0.setTop (mkF m 0 #[.val (.ref a1), .val (.int (Int32.ofNat k)), .unset] []))
  refine own_st (fun _ z => XS.aloadN X0.here hx rfl (hb hby d24_0) rfl rfl z) ?_
  show OGo p e below s _ _ (T0.setTop (mkF m 1 #[.val (.ref a1), .val (.int (Int32.ofNat k)), .unset] [(.ref a1)]))
  obtain ⟨T40, X40, e40, st40⟩ := getF X0 hx hZ hown (host := "") (Or.inl (own_w hw 110 rfl)) Via.refl e0 F_value_a1 (g := (mkF m 1 #[.val (.ref a1), .val (.int (Int32.ofNat k)), .unset] [(.ref a1)])) rfl rfl (hb hby d24_1)
  refine own_st st40 ?_
  show OGo p e below s _ _ (T40.setTop (mkF m 4 #[.val (.ref a1), .val (.int (Int32.ofNat k)), .unset] [(.ref t1)]))
  obtain ⟨cl41, Ar41, Sz41, -⟩ := id B_t1
  refine own_st (X40.arraylength hx (by rw [e40]; exact Ar41.1) (State.isArrayOf_alike hZ.alike Ar41.2.1) (g := (mkF m 4 #[.val (.ref a1), .val (.int (Int32.ofNat k)), .unset] [(.ref t1)])) rfl rfl (hb hby d24_4)) ?_
  rw [Sz41, (by decide : Nat.toInt32 16 = (16 : Int32))]
  show OGo p e below s _ _ (T40.setTop (mkF m 5 #[.val (.ref a1), .val (.int (Int32.ofNat k)), .unset] [(.int (16 : Int32))]))
  refine own_st (fun _ z => XS.aloadN X40.here hx rfl (hb hby d24_5) rfl rfl z) ?_
  show OGo p e below s _ _ (T40.setTop (mkF m 6 #[.val (.ref a1), .val (.int (Int32.ofNat k)), .unset] [(.ref a1), (.int (16 : Int32))]))
  obtain ⟨T42, X42, e42, st42⟩ := getF X40 hx hZ hown (host := "") (Or.inl (own_w hw 112 rfl)) Via.refl e40 F_coder_a1 (g := (mkF m 6 #[.val (.ref a1), .val (.int (Int32.ofNat k)), .unset] [(.ref a1), (.int (16 : Int32))])) rfl rfl (hb hby d24_6)
  refine own_st st42 ?_
  show OGo p e below s _ _ (T42.setTop (mkF m 9 #[.val (.ref a1), .val (.int (Int32.ofNat k)), .unset] [(.int (0 : Int32)), (.int (16 : Int32))]))
  refine own_st (fun _ z => XS.ishr X42.here hx rfl (hb hby d24_9) rfl z) ?_
  show OGo p e below s _ _ (T42.setTop (mkF m 10 #[.val (.ref a1), .val (.int (Int32.ofNat k)), .unset] [(.int ((16 : Int32) >>> ((0 : Int32) &&& 31)))]))
  rw [own_shr0]
  refine own_st (fun _ z => XS.istoreN X42.here hx rfl (hb hby d24_10) rfl (l' := #[.val (.ref a1), .val (.int (Int32.ofNat k)), .val (.int (16 : Int32))]) rfl z) ?_
  show OGo p e below s _ _ (T42.setTop (mkF m 11 #[.val (.ref a1), .val (.int (Int32.ofNat k)), .val (.int (16 : Int32))] []))
  refine own_st (fun _ z => XS.iloadN X42.here hx rfl (hb hby d24_11) rfl z) ?_
  show OGo p e below s _ _ (T42.setTop (mkF m 12 #[.val (.ref a1), .val (.int (Int32.ofNat k)), .val (.int (16 : Int32))] [(.int (Int32.ofNat k))]))
  refine own_st (fun _ z => XS.iloadN X42.here hx rfl (hb hby d24_12) rfl z) ?_
  show OGo p e below s _ _ (T42.setTop (mkF m 13 #[.val (.ref a1), .val (.int (Int32.ofNat k)), .val (.int (16 : Int32))] [(.int (16 : Int32)), (.int (Int32.ofNat k))]))
  refine own_st (fun _ z => XS.isub X42.here hx rfl (hb hby d24_13) rfl z) ?_
  show OGo p e below s _ _ (T42.setTop (mkF m 14 #[.val (.ref a1), .val (.int (Int32.ofNat k)), .val (.int (16 : Int32))] [(.int ((Int32.ofNat k) - (16 : Int32)))]))
  refine own_st (fun _ z => XS.ifNo X42.here hx rfl (hb hby d24_14) rfl ((if0 _ _).trans (tlt ((own_subp (m := 16) hk1 (by omega)))).2.2.2) z) ?_
  show OGo p e below s _ _ (T42.setTop (mkF m 17 #[.val (.ref a1), .val (.int (Int32.ofNat k)), .val (.int (16 : Int32))] []))
  refine own_st (fun _ z => XS.aloadN X42.here hx rfl (hb hby d24_17) rfl rfl z) ?_
  show OGo p e below s _ _ (T42.setTop (mkF m 18 #[.val (.ref a1), .val (.int (Int32.ofNat k)), .val (.int (16 : Int32))] [(.ref a1)]))
  refine own_st (fun _ z => XS.aloadN X42.here hx rfl (hb hby d24_18) rfl rfl z) ?_
  show OGo p e below s _ _ (T42.setTop (mkF m 19 #[.val (.ref a1), .val (.int (Int32.ofNat k)), .val (.int (16 : Int32))] [(.ref a1), (.ref a1)]))
  obtain ⟨T43, X43, e43, st43⟩ := getF X42 hx hZ hown (host := "") (Or.inl (own_w hw 110 rfl)) Via.refl e42 F_value_a1 (g := (mkF m 19 #[.val (.ref a1), .val (.int (Int32.ofNat k)), .val (.int (16 : Int32))] [(.ref a1), (.ref a1)])) rfl rfl (hb hby d24_19)
  refine own_st st43 ?_
  show OGo p e below s _ _ (T43.setTop (mkF m 22 #[.val (.ref a1), .val (.int (Int32.ofNat k)), .val (.int (16 : Int32))] [(.ref t1), (.ref a1)]))
  refine own_st (fun _ z => XS.aloadN X43.here hx rfl (hb hby d24_22) rfl rfl z) ?_
  show OGo p e below s _ _ (T43.setTop (mkF m 23 #[.val (.ref a1), .val (.int (Int32.ofNat k)), .val (.int (16 : Int32))] [(.ref a1), (.ref t1), (.ref a1)]))
  refine own_st (fun _ z => XS.iloadN X43.here hx rfl (hb hby d24_23) rfl z) ?_
  show OGo p e below s _ _ (T43.setTop (mkF m 24 #[.val (.ref a1), .val (.int (Int32.ofNat k)), .val (.int (16 : Int32))] [(.int (Int32.ofNat k)), (.ref a1), (.ref t1), (.ref a1)]))
  obtain ⟨T44, X44, e44, st44⟩ := own_callRP X43 hx hZ (y := (⟨"java/lang/AbstractStringBuilder", "newCapacity", "(I)I"⟩ : MethodName)) (W := 2) hown (own_w hw 154 rfl) (own_w hw 155 rfl) (own_selfsel (own_ord (y := (⟨"java/lang/AbstractStringBuilder", "ensureCapacityInternal", "(I)V"⟩ : MethodName)) (own_w hw 131 rfl)) (own_w hw 156 rfl) (own_w hw 155 rfl) (by decide)) (own_w hw 156 rfl) (own_w hw 158 rfl) (own_w hw 106 rfl) (by decide) (c2_ l Z a0 hw a1 k t1 h0 F_value_a1 F_coder_a1 B_t1 hk2) (by decide) (by decide) (a := a1) E_a1 (g := (mkF m 24 #[.val (.ref a1), .val (.int (Int32.ofNat k)), .val (.int (16 : Int32))] [(.int (Int32.ofNat k)), (.ref a1), (.ref t1), (.ref a1)])) rfl (by rw [hml]; rfl) (argsL := [(.int (Int32.ofNat k))]) (rest := [(.ref t1), (.ref a1)]) (lenOf pd_8 rfl) rfl (by show 2 * 0 + _ ≤ _; exact Nat.le_of_eq rfl) (hb hby d24_24) rfl e43 (by decide) (by decide)
  refine own_st st44 ?_
  show OGo p e below s _ _ (T44.setTop (mkF m 27 #[.val (.ref a1), .val (.int (Int32.ofNat k)), .val (.int (16 : Int32))] [(.int (34 : Int32)), (.ref t1), (.ref a1)]))
  refine own_st (fun _ z => XS.aloadN X44.here hx rfl (hb hby d24_27) rfl rfl z) ?_
  show OGo p e below s _ _ (T44.setTop (mkF m 28 #[.val (.ref a1), .val (.int (Int32.ofNat k)), .val (.int (16 : Int32))] [(.ref a1), (.int (34 : Int32)), (.ref t1), (.ref a1)]))
  obtain ⟨T45, X45, e45, st45⟩ := getF X44 hx hZ hown (host := "") (Or.inl (own_w hw 112 rfl)) Via.refl e44 F_coder_a1 (g := (mkF m 28 #[.val (.ref a1), .val (.int (Int32.ofNat k)), .val (.int (16 : Int32))] [(.ref a1), (.int (34 : Int32)), (.ref t1), (.ref a1)])) rfl rfl (hb hby d24_28)
  refine own_st st45 ?_
  show OGo p e below s _ _ (T45.setTop (mkF m 31 #[.val (.ref a1), .val (.int (Int32.ofNat k)), .val (.int (16 : Int32))] [(.int (0 : Int32)), (.int (34 : Int32)), (.ref t1), (.ref a1)]))
  refine own_st (fun _ z => XS.ishl X45.here hx rfl (hb hby d24_31) rfl z) ?_
  show OGo p e below s _ _ (T45.setTop (mkF m 32 #[.val (.ref a1), .val (.int (Int32.ofNat k)), .val (.int (16 : Int32))] [(.int ((34 : Int32) <<< ((0 : Int32) &&& 31))), (.ref t1), (.ref a1)]))
  rw [own_shl0]
  obtain ⟨_, T46, Lc46, X46, hQ46, st46⟩ := own_callS X45 hx hZ (y := (⟨"java/util/Arrays", "copyOf", "([BI)[B"⟩ : MethodName)) (W := 1) hown (own_w hw 169 rfl) (own_w hw 170 rfl) (own_w hw 171 rfl) (own_w hw 172 rfl) (by decide) (c3_ l Z a0 hw t1 h0 n0 Z0 B_t1) (by decide) (by decide) (g := (mkF m 32 #[.val (.ref a1), .val (.int (Int32.ofNat k)), .val (.int (16 : Int32))] [(.int (34 : Int32)), (.ref t1), (.ref a1)])) rfl (by rw [hml]; rfl) (argsL := [(.ref t1), (.int (34 : Int32))]) (rest := [(.ref a1)]) (lenOf pd_9 rfl) rfl (by show 2 * 0 + _ ≤ _; exact Nat.le_of_eq rfl) (hb hby d24_32) rfl e45 (by decide) (by decide)
  obtain ⟨t2, rfl, Nq46, Kq46, fq46_t2, q46_0, q46_1⟩ := hQ46
  have ne_a1_t2 : a1 ≠ t2 := Nat.ne_of_lt (Nat.lt_of_lt_of_le E_a1.lt fq46_t2)
  have ne_t1_t2 : t1 ≠ t2 := Nat.ne_of_lt (Nat.lt_of_lt_of_le E_t1.lt fq46_t2)
  have old_t2 : n0 ≤ t2 := Nat.le_trans Z0 fq46_t2
  have fr_t2 : h0.size ≤ t2 := Nat.le_trans K0.1 fq46_t2
  have Z0 := Nat.le_trans Z0 Kq46.1
  have K0 := K0.trans Kq46 all0
  have E_a1 := E_a1.keep Kq46
  have F_value_a1 := F_value_a1.keep Kq46 nin0
  have F_coder_a1 := F_coder_a1.keep Kq46 nin0
  have F_count_a1 := F_count_a1.keep Kq46 nin0
  have E_t1 := E_t1.keep Kq46
  have B_t1 := B_t1.keep Kq46 nin0
  have Nr46 := Fr.app N0 Nq46
  have E_t2 := q46_0
  have B_t2 := q46_1
  refine own_st st46 ?_
  show OGo p e below s _ _ (T46.setTop (mkF m 35 #[.val (.ref a1), .val (.int (Int32.ofNat k)), .val (.int (16 : Int32))] [(.ref t2), (.ref a1)]))
  obtain ⟨T47, hp47, X47, e47, Ww47, st47⟩ := putF X46 hx hZ hown (host := "") (Or.inl (own_w hw 110 rfl)) Via.refl rfl F_value_a1 E_a1 (Or.inl (own_w hw 111 rfl)) (own_w hw 97 rfl) (ty := (.array .byte)) (by decide) rfl rfl (g := (mkF m 35 #[.val (.ref a1), .val (.int (Int32.ofNat k)), .val (.int (16 : Int32))] [(.ref t2), (.ref a1)])) rfl rfl (hb hby d24_35)
  have Nf47 := Fr.snoc X47 Nr46 old_a1
  have Z0 := Nat.le_trans Z0 (Keep.of_wr Ww47).1
  have K0 := K0.wr Ww47 (Or.inl (List.mem_of_getElem? (i := 0) rfl))
  have E_a1 := E_a1.wr Ww47
  have F_value_a1 := F_value_a1.same Ww47
  have F_coder_a1 := F_coder_a1.other Ww47 (Or.inr (slot_ne (Or.inl (own_w hw 113 rfl)) (Or.inl (own_w hw 111 rfl)) (by decide) (t := .byte) (t' := (.array .byte)) (by decide) (by decide)))
  have F_count_a1 := F_count_a1.other Ww47 (Or.inr (slot_ne (Or.inl (own_w hw 127 rfl)) (Or.inl (own_w hw 111 rfl)) (by decide) (t := .int) (t' := (.array .byte)) (by decide) (by decide)))
  have E_t1 := E_t1.wr Ww47
  have B_t1 := B_t1.other Ww47 ne_t1_a1
  have E_t2 := E_t2.wr Ww47
  have B_t2 := B_t2.other Ww47 (Ne.symm ne_a1_t2)
  refine own_st st47 ?_
  show OGo p e below s _ _ (T47.setTop (mkF m 38 #[.val (.ref a1), .val (.int (Int32.ofNat k)), .val (.int (16 : Int32))] []))
  exact own_retV X47 hx hlk hret (hb hby d24_38) (by decide) (by decide) (⟨t2, rfl, Nf47, (by rw [e47]; exact K0), fr_t2, (by rw [e47]; exact E_a1), (by rw [e47]; exact F_value_a1), (by rw [e47]; exact F_coder_a1), (by rw [e47]; exact F_count_a1), (by rw [e47]; exact E_t2), (by rw [e47]; exact B_t2)⟩)
theorem d27_0 : decode jdk_42_method_147_code 0 = .ok (.aload_n 0, 1) := by decide +kernel
theorem d27_1 : decode jdk_42_method_147_code 1 = .ok (.invokevirtual 335, 3) := by decide +kernel
theorem d27_4 : decode jdk_42_method_147_code 4 = .ok (.iload_n 3, 1) := by decide +kernel
theorem d27_5 : decode jdk_42_method_147_code 5 = .ok (.if_icmp .ne 23, 3) := by decide +kernel
theorem d27_8 : decode jdk_42_method_147_code 8 = .ok (.aload_n 0, 1) := by decide +kernel
theorem d27_9 : decode jdk_42_method_147_code 9 = .ok (.getfield 9, 3) := by decide +kernel
theorem d27_12 : decode jdk_42_method_147_code 12 = .ok (.iconst 0, 1) := by decide +kernel
theorem d27_13 : decode jdk_42_method_147_code 13 = .ok (.aload_n 1, 1) := by decide +kernel
theorem d27_14 : decode jdk_42_method_147_code 14 = .ok (.iload_n 2, 1) := by decide +kernel
theorem d27_15 : decode jdk_42_method_147_code 15 = .ok (.iload_n 3, 1) := by decide +kernel
theorem d27_16 : decode jdk_42_method_147_code 16 = .ok (.ishl, 1) := by decide +kernel
theorem d27_17 : decode jdk_42_method_147_code 17 = .ok (.aload_n 0, 1) := by decide +kernel
theorem d27_18 : decode jdk_42_method_147_code 18 = .ok (.getfield 9, 3) := by decide +kernel
theorem d27_21 : decode jdk_42_method_147_code 21 = .ok (.arraylength, 1) := by decide +kernel
theorem d27_22 : decode jdk_42_method_147_code 22 = .ok (.invokestatic 212, 3) := by decide +kernel
theorem d27_25 : decode jdk_42_method_147_code 25 = .ok (.goto 18, 3) := by decide +kernel
theorem d27_43 : decode jdk_42_method_147_code 43 = .ok (.return_, 1) := by decide +kernel
theorem ef_27_RRII (m : MethodId) (x0 : Addr) (x1 : Addr) (x2 : Int32) (x3 : Int32) : entryFrame m #[(.ref x0), (.ref x1), (.int x2), (.int x3)] 4 = mkF m 0 #[.val (.ref x0), .val (.ref x1), .val (.int x2), .val (.int x3)] [] := by first | (simp [entryFrame, mkF, argsToLocals, Value.category]; done) | rfl
set_option maxRecDepth 65536 in
set_option maxHeartbeats 40000000 in
theorem g1_ (l : Launch) (Z : State) (a0 : Array Value) (hw : ∀ d ∈ tables_1, d.before a0 Z = true) (a1 : Addr) (a2 : Addr) (d : Nat) (u1 : Addr) (n : Nat) (cap : Nat) (cs : Int32) (h0 : Heap) (n0 : Nat) (Z0 : n0 ≤ h0.size) (old_a2 : n0 ≤ a2) (ne_u1_a2 : u1 ≠ a2) (ne_a1_a2 : a1 ≠ a2) (E_a1 : Exa Z h0 a1 "java/lang/String") (F_coder_a1 : Fld Z h0 a1 "java/lang/String" "coder" "B" (.int (0 : Int32))) (F_value_a1 : Fld Z h0 a1 "java/lang/String" "value" "[B" (.ref u1)) (B_u1 : OBy Z h0 u1 n) (S_COMPACT_STRINGS : Sta Z h0 "java/lang/String" "COMPACT_STRINGS" "Z" (.int cs)) (E_a2 : Exa Z h0 a2 "[B") (B_a2 : OBy Z h0 a2 cap) (hcs : ¬ cs = (0 : Int32)) (hd : d + n ≤ cap) (hcap : cap < 2 ^ 30) :
    OMet l Z (⟨"java/lang/String", "getBytes", "([BIB)V"⟩ : MethodName) jdk_42_method_147_code 4 none [] ({ frames := 1, cells := 0, slots := 0, locals := 18 } : Room) #[(.ref a1), (.ref a2), (.int (Int32.ofNat d)), (.int (0 : Int32))] h0 (fun v h' L => v = none ∧ Fr n0 L ∧ Keep h0 h' [a2] ∧ Exa Z h' a2 "[B" ∧ OBy Z h' a2 cap) := by
  refine own_body (plainFor_of_name pn_java_lang_String) (fun m => ef_27_RRII m a1 a2 (Int32.ofNat d) (0 : Int32)) ?_
  intro p e s m below meth c T0 hx hby hml hown hnm hret hlk hZ X0 e0
  have hown : s.vm.findClass "java/lang/String" = some m.cls := hown
  have hml : c.maxLocals = 4 := hml
  have N0 := Fr.nil n0
  have K0 := Keep.refl h0 [a2]
  show OGo p e below s _ _ (T0.setTop (mkF m 0 #[.val (.ref a1), .val (.ref a2), .val (.int (Int32.ofNat d)), .val (.int (0 : Int32))] []))
  refine own_st (fun _ z => XS.aloadN X0.here hx rfl (hb hby d27_0) rfl rfl z) ?_
  show OGo p e below s _ _ (T0.setTop (mkF m 1 #[.val (.ref a1), .val (.ref a2), .val (.int (Int32.ofNat d)), .val (.int (0 : Int32))] [(.ref a1)]))
  obtain ⟨T48, X48, e48, st48⟩ := own_callVP X0 hx hZ (y := (⟨"java/lang/String", "coder", "()B"⟩ : MethodName)) (z := (⟨"java/lang/String", "coder", "()B"⟩ : MethodName)) (W := 0) hown (own_w hw 57 rfl) (own_w hw 58 rfl) (notFace_of_selects (args := #[]) (mvT hZ (own_w hw 60 rfl))) (own_w hw 60 rfl) (own_w hw 59 rfl) (own_w hw 61 rfl) (own_w hw 10 rfl) (by decide) (sc6 l Z a0 hw a1 cs h0 F_coder_a1 S_COMPACT_STRINGS hcs) (by decide) (by decide) E_a1 (g := (mkF m 1 #[.val (.ref a1), .val (.ref a2), .val (.int (Int32.ofNat d)), .val (.int (0 : Int32))] [(.ref a1)])) rfl (by rw [hml]; rfl) (argsL := []) (rest := []) (lenOf pd_4 rfl) rfl (by show 2 * 0 + _ ≤ _; exact Nat.le_of_eq rfl) (hb hby d27_1) rfl e0 (by decide) (by decide)
  refine own_st st48 ?_
  show OGo p e below s _ _ (T48.setTop (mkF m 4 #[.val (.ref a1), .val (.ref a2), .val (.int (Int32.ofNat d)), .val (.int (0 : Int32))] [(.int (0 : Int32))]))
  refine own_st (fun _ z => XS.iloadN X48.here hx rfl (hb hby d27_4) rfl z) ?_
  show OGo p e below s _ _ (T48.setTop (mkF m 5 #[.val (.ref a1), .val (.ref a2), .val (.int (Int32.ofNat d)), .val (.int (0 : Int32))] [(.int (0 : Int32)), (.int (0 : Int32))]))
  refine own_st (fun _ z => XS.icmpNo X48.here hx rfl (hb hby d27_5) rfl (teq ((by decide : (0 : Int32) = (0 : Int32)))).2 z) ?_
  show OGo p e below s _ _ (T48.setTop (mkF m 8 #[.val (.ref a1), .val (.ref a2), .val (.int (Int32.ofNat d)), .val (.int (0 : Int32))] []))
  refine own_st (fun _ z => XS.aloadN X48.here hx rfl (hb hby d27_8) rfl rfl z) ?_
  show OGo p e below s _ _ (T48.setTop (mkF m 9 #[.val (.ref a1), .val (.ref a2), .val (.int (Int32.ofNat d)), .val (.int (0 : Int32))] [(.ref a1)]))
  obtain ⟨T49, X49, e49, st49⟩ := getF X48 hx hZ hown (host := "") (Or.inl (own_w hw 36 rfl)) Via.refl e48 F_value_a1 (g := (mkF m 9 #[.val (.ref a1), .val (.ref a2), .val (.int (Int32.ofNat d)), .val (.int (0 : Int32))] [(.ref a1)])) rfl rfl (hb hby d27_9)
  refine own_st st49 ?_
  show OGo p e below s _ _ (T49.setTop (mkF m 12 #[.val (.ref a1), .val (.ref a2), .val (.int (Int32.ofNat d)), .val (.int (0 : Int32))] [(.ref u1)]))
  refine own_st (fun _ z => XS.iconst X49.here hx rfl (hb hby d27_12) z) ?_
  show OGo p e below s _ _ (T49.setTop (mkF m 13 #[.val (.ref a1), .val (.ref a2), .val (.int (Int32.ofNat d)), .val (.int (0 : Int32))] [(.int (0 : Int32)), (.ref u1)]))
  refine own_st (fun _ z => XS.aloadN X49.here hx rfl (hb hby d27_13) rfl rfl z) ?_
  show OGo p e below s _ _ (T49.setTop (mkF m 14 #[.val (.ref a1), .val (.ref a2), .val (.int (Int32.ofNat d)), .val (.int (0 : Int32))] [(.ref a2), (.int (0 : Int32)), (.ref u1)]))
  refine own_st (fun _ z => XS.iloadN X49.here hx rfl (hb hby d27_14) rfl z) ?_
  show OGo p e below s _ _ (T49.setTop (mkF m 15 #[.val (.ref a1), .val (.ref a2), .val (.int (Int32.ofNat d)), .val (.int (0 : Int32))] [(.int (Int32.ofNat d)), (.ref a2), (.int (0 : Int32)), (.ref u1)]))
  refine own_st (fun _ z => XS.iloadN X49.here hx rfl (hb hby d27_15) rfl z) ?_
  show OGo p e below s _ _ (T49.setTop (mkF m 16 #[.val (.ref a1), .val (.ref a2), .val (.int (Int32.ofNat d)), .val (.int (0 : Int32))] [(.int (0 : Int32)), (.int (Int32.ofNat d)), (.ref a2), (.int (0 : Int32)), (.ref u1)]))
  refine own_st (fun _ z => XS.ishl X49.here hx rfl (hb hby d27_16) rfl z) ?_
  show OGo p e below s _ _ (T49.setTop (mkF m 17 #[.val (.ref a1), .val (.ref a2), .val (.int (Int32.ofNat d)), .val (.int (0 : Int32))] [(.int ((Int32.ofNat d) <<< ((0 : Int32) &&& 31))), (.ref a2), (.int (0 : Int32)), (.ref u1)]))
  rw [own_shl0]
  refine own_st (fun _ z => XS.aloadN X49.here hx rfl (hb hby d27_17) rfl rfl z) ?_
  show OGo p e below s _ _ (T49.setTop (mkF m 18 #[.val (.ref a1), .val (.ref a2), .val (.int (Int32.ofNat d)), .val (.int (0 : Int32))] [(.ref a1), (.int (Int32.ofNat d)), (.ref a2), (.int (0 : Int32)), (.ref u1)]))
  obtain ⟨T50, X50, e50, st50⟩ := getF X49 hx hZ hown (host := "") (Or.inl (own_w hw 36 rfl)) Via.refl e49 F_value_a1 (g := (mkF m 18 #[.val (.ref a1), .val (.ref a2), .val (.int (Int32.ofNat d)), .val (.int (0 : Int32))] [(.ref a1), (.int (Int32.ofNat d)), (.ref a2), (.int (0 : Int32)), (.ref u1)])) rfl rfl (hb hby d27_18)
  refine own_st st50 ?_
  show OGo p e below s _ _ (T50.setTop (mkF m 21 #[.val (.ref a1), .val (.ref a2), .val (.int (Int32.ofNat d)), .val (.int (0 : Int32))] [(.ref u1), (.int (Int32.ofNat d)), (.ref a2), (.int (0 : Int32)), (.ref u1)]))
  obtain ⟨cl51, Ar51, Sz51, -⟩ := id B_u1
  refine own_st (X50.arraylength hx (by rw [e50]; exact Ar51.1) (State.isArrayOf_alike hZ.alike Ar51.2.1) (g := (mkF m 21 #[.val (.ref a1), .val (.ref a2), .val (.int (Int32.ofNat d)), .val (.int (0 : Int32))] [(.ref u1), (.int (Int32.ofNat d)), (.ref a2), (.int (0 : Int32)), (.ref u1)])) rfl rfl (hb hby d27_21)) ?_
  rw [Sz51, own_len n]
  show OGo p e below s _ _ (T50.setTop (mkF m 22 #[.val (.ref a1), .val (.ref a2), .val (.int (Int32.ofNat d)), .val (.int (0 : Int32))] [(.int (Int32.ofNat n)), (.int (Int32.ofNat d)), (.ref a2), (.int (0 : Int32)), (.ref u1)]))
  obtain ⟨T52, hp52, Lq52, X52, e52, Na52, Kc52, Bq52, st52⟩ := own_acopy X50 hx hZ hown (own_w hw 149 rfl) (own_w hw 152 rfl) (own_w hw 150 rfl) (own_w hw 151 rfl) e50 B_u1 B_a2 (by omega) (by omega) (sp := (0 : Int32)) (dp := (Int32.ofNat d)) (nn := (Int32.ofNat n)) (by decide) (own_nat (by omega)).2.1 (own_nat (by omega)).2.1 (by rw [(own_nat (by omega)).1]; show 0 + n ≤ n; omega) (by rw [(own_nat (by omega)).1, (own_nat (by omega)).1]; exact hd) N0 old_a2 (g := (mkF m 22 #[.val (.ref a1), .val (.ref a2), .val (.int (Int32.ofNat d)), .val (.int (0 : Int32))] [(.int (Int32.ofNat n)), (.int (Int32.ofNat d)), (.ref a2), (.int (0 : Int32)), (.ref u1)])) rfl (by rw [hml]; rfl) rfl (hb hby d27_22) (by decide) (W := 0) (by show 2 * 0 + _ ≤ _; exact Nat.le_of_eq rfl) (by decide)
  have hpl_Kc52 : ∀ w ∈ [a2], ∃ c : Cell, h0[w]? = some c ∧ c.vm.isStatics = false := (allS (own_pl_exa E_a2) all0)
  have Z0 := Nat.le_trans Z0 Kc52.1
  have K0 := K0.trans Kc52 (allS (Or.inl (List.mem_of_getElem? (i := 0) rfl)) all0)
  have E_a1 := E_a1.keep Kc52
  have F_coder_a1 := F_coder_a1.keep Kc52 (ninS ne_a1_a2 nin0)
  have F_value_a1 := F_value_a1.keep Kc52 (ninS ne_a1_a2 nin0)
  have B_u1 := B_u1.keep Kc52 (ninS ne_u1_a2 nin0)
  have S_COMPACT_STRINGS := own_sta_keep S_COMPACT_STRINGS Kc52 hpl_Kc52
  have E_a2 := E_a2.keep Kc52
  have B_a2 := Bq52
  refine own_st st52 ?_
  show OGo p e below s _ _ (T52.setTop (mkF m 25 #[.val (.ref a1), .val (.ref a2), .val (.int (Int32.ofNat d)), .val (.int (0 : Int32))] []))
  refine own_st (fun _ z => XS.goto X52.here hx rfl (pc0 := 25) (pc' := 43) rfl (hb hby d27_25) (by decide) (by decide) z) ?_
  show OGo p e below s _ _ (T52.setTop (mkF m 43 #[.val (.ref a1), .val (.ref a2), .val (.int (Int32.ofNat d)), .val (.int (0 : Int32))] []))
  exact own_retV X52 hx hlk hret (hb hby d27_43) (by decide) (by decide) (⟨rfl, Na52, (by rw [e52]; exact K0), (by rw [e52]; exact E_a2), (by rw [e52]; exact B_a2)⟩)
theorem d26_0 : decode jdk_68_method_71_code 0 = .ok (.getstatic 18, 3) := by decide +kernel
theorem d26_3 : decode jdk_68_method_71_code 3 = .ok (.ifCond .eq 18, 3) := by decide +kernel
theorem d26_6 : decode jdk_68_method_71_code 6 = .ok (.aload_n 0, 1) := by decide +kernel
theorem d26_7 : decode jdk_68_method_71_code 7 = .ok (.getfield 22, 3) := by decide +kernel
theorem d26_10 : decode jdk_68_method_71_code 10 = .ok (.aload_n 1, 1) := by decide +kernel
theorem d26_11 : decode jdk_68_method_71_code 11 = .ok (.invokevirtual 40, 3) := by decide +kernel
theorem d26_14 : decode jdk_68_method_71_code 14 = .ok (.if_icmp .eq 7, 3) := by decide +kernel
theorem d26_21 : decode jdk_68_method_71_code 21 = .ok (.return_, 1) := by decide +kernel
theorem ef_26_RR (m : MethodId) (x0 : Addr) (x1 : Addr) : entryFrame m #[(.ref x0), (.ref x1)] 2 = mkF m 0 #[.val (.ref x0), .val (.ref x1)] [] := by first | (simp [entryFrame, mkF, argsToLocals, Value.category]; done) | rfl
set_option maxRecDepth 65536 in
set_option maxHeartbeats 40000000 in
theorem g2_ (l : Launch) (Z : State) (a0 : Array Value) (hw : ∀ d ∈ tables_1, d.before a0 Z = true) (a1 : Addr) (a2 : Addr) (cs : Int32) (h0 : Heap) (E_a1 : Exa Z h0 a1 "java/lang/StringBuilder") (F_coder_a1 : Fld Z h0 a1 "java/lang/AbstractStringBuilder" "coder" "B" (.int (0 : Int32))) (E_a2 : Exa Z h0 a2 "java/lang/String") (F_coder_a2 : Fld Z h0 a2 "java/lang/String" "coder" "B" (.int (0 : Int32))) (S_COMPACT_STRINGS : Sta Z h0 "java/lang/String" "COMPACT_STRINGS" "Z" (.int cs)) (hcs : ¬ cs = (0 : Int32)) :
    OPure l Z (⟨"java/lang/AbstractStringBuilder", "inflateIfNeededFor", "(Ljava/lang/String;)V"⟩ : MethodName) jdk_68_method_71_code 2 none [] ({ frames := 1, cells := 0, slots := 0, locals := 13 } : Room) #[(.ref a1), (.ref a2)] h0 (none) := by
  refine own_body (plainFor_of_name pn_java_lang_AbstractStringBuilder) (fun m => ef_26_RR m a1 a2) ?_
  intro p e s m below meth c T0 hx hby hml hown hnm hret hlk hZ X0 e0
  have hown : s.vm.findClass "java/lang/AbstractStringBuilder" = some m.cls := hown
  have hml : c.maxLocals = 2 := hml
  show OGo p e below s _ _ (T0.setTop (mkF m 0 #[.val (.ref a1), .val (.ref a2)] []))
  obtain ⟨T53, X53, e53, st53⟩ := getS2 X0 hx hZ hown (host := "") (Or.inl (own_w hw 109 rfl)) Via.refl e0 S_COMPACT_STRINGS (g := (mkF m 0 #[.val (.ref a1), .val (.ref a2)] [])) rfl (hb hby d26_0)
  refine own_st st53 ?_
  show OGo p e below s _ _ (T53.setTop (mkF m 3 #[.val (.ref a1), .val (.ref a2)] [(.int cs)]))
  refine own_st (fun _ z => XS.ifNo X53.here hx rfl (hb hby d26_3) rfl ((if0 _ _).trans (feq (hcs)).1) z) ?_
  show OGo p e below s _ _ (T53.setTop (mkF m 6 #[.val (.ref a1), .val (.ref a2)] []))
  refine own_st (fun _ z => XS.aloadN X53.here hx rfl (hb hby d26_6) rfl rfl z) ?_
  show OGo p e below s _ _ (T53.setTop (mkF m 7 #[.val (.ref a1), .val (.ref a2)] [(.ref a1)]))
  obtain ⟨T54, X54, e54, st54⟩ := getF X53 hx hZ hown (host := "") (Or.inl (own_w hw 112 rfl)) Via.refl e53 F_coder_a1 (g := (mkF m 7 #[.val (.ref a1), .val (.ref a2)] [(.ref a1)])) rfl rfl (hb hby d26_7)
  refine own_st st54 ?_
  show OGo p e below s _ _ (T54.setTop (mkF m 10 #[.val (.ref a1), .val (.ref a2)] [(.int (0 : Int32))]))
  refine own_st (fun _ z => XS.aloadN X54.here hx rfl (hb hby d26_10) rfl rfl z) ?_
  show OGo p e below s _ _ (T54.setTop (mkF m 11 #[.val (.ref a1), .val (.ref a2)] [(.ref a2), (.int (0 : Int32))]))
  obtain ⟨T55, X55, e55, st55⟩ := own_callVP X54 hx hZ (y := (⟨"java/lang/String", "coder", "()B"⟩ : MethodName)) (z := (⟨"java/lang/String", "coder", "()B"⟩ : MethodName)) (W := 1) hown (own_w hw 143 rfl) (own_w hw 58 rfl) (notFace_of_selects (args := #[]) (mvT hZ (own_w hw 60 rfl))) (own_w hw 60 rfl) (own_w hw 59 rfl) (own_w hw 61 rfl) (own_w hw 10 rfl) (by decide) (sc6 l Z a0 hw a2 cs h0 F_coder_a2 S_COMPACT_STRINGS hcs) (by decide) (by decide) E_a2 (g := (mkF m 11 #[.val (.ref a1), .val (.ref a2)] [(.ref a2), (.int (0 : Int32))])) rfl (by rw [hml]; rfl) (argsL := []) (rest := [(.int (0 : Int32))]) (lenOf pd_4 rfl) rfl (by show 2 * 0 + _ ≤ _; exact Nat.le_of_eq rfl) (hb hby d26_11) rfl e54 (by decide) (by decide)
  refine own_st st55 ?_
  show OGo p e below s _ _ (T55.setTop (mkF m 14 #[.val (.ref a1), .val (.ref a2)] [(.int (0 : Int32)), (.int (0 : Int32))]))
  refine own_st (fun _ z => XS.icmpYes X55.here hx rfl (pc0 := 14) (pc' := 21) rfl (hb hby d26_14) rfl (teq ((by decide : (0 : Int32) = (0 : Int32)))).1 (by decide) (by decide) z) ?_
  show OGo p e below s _ _ (T55.setTop (mkF m 21 #[.val (.ref a1), .val (.ref a2)] []))
  exact own_retV X55 hx hlk hret (hb hby d26_21) (by decide) (by decide) (⟨rfl, rfl, e55⟩)
theorem d25_0 : decode jdk_68_method_73_code 0 = .ok (.aload_n 0, 1) := by decide +kernel
theorem d25_1 : decode jdk_68_method_73_code 1 = .ok (.aload_n 2, 1) := by decide +kernel
theorem d25_2 : decode jdk_68_method_73_code 2 = .ok (.invokevirtual 397, 3) := by decide +kernel
theorem pd_10 : parseMethodDescriptor "(Ljava/lang/String;)V" = some ⟨[(.object "java/lang/String")], none⟩ := by decide +kernel
theorem d25_5 : decode jdk_68_method_73_code 5 = .ok (.aload_n 2, 1) := by decide +kernel
theorem d25_6 : decode jdk_68_method_73_code 6 = .ok (.aload_n 0, 1) := by decide +kernel
theorem d25_7 : decode jdk_68_method_73_code 7 = .ok (.getfield 15, 3) := by decide +kernel
theorem d25_10 : decode jdk_68_method_73_code 10 = .ok (.iload_n 1, 1) := by decide +kernel
theorem d25_11 : decode jdk_68_method_73_code 11 = .ok (.aload_n 0, 1) := by decide +kernel
theorem d25_12 : decode jdk_68_method_73_code 12 = .ok (.getfield 22, 3) := by decide +kernel
theorem d25_15 : decode jdk_68_method_73_code 15 = .ok (.invokevirtual 399, 3) := by decide +kernel
theorem pd_11 : parseMethodDescriptor "([BIB)V" = some ⟨[(.array .byte), .int, .byte], none⟩ := by decide +kernel
theorem d25_18 : decode jdk_68_method_73_code 18 = .ok (.return_, 1) := by decide +kernel
theorem ef_25_RIR (m : MethodId) (x0 : Addr) (x1 : Int32) (x2 : Addr) : entryFrame m #[(.ref x0), (.int x1), (.ref x2)] 3 = mkF m 0 #[.val (.ref x0), .val (.int x1), .val (.ref x2)] [] := by first | (simp [entryFrame, mkF, argsToLocals, Value.category]; done) | rfl
set_option maxRecDepth 65536 in
set_option maxHeartbeats 40000000 in
theorem g3_ (l : Launch) (Z : State) (a0 : Array Value) (hw : ∀ d ∈ tables_1, d.before a0 Z = true) (a1 : Addr) (a2 : Addr) (d : Nat) (t1 : Addr) (cap : Nat) (u2 : Addr) (n : Nat) (cs : Int32) (h0 : Heap) (n0 : Nat) (Z0 : n0 ≤ h0.size) (old_t1 : n0 ≤ t1) (ne_u2_t1 : u2 ≠ t1) (ne_a2_t1 : a2 ≠ t1) (ne_a1_t1 : a1 ≠ t1) (E_a1 : Exa Z h0 a1 "java/lang/StringBuilder") (F_value_a1 : Fld Z h0 a1 "java/lang/AbstractStringBuilder" "value" "[B" (.ref t1)) (F_coder_a1 : Fld Z h0 a1 "java/lang/AbstractStringBuilder" "coder" "B" (.int (0 : Int32))) (E_t1 : Exa Z h0 t1 "[B") (B_t1 : OBy Z h0 t1 cap) (E_a2 : Exa Z h0 a2 "java/lang/String") (F_coder_a2 : Fld Z h0 a2 "java/lang/String" "coder" "B" (.int (0 : Int32))) (F_value_a2 : Fld Z h0 a2 "java/lang/String" "value" "[B" (.ref u2)) (B_u2 : OBy Z h0 u2 n) (S_COMPACT_STRINGS : Sta Z h0 "java/lang/String" "COMPACT_STRINGS" "Z" (.int cs)) (hcs : ¬ cs = (0 : Int32)) (hd : d + n ≤ cap) (hcap : cap < 2 ^ 30) :
    OMet l Z (⟨"java/lang/AbstractStringBuilder", "putStringAt", "(ILjava/lang/String;)V"⟩ : MethodName) jdk_68_method_73_code 3 none [] ({ frames := 2, cells := 0, slots := 0, locals := 33 } : Room) #[(.ref a1), (.int (Int32.ofNat d)), (.ref a2)] h0 (fun v h' L => v = none ∧ Fr n0 L ∧ Keep h0 h' [t1] ∧ Exa Z h' t1 "[B" ∧ OBy Z h' t1 cap) := by
  refine own_body (plainFor_of_name pn_java_lang_AbstractStringBuilder) (fun m => ef_25_RIR m a1 (Int32.ofNat d) a2) ?_
  intro p e s m below meth c T0 hx hby hml hown hnm hret hlk hZ X0 e0
  have hown : s.vm.findClass "java/lang/AbstractStringBuilder" = some m.cls := hown
  have hml : c.maxLocals = 3 := hml
  have N0 := Fr.nil n0
  have K0 := Keep.refl h0 [t1]
  show OGo p e below s _ _ (T0.setTop (mkF m 0 #[.val (.ref a1), .val (.int (Int32.ofNat d)), .val (.ref a2)] []))
  refine own_st (fun _ z => XS.aloadN X0.here hx rfl (hb hby d25_0) rfl rfl z) ?_
  show OGo p e below s _ _ (T0.setTop (mkF m 1 #[.val (.ref a1), .val (.int (Int32.ofNat d)), .val (.ref a2)] [(.ref a1)]))
  refine own_st (fun _ z => XS.aloadN X0.here hx rfl (hb hby d25_1) rfl rfl z) ?_
  show OGo p e below s _ _ (T0.setTop (mkF m 2 #[.val (.ref a1), .val (.int (Int32.ofNat d)), .val (.ref a2)] [(.ref a2), (.ref a1)]))
  obtain ⟨T56, X56, e56, st56⟩ := own_callRP X0 hx hZ (y := (⟨"java/lang/AbstractStringBuilder", "inflateIfNeededFor", "(Ljava/lang/String;)V"⟩ : MethodName)) (W := 0) hown (own_w hw 138 rfl) (own_w hw 139 rfl) (own_selfsel (own_ord (y := (⟨"java/lang/AbstractStringBuilder", "ensureCapacityInternal", "(I)V"⟩ : MethodName)) (own_w hw 131 rfl)) (own_w hw 140 rfl) (own_w hw 139 rfl) (by decide)) (own_w hw 140 rfl) (own_w hw 142 rfl) (own_w hw 106 rfl) (by decide) (g2_ l Z a0 hw a1 a2 cs h0 E_a1 F_coder_a1 E_a2 F_coder_a2 S_COMPACT_STRINGS hcs) (by decide) (by decide) (a := a1) E_a1 (g := (mkF m 2 #[.val (.ref a1), .val (.int (Int32.ofNat d)), .val (.ref a2)] [(.ref a2), (.ref a1)])) rfl (by rw [hml]; rfl) (argsL := [(.ref a2)]) (rest := []) (lenOf pd_10 rfl) rfl (by show 2 * 0 + _ ≤ _; exact Nat.le_of_eq rfl) (hb hby d25_2) rfl e0 (by decide) (by decide)
  refine own_st st56 ?_
  show OGo p e below s _ _ (T56.setTop (mkF m 5 #[.val (.ref a1), .val (.int (Int32.ofNat d)), .val (.ref a2)] []))
  refine own_st (fun _ z => XS.aloadN X56.here hx rfl (hb hby d25_5) rfl rfl z) ?_
  show OGo p e below s _ _ (T56.setTop (mkF m 6 #[.val (.ref a1), .val (.int (Int32.ofNat d)), .val (.ref a2)] [(.ref a2)]))
  refine own_st (fun _ z => XS.aloadN X56.here hx rfl (hb hby d25_6) rfl rfl z) ?_
  show OGo p e below s _ _ (T56.setTop (mkF m 7 #[.val (.ref a1), .val (.int (Int32.ofNat d)), .val (.ref a2)] [(.ref a1), (.ref a2)]))
  obtain ⟨T57, X57, e57, st57⟩ := getF X56 hx hZ hown (host := "") (Or.inl (own_w hw 110 rfl)) Via.refl e56 F_value_a1 (g := (mkF m 7 #[.val (.ref a1), .val (.int (Int32.ofNat d)), .val (.ref a2)] [(.ref a1), (.ref a2)])) rfl rfl (hb hby d25_7)
  refine own_st st57 ?_
  show OGo p e below s _ _ (T57.setTop (mkF m 10 #[.val (.ref a1), .val (.int (Int32.ofNat d)), .val (.ref a2)] [(.ref t1), (.ref a2)]))
  refine own_st (fun _ z => XS.iloadN X57.here hx rfl (hb hby d25_10) rfl z) ?_
  show OGo p e below s _ _ (T57.setTop (mkF m 11 #[.val (.ref a1), .val (.int (Int32.ofNat d)), .val (.ref a2)] [(.int (Int32.ofNat d)), (.ref t1), (.ref a2)]))
  refine own_st (fun _ z => XS.aloadN X57.here hx rfl (hb hby d25_11) rfl rfl z) ?_
  show OGo p e below s _ _ (T57.setTop (mkF m 12 #[.val (.ref a1), .val (.int (Int32.ofNat d)), .val (.ref a2)] [(.ref a1), (.int (Int32.ofNat d)), (.ref t1), (.ref a2)]))
  obtain ⟨T58, X58, e58, st58⟩ := getF X57 hx hZ hown (host := "") (Or.inl (own_w hw 112 rfl)) Via.refl e57 F_coder_a1 (g := (mkF m 12 #[.val (.ref a1), .val (.int (Int32.ofNat d)), .val (.ref a2)] [(.ref a1), (.int (Int32.ofNat d)), (.ref t1), (.ref a2)])) rfl rfl (hb hby d25_12)
  refine own_st st58 ?_
  show OGo p e below s _ _ (T58.setTop (mkF m 15 #[.val (.ref a1), .val (.int (Int32.ofNat d)), .val (.ref a2)] [(.int (0 : Int32)), (.int (Int32.ofNat d)), (.ref t1), (.ref a2)]))
  obtain ⟨_, T59, Lc59, X59, hQ59, st59⟩ := own_callV X58 hx hZ (y := (⟨"java/lang/String", "getBytes", "([BIB)V"⟩ : MethodName)) (z := (⟨"java/lang/String", "getBytes", "([BIB)V"⟩ : MethodName)) (W := 0) hown (own_w hw 144 rfl) (own_w hw 145 rfl) (notFace_of_selects (args := #[]) (mvT hZ (own_w hw 147 rfl))) (own_w hw 147 rfl) (own_w hw 146 rfl) (own_w hw 148 rfl) (own_w hw 10 rfl) (by decide) (g1_ l Z a0 hw a2 t1 d u2 n cap cs h0 n0 Z0 old_t1 ne_u2_t1 ne_a2_t1 E_a2 F_coder_a2 F_value_a2 B_u2 S_COMPACT_STRINGS E_t1 B_t1 hcs hd hcap) (by decide) (by decide) E_a2 (g := (mkF m 15 #[.val (.ref a1), .val (.int (Int32.ofNat d)), .val (.ref a2)] [(.int (0 : Int32)), (.int (Int32.ofNat d)), (.ref t1), (.ref a2)])) rfl (by rw [hml]; rfl) (argsL := [(.ref t1), (.int (Int32.ofNat d)), (.int (0 : Int32))]) (rest := []) (lenOf pd_11 rfl) rfl (by show 2 * 0 + _ ≤ _; exact Nat.le_of_eq rfl) (hb hby d25_15) rfl e58 (by decide) (by decide)
  obtain ⟨rfl, Nq59, Kq59, q59_0, q59_1⟩ := hQ59
  have hpl_Kq59 : ∀ w ∈ [t1], ∃ c : Cell, h0[w]? = some c ∧ c.vm.isStatics = false := (allS (own_pl_exa E_t1) all0)
  have Z0 := Nat.le_trans Z0 Kq59.1
  have K0 := K0.trans Kq59 (allS (Or.inl (List.mem_of_getElem? (i := 0) rfl)) all0)
  have E_a1 := E_a1.keep Kq59
  have F_value_a1 := F_value_a1.keep Kq59 (ninS ne_a1_t1 nin0)
  have F_coder_a1 := F_coder_a1.keep Kq59 (ninS ne_a1_t1 nin0)
  have E_a2 := E_a2.keep Kq59
  have F_coder_a2 := F_coder_a2.keep Kq59 (ninS ne_a2_t1 nin0)
  have F_value_a2 := F_value_a2.keep Kq59 (ninS ne_a2_t1 nin0)
  have B_u2 := B_u2.keep Kq59 (ninS ne_u2_t1 nin0)
  have S_COMPACT_STRINGS := own_sta_keep S_COMPACT_STRINGS Kq59 hpl_Kq59
  have Nr59 := Fr.app N0 Nq59
  have E_t1 := q59_0
  have B_t1 := q59_1
  refine own_st st59 ?_
  show OGo p e below s _ _ (T59.setTop (mkF m 18 #[.val (.ref a1), .val (.int (Int32.ofNat d)), .val (.ref a2)] []))
  exact own_retV X59 hx hlk hret (hb hby d25_18) (by decide) (by decide) (⟨rfl, Nr59, K0, E_t1, B_t1⟩)
theorem d23_0 : decode jdk_68_method_22_code 0 = .ok (.aload_n 1, 1) := by decide +kernel
theorem d23_1 : decode jdk_68_method_22_code 1 = .ok (.ifnonnull 8, 3) := by decide +kernel
theorem d23_9 : decode jdk_68_method_22_code 9 = .ok (.aload_n 1, 1) := by decide +kernel
theorem d23_10 : decode jdk_68_method_22_code 10 = .ok (.invokevirtual 32, 3) := by decide +kernel
theorem pd_12 : parseMethodDescriptor "()I" = some ⟨[], some .int⟩ := by decide +kernel
theorem d23_13 : decode jdk_68_method_22_code 13 = .ok (.istore_n 2, 1) := by decide +kernel
theorem d23_14 : decode jdk_68_method_22_code 14 = .ok (.aload_n 0, 1) := by decide +kernel
theorem d23_15 : decode jdk_68_method_22_code 15 = .ok (.aload_n 0, 1) := by decide +kernel
theorem d23_16 : decode jdk_68_method_22_code 16 = .ok (.getfield 79, 3) := by decide +kernel
theorem d23_19 : decode jdk_68_method_22_code 19 = .ok (.iload_n 2, 1) := by decide +kernel
theorem d23_20 : decode jdk_68_method_22_code 20 = .ok (.iadd, 1) := by decide +kernel
theorem d23_21 : decode jdk_68_method_22_code 21 = .ok (.invokevirtual 100, 3) := by decide +kernel
theorem d23_24 : decode jdk_68_method_22_code 24 = .ok (.aload_n 0, 1) := by decide +kernel
theorem d23_25 : decode jdk_68_method_22_code 25 = .ok (.aload_n 0, 1) := by decide +kernel
theorem d23_26 : decode jdk_68_method_22_code 26 = .ok (.getfield 79, 3) := by decide +kernel
theorem d23_29 : decode jdk_68_method_22_code 29 = .ok (.aload_n 1, 1) := by decide +kernel
theorem d23_30 : decode jdk_68_method_22_code 30 = .ok (.invokevirtual 208, 3) := by decide +kernel
theorem pd_13 : parseMethodDescriptor "(ILjava/lang/String;)V" = some ⟨[.int, (.object "java/lang/String")], none⟩ := by decide +kernel
theorem d23_33 : decode jdk_68_method_22_code 33 = .ok (.aload_n 0, 1) := by decide +kernel
theorem d23_34 : decode jdk_68_method_22_code 34 = .ok (.dup, 1) := by decide +kernel
theorem d23_35 : decode jdk_68_method_22_code 35 = .ok (.getfield 79, 3) := by decide +kernel
theorem d23_38 : decode jdk_68_method_22_code 38 = .ok (.iload_n 2, 1) := by decide +kernel
theorem d23_39 : decode jdk_68_method_22_code 39 = .ok (.iadd, 1) := by decide +kernel
theorem d23_40 : decode jdk_68_method_22_code 40 = .ok (.putfield 79, 3) := by decide +kernel
theorem d23_43 : decode jdk_68_method_22_code 43 = .ok (.aload_n 0, 1) := by decide +kernel
theorem d23_44 : decode jdk_68_method_22_code 44 = .ok (.areturn, 1) := by decide +kernel
theorem ef_23_RR (m : MethodId) (x0 : Addr) (x1 : Addr) : entryFrame m #[(.ref x0), (.ref x1)] 3 = mkF m 0 #[.val (.ref x0), .val (.ref x1), .unset] [] := by first | (simp [entryFrame, mkF, argsToLocals, Value.category]; done) | rfl
set_option maxRecDepth 65536 in
set_option maxHeartbeats 40000000 in
theorem g4_ (l : Launch) (Z : State) (a0 : Array Value) (hw : ∀ d ∈ tables_1, d.before a0 Z = true) (a1 : Addr) (a2 : Addr) (t1 : Addr) (j : Nat) (u2 : Addr) (n : Nat) (cap : Nat) (cs : Int32) (h0 : Heap) (n0 : Nat) (Z0 : n0 ≤ h0.size) (old_a1 : n0 ≤ a1) (old_t1 : n0 ≤ t1) (ne_u2_t1 : u2 ≠ t1) (ne_a2_t1 : a2 ≠ t1) (ne_a1_t1 : a1 ≠ t1) (ne_a2_a1 : a2 ≠ a1) (ne_u2_a1 : u2 ≠ a1) (E_a1 : Exa Z h0 a1 "java/lang/StringBuilder") (F_value_a1 : Fld Z h0 a1 "java/lang/AbstractStringBuilder" "value" "[B" (.ref t1)) (F_coder_a1 : Fld Z h0 a1 "java/lang/AbstractStringBuilder" "coder" "B" (.int (0 : Int32))) (F_count_a1 : Fld Z h0 a1 "java/lang/AbstractStringBuilder" "count" "I" (.int (Int32.ofNat j))) (E_t1 : Exa Z h0 t1 "[B") (B_t1 : OBy Z h0 t1 cap) (E_a2 : Exa Z h0 a2 "java/lang/String") (F_coder_a2 : Fld Z h0 a2 "java/lang/String" "coder" "B" (.int (0 : Int32))) (F_value_a2 : Fld Z h0 a2 "java/lang/String" "value" "[B" (.ref u2)) (B_u2 : OBy Z h0 u2 n) (S_COMPACT_STRINGS : Sta Z h0 "java/lang/String" "COMPACT_STRINGS" "Z" (.int cs)) (hcs : ¬ cs = (0 : Int32)) (hg1 : j + n ≤ cap) (hg2 : cap < 2 ^ 30) :
    OMet l Z (⟨"java/lang/AbstractStringBuilder", "append", "(Ljava/lang/String;)Ljava/lang/AbstractStringBuilder;"⟩ : MethodName) jdk_68_method_22_code 3 (some (.object "java/lang/AbstractStringBuilder")) [] ({ frames := 3, cells := 0, slots := 0, locals := 47 } : Room) #[(.ref a1), (.ref a2)] h0 (fun v h' L => v = some (.ref a1) ∧ Fr n0 L ∧ Keep h0 h' [a1, t1] ∧ Exa Z h' a1 "java/lang/StringBuilder" ∧ Fld Z h' a1 "java/lang/AbstractStringBuilder" "value" "[B" (.ref t1) ∧ Fld Z h' a1 "java/lang/AbstractStringBuilder" "coder" "B" (.int (0 : Int32)) ∧ Fld Z h' a1 "java/lang/AbstractStringBuilder" "count" "I" (.int (Int32.ofNat (j + n))) ∧ Exa Z h' t1 "[B" ∧ OBy Z h' t1 cap) := by
  refine own_body (plainFor_of_name pn_java_lang_AbstractStringBuilder) (fun m => ef_23_RR m a1 a2) ?_
  intro p e s m below meth c T0 hx hby hml hown hnm hret hlk hZ X0 e0
  have hown : s.vm.findClass "java/lang/AbstractStringBuilder" = some m.cls := hown
  have hml : c.maxLocals = 3 := hml
  have N0 := Fr.nil n0
  have K0 := Keep.refl h0 [a1, t1]
  show OGo p e below s _ _ (T0.setTop (mkF m 0 #[.val (.ref a1), .val (.ref a2), .unset] []))
  refine own_st (fun _ z => XS.aloadN X0.here hx rfl (hb hby d23_0) rfl rfl z) ?_
  show OGo p e below s _ _ (T0.setTop (mkF m 1 #[.val (.ref a1), .val (.ref a2), .unset] [(.ref a2)]))
  refine own_st (fun _ z => XS.ifnonnullYes X0.here hx rfl (pc0 := 1) (pc' := 9) rfl (hb hby d23_1) rfl (by decide) (by decide) z) ?_
  show OGo p e below s _ _ (T0.setTop (mkF m 9 #[.val (.ref a1), .val (.ref a2), .unset] []))
  refine own_st (fun _ z => XS.aloadN X0.here hx rfl (hb hby d23_9) rfl rfl z) ?_
  show OGo p e below s _ _ (T0.setTop (mkF m 10 #[.val (.ref a1), .val (.ref a2), .unset] [(.ref a2)]))
  obtain ⟨T60, X60, e60, st60⟩ := own_callVP X0 hx hZ (y := (⟨"java/lang/String", "length", "()I"⟩ : MethodName)) (z := (⟨"java/lang/String", "length", "()I"⟩ : MethodName)) (W := 0) hown (own_w hw 125 rfl) (own_w hw 53 rfl) (notFace_of_selects (args := #[]) (mvT hZ (own_w hw 55 rfl))) (own_w hw 55 rfl) (own_w hw 54 rfl) (own_w hw 56 rfl) (own_w hw 10 rfl) (by decide) (bl l Z a0 hw a2 u2 n cs h0 E_a2 F_coder_a2 F_value_a2 B_u2 S_COMPACT_STRINGS hcs) (by decide) (by decide) E_a2 (g := (mkF m 10 #[.val (.ref a1), .val (.ref a2), .unset] [(.ref a2)])) rfl (by rw [hml]; rfl) (argsL := []) (rest := []) (lenOf pd_12 rfl) rfl (by show 2 * 0 + _ ≤ _; exact Nat.le_of_eq rfl) (hb hby d23_10) rfl e0 (by decide) (by decide)
  refine own_st st60 ?_
  show OGo p e below s _ _ (T60.setTop (mkF m 13 #[.val (.ref a1), .val (.ref a2), .unset] [(.int (Int32.ofNat n))]))
  refine own_st (fun _ z => XS.istoreN X60.here hx rfl (hb hby d23_13) rfl (l' := #[.val (.ref a1), .val (.ref a2), .val (.int (Int32.ofNat n))]) rfl z) ?_
  show OGo p e below s _ _ (T60.setTop (mkF m 14 #[.val (.ref a1), .val (.ref a2), .val (.int (Int32.ofNat n))] []))
  refine own_st (fun _ z => XS.aloadN X60.here hx rfl (hb hby d23_14) rfl rfl z) ?_
  show OGo p e below s _ _ (T60.setTop (mkF m 15 #[.val (.ref a1), .val (.ref a2), .val (.int (Int32.ofNat n))] [(.ref a1)]))
  refine own_st (fun _ z => XS.aloadN X60.here hx rfl (hb hby d23_15) rfl rfl z) ?_
  show OGo p e below s _ _ (T60.setTop (mkF m 16 #[.val (.ref a1), .val (.ref a2), .val (.int (Int32.ofNat n))] [(.ref a1), (.ref a1)]))
  obtain ⟨T61, X61, e61, st61⟩ := getF X60 hx hZ hown (host := "") (Or.inl (own_w hw 126 rfl)) Via.refl e60 F_count_a1 (g := (mkF m 16 #[.val (.ref a1), .val (.ref a2), .val (.int (Int32.ofNat n))] [(.ref a1), (.ref a1)])) rfl rfl (hb hby d23_16)
  refine own_st st61 ?_
  show OGo p e below s _ _ (T61.setTop (mkF m 19 #[.val (.ref a1), .val (.ref a2), .val (.int (Int32.ofNat n))] [(.int (Int32.ofNat j)), (.ref a1)]))
  refine own_st (fun _ z => XS.iloadN X61.here hx rfl (hb hby d23_19) rfl z) ?_
  show OGo p e below s _ _ (T61.setTop (mkF m 20 #[.val (.ref a1), .val (.ref a2), .val (.int (Int32.ofNat n))] [(.int (Int32.ofNat n)), (.int (Int32.ofNat j)), (.ref a1)]))
  refine own_st (fun _ z => XS.iadd X61.here hx rfl (hb hby d23_20) rfl z) ?_
  show OGo p e below s _ _ (T61.setTop (mkF m 21 #[.val (.ref a1), .val (.ref a2), .val (.int (Int32.ofNat n))] [(.int ((Int32.ofNat j) + (Int32.ofNat n))), (.ref a1)]))
  rw [own_addn]
  obtain ⟨T62, X62, e62, st62⟩ := own_callRP X61 hx hZ (y := (⟨"java/lang/AbstractStringBuilder", "ensureCapacityInternal", "(I)V"⟩ : MethodName)) (W := 0) hown (own_w hw 128 rfl) (own_w hw 129 rfl) (own_selfsel (own_ord (y := (⟨"java/lang/AbstractStringBuilder", "ensureCapacityInternal", "(I)V"⟩ : MethodName)) (own_w hw 131 rfl)) (own_w hw 130 rfl) (own_w hw 129 rfl) (by decide)) (own_w hw 130 rfl) (own_w hw 132 rfl) (own_w hw 106 rfl) (by decide) (c4_ l Z a0 hw a1 (j + n) t1 cap h0 F_value_a1 F_coder_a1 B_t1 hg1 hg2) (by decide) (by decide) (a := a1) E_a1 (g := (mkF m 21 #[.val (.ref a1), .val (.ref a2), .val (.int (Int32.ofNat n))] [(.int (Int32.ofNat (j + n))), (.ref a1)])) rfl (by rw [hml]; rfl) (argsL := [(.int (Int32.ofNat (j + n)))]) (rest := []) (lenOf pd_5 rfl) rfl (by show 2 * 0 + _ ≤ _; exact Nat.le_of_eq rfl) (hb hby d23_21) rfl e61 (by decide) (by decide)
  refine own_st st62 ?_
  show OGo p e below s _ _ (T62.setTop (mkF m 24 #[.val (.ref a1), .val (.ref a2), .val (.int (Int32.ofNat n))] []))
  refine own_st (fun _ z => XS.aloadN X62.here hx rfl (hb hby d23_24) rfl rfl z) ?_
  show OGo p e below s _ _ (T62.setTop (mkF m 25 #[.val (.ref a1), .val (.ref a2), .val (.int (Int32.ofNat n))] [(.ref a1)]))
  refine own_st (fun _ z => XS.aloadN X62.here hx rfl (hb hby d23_25) rfl rfl z) ?_
  show OGo p e below s _ _ (T62.setTop (mkF m 26 #[.val (.ref a1), .val (.ref a2), .val (.int (Int32.ofNat n))] [(.ref a1), (.ref a1)]))
  obtain ⟨T63, X63, e63, st63⟩ := getF X62 hx hZ hown (host := "") (Or.inl (own_w hw 126 rfl)) Via.refl e62 F_count_a1 (g := (mkF m 26 #[.val (.ref a1), .val (.ref a2), .val (.int (Int32.ofNat n))] [(.ref a1), (.ref a1)])) rfl rfl (hb hby d23_26)
  refine own_st st63 ?_
  show OGo p e below s _ _ (T63.setTop (mkF m 29 #[.val (.ref a1), .val (.ref a2), .val (.int (Int32.ofNat n))] [(.int (Int32.ofNat j)), (.ref a1)]))
  refine own_st (fun _ z => XS.aloadN X63.here hx rfl (hb hby d23_29) rfl rfl z) ?_
  show OGo p e below s _ _ (T63.setTop (mkF m 30 #[.val (.ref a1), .val (.ref a2), .val (.int (Int32.ofNat n))] [(.ref a2), (.int (Int32.ofNat j)), (.ref a1)]))
  obtain ⟨_, T64, Lc64, X64, hQ64, st64⟩ := own_callR X63 hx hZ (y := (⟨"java/lang/AbstractStringBuilder", "putStringAt", "(ILjava/lang/String;)V"⟩ : MethodName)) (W := 0) hown (own_w hw 133 rfl) (own_w hw 134 rfl) (own_selfsel (own_ord (y := (⟨"java/lang/AbstractStringBuilder", "ensureCapacityInternal", "(I)V"⟩ : MethodName)) (own_w hw 131 rfl)) (own_w hw 135 rfl) (own_w hw 134 rfl) (by decide)) (own_w hw 135 rfl) (own_w hw 137 rfl) (own_w hw 106 rfl) (by decide) (g3_ l Z a0 hw a1 a2 j t1 cap u2 n cs h0 n0 Z0 old_t1 ne_u2_t1 ne_a2_t1 ne_a1_t1 E_a1 F_value_a1 F_coder_a1 E_t1 B_t1 E_a2 F_coder_a2 F_value_a2 B_u2 S_COMPACT_STRINGS hcs hg1 hg2) (by decide) (by decide) (a := a1) E_a1 (g := (mkF m 30 #[.val (.ref a1), .val (.ref a2), .val (.int (Int32.ofNat n))] [(.ref a2), (.int (Int32.ofNat j)), (.ref a1)])) rfl (by rw [hml]; rfl) (argsL := [(.int (Int32.ofNat j)), (.ref a2)]) (rest := []) (lenOf pd_13 rfl) rfl (by show 2 * 0 + _ ≤ _; exact Nat.le_of_eq rfl) (hb hby d23_30) rfl e63 (by decide) (by decide)
  obtain ⟨rfl, Nq64, Kq64, q64_0, q64_1⟩ := hQ64
  have hpl_Kq64 : ∀ w ∈ [t1], ∃ c : Cell, h0[w]? = some c ∧ c.vm.isStatics = false := (allS (own_pl_exa E_t1) all0)
  have Z0 := Nat.le_trans Z0 Kq64.1
  have K0 := K0.trans Kq64 (allS (Or.inl (List.mem_of_getElem? (i := 1) rfl)) all0)
  have E_a1 := E_a1.keep Kq64
  have F_value_a1 := F_value_a1.keep Kq64 (ninS ne_a1_t1 nin0)
  have F_coder_a1 := F_coder_a1.keep Kq64 (ninS ne_a1_t1 nin0)
  have F_count_a1 := F_count_a1.keep Kq64 (ninS ne_a1_t1 nin0)
  have E_a2 := E_a2.keep Kq64
  have F_coder_a2 := F_coder_a2.keep Kq64 (ninS ne_a2_t1 nin0)
  have F_value_a2 := F_value_a2.keep Kq64 (ninS ne_a2_t1 nin0)
  have B_u2 := B_u2.keep Kq64 (ninS ne_u2_t1 nin0)
  have S_COMPACT_STRINGS := own_sta_keep S_COMPACT_STRINGS Kq64 hpl_Kq64
  have Nr64 := Fr.app N0 Nq64
  have E_t1 := q64_0
  have B_t1 := q64_1
  refine own_st st64 ?_
  show OGo p e below s _ _ (T64.setTop (mkF m 33 #[.val (.ref a1), .val (.ref a2), .val (.int (Int32.ofNat n))] []))
  refine own_st (fun _ z => XS.aloadN X64.here hx rfl (hb hby d23_33) rfl rfl z) ?_
  show OGo p e below s _ _ (T64.setTop (mkF m 34 #[.val (.ref a1), .val (.ref a2), .val (.int (Int32.ofNat n))] [(.ref a1)]))
  refine own_st (fun _ z => XS.dup X64.here hx rfl (hb hby d23_34) rfl rfl z) ?_
  show OGo p e below s _ _ (T64.setTop (mkF m 35 #[.val (.ref a1), .val (.ref a2), .val (.int (Int32.ofNat n))] [(.ref a1), (.ref a1)]))
  obtain ⟨T65, X65, e65, st65⟩ := getF X64 hx hZ hown (host := "") (Or.inl (own_w hw 126 rfl)) Via.refl rfl F_count_a1 (g := (mkF m 35 #[.val (.ref a1), .val (.ref a2), .val (.int (Int32.ofNat n))] [(.ref a1), (.ref a1)])) rfl rfl (hb hby d23_35)
  refine own_st st65 ?_
  show OGo p e below s _ _ (T65.setTop (mkF m 38 #[.val (.ref a1), .val (.ref a2), .val (.int (Int32.ofNat n))] [(.int (Int32.ofNat j)), (.ref a1)]))
  refine own_st (fun _ z => XS.iloadN X65.here hx rfl (hb hby d23_38) rfl z) ?_
  show OGo p e below s _ _ (T65.setTop (mkF m 39 #[.val (.ref a1), .val (.ref a2), .val (.int (Int32.ofNat n))] [(.int (Int32.ofNat n)), (.int (Int32.ofNat j)), (.ref a1)]))
  refine own_st (fun _ z => XS.iadd X65.here hx rfl (hb hby d23_39) rfl z) ?_
  show OGo p e below s _ _ (T65.setTop (mkF m 40 #[.val (.ref a1), .val (.ref a2), .val (.int (Int32.ofNat n))] [(.int ((Int32.ofNat j) + (Int32.ofNat n))), (.ref a1)]))
  rw [own_addn]
  obtain ⟨T66, hp66, X66, e66, Ww66, st66⟩ := putF X65 hx hZ hown (host := "") (Or.inl (own_w hw 126 rfl)) Via.refl e65 F_count_a1 E_a1 (Or.inl (own_w hw 127 rfl)) (own_w hw 97 rfl) (ty := .int) (by decide) rfl rfl (g := (mkF m 40 #[.val (.ref a1), .val (.ref a2), .val (.int (Int32.ofNat n))] [(.int (Int32.ofNat (j + n))), (.ref a1)])) rfl rfl (hb hby d23_40)
  have Nf66 := Fr.snoc X66 Nr64 old_a1
  have Z0 := Nat.le_trans Z0 (Keep.of_wr Ww66).1
  have K0 := K0.wr Ww66 (Or.inl (List.mem_of_getElem? (i := 0) rfl))
  have E_a1 := E_a1.wr Ww66
  have F_value_a1 := F_value_a1.other Ww66 (Or.inr (slot_ne (Or.inl (own_w hw 111 rfl)) (Or.inl (own_w hw 127 rfl)) (by decide) (t := (.array .byte)) (t' := .int) (by decide) (by decide)))
  have F_coder_a1 := F_coder_a1.other Ww66 (Or.inr (slot_ne (Or.inl (own_w hw 113 rfl)) (Or.inl (own_w hw 127 rfl)) (by decide) (t := .byte) (t' := .int) (by decide) (by decide)))
  have F_count_a1 := F_count_a1.same Ww66
  have E_a2 := E_a2.wr Ww66
  have F_coder_a2 := F_coder_a2.other Ww66 (Or.inl ne_a2_a1)
  have F_value_a2 := F_value_a2.other Ww66 (Or.inl ne_a2_a1)
  have B_u2 := B_u2.other Ww66 ne_u2_a1
  have S_COMPACT_STRINGS := S_COMPACT_STRINGS.wr Ww66
  have E_t1 := E_t1.wr Ww66
  have B_t1 := B_t1.other Ww66 (Ne.symm ne_a1_t1)
  refine own_st st66 ?_
  show OGo p e below s _ _ (T66.setTop (mkF m 43 #[.val (.ref a1), .val (.ref a2), .val (.int (Int32.ofNat n))] []))
  refine own_st (fun _ z => XS.aloadN X66.here hx rfl (hb hby d23_43) rfl rfl z) ?_
  show OGo p e below s _ _ (T66.setTop (mkF m 44 #[.val (.ref a1), .val (.ref a2), .val (.int (Int32.ofNat n))] [(.ref a1)]))
  exact own_retA X66 hx hlk hret rfl rfl (hb hby d23_44) (by decide) (by decide) (⟨rfl, Nf66, (by rw [e66]; exact K0), (by rw [e66]; exact E_a1), (by rw [e66]; exact F_value_a1), (by rw [e66]; exact F_coder_a1), (by rw [e66]; exact F_count_a1), (by rw [e66]; exact E_t1), (by rw [e66]; exact B_t1)⟩)

set_option maxRecDepth 65536 in
set_option maxHeartbeats 40000000 in
theorem g5_ (l : Launch) (Z : State) (a0 : Array Value) (hw : ∀ d ∈ tables_1, d.before a0 Z = true) (a1 : Addr) (a2 : Addr) (t1 : Addr) (j : Nat) (u2 : Addr) (n : Nat) (cs : Int32) (h0 : Heap) (n0 : Nat) (Z0 : n0 ≤ h0.size) (old_a1 : n0 ≤ a1) (ne_u2_t1 : u2 ≠ t1) (ne_a2_t1 : a2 ≠ t1) (ne_a1_t1 : a1 ≠ t1) (ne_a2_a1 : a2 ≠ a1) (ne_u2_a1 : u2 ≠ a1) (E_a1 : Exa Z h0 a1 "java/lang/StringBuilder") (F_value_a1 : Fld Z h0 a1 "java/lang/AbstractStringBuilder" "value" "[B" (.ref t1)) (F_coder_a1 : Fld Z h0 a1 "java/lang/AbstractStringBuilder" "coder" "B" (.int (0 : Int32))) (F_count_a1 : Fld Z h0 a1 "java/lang/AbstractStringBuilder" "count" "I" (.int (Int32.ofNat j))) (E_t1 : Exa Z h0 t1 "[B") (B_t1 : OBy Z h0 t1 16) (E_a2 : Exa Z h0 a2 "java/lang/String") (F_coder_a2 : Fld Z h0 a2 "java/lang/String" "coder" "B" (.int (0 : Int32))) (F_value_a2 : Fld Z h0 a2 "java/lang/String" "value" "[B" (.ref u2)) (B_u2 : OBy Z h0 u2 n) (S_COMPACT_STRINGS : Sta Z h0 "java/lang/String" "COMPACT_STRINGS" "Z" (.int cs)) (hcs : ¬ cs = (0 : Int32)) (hg1 : 16 < j + n) (hg2 : j + n < 34) :
    OMet l Z (⟨"java/lang/AbstractStringBuilder", "append", "(Ljava/lang/String;)Ljava/lang/AbstractStringBuilder;"⟩ : MethodName) jdk_68_method_22_code 3 (some (.object "java/lang/AbstractStringBuilder")) [] ({ frames := 4, cells := 1, slots := 34, locals := 62 } : Room) #[(.ref a1), (.ref a2)] h0 (fun v h' L => ∃ t2 : Addr, v = some (.ref a1) ∧ Fr n0 L ∧ Keep h0 h' [a1] ∧ h0.size ≤ t2 ∧ Exa Z h' a1 "java/lang/StringBuilder" ∧ Fld Z h' a1 "java/lang/AbstractStringBuilder" "value" "[B" (.ref t2) ∧ Fld Z h' a1 "java/lang/AbstractStringBuilder" "coder" "B" (.int (0 : Int32)) ∧ Fld Z h' a1 "java/lang/AbstractStringBuilder" "count" "I" (.int (Int32.ofNat (j + n))) ∧ Exa Z h' t2 "[B" ∧ OBy Z h' t2 34) := by
  refine own_body (plainFor_of_name pn_java_lang_AbstractStringBuilder) (fun m => ef_23_RR m a1 a2) ?_
  intro p e s m below meth c T0 hx hby hml hown hnm hret hlk hZ X0 e0
  have hown : s.vm.findClass "java/lang/AbstractStringBuilder" = some m.cls := hown
  have hml : c.maxLocals = 3 := hml
  have N0 := Fr.nil n0
  have K0 := Keep.refl h0 [a1]
  show OGo p e below s _ _ (T0.setTop (mkF m 0 #[.val (.ref a1), .val (.ref a2), .unset] []))
  refine own_st (fun _ z => XS.aloadN X0.here hx rfl (hb hby d23_0) rfl rfl z) ?_
  show OGo p e below s _ _ (T0.setTop (mkF m 1 #[.val (.ref a1), .val (.ref a2), .unset] [(.ref a2)]))
  refine own_st (fun _ z => XS.ifnonnullYes X0.here hx rfl (pc0 := 1) (pc' := 9) rfl (hb hby d23_1) rfl (by decide) (by decide) z) ?_
  show OGo p e below s _ _ (T0.setTop (mkF m 9 #[.val (.ref a1), .val (.ref a2), .unset] []))
  refine own_st (fun _ z => XS.aloadN X0.here hx rfl (hb hby d23_9) rfl rfl z) ?_
  show OGo p e below s _ _ (T0.setTop (mkF m 10 #[.val (.ref a1), .val (.ref a2), .unset] [(.ref a2)]))
  obtain ⟨T67, X67, e67, st67⟩ := own_callVP X0 hx hZ (y := (⟨"java/lang/String", "length", "()I"⟩ : MethodName)) (z := (⟨"java/lang/String", "length", "()I"⟩ : MethodName)) (W := 0) hown (own_w hw 125 rfl) (own_w hw 53 rfl) (notFace_of_selects (args := #[]) (mvT hZ (own_w hw 55 rfl))) (own_w hw 55 rfl) (own_w hw 54 rfl) (own_w hw 56 rfl) (own_w hw 10 rfl) (by decide) (bl l Z a0 hw a2 u2 n cs h0 E_a2 F_coder_a2 F_value_a2 B_u2 S_COMPACT_STRINGS hcs) (by decide) (by decide) E_a2 (g := (mkF m 10 #[.val (.ref a1), .val (.ref a2), .unset] [(.ref a2)])) rfl (by rw [hml]; rfl) (argsL := []) (rest := []) (lenOf pd_12 rfl) rfl (by show 2 * 0 + _ ≤ _; exact Nat.le_of_eq rfl) (hb hby d23_10) rfl e0 (by decide) (by decide)
  refine own_st st67 ?_
  show OGo p e below s _ _ (T67.setTop (mkF m 13 #[.val (.ref a1), .val (.ref a2), .unset] [(.int (Int32.ofNat n))]))
  refine own_st (fun _ z => XS.istoreN X67.here hx rfl (hb hby d23_13) rfl (l' := #[.val (.ref a1), .val (.ref a2), .val (.int (Int32.ofNat n))]) rfl z) ?_
  show OGo p e below s _ _ (T67.setTop (mkF m 14 #[.val (.ref a1), .val (.ref a2), .val (.int (Int32.ofNat n))] []))
  refine own_st (fun _ z => XS.aloadN X67.here hx rfl (hb hby d23_14) rfl rfl z) ?_
  show OGo p e below s _ _ (T67.setTop (mkF m 15 #[.val (.ref a1), .val (.ref a2), .val (.int (Int32.ofNat n))] [(.ref a1)]))
  refine own_st (fun _ z => XS.aloadN X67.here hx rfl (hb hby d23_15) rfl rfl z) ?_
  show OGo p e below s _ _ (T67.setTop (mkF m 16 #[.val (.ref a1), .val (.ref a2), .val (.int (Int32.ofNat n))] [(.ref a1), (.ref a1)]))
  obtain ⟨T68, X68, e68, st68⟩ := getF X67 hx hZ hown (host := "") (Or.inl (own_w hw 126 rfl)) Via.refl e67 F_count_a1 (g := (mkF m 16 #[.val (.ref a1), .val (.ref a2), .val (.int (Int32.ofNat n))] [(.ref a1), (.ref a1)])) rfl rfl (hb hby d23_16)
  refine own_st st68 ?_
  show OGo p e below s _ _ (T68.setTop (mkF m 19 #[.val (.ref a1), .val (.ref a2), .val (.int (Int32.ofNat n))] [(.int (Int32.ofNat j)), (.ref a1)]))
  refine own_st (fun _ z => XS.iloadN X68.here hx rfl (hb hby d23_19) rfl z) ?_
  show OGo p e below s _ _ (T68.setTop (mkF m 20 #[.val (.ref a1), .val (.ref a2), .val (.int (Int32.ofNat n))] [(.int (Int32.ofNat n)), (.int (Int32.ofNat j)), (.ref a1)]))
  refine own_st (fun _ z => XS.iadd X68.here hx rfl (hb hby d23_20) rfl z) ?_
  show OGo p e below s _ _ (T68.setTop (mkF m 21 #[.val (.ref a1), .val (.ref a2), .val (.int (Int32.ofNat n))] [(.int ((Int32.ofNat j) + (Int32.ofNat n))), (.ref a1)]))
  rw [own_addn]
  obtain ⟨_, T69, Lc69, X69, hQ69, st69⟩ := own_callR X68 hx hZ (y := (⟨"java/lang/AbstractStringBuilder", "ensureCapacityInternal", "(I)V"⟩ : MethodName)) (W := 0) hown (own_w hw 128 rfl) (own_w hw 129 rfl) (own_selfsel (own_ord (y := (⟨"java/lang/AbstractStringBuilder", "ensureCapacityInternal", "(I)V"⟩ : MethodName)) (own_w hw 131 rfl)) (own_w hw 130 rfl) (own_w hw 129 rfl) (by decide)) (own_w hw 130 rfl) (own_w hw 132 rfl) (own_w hw 106 rfl) (by decide) (c5_ l Z a0 hw a1 (j + n) t1 j h0 n0 Z0 old_a1 (Ne.symm ne_a1_t1) E_a1 F_value_a1 F_coder_a1 F_count_a1 E_t1 B_t1 hg1 hg2) (by decide) (by decide) (a := a1) E_a1 (g := (mkF m 21 #[.val (.ref a1), .val (.ref a2), .val (.int (Int32.ofNat n))] [(.int (Int32.ofNat (j + n))), (.ref a1)])) rfl (by rw [hml]; rfl) (argsL := [(.int (Int32.ofNat (j + n)))]) (rest := []) (lenOf pd_5 rfl) rfl (by show 2 * 0 + _ ≤ _; exact Nat.le_of_eq rfl) (hb hby d23_21) rfl e68 (by decide) (by decide)
  obtain ⟨t2, rfl, Nq69, Kq69, fq69_t2, q69_0, q69_1, q69_2, q69_3, q69_4, q69_5⟩ := hQ69
  have ne_a1_t2 : a1 ≠ t2 := Nat.ne_of_lt (Nat.lt_of_lt_of_le E_a1.lt fq69_t2)
  have ne_t1_t2 : t1 ≠ t2 := Nat.ne_of_lt (Nat.lt_of_lt_of_le E_t1.lt fq69_t2)
  have ne_a2_t2 : a2 ≠ t2 := Nat.ne_of_lt (Nat.lt_of_lt_of_le E_a2.lt fq69_t2)
  have ne_u2_t2 : u2 ≠ t2 := Nat.ne_of_lt (Nat.lt_of_lt_of_le B_u2.lt fq69_t2)
  have old_t2 : n0 ≤ t2 := Nat.le_trans Z0 fq69_t2
  have fr_t2 : h0.size ≤ t2 := Nat.le_trans K0.1 fq69_t2
  have hpl_Kq69 : ∀ w ∈ [a1], ∃ c : Cell, h0[w]? = some c ∧ c.vm.isStatics = false := (allS (own_pl_exa E_a1) all0)
  have Z0 := Nat.le_trans Z0 Kq69.1
  have K0 := K0.trans Kq69 (allS (Or.inl (List.mem_of_getElem? (i := 0) rfl)) all0)
  have E_t1 := E_t1.keep Kq69
  have B_t1 := B_t1.keep Kq69 (ninS (Ne.symm ne_a1_t1) nin0)
  have E_a2 := E_a2.keep Kq69
  have F_coder_a2 := F_coder_a2.keep Kq69 (ninS ne_a2_a1 nin0)
  have F_value_a2 := F_value_a2.keep Kq69 (ninS ne_a2_a1 nin0)
  have B_u2 := B_u2.keep Kq69 (ninS ne_u2_a1 nin0)
  have S_COMPACT_STRINGS := own_sta_keep S_COMPACT_STRINGS Kq69 hpl_Kq69
  have Nr69 := Fr.app N0 Nq69
  have E_a1 := q69_0
  have F_value_a1 := q69_1
  have F_coder_a1 := q69_2
  have F_count_a1 := q69_3
  have E_t2 := q69_4
  have B_t2 := q69_5
  refine own_st st69 ?_
  show OGo p e below s _ _ (T69.setTop (mkF m 24 #[.val (.ref a1), .val (.ref a2), .val (.int (Int32.ofNat n))] []))
  refine own_st (fun _ z => XS.aloadN X69.here hx rfl (hb hby d23_24) rfl rfl z) ?_
  show OGo p e below s _ _ (T69.setTop (mkF m 25 #[.val (.ref a1), .val (.ref a2), .val (.int (Int32.ofNat n))] [(.ref a1)]))
  refine own_st (fun _ z => XS.aloadN X69.here hx rfl (hb hby d23_25) rfl rfl z) ?_
  show OGo p e below s _ _ (T69.setTop (mkF m 26 #[.val (.ref a1), .val (.ref a2), .val (.int (Int32.ofNat n))] [(.ref a1), (.ref a1)]))
  obtain ⟨T70, X70, e70, st70⟩ := getF X69 hx hZ hown (host := "") (Or.inl (own_w hw 126 rfl)) Via.refl rfl F_count_a1 (g := (mkF m 26 #[.val (.ref a1), .val (.ref a2), .val (.int (Int32.ofNat n))] [(.ref a1), (.ref a1)])) rfl rfl (hb hby d23_26)
  refine own_st st70 ?_
  show OGo p e below s _ _ (T70.setTop (mkF m 29 #[.val (.ref a1), .val (.ref a2), .val (.int (Int32.ofNat n))] [(.int (Int32.ofNat j)), (.ref a1)]))
  refine own_st (fun _ z => XS.aloadN X70.here hx rfl (hb hby d23_29) rfl rfl z) ?_
  show OGo p e below s _ _ (T70.setTop (mkF m 30 #[.val (.ref a1), .val (.ref a2), .val (.int (Int32.ofNat n))] [(.ref a2), (.int (Int32.ofNat j)), (.ref a1)]))
  obtain ⟨_, T71, Lc71, X71, hQ71, st71⟩ := own_callR X70 hx hZ (y := (⟨"java/lang/AbstractStringBuilder", "putStringAt", "(ILjava/lang/String;)V"⟩ : MethodName)) (W := 0) hown (own_w hw 133 rfl) (own_w hw 134 rfl) (own_selfsel (own_ord (y := (⟨"java/lang/AbstractStringBuilder", "ensureCapacityInternal", "(I)V"⟩ : MethodName)) (own_w hw 131 rfl)) (own_w hw 135 rfl) (own_w hw 134 rfl) (by decide)) (own_w hw 135 rfl) (own_w hw 137 rfl) (own_w hw 106 rfl) (by decide) (g3_ l Z a0 hw a1 a2 j t2 34 u2 n cs T69.heap n0 Z0 old_t2 ne_u2_t2 ne_a2_t2 ne_a1_t2 E_a1 F_value_a1 F_coder_a1 E_t2 B_t2 E_a2 F_coder_a2 F_value_a2 B_u2 S_COMPACT_STRINGS hcs (by omega) (by omega)) (by decide) (by decide) (a := a1) E_a1 (g := (mkF m 30 #[.val (.ref a1), .val (.ref a2), .val (.int (Int32.ofNat n))] [(.ref a2), (.int (Int32.ofNat j)), (.ref a1)])) rfl (by rw [hml]; rfl) (argsL := [(.int (Int32.ofNat j)), (.ref a2)]) (rest := []) (lenOf pd_13 rfl) rfl (by show 2 * 0 + _ ≤ _; exact Nat.le_of_eq rfl) (hb hby d23_30) rfl e70 (by decide) (by decide)
  obtain ⟨rfl, Nq71, Kq71, q71_0, q71_1⟩ := hQ71
  have hpl_Kq71 : ∀ w ∈ [t2], ∃ c : Cell, T69.heap[w]? = some c ∧ c.vm.isStatics = false := (allS (own_pl_exa E_t2) all0)
  have Z0 := Nat.le_trans Z0 Kq71.1
  have K0 := K0.trans Kq71 (allS (Or.inr fr_t2) all0)
  have E_t1 := E_t1.keep Kq71
  have B_t1 := B_t1.keep Kq71 (ninS ne_t1_t2 nin0)
  have E_a2 := E_a2.keep Kq71
  have F_coder_a2 := F_coder_a2.keep Kq71 (ninS ne_a2_t2 nin0)
  have F_value_a2 := F_value_a2.keep Kq71 (ninS ne_a2_t2 nin0)
  have B_u2 := B_u2.keep Kq71 (ninS ne_u2_t2 nin0)
  have S_COMPACT_STRINGS := own_sta_keep S_COMPACT_STRINGS Kq71 hpl_Kq71
  have E_a1 := E_a1.keep Kq71
  have F_value_a1 := F_value_a1.keep Kq71 (ninS ne_a1_t2 nin0)
  have F_coder_a1 := F_coder_a1.keep Kq71 (ninS ne_a1_t2 nin0)
  have F_count_a1 := F_count_a1.keep Kq71 (ninS ne_a1_t2 nin0)
  have Nr71 := Fr.app Nr69 Nq71
  have E_t2 := q71_0
  have B_t2 := q71_1
  refine own_st st71 ?_
  show OGo p e below s _ _ (T71.setTop (mkF m 33 #[.val (.ref a1), .val (.ref a2), .val (.int (Int32.ofNat n))] []))
  refine own_st (fun _ z => XS.aloadN X71.here hx rfl (hb hby d23_33) rfl rfl z) ?_
  show OGo p e below s _ _ (T71.setTop (mkF m 34 #[.val (.ref a1), .val (.ref a2), .val (.int (Int32.ofNat n))] [(.ref a1)]))
  refine own_st (fun _ z => XS.dup X71.here hx rfl (hb hby d23_34) rfl rfl z) ?_
  show OGo p e below s _ _ (T71.setTop (mkF m 35 #[.val (.ref a1), .val (.ref a2), .val (.int (Int32.ofNat n))] [(.ref a1), (.ref a1)]))
  obtain ⟨T72, X72, e72, st72⟩ := getF X71 hx hZ hown (host := "") (Or.inl (own_w hw 126 rfl)) Via.refl rfl F_count_a1 (g := (mkF m 35 #[.val (.ref a1), .val (.ref a2), .val (.int (Int32.ofNat n))] [(.ref a1), (.ref a1)])) rfl rfl (hb hby d23_35)
  refine own_st st72 ?_
  show OGo p e below s _ _ (T72.setTop (mkF m 38 #[.val (.ref a1), .val (.ref a2), .val (.int (Int32.ofNat n))] [(.int (Int32.ofNat j)), (.ref a1)]))
  refine own_st (fun _ z => XS.iloadN X72.here hx rfl (hb hby d23_38) rfl z) ?_
  show OGo p e below s _ _ (T72.setTop (mkF m 39 #[.val (.ref a1), .val (.ref a2), .val (.int (Int32.ofNat n))] [(.int (Int32.ofNat n)), (.int (Int32.ofNat j)), (.ref a1)]))
  refine own_st (fun _ z => XS.iadd X72.here hx rfl (hb hby d23_39) rfl z) ?_
  show OGo p e below s _ _ (T72.setTop (mkF m 40 #[.val (.ref a1), .val (.ref a2), .val (.int (Int32.ofNat n))] [(.int ((Int32.ofNat j) + (Int32.ofNat n))), (.ref a1)]))
  rw [own_addn]
  obtain ⟨T73, hp73, X73, e73, Ww73, st73⟩ := putF X72 hx hZ hown (host := "") (Or.inl (own_w hw 126 rfl)) Via.refl e72 F_count_a1 E_a1 (Or.inl (own_w hw 127 rfl)) (own_w hw 97 rfl) (ty := .int) (by decide) rfl rfl (g := (mkF m 40 #[.val (.ref a1), .val (.ref a2), .val (.int (Int32.ofNat n))] [(.int (Int32.ofNat (j + n))), (.ref a1)])) rfl rfl (hb hby d23_40)
  have Nf73 := Fr.snoc X73 Nr71 old_a1
  have Z0 := Nat.le_trans Z0 (Keep.of_wr Ww73).1
  have K0 := K0.wr Ww73 (Or.inl (List.mem_of_getElem? (i := 0) rfl))
  have E_t1 := E_t1.wr Ww73
  have B_t1 := B_t1.other Ww73 (Ne.symm ne_a1_t1)
  have E_a2 := E_a2.wr Ww73
  have F_coder_a2 := F_coder_a2.other Ww73 (Or.inl ne_a2_a1)
  have F_value_a2 := F_value_a2.other Ww73 (Or.inl ne_a2_a1)
  have B_u2 := B_u2.other Ww73 ne_u2_a1
  have S_COMPACT_STRINGS := S_COMPACT_STRINGS.wr Ww73
  have E_a1 := E_a1.wr Ww73
  have F_value_a1 := F_value_a1.other Ww73 (Or.inr (slot_ne (Or.inl (own_w hw 111 rfl)) (Or.inl (own_w hw 127 rfl)) (by decide) (t := (.array .byte)) (t' := .int) (by decide) (by decide)))
  have F_coder_a1 := F_coder_a1.other Ww73 (Or.inr (slot_ne (Or.inl (own_w hw 113 rfl)) (Or.inl (own_w hw 127 rfl)) (by decide) (t := .byte) (t' := .int) (by decide) (by decide)))
  have F_count_a1 := F_count_a1.same Ww73
  have E_t2 := E_t2.wr Ww73
  have B_t2 := B_t2.other Ww73 (Ne.symm ne_a1_t2)
  refine own_st st73 ?_
  show OGo p e below s _ _ (T73.setTop (mkF m 43 #[.val (.ref a1), .val (.ref a2), .val (.int (Int32.ofNat n))] []))
  refine own_st (fun _ z => XS.aloadN X73.here hx rfl (hb hby d23_43) rfl rfl z) ?_
  show OGo p e below s _ _ (T73.setTop (mkF m 44 #[.val (.ref a1), .val (.ref a2), .val (.int (Int32.ofNat n))] [(.ref a1)]))
  exact own_retA X73 hx hlk hret rfl rfl (hb hby d23_44) (by decide) (by decide) (⟨t2, rfl, Nf73, (by rw [e73]; exact K0), fr_t2, (by rw [e73]; exact E_a1), (by rw [e73]; exact F_value_a1), (by rw [e73]; exact F_coder_a1), (by rw [e73]; exact F_count_a1), (by rw [e73]; exact E_t2), (by rw [e73]; exact B_t2)⟩)
theorem d22_0 : decode jdk_67_method_7_code 0 = .ok (.aload_n 0, 1) := by decide +kernel
theorem d22_1 : decode jdk_67_method_7_code 1 = .ok (.aload_n 1, 1) := by decide +kernel
theorem d22_2 : decode jdk_67_method_7_code 2 = .ok (.invokespecial 29, 3) := by decide +kernel
theorem pd_14 : parseMethodDescriptor "(Ljava/lang/String;)Ljava/lang/AbstractStringBuilder;" = some ⟨[(.object "java/lang/String")], some (.object "java/lang/AbstractStringBuilder")⟩ := by decide +kernel
theorem d22_5 : decode jdk_67_method_7_code 5 = .ok (.pop, 1) := by decide +kernel
theorem d22_6 : decode jdk_67_method_7_code 6 = .ok (.aload_n 0, 1) := by decide +kernel
theorem d22_7 : decode jdk_67_method_7_code 7 = .ok (.areturn, 1) := by decide +kernel
theorem ef_22_RR (m : MethodId) (x0 : Addr) (x1 : Addr) : entryFrame m #[(.ref x0), (.ref x1)] 2 = mkF m 0 #[.val (.ref x0), .val (.ref x1)] [] := by first | (simp [entryFrame, mkF, argsToLocals, Value.category]; done) | rfl
set_option maxRecDepth 65536 in
set_option maxHeartbeats 40000000 in
theorem g6_ (l : Launch) (Z : State) (a0 : Array Value) (hw : ∀ d ∈ tables_1, d.before a0 Z = true) (a1 : Addr) (a2 : Addr) (t1 : Addr) (j : Nat) (u2 : Addr) (n : Nat) (cap : Nat) (cs : Int32) (h0 : Heap) (n0 : Nat) (Z0 : n0 ≤ h0.size) (old_a1 : n0 ≤ a1) (old_t1 : n0 ≤ t1) (ne_u2_t1 : u2 ≠ t1) (ne_a2_t1 : a2 ≠ t1) (ne_a1_t1 : a1 ≠ t1) (ne_a2_a1 : a2 ≠ a1) (ne_u2_a1 : u2 ≠ a1) (E_a1 : Exa Z h0 a1 "java/lang/StringBuilder") (F_value_a1 : Fld Z h0 a1 "java/lang/AbstractStringBuilder" "value" "[B" (.ref t1)) (F_coder_a1 : Fld Z h0 a1 "java/lang/AbstractStringBuilder" "coder" "B" (.int (0 : Int32))) (F_count_a1 : Fld Z h0 a1 "java/lang/AbstractStringBuilder" "count" "I" (.int (Int32.ofNat j))) (E_t1 : Exa Z h0 t1 "[B") (B_t1 : OBy Z h0 t1 cap) (E_a2 : Exa Z h0 a2 "java/lang/String") (F_coder_a2 : Fld Z h0 a2 "java/lang/String" "coder" "B" (.int (0 : Int32))) (F_value_a2 : Fld Z h0 a2 "java/lang/String" "value" "[B" (.ref u2)) (B_u2 : OBy Z h0 u2 n) (S_COMPACT_STRINGS : Sta Z h0 "java/lang/String" "COMPACT_STRINGS" "Z" (.int cs)) (hcs : ¬ cs = (0 : Int32)) (hg1 : j + n ≤ cap) (hg2 : cap < 2 ^ 30) :
    OMet l Z (⟨"java/lang/StringBuilder", "append", "(Ljava/lang/String;)Ljava/lang/StringBuilder;"⟩ : MethodName) jdk_67_method_7_code 2 (some (.object "java/lang/StringBuilder")) [] ({ frames := 4, cells := 0, slots := 0, locals := 61 } : Room) #[(.ref a1), (.ref a2)] h0 (fun v h' L => v = some (.ref a1) ∧ Fr n0 L ∧ Keep h0 h' [a1, t1] ∧ Exa Z h' a1 "java/lang/StringBuilder" ∧ Fld Z h' a1 "java/lang/AbstractStringBuilder" "value" "[B" (.ref t1) ∧ Fld Z h' a1 "java/lang/AbstractStringBuilder" "coder" "B" (.int (0 : Int32)) ∧ Fld Z h' a1 "java/lang/AbstractStringBuilder" "count" "I" (.int (Int32.ofNat (j + n))) ∧ Exa Z h' t1 "[B" ∧ OBy Z h' t1 cap) := by
  refine own_body (plainFor_of_name pn_java_lang_StringBuilder) (fun m => ef_22_RR m a1 a2) ?_
  intro p e s m below meth c T0 hx hby hml hown hnm hret hlk hZ X0 e0
  have hown : s.vm.findClass "java/lang/StringBuilder" = some m.cls := hown
  have hml : c.maxLocals = 2 := hml
  have N0 := Fr.nil n0
  have K0 := Keep.refl h0 [a1, t1]
  show OGo p e below s _ _ (T0.setTop (mkF m 0 #[.val (.ref a1), .val (.ref a2)] []))
  refine own_st (fun _ z => XS.aloadN X0.here hx rfl (hb hby d22_0) rfl rfl z) ?_
  show OGo p e below s _ _ (T0.setTop (mkF m 1 #[.val (.ref a1), .val (.ref a2)] [(.ref a1)]))
  refine own_st (fun _ z => XS.aloadN X0.here hx rfl (hb hby d22_1) rfl rfl z) ?_
  show OGo p e below s _ _ (T0.setTop (mkF m 2 #[.val (.ref a1), .val (.ref a2)] [(.ref a2), (.ref a1)]))
  obtain ⟨_, T74, Lc74, X74, hQ74, st74⟩ := own_callU X0 hx hZ (y := (⟨"java/lang/AbstractStringBuilder", "append", "(Ljava/lang/String;)Ljava/lang/AbstractStringBuilder;"⟩ : MethodName)) (W := 0) hown (own_w hw 120 rfl) (own_same (own_ord (y := (⟨"java/lang/AbstractStringBuilder", "ensureCapacityInternal", "(I)V"⟩ : MethodName)) (own_w hw 131 rfl)) (own_w hw 121 rfl) (by decide)) (own_w hw 121 rfl) (own_w hw 122 rfl) (by decide) (own_w hw 124 rfl) (own_w hw 106 rfl) (g4_ l Z a0 hw a1 a2 t1 j u2 n cap cs h0 n0 Z0 old_a1 old_t1 ne_u2_t1 ne_a2_t1 ne_a1_t1 ne_a2_a1 ne_u2_a1 E_a1 F_value_a1 F_coder_a1 F_count_a1 E_t1 B_t1 E_a2 F_coder_a2 F_value_a2 B_u2 S_COMPACT_STRINGS hcs hg1 hg2) (by decide) (by decide) (a := a1) E_a1 (g := (mkF m 2 #[.val (.ref a1), .val (.ref a2)] [(.ref a2), (.ref a1)])) rfl (by rw [hml]; rfl) (argsL := [(.ref a2)]) (rest := []) (lenOf pd_14 rfl) rfl (by show 2 * 0 + _ ≤ _; exact Nat.le_of_eq rfl) (hb hby d22_2) rfl e0 (by decide) (by decide)
  obtain ⟨rfl, Nq74, Kq74, q74_0, q74_1, q74_2, q74_3, q74_4, q74_5⟩ := hQ74
  have hpl_Kq74 : ∀ w ∈ [a1, t1], ∃ c : Cell, h0[w]? = some c ∧ c.vm.isStatics = false := (allS (own_pl_exa E_a1) (allS (own_pl_exa E_t1) all0))
  have Z0 := Nat.le_trans Z0 Kq74.1
  have K0 := K0.trans Kq74 (allS (Or.inl (List.mem_of_getElem? (i := 0) rfl)) (allS (Or.inl (List.mem_of_getElem? (i := 1) rfl)) all0))
  have E_a2 := E_a2.keep Kq74
  have F_coder_a2 := F_coder_a2.keep Kq74 (ninS ne_a2_a1 (ninS ne_a2_t1 nin0))
  have F_value_a2 := F_value_a2.keep Kq74 (ninS ne_a2_a1 (ninS ne_a2_t1 nin0))
  have B_u2 := B_u2.keep Kq74 (ninS ne_u2_a1 (ninS ne_u2_t1 nin0))
  have S_COMPACT_STRINGS := own_sta_keep S_COMPACT_STRINGS Kq74 hpl_Kq74
  have Nr74 := Fr.app N0 Nq74
  have E_a1 := q74_0
  have F_value_a1 := q74_1
  have F_coder_a1 := q74_2
  have F_count_a1 := q74_3
  have E_t1 := q74_4
  have B_t1 := q74_5
  refine own_st st74 ?_
  show OGo p e below s _ _ (T74.setTop (mkF m 5 #[.val (.ref a1), .val (.ref a2)] [(.ref a1)]))
  refine own_st (fun _ z => XS.pop X74.here hx rfl (hb hby d22_5) rfl rfl z) ?_
  show OGo p e below s _ _ (T74.setTop (mkF m 6 #[.val (.ref a1), .val (.ref a2)] []))
  refine own_st (fun _ z => XS.aloadN X74.here hx rfl (hb hby d22_6) rfl rfl z) ?_
  show OGo p e below s _ _ (T74.setTop (mkF m 7 #[.val (.ref a1), .val (.ref a2)] [(.ref a1)]))
  exact own_retA X74 hx hlk hret rfl rfl (hb hby d22_7) (by decide) (by decide) (⟨rfl, Nr74, K0, E_a1, F_value_a1, F_coder_a1, F_count_a1, E_t1, B_t1⟩)

set_option maxRecDepth 65536 in
set_option maxHeartbeats 40000000 in
theorem g7_ (l : Launch) (Z : State) (a0 : Array Value) (hw : ∀ d ∈ tables_1, d.before a0 Z = true) (a1 : Addr) (a2 : Addr) (t1 : Addr) (j : Nat) (u2 : Addr) (n : Nat) (cs : Int32) (h0 : Heap) (n0 : Nat) (Z0 : n0 ≤ h0.size) (old_a1 : n0 ≤ a1) (ne_u2_t1 : u2 ≠ t1) (ne_a2_t1 : a2 ≠ t1) (ne_a1_t1 : a1 ≠ t1) (ne_a2_a1 : a2 ≠ a1) (ne_u2_a1 : u2 ≠ a1) (E_a1 : Exa Z h0 a1 "java/lang/StringBuilder") (F_value_a1 : Fld Z h0 a1 "java/lang/AbstractStringBuilder" "value" "[B" (.ref t1)) (F_coder_a1 : Fld Z h0 a1 "java/lang/AbstractStringBuilder" "coder" "B" (.int (0 : Int32))) (F_count_a1 : Fld Z h0 a1 "java/lang/AbstractStringBuilder" "count" "I" (.int (Int32.ofNat j))) (E_t1 : Exa Z h0 t1 "[B") (B_t1 : OBy Z h0 t1 16) (E_a2 : Exa Z h0 a2 "java/lang/String") (F_coder_a2 : Fld Z h0 a2 "java/lang/String" "coder" "B" (.int (0 : Int32))) (F_value_a2 : Fld Z h0 a2 "java/lang/String" "value" "[B" (.ref u2)) (B_u2 : OBy Z h0 u2 n) (S_COMPACT_STRINGS : Sta Z h0 "java/lang/String" "COMPACT_STRINGS" "Z" (.int cs)) (hcs : ¬ cs = (0 : Int32)) (hg1 : 16 < j + n) (hg2 : j + n < 34) :
    OMet l Z (⟨"java/lang/StringBuilder", "append", "(Ljava/lang/String;)Ljava/lang/StringBuilder;"⟩ : MethodName) jdk_67_method_7_code 2 (some (.object "java/lang/StringBuilder")) [] ({ frames := 5, cells := 1, slots := 34, locals := 76 } : Room) #[(.ref a1), (.ref a2)] h0 (fun v h' L => ∃ t2 : Addr, v = some (.ref a1) ∧ Fr n0 L ∧ Keep h0 h' [a1] ∧ h0.size ≤ t2 ∧ Exa Z h' a1 "java/lang/StringBuilder" ∧ Fld Z h' a1 "java/lang/AbstractStringBuilder" "value" "[B" (.ref t2) ∧ Fld Z h' a1 "java/lang/AbstractStringBuilder" "coder" "B" (.int (0 : Int32)) ∧ Fld Z h' a1 "java/lang/AbstractStringBuilder" "count" "I" (.int (Int32.ofNat (j + n))) ∧ Exa Z h' t2 "[B" ∧ OBy Z h' t2 34) := by
  refine own_body (plainFor_of_name pn_java_lang_StringBuilder) (fun m => ef_22_RR m a1 a2) ?_
  intro p e s m below meth c T0 hx hby hml hown hnm hret hlk hZ X0 e0
  have hown : s.vm.findClass "java/lang/StringBuilder" = some m.cls := hown
  have hml : c.maxLocals = 2 := hml
  have N0 := Fr.nil n0
  have K0 := Keep.refl h0 [a1]
  show OGo p e below s _ _ (T0.setTop (mkF m 0 #[.val (.ref a1), .val (.ref a2)] []))
  refine own_st (fun _ z => XS.aloadN X0.here hx rfl (hb hby d22_0) rfl rfl z) ?_
  show OGo p e below s _ _ (T0.setTop (mkF m 1 #[.val (.ref a1), .val (.ref a2)] [(.ref a1)]))
  refine own_st (fun _ z => XS.aloadN X0.here hx rfl (hb hby d22_1) rfl rfl z) ?_
  show OGo p e below s _ _ (T0.setTop (mkF m 2 #[.val (.ref a1), .val (.ref a2)] [(.ref a2), (.ref a1)]))
  obtain ⟨_, T75, Lc75, X75, hQ75, st75⟩ := own_callU X0 hx hZ (y := (⟨"java/lang/AbstractStringBuilder", "append", "(Ljava/lang/String;)Ljava/lang/AbstractStringBuilder;"⟩ : MethodName)) (W := 0) hown (own_w hw 120 rfl) (own_same (own_ord (y := (⟨"java/lang/AbstractStringBuilder", "ensureCapacityInternal", "(I)V"⟩ : MethodName)) (own_w hw 131 rfl)) (own_w hw 121 rfl) (by decide)) (own_w hw 121 rfl) (own_w hw 122 rfl) (by decide) (own_w hw 124 rfl) (own_w hw 106 rfl) (g5_ l Z a0 hw a1 a2 t1 j u2 n cs h0 n0 Z0 old_a1 ne_u2_t1 ne_a2_t1 ne_a1_t1 ne_a2_a1 ne_u2_a1 E_a1 F_value_a1 F_coder_a1 F_count_a1 E_t1 B_t1 E_a2 F_coder_a2 F_value_a2 B_u2 S_COMPACT_STRINGS hcs hg1 hg2) (by decide) (by decide) (a := a1) E_a1 (g := (mkF m 2 #[.val (.ref a1), .val (.ref a2)] [(.ref a2), (.ref a1)])) rfl (by rw [hml]; rfl) (argsL := [(.ref a2)]) (rest := []) (lenOf pd_14 rfl) rfl (by show 2 * 0 + _ ≤ _; exact Nat.le_of_eq rfl) (hb hby d22_2) rfl e0 (by decide) (by decide)
  obtain ⟨t2, rfl, Nq75, Kq75, fq75_t2, q75_0, q75_1, q75_2, q75_3, q75_4, q75_5⟩ := hQ75
  have ne_a1_t2 : a1 ≠ t2 := Nat.ne_of_lt (Nat.lt_of_lt_of_le E_a1.lt fq75_t2)
  have ne_t1_t2 : t1 ≠ t2 := Nat.ne_of_lt (Nat.lt_of_lt_of_le E_t1.lt fq75_t2)
  have ne_a2_t2 : a2 ≠ t2 := Nat.ne_of_lt (Nat.lt_of_lt_of_le E_a2.lt fq75_t2)
  have ne_u2_t2 : u2 ≠ t2 := Nat.ne_of_lt (Nat.lt_of_lt_of_le B_u2.lt fq75_t2)
  have old_t2 : n0 ≤ t2 := Nat.le_trans Z0 fq75_t2
  have fr_t2 : h0.size ≤ t2 := Nat.le_trans K0.1 fq75_t2
  have hpl_Kq75 : ∀ w ∈ [a1], ∃ c : Cell, h0[w]? = some c ∧ c.vm.isStatics = false := (allS (own_pl_exa E_a1) all0)
  have Z0 := Nat.le_trans Z0 Kq75.1
  have K0 := K0.trans Kq75 (allS (Or.inl (List.mem_of_getElem? (i := 0) rfl)) all0)
  have E_t1 := E_t1.keep Kq75
  have B_t1 := B_t1.keep Kq75 (ninS (Ne.symm ne_a1_t1) nin0)
  have E_a2 := E_a2.keep Kq75
  have F_coder_a2 := F_coder_a2.keep Kq75 (ninS ne_a2_a1 nin0)
  have F_value_a2 := F_value_a2.keep Kq75 (ninS ne_a2_a1 nin0)
  have B_u2 := B_u2.keep Kq75 (ninS ne_u2_a1 nin0)
  have S_COMPACT_STRINGS := own_sta_keep S_COMPACT_STRINGS Kq75 hpl_Kq75
  have Nr75 := Fr.app N0 Nq75
  have E_a1 := q75_0
  have F_value_a1 := q75_1
  have F_coder_a1 := q75_2
  have F_count_a1 := q75_3
  have E_t2 := q75_4
  have B_t2 := q75_5
  refine own_st st75 ?_
  show OGo p e below s _ _ (T75.setTop (mkF m 5 #[.val (.ref a1), .val (.ref a2)] [(.ref a1)]))
  refine own_st (fun _ z => XS.pop X75.here hx rfl (hb hby d22_5) rfl rfl z) ?_
  show OGo p e below s _ _ (T75.setTop (mkF m 6 #[.val (.ref a1), .val (.ref a2)] []))
  refine own_st (fun _ z => XS.aloadN X75.here hx rfl (hb hby d22_6) rfl rfl z) ?_
  show OGo p e below s _ _ (T75.setTop (mkF m 7 #[.val (.ref a1), .val (.ref a2)] [(.ref a1)]))
  exact own_retA X75 hx hlk hret rfl rfl (hb hby d22_7) (by decide) (by decide) (⟨t2, rfl, Nr75, K0, fr_t2, E_a1, F_value_a1, F_coder_a1, F_count_a1, E_t2, B_t2⟩)
theorem d36_0 : decode jdk_68_method_64_code 0 = .ok (.aload_n 0, 1) := by decide +kernel
theorem d36_1 : decode jdk_68_method_64_code 1 = .ok (.getfield 15, 3) := by decide +kernel
theorem d36_4 : decode jdk_68_method_64_code 4 = .ok (.areturn, 1) := by decide +kernel
theorem ef_36_R (m : MethodId) (x0 : Addr) : entryFrame m #[(.ref x0)] 1 = mkF m 0 #[.val (.ref x0)] [] := by first | (simp [entryFrame, mkF, argsToLocals, Value.category]; done) | rfl
set_option maxRecDepth 65536 in
set_option maxHeartbeats 40000000 in
theorem t1_ (l : Launch) (Z : State) (a0 : Array Value) (hw : ∀ d ∈ tables_1, d.before a0 Z = true) (a1 : Addr) (t1 : Addr) (h0 : Heap) (F_value_a1 : Fld Z h0 a1 "java/lang/AbstractStringBuilder" "value" "[B" (.ref t1)) :
    OPure l Z (⟨"java/lang/AbstractStringBuilder", "getValue", "()[B"⟩ : MethodName) jdk_68_method_64_code 1 (some (.array .byte)) [] ({ frames := 0, cells := 0, slots := 0, locals := 0 } : Room) #[(.ref a1)] h0 (some (.ref t1)) := by
  refine own_body (plainFor_of_name pn_java_lang_AbstractStringBuilder) (fun m => ef_36_R m a1) ?_
  intro p e s m below meth c T0 hx hby hml hown hnm hret hlk hZ X0 e0
  have hown : s.vm.findClass "java/lang/AbstractStringBuilder" = some m.cls := hown
  have hml : c.maxLocals = 1 := hml
  show OGo p e below s _ _ (T0.setTop (mkF m 0 #[.val (.ref a1)] []))
  refine own_st (fun _ z => XS.aloadN X0.here hx rfl (hb hby d36_0) rfl rfl z) ?_
  show OGo p e below s _ _ (T0.setTop (mkF m 1 #[.val (.ref a1)] [(.ref a1)]))
  obtain ⟨T76, X76, e76, st76⟩ := getF X0 hx hZ hown (host := "") (Or.inl (own_w hw 110 rfl)) Via.refl e0 F_value_a1 (g := (mkF m 1 #[.val (.ref a1)] [(.ref a1)])) rfl rfl (hb hby d36_1)
  refine own_st st76 ?_
  show OGo p e below s _ _ (T76.setTop (mkF m 4 #[.val (.ref a1)] [(.ref t1)]))
  exact own_retA X76 hx hlk hret rfl rfl (hb hby d36_4) (by decide) (by decide) (⟨rfl, rfl, e76⟩)
theorem d38_0 : decode jdk_68_method_6_code 0 = .ok (.aload_n 0, 1) := by decide +kernel
theorem d38_1 : decode jdk_68_method_6_code 1 = .ok (.getfield 79, 3) := by decide +kernel
theorem d38_4 : decode jdk_68_method_6_code 4 = .ok (.ireturn, 1) := by decide +kernel
theorem ef_38_R (m : MethodId) (x0 : Addr) : entryFrame m #[(.ref x0)] 1 = mkF m 0 #[.val (.ref x0)] [] := by first | (simp [entryFrame, mkF, argsToLocals, Value.category]; done) | rfl
set_option maxRecDepth 65536 in
set_option maxHeartbeats 40000000 in
theorem t2_ (l : Launch) (Z : State) (a0 : Array Value) (hw : ∀ d ∈ tables_1, d.before a0 Z = true) (a1 : Addr) (q2 : Int32) (h0 : Heap) (F_count_a1 : Fld Z h0 a1 "java/lang/AbstractStringBuilder" "count" "I" (.int q2)) :
    OPure l Z (⟨"java/lang/AbstractStringBuilder", "length", "()I"⟩ : MethodName) jdk_68_method_6_code 1 (some .int) [] ({ frames := 0, cells := 0, slots := 0, locals := 0 } : Room) #[(.ref a1)] h0 (some (.int q2)) := by
  refine own_body (plainFor_of_name pn_java_lang_AbstractStringBuilder) (fun m => ef_38_R m a1) ?_
  intro p e s m below meth c T0 hx hby hml hown hnm hret hlk hZ X0 e0
  have hown : s.vm.findClass "java/lang/AbstractStringBuilder" = some m.cls := hown
  have hml : c.maxLocals = 1 := hml
  show OGo p e below s _ _ (T0.setTop (mkF m 0 #[.val (.ref a1)] []))
  refine own_st (fun _ z => XS.aloadN X0.here hx rfl (hb hby d38_0) rfl rfl z) ?_
  show OGo p e below s _ _ (T0.setTop (mkF m 1 #[.val (.ref a1)] [(.ref a1)]))
  obtain ⟨T77, X77, e77, st77⟩ := getF X0 hx hZ hown (host := "") (Or.inl (own_w hw 126 rfl)) Via.refl e0 F_count_a1 (g := (mkF m 1 #[.val (.ref a1)] [(.ref a1)])) rfl rfl (hb hby d38_1)
  refine own_st st77 ?_
  show OGo p e below s _ _ (T77.setTop (mkF m 4 #[.val (.ref a1)] [(.int q2)]))
  exact own_retI X77 hx hlk hret (hb hby d38_4) (by decide) (by decide) (⟨rfl, rfl, e77⟩)
theorem d37_0 : decode jdk_67_method_93_code 0 = .ok (.aload_n 0, 1) := by decide +kernel
theorem d37_1 : decode jdk_67_method_93_code 1 = .ok (.invokespecial 343, 3) := by decide +kernel
theorem d37_4 : decode jdk_67_method_93_code 4 = .ok (.ireturn, 1) := by decide +kernel
theorem ef_37_R (m : MethodId) (x0 : Addr) : entryFrame m #[(.ref x0)] 1 = mkF m 0 #[.val (.ref x0)] [] := by first | (simp [entryFrame, mkF, argsToLocals, Value.category]; done) | rfl
set_option maxRecDepth 65536 in
set_option maxHeartbeats 40000000 in
theorem t3_ (l : Launch) (Z : State) (a0 : Array Value) (hw : ∀ d ∈ tables_1, d.before a0 Z = true) (a1 : Addr) (q2 : Int32) (h0 : Heap) (E_a1 : Exa Z h0 a1 "java/lang/StringBuilder") (F_count_a1 : Fld Z h0 a1 "java/lang/AbstractStringBuilder" "count" "I" (.int q2)) :
    OPure l Z (⟨"java/lang/StringBuilder", "length", "()I"⟩ : MethodName) jdk_67_method_93_code 1 (some .int) [] ({ frames := 1, cells := 0, slots := 0, locals := 12 } : Room) #[(.ref a1)] h0 (some (.int q2)) := by
  refine own_body (plainFor_of_name pn_java_lang_StringBuilder) (fun m => ef_37_R m a1) ?_
  intro p e s m below meth c T0 hx hby hml hown hnm hret hlk hZ X0 e0
  have hown : s.vm.findClass "java/lang/StringBuilder" = some m.cls := hown
  have hml : c.maxLocals = 1 := hml
  show OGo p e below s _ _ (T0.setTop (mkF m 0 #[.val (.ref a1)] []))
  refine own_st (fun _ z => XS.aloadN X0.here hx rfl (hb hby d37_0) rfl rfl z) ?_
  show OGo p e below s _ _ (T0.setTop (mkF m 1 #[.val (.ref a1)] [(.ref a1)]))
  obtain ⟨T78, X78, e78, st78⟩ := own_callUP X0 hx hZ (y := (⟨"java/lang/AbstractStringBuilder", "length", "()I"⟩ : MethodName)) (W := 0) hown (own_w hw 200 rfl) (own_same (own_ord (y := (⟨"java/lang/AbstractStringBuilder", "ensureCapacityInternal", "(I)V"⟩ : MethodName)) (own_w hw 131 rfl)) (own_w hw 196 rfl) (by decide)) (own_w hw 196 rfl) (own_w hw 122 rfl) (by decide) (own_w hw 201 rfl) (own_w hw 106 rfl) (t2_ l Z a0 hw a1 q2 h0 F_count_a1) (by decide) (by decide) (a := a1) E_a1 (g := (mkF m 1 #[.val (.ref a1)] [(.ref a1)])) rfl (by rw [hml]; rfl) (argsL := []) (rest := []) (lenOf pd_12 rfl) rfl (by show 2 * 0 + _ ≤ _; exact Nat.le_of_eq rfl) (hb hby d37_1) rfl e0 (by decide) (by decide)
  refine own_st st78 ?_
  show OGo p e below s _ _ (T78.setTop (mkF m 4 #[.val (.ref a1)] [(.int q2)]))
  exact own_retI X78 hx hlk hret (hb hby d37_4) (by decide) (by decide) (⟨rfl, rfl, e78⟩)
theorem d39_0 : decode jdk_68_method_68_code 0 = .ok (.getstatic 18, 3) := by decide +kernel
theorem d39_3 : decode jdk_68_method_68_code 3 = .ok (.ifCond .eq 14, 3) := by decide +kernel
theorem d39_6 : decode jdk_68_method_68_code 6 = .ok (.aload_n 0, 1) := by decide +kernel
theorem d39_7 : decode jdk_68_method_68_code 7 = .ok (.getfield 22, 3) := by decide +kernel
theorem d39_10 : decode jdk_68_method_68_code 10 = .ok (.ifCond .ne 7, 3) := by decide +kernel
theorem d39_13 : decode jdk_68_method_68_code 13 = .ok (.iconst 1, 1) := by decide +kernel
theorem d39_14 : decode jdk_68_method_68_code 14 = .ok (.goto 4, 3) := by decide +kernel
theorem d39_18 : decode jdk_68_method_68_code 18 = .ok (.ireturn, 1) := by decide +kernel
theorem ef_39_R (m : MethodId) (x0 : Addr) : entryFrame m #[(.ref x0)] 1 = mkF m 0 #[.val (.ref x0)] [] := by first | (simp [entryFrame, mkF, argsToLocals, Value.category]; done) | rfl
set_option maxRecDepth 65536 in
set_option maxHeartbeats 40000000 in
theorem t4_ (l : Launch) (Z : State) (a0 : Array Value) (hw : ∀ d ∈ tables_1, d.before a0 Z = true) (a1 : Addr) (cs : Int32) (h0 : Heap) (F_coder_a1 : Fld Z h0 a1 "java/lang/AbstractStringBuilder" "coder" "B" (.int (0 : Int32))) (S_COMPACT_STRINGS : Sta Z h0 "java/lang/String" "COMPACT_STRINGS" "Z" (.int cs)) (hcs : ¬ cs = (0 : Int32)) :
    OPure l Z (⟨"java/lang/AbstractStringBuilder", "isLatin1", "()Z"⟩ : MethodName) jdk_68_method_68_code 1 (some .boolean) [] ({ frames := 0, cells := 0, slots := 0, locals := 0 } : Room) #[(.ref a1)] h0 (some (.int (1 : Int32))) := by
  refine own_body (plainFor_of_name pn_java_lang_AbstractStringBuilder) (fun m => ef_39_R m a1) ?_
  intro p e s m below meth c T0 hx hby hml hown hnm hret hlk hZ X0 e0
  have hown : s.vm.findClass "java/lang/AbstractStringBuilder" = some m.cls := hown
  have hml : c.maxLocals = 1 := hml
  show OGo p e below s _ _ (T0.setTop (mkF m 0 #[.val (.ref a1)] []))
  obtain ⟨T79, X79, e79, st79⟩ := getS2 X0 hx hZ hown (host := "") (Or.inl (own_w hw 109 rfl)) Via.refl e0 S_COMPACT_STRINGS (g := (mkF m 0 #[.val (.ref a1)] [])) rfl (hb hby d39_0)
  refine own_st st79 ?_
  show OGo p e below s _ _ (T79.setTop (mkF m 3 #[.val (.ref a1)] [(.int cs)]))
  refine own_st (fun _ z => XS.ifNo X79.here hx rfl (hb hby d39_3) rfl ((if0 _ _).trans (feq (hcs)).1) z) ?_
  show OGo p e below s _ _ (T79.setTop (mkF m 6 #[.val (.ref a1)] []))
  refine own_st (fun _ z => XS.aloadN X79.here hx rfl (hb hby d39_6) rfl rfl z) ?_
  show OGo p e below s _ _ (T79.setTop (mkF m 7 #[.val (.ref a1)] [(.ref a1)]))
  obtain ⟨T80, X80, e80, st80⟩ := getF X79 hx hZ hown (host := "") (Or.inl (own_w hw 112 rfl)) Via.refl e79 F_coder_a1 (g := (mkF m 7 #[.val (.ref a1)] [(.ref a1)])) rfl rfl (hb hby d39_7)
  refine own_st st80 ?_
  show OGo p e below s _ _ (T80.setTop (mkF m 10 #[.val (.ref a1)] [(.int (0 : Int32))]))
  refine own_st (fun _ z => XS.ifNo X80.here hx rfl (hb hby d39_10) rfl ((if0 _ _).trans (teq ((by decide : (0 : Int32) = (0 : Int32)))).2) z) ?_
  show OGo p e below s _ _ (T80.setTop (mkF m 13 #[.val (.ref a1)] []))
  refine own_st (fun _ z => XS.iconst X80.here hx rfl (hb hby d39_13) z) ?_
  show OGo p e below s _ _ (T80.setTop (mkF m 14 #[.val (.ref a1)] [(.int (1 : Int32))]))
  refine own_st (fun _ z => XS.goto X80.here hx rfl (pc0 := 14) (pc' := 18) rfl (hb hby d39_14) (by decide) (by decide) z) ?_
  show OGo p e below s _ _ (T80.setTop (mkF m 18 #[.val (.ref a1)] [(.int (1 : Int32))]))
  exact own_retN X80 hx hlk (t := .boolean) hret (by simp) (hb hby d39_18) (by decide) (by decide) (⟨rfl, rfl, e80⟩)
theorem d42_0 : decode jdk_65_method_131_code 0 = .ok (.iload_n 1, 1) := by decide +kernel
theorem d42_1 : decode jdk_65_method_131_code 1 = .ok (.iload_n 0, 1) := by decide +kernel
theorem d42_2 : decode jdk_65_method_131_code 2 = .ok (.if_icmp .ge 35, 3) := by decide +kernel
theorem d42_37 : decode jdk_65_method_131_code 37 = .ok (.return_, 1) := by decide +kernel
theorem ef_42_II (m : MethodId) (x0 : Int32) (x1 : Int32) : entryFrame m #[(.int x0), (.int x1)] 2 = mkF m 0 #[.val (.int x0), .val (.int x1)] [] := by first | (simp [entryFrame, mkF, argsToLocals, Value.category]; done) | rfl
set_option maxRecDepth 65536 in
set_option maxHeartbeats 40000000 in
theorem t5_ (l : Launch) (Z : State) (a0 : Array Value) (hw : ∀ d ∈ tables_1, d.before a0 Z = true) (k : Nat) (h0 : Heap) (hk : k < 2 ^ 30) :
    OPure l Z (⟨"java/util/Arrays", "checkLength", "(II)V"⟩ : MethodName) jdk_65_method_131_code 2 none [] ({ frames := 0, cells := 0, slots := 0, locals := 0 } : Room) #[(.int (0 : Int32)), (.int (Int32.ofNat k))] h0 (none) := by
  refine own_body (plainFor_of_name pn_java_util_Arrays) (fun m => ef_42_II m (0 : Int32) (Int32.ofNat k)) ?_
  intro p e s m below meth c T0 hx hby hml hown hnm hret hlk hZ X0 e0
  have hown : s.vm.findClass "java/util/Arrays" = some m.cls := hown
  have hml : c.maxLocals = 2 := hml
  show OGo p e below s _ _ (T0.setTop (mkF m 0 #[.val (.int (0 : Int32)), .val (.int (Int32.ofNat k))] []))
  refine own_st (fun _ z => XS.iloadN X0.here hx rfl (hb hby d42_0) rfl z) ?_
  show OGo p e below s _ _ (T0.setTop (mkF m 1 #[.val (.int (0 : Int32)), .val (.int (Int32.ofNat k))] [(.int (Int32.ofNat k))]))
  refine own_st (fun _ z => XS.iloadN X0.here hx rfl (hb hby d42_1) rfl z) ?_
  show OGo p e below s _ _ (T0.setTop (mkF m 2 #[.val (.int (0 : Int32)), .val (.int (Int32.ofNat k))] [(.int (0 : Int32)), (.int (Int32.ofNat k))]))
  refine own_st (fun _ z => XS.icmpYes X0.here hx rfl (pc0 := 2) (pc' := 37) rfl (hb hby d42_2) rfl (flt ((own_nat (by omega)).2.1)).2.1 (by decide) (by decide) z) ?_
  show OGo p e below s _ _ (T0.setTop (mkF m 37 #[.val (.int (0 : Int32)), .val (.int (Int32.ofNat k))] []))
  exact own_retV X0 hx hlk hret (hb hby d42_37) (by decide) (by decide) (⟨rfl, rfl, e0⟩)
theorem d41_0 : decode jdk_65_method_133_code 0 = .ok (.iload_n 1, 1) := by decide +kernel
theorem d41_1 : decode jdk_65_method_133_code 1 = .ok (.iload_n 2, 1) := by decide +kernel
theorem d41_2 : decode jdk_65_method_133_code 2 = .ok (.invokestatic 343, 3) := by decide +kernel
theorem pd_15 : parseMethodDescriptor "(II)V" = some ⟨[.int, .int], none⟩ := by decide +kernel
theorem d41_5 : decode jdk_65_method_133_code 5 = .ok (.iload_n 2, 1) := by decide +kernel
theorem d41_6 : decode jdk_65_method_133_code 6 = .ok (.iload_n 1, 1) := by decide +kernel
theorem d41_7 : decode jdk_65_method_133_code 7 = .ok (.isub, 1) := by decide +kernel
theorem d41_8 : decode jdk_65_method_133_code 8 = .ok (.istore_n 3, 1) := by decide +kernel
theorem d41_9 : decode jdk_65_method_133_code 9 = .ok (.iload_n 3, 1) := by decide +kernel
theorem d41_10 : decode jdk_65_method_133_code 10 = .ok (.newarray .byte, 2) := by decide +kernel
theorem d41_12 : decode jdk_65_method_133_code 12 = .ok (.astore 4, 2) := by decide +kernel
theorem d41_14 : decode jdk_65_method_133_code 14 = .ok (.aload_n 0, 1) := by decide +kernel
theorem d41_15 : decode jdk_65_method_133_code 15 = .ok (.iload_n 1, 1) := by decide +kernel
theorem d41_16 : decode jdk_65_method_133_code 16 = .ok (.aload 4, 2) := by decide +kernel
theorem d41_18 : decode jdk_65_method_133_code 18 = .ok (.iconst 0, 1) := by decide +kernel
theorem d41_19 : decode jdk_65_method_133_code 19 = .ok (.aload_n 0, 1) := by decide +kernel
theorem d41_20 : decode jdk_65_method_133_code 20 = .ok (.arraylength, 1) := by decide +kernel
theorem d41_21 : decode jdk_65_method_133_code 21 = .ok (.iload_n 1, 1) := by decide +kernel
theorem d41_22 : decode jdk_65_method_133_code 22 = .ok (.isub, 1) := by decide +kernel
theorem d41_23 : decode jdk_65_method_133_code 23 = .ok (.iload_n 3, 1) := by decide +kernel
theorem d41_24 : decode jdk_65_method_133_code 24 = .ok (.invokestatic 304, 3) := by decide +kernel
theorem d41_27 : decode jdk_65_method_133_code 27 = .ok (.invokestatic 150, 3) := by decide +kernel
theorem d41_30 : decode jdk_65_method_133_code 30 = .ok (.aload 4, 2) := by decide +kernel
theorem d41_32 : decode jdk_65_method_133_code 32 = .ok (.areturn, 1) := by decide +kernel
theorem ef_41_RII (m : MethodId) (x0 : Addr) (x1 : Int32) (x2 : Int32) : entryFrame m #[(.ref x0), (.int x1), (.int x2)] 5 = mkF m 0 #[.val (.ref x0), .val (.int x1), .val (.int x2), .unset, .unset] [] := by first | (simp [entryFrame, mkF, argsToLocals, Value.category]; done) | rfl
set_option maxRecDepth 65536 in
set_option maxHeartbeats 40000000 in
theorem t6_ (l : Launch) (Z : State) (a0 : Array Value) (hw : ∀ d ∈ tables_1, d.before a0 Z = true) (a1 : Addr) (k : Nat) (cap : Nat) (h0 : Heap) (n0 : Nat) (Z0 : n0 ≤ h0.size) (B_a1 : OBy Z h0 a1 cap) (hk : k < cap) (hcap : cap ≤ 34) :
    OMet l Z (⟨"java/util/Arrays", "copyOfRangeByte", "([BII)[B"⟩ : MethodName) jdk_65_method_133_code 5 (some (.array .byte)) [] ({ frames := 1, cells := 1, slots := 34, locals := 18 } : Room) #[(.ref a1), (.int (0 : Int32)), (.int (Int32.ofNat k))] h0 (fun v h' L => ∃ t2 : Addr, v = some (.ref t2) ∧ Fr n0 L ∧ Keep h0 h' [] ∧ h0.size ≤ t2 ∧ Exa Z h' t2 "[B" ∧ OBy Z h' t2 k) := by
  refine own_body (plainFor_of_name pn_java_util_Arrays) (fun m => ef_41_RII m a1 (0 : Int32) (Int32.ofNat k)) ?_
  intro p e s m below meth c T0 hx hby hml hown hnm hret hlk hZ X0 e0
  have hown : s.vm.findClass "java/util/Arrays" = some m.cls := hown
  have hml : c.maxLocals = 5 := hml
  have N0 := Fr.nil n0
  have K0 := Keep.refl h0 []
  show OGo p e below s _ _ (T0.setTop (mkF m 0 #[.val (.ref a1), .val (.int (0 : Int32)), .val (.int (Int32.ofNat k)), .unset, .unset] []))
  refine own_st (fun _ z => XS.iloadN X0.here hx rfl (hb hby d41_0) rfl z) ?_
  show OGo p e below s _ _ (T0.setTop (mkF m 1 #[.val (.ref a1), .val (.int (0 : Int32)), .val (.int (Int32.ofNat k)), .unset, .unset] [(.int (0 : Int32))]))
  refine own_st (fun _ z => XS.iloadN X0.here hx rfl (hb hby d41_1) rfl z) ?_
  show OGo p e below s _ _ (T0.setTop (mkF m 2 #[.val (.ref a1), .val (.int (0 : Int32)), .val (.int (Int32.ofNat k)), .unset, .unset] [(.int (Int32.ofNat k)), (.int (0 : Int32))]))
  obtain ⟨T81, X81, e81, st81⟩ := own_callSP X0 hx hZ (y := (⟨"java/util/Arrays", "checkLength", "(II)V"⟩ : MethodName)) (W := 0) hown (own_w hw 213 rfl) (own_w hw 214 rfl) (own_w hw 171 rfl) (own_w hw 215 rfl) (by decide) (t5_ l Z a0 hw k h0 (by omega)) (by decide) (by decide) (g := (mkF m 2 #[.val (.ref a1), .val (.int (0 : Int32)), .val (.int (Int32.ofNat k)), .unset, .unset] [(.int (Int32.ofNat k)), (.int (0 : Int32))])) rfl (by rw [hml]; rfl) (argsL := [(.int (0 : Int32)), (.int (Int32.ofNat k))]) (rest := []) (lenOf pd_15 rfl) rfl (by show 2 * 0 + _ ≤ _; exact Nat.le_of_eq rfl) (hb hby d41_2) rfl e0 (by decide) (by decide)
  refine own_st st81 ?_
  show OGo p e below s _ _ (T81.setTop (mkF m 5 #[.val (.ref a1), .val (.int (0 : Int32)), .val (.int (Int32.ofNat k)), .unset, .unset] []))
  refine own_st (fun _ z => XS.iloadN X81.here hx rfl (hb hby d41_5) rfl z) ?_
  show OGo p e below s _ _ (T81.setTop (mkF m 6 #[.val (.ref a1), .val (.int (0 : Int32)), .val (.int (Int32.ofNat k)), .unset, .unset] [(.int (Int32.ofNat k))]))
  refine own_st (fun _ z => XS.iloadN X81.here hx rfl (hb hby d41_6) rfl z) ?_
  show OGo p e below s _ _ (T81.setTop (mkF m 7 #[.val (.ref a1), .val (.int (0 : Int32)), .val (.int (Int32.ofNat k)), .unset, .unset] [(.int (0 : Int32)), (.int (Int32.ofNat k))]))
  refine own_st (fun _ z => XS.isub X81.here hx rfl (hb hby d41_7) rfl z) ?_
  show OGo p e below s _ _ (T81.setTop (mkF m 8 #[.val (.ref a1), .val (.int (0 : Int32)), .val (.int (Int32.ofNat k)), .unset, .unset] [(.int ((Int32.ofNat k) - (0 : Int32)))]))
  rw [own_sub0]
  refine own_st (fun _ z => XS.istoreN X81.here hx rfl (hb hby d41_8) rfl (l' := #[.val (.ref a1), .val (.int (0 : Int32)), .val (.int (Int32.ofNat k)), .val (.int (Int32.ofNat k)), .unset]) rfl z) ?_
  show OGo p e below s _ _ (T81.setTop (mkF m 9 #[.val (.ref a1), .val (.int (0 : Int32)), .val (.int (Int32.ofNat k)), .val (.int (Int32.ofNat k)), .unset] []))
  refine own_st (fun _ z => XS.iloadN X81.here hx rfl (hb hby d41_9) rfl z) ?_
  show OGo p e below s _ _ (T81.setTop (mkF m 10 #[.val (.ref a1), .val (.int (0 : Int32)), .val (.int (Int32.ofNat k)), .val (.int (Int32.ofNat k)), .unset] [(.int (Int32.ofNat k))]))
  obtain ⟨T82, hp82, kk82, X82, e82, Ex82, Aa82, Bb82, st82⟩ := newPE X81 hx hZ (own_w hw 27 rfl) e81 (g := (mkF m 10 #[.val (.ref a1), .val (.int (0 : Int32)), .val (.int (Int32.ofNat k)), .val (.int (Int32.ofNat k)), .unset] [(.int (Int32.ofNat k))])) rfl (hb hby d41_10) rfl (own_nat (by omega)).2.1 (cap := 34) (by rw [(own_nat (by omega)).1]; omega) (by decide) (by decide) (by decide) (ad := "[B") (by decide)
  obtain ⟨t2, gs82⟩ : ∃ z, z = h0.size := ⟨_, rfl⟩
  rw [← gs82] at Aa82 Bb82 st82
  have ne_a1_t2 : a1 ≠ t2 := Nat.ne_of_lt (Nat.lt_of_lt_of_le B_a1.lt (Nat.le_of_eq gs82.symm))
  have old_t2 : n0 ≤ t2 := Nat.le_trans Z0 (Nat.le_of_eq gs82.symm)
  have fr_t2 : h0.size ≤ t2 := Nat.le_trans K0.1 (Nat.le_of_eq gs82.symm)
  have K0 := K0.ext Ex82
  have Z0 := Nat.le_trans Z0 Ex82.1
  have B_a1 := B_a1.ext Ex82
  have A_t2 := OAr.new Aa82
  have E_t2 := Bb82
  refine own_st st82 ?_
  show OGo p e below s _ _ (T82.setTop (mkF m 12 #[.val (.ref a1), .val (.int (0 : Int32)), .val (.int (Int32.ofNat k)), .val (.int (Int32.ofNat k)), .unset] [(.ref t2)]))
  rw [(own_nat (i := k) (by omega)).1] at A_t2
  have B_t2 : OBy Z _ t2 k := own_by A_t2 (fun _ _ => own_fd)
  refine own_st (fun _ z => XS.astore X82.here hx rfl (hb hby d41_12) rfl rfl (l' := #[.val (.ref a1), .val (.int (0 : Int32)), .val (.int (Int32.ofNat k)), .val (.int (Int32.ofNat k)), .val (.ref t2)]) rfl z) ?_
  show OGo p e below s _ _ (T82.setTop (mkF m 14 #[.val (.ref a1), .val (.int (0 : Int32)), .val (.int (Int32.ofNat k)), .val (.int (Int32.ofNat k)), .val (.ref t2)] []))
  refine own_st (fun _ z => XS.aloadN X82.here hx rfl (hb hby d41_14) rfl rfl z) ?_
  show OGo p e below s _ _ (T82.setTop (mkF m 15 #[.val (.ref a1), .val (.int (0 : Int32)), .val (.int (Int32.ofNat k)), .val (.int (Int32.ofNat k)), .val (.ref t2)] [(.ref a1)]))
  refine own_st (fun _ z => XS.iloadN X82.here hx rfl (hb hby d41_15) rfl z) ?_
  show OGo p e below s _ _ (T82.setTop (mkF m 16 #[.val (.ref a1), .val (.int (0 : Int32)), .val (.int (Int32.ofNat k)), .val (.int (Int32.ofNat k)), .val (.ref t2)] [(.int (0 : Int32)), (.ref a1)]))
  refine own_st (fun _ z => XS.aload X82.here hx rfl (hb hby d41_16) rfl rfl z) ?_
  show OGo p e below s _ _ (T82.setTop (mkF m 18 #[.val (.ref a1), .val (.int (0 : Int32)), .val (.int (Int32.ofNat k)), .val (.int (Int32.ofNat k)), .val (.ref t2)] [(.ref t2), (.int (0 : Int32)), (.ref a1)]))
  refine own_st (fun _ z => XS.iconst X82.here hx rfl (hb hby d41_18) z) ?_
  show OGo p e below s _ _ (T82.setTop (mkF m 19 #[.val (.ref a1), .val (.int (0 : Int32)), .val (.int (Int32.ofNat k)), .val (.int (Int32.ofNat k)), .val (.ref t2)] [(.int (0 : Int32)), (.ref t2), (.int (0 : Int32)), (.ref a1)]))
  refine own_st (fun _ z => XS.aloadN X82.here hx rfl (hb hby d41_19) rfl rfl z) ?_
  show OGo p e below s _ _ (T82.setTop (mkF m 20 #[.val (.ref a1), .val (.int (0 : Int32)), .val (.int (Int32.ofNat k)), .val (.int (Int32.ofNat k)), .val (.ref t2)] [(.ref a1), (.int (0 : Int32)), (.ref t2), (.int (0 : Int32)), (.ref a1)]))
  obtain ⟨cl83, Ar83, Sz83, -⟩ := id B_a1
  refine own_st (X82.arraylength hx (by rw [e82]; exact Ar83.1) (State.isArrayOf_alike hZ.alike Ar83.2.1) (g := (mkF m 20 #[.val (.ref a1), .val (.int (0 : Int32)), .val (.int (Int32.ofNat k)), .val (.int (Int32.ofNat k)), .val (.ref t2)] [(.ref a1), (.int (0 : Int32)), (.ref t2), (.int (0 : Int32)), (.ref a1)])) rfl rfl (hb hby d41_20)) ?_
  rw [Sz83, own_len cap]
  show OGo p e below s _ _ (T82.setTop (mkF m 21 #[.val (.ref a1), .val (.int (0 : Int32)), .val (.int (Int32.ofNat k)), .val (.int (Int32.ofNat k)), .val (.ref t2)] [(.int (Int32.ofNat cap)), (.int (0 : Int32)), (.ref t2), (.int (0 : Int32)), (.ref a1)]))
  refine own_st (fun _ z => XS.iloadN X82.here hx rfl (hb hby d41_21) rfl z) ?_
  show OGo p e below s _ _ (T82.setTop (mkF m 22 #[.val (.ref a1), .val (.int (0 : Int32)), .val (.int (Int32.ofNat k)), .val (.int (Int32.ofNat k)), .val (.ref t2)] [(.int (0 : Int32)), (.int (Int32.ofNat cap)), (.int (0 : Int32)), (.ref t2), (.int (0 : Int32)), (.ref a1)]))
  refine own_st (fun _ z => XS.isub X82.here hx rfl (hb hby d41_22) rfl z) ?_
  show OGo p e below s _ _ (T82.setTop (mkF m 23 #[.val (.ref a1), .val (.int (0 : Int32)), .val (.int (Int32.ofNat k)), .val (.int (Int32.ofNat k)), .val (.ref t2)] [(.int ((Int32.ofNat cap) - (0 : Int32))), (.int (0 : Int32)), (.ref t2), (.int (0 : Int32)), (.ref a1)]))
  rw [own_sub0]
  refine own_st (fun _ z => XS.iloadN X82.here hx rfl (hb hby d41_23) rfl z) ?_
  show OGo p e below s _ _ (T82.setTop (mkF m 24 #[.val (.ref a1), .val (.int (0 : Int32)), .val (.int (Int32.ofNat k)), .val (.int (Int32.ofNat k)), .val (.ref t2)] [(.int (Int32.ofNat k)), (.int (Int32.ofNat cap)), (.int (0 : Int32)), (.ref t2), (.int (0 : Int32)), (.ref a1)]))
  obtain ⟨T84, X84, e84, st84⟩ := own_callSP X82 hx hZ (y := (⟨"java/lang/Math", "min", "(II)I"⟩ : MethodName)) (W := 4) hown (own_w hw 173 rfl) (own_w hw 174 rfl) (own_w hw 165 rfl) (own_w hw 175 rfl) (by decide) (m3_ l Z a0 hw (Int32.ofNat cap) (Int32.ofNat k) hp82 ((own_lt (by omega) (by omega)).mpr hk)) (by decide) (by decide) (g := (mkF m 24 #[.val (.ref a1), .val (.int (0 : Int32)), .val (.int (Int32.ofNat k)), .val (.int (Int32.ofNat k)), .val (.ref t2)] [(.int (Int32.ofNat k)), (.int (Int32.ofNat cap)), (.int (0 : Int32)), (.ref t2), (.int (0 : Int32)), (.ref a1)])) rfl (by rw [hml]; rfl) (argsL := [(.int (Int32.ofNat cap)), (.int (Int32.ofNat k))]) (rest := [(.int (0 : Int32)), (.ref t2), (.int (0 : Int32)), (.ref a1)]) (lenOf pd_6 rfl) rfl (by show 2 * 0 + _ ≤ _; exact Nat.le_of_eq rfl) (hb hby d41_24) rfl e82 (by decide) (by decide)
  refine own_st st84 ?_
  show OGo p e below s _ _ (T84.setTop (mkF m 27 #[.val (.ref a1), .val (.int (0 : Int32)), .val (.int (Int32.ofNat k)), .val (.int (Int32.ofNat k)), .val (.ref t2)] [(.int (Int32.ofNat k)), (.int (0 : Int32)), (.ref t2), (.int (0 : Int32)), (.ref a1)]))
  obtain ⟨T85, hp85, Lq85, X85, e85, Na85, Kc85, Bq85, st85⟩ := own_acopy X84 hx hZ hown (own_w hw 176 rfl) (own_w hw 152 rfl) (own_w hw 150 rfl) (own_w hw 151 rfl) e84 B_a1 B_t2 (by omega) (by omega) (sp := (0 : Int32)) (dp := (0 : Int32)) (nn := (Int32.ofNat k)) (by decide) (by decide) (own_nat (by omega)).2.1 (by rw [(own_nat (by omega)).1]; show 0 + k ≤ cap; omega) (by rw [(own_nat (by omega)).1]; show 0 + k ≤ k; omega) N0 old_t2 (g := (mkF m 27 #[.val (.ref a1), .val (.int (0 : Int32)), .val (.int (Int32.ofNat k)), .val (.int (Int32.ofNat k)), .val (.ref t2)] [(.int (Int32.ofNat k)), (.int (0 : Int32)), (.ref t2), (.int (0 : Int32)), (.ref a1)])) rfl (by rw [hml]; rfl) rfl (hb hby d41_27) (by decide) (W := 0) (by show 2 * 0 + _ ≤ _; exact Nat.le_of_eq rfl) (by decide)
  have Z0 := Nat.le_trans Z0 Kc85.1
  have K0 := K0.trans Kc85 (allS (Or.inr fr_t2) all0)
  have B_a1 := B_a1.keep Kc85 (ninS ne_a1_t2 nin0)
  have E_t2 := E_t2.keep Kc85
  have B_t2 := Bq85
  refine own_st st85 ?_
  show OGo p e below s _ _ (T85.setTop (mkF m 30 #[.val (.ref a1), .val (.int (0 : Int32)), .val (.int (Int32.ofNat k)), .val (.int (Int32.ofNat k)), .val (.ref t2)] []))
  refine own_st (fun _ z => XS.aload X85.here hx rfl (hb hby d41_30) rfl rfl z) ?_
  show OGo p e below s _ _ (T85.setTop (mkF m 32 #[.val (.ref a1), .val (.int (0 : Int32)), .val (.int (Int32.ofNat k)), .val (.int (Int32.ofNat k)), .val (.ref t2)] [(.ref t2)]))
  exact own_retA X85 hx hlk hret rfl rfl (hb hby d41_32) (by decide) (by decide) (⟨t2, rfl, Na85, (by rw [e85]; exact K0), fr_t2, (by rw [e85]; exact E_t2), (by rw [e85]; exact B_t2)⟩)
theorem d40_0 : decode jdk_65_method_132_code 0 = .ok (.iload_n 1, 1) := by decide +kernel
theorem d40_1 : decode jdk_65_method_132_code 1 = .ok (.ifCond .ne 9, 3) := by decide +kernel
theorem d40_4 : decode jdk_65_method_132_code 4 = .ok (.iload_n 2, 1) := by decide +kernel
theorem d40_5 : decode jdk_65_method_132_code 5 = .ok (.aload_n 0, 1) := by decide +kernel
theorem d40_6 : decode jdk_65_method_132_code 6 = .ok (.arraylength, 1) := by decide +kernel
theorem d40_7 : decode jdk_65_method_132_code 7 = .ok (.if_icmp .eq 10, 3) := by decide +kernel
theorem d40_10 : decode jdk_65_method_132_code 10 = .ok (.aload_n 0, 1) := by decide +kernel
theorem d40_11 : decode jdk_65_method_132_code 11 = .ok (.iload_n 1, 1) := by decide +kernel
theorem d40_12 : decode jdk_65_method_132_code 12 = .ok (.iload_n 2, 1) := by decide +kernel
theorem d40_13 : decode jdk_65_method_132_code 13 = .ok (.invokestatic 339, 3) := by decide +kernel
theorem pd_16 : parseMethodDescriptor "([BII)[B" = some ⟨[(.array .byte), .int, .int], some (.array .byte)⟩ := by decide +kernel
theorem d40_16 : decode jdk_65_method_132_code 16 = .ok (.areturn, 1) := by decide +kernel
theorem ef_40_RII (m : MethodId) (x0 : Addr) (x1 : Int32) (x2 : Int32) : entryFrame m #[(.ref x0), (.int x1), (.int x2)] 3 = mkF m 0 #[.val (.ref x0), .val (.int x1), .val (.int x2)] [] := by first | (simp [entryFrame, mkF, argsToLocals, Value.category]; done) | rfl
set_option maxRecDepth 65536 in
set_option maxHeartbeats 40000000 in
theorem t7_ (l : Launch) (Z : State) (a0 : Array Value) (hw : ∀ d ∈ tables_1, d.before a0 Z = true) (a1 : Addr) (k : Nat) (cap : Nat) (h0 : Heap) (n0 : Nat) (Z0 : n0 ≤ h0.size) (B_a1 : OBy Z h0 a1 cap) (hk : k < cap) (hcap : cap ≤ 34) :
    OMet l Z (⟨"java/util/Arrays", "copyOfRange", "([BII)[B"⟩ : MethodName) jdk_65_method_132_code 3 (some (.array .byte)) [] ({ frames := 2, cells := 1, slots := 34, locals := 34 } : Room) #[(.ref a1), (.int (0 : Int32)), (.int (Int32.ofNat k))] h0 (fun v h' L => ∃ t2 : Addr, v = some (.ref t2) ∧ Fr n0 L ∧ Keep h0 h' [] ∧ h0.size ≤ t2 ∧ Exa Z h' t2 "[B" ∧ OBy Z h' t2 k) := by
  refine own_body (plainFor_of_name pn_java_util_Arrays) (fun m => ef_40_RII m a1 (0 : Int32) (Int32.ofNat k)) ?_
  intro p e s m below meth c T0 hx hby hml hown hnm hret hlk hZ X0 e0
  have hown : s.vm.findClass "java/util/Arrays" = some m.cls := hown
  have hml : c.maxLocals = 3 := hml
  have N0 := Fr.nil n0
  have K0 := Keep.refl h0 []
  show OGo p e below s _ _ (T0.setTop (mkF m 0 #[.val (.ref a1), .val (.int (0 : Int32)), .val (.int (Int32.ofNat k))] []))
  refine own_st (fun _ z => XS.iloadN X0.here hx rfl (hb hby d40_0) rfl z) ?_
  show OGo p e below s _ _ (T0.setTop (mkF m 1 #[.val (.ref a1), .val (.int (0 : Int32)), .val (.int (Int32.ofNat k))] [(.int (0 : Int32))]))
  refine own_st (fun _ z => XS.ifNo X0.here hx rfl (hb hby d40_1) rfl ((if0 _ _).trans (teq ((by decide : (0 : Int32) = (0 : Int32)))).2) z) ?_
  show OGo p e below s _ _ (T0.setTop (mkF m 4 #[.val (.ref a1), .val (.int (0 : Int32)), .val (.int (Int32.ofNat k))] []))
  refine own_st (fun _ z => XS.iloadN X0.here hx rfl (hb hby d40_4) rfl z) ?_
  show OGo p e below s _ _ (T0.setTop (mkF m 5 #[.val (.ref a1), .val (.int (0 : Int32)), .val (.int (Int32.ofNat k))] [(.int (Int32.ofNat k))]))
  refine own_st (fun _ z => XS.aloadN X0.here hx rfl (hb hby d40_5) rfl rfl z) ?_
  show OGo p e below s _ _ (T0.setTop (mkF m 6 #[.val (.ref a1), .val (.int (0 : Int32)), .val (.int (Int32.ofNat k))] [(.ref a1), (.int (Int32.ofNat k))]))
  obtain ⟨cl86, Ar86, Sz86, -⟩ := id B_a1
  refine own_st (X0.arraylength hx (by rw [e0]; exact Ar86.1) (State.isArrayOf_alike hZ.alike Ar86.2.1) (g := (mkF m 6 #[.val (.ref a1), .val (.int (0 : Int32)), .val (.int (Int32.ofNat k))] [(.ref a1), (.int (Int32.ofNat k))])) rfl rfl (hb hby d40_6)) ?_
  rw [Sz86, own_len cap]
  show OGo p e below s _ _ (T0.setTop (mkF m 7 #[.val (.ref a1), .val (.int (0 : Int32)), .val (.int (Int32.ofNat k))] [(.int (Int32.ofNat cap)), (.int (Int32.ofNat k))]))
  refine own_st (fun _ z => XS.icmpNo X0.here hx rfl (hb hby d40_7) rfl (feq ((own_neqn (Nat.ne_of_lt hk) (by omega) (by omega)))).1 z) ?_
  show OGo p e below s _ _ (T0.setTop (mkF m 10 #[.val (.ref a1), .val (.int (0 : Int32)), .val (.int (Int32.ofNat k))] []))
  refine own_st (fun _ z => XS.aloadN X0.here hx rfl (hb hby d40_10) rfl rfl z) ?_
  show OGo p e below s _ _ (T0.setTop (mkF m 11 #[.val (.ref a1), .val (.int (0 : Int32)), .val (.int (Int32.ofNat k))] [(.ref a1)]))
  refine own_st (fun _ z => XS.iloadN X0.here hx rfl (hb hby d40_11) rfl z) ?_
  show OGo p e below s _ _ (T0.setTop (mkF m 12 #[.val (.ref a1), .val (.int (0 : Int32)), .val (.int (Int32.ofNat k))] [(.int (0 : Int32)), (.ref a1)]))
  refine own_st (fun _ z => XS.iloadN X0.here hx rfl (hb hby d40_12) rfl z) ?_
  show OGo p e below s _ _ (T0.setTop (mkF m 13 #[.val (.ref a1), .val (.int (0 : Int32)), .val (.int (Int32.ofNat k))] [(.int (Int32.ofNat k)), (.int (0 : Int32)), (.ref a1)]))
  obtain ⟨_, T87, Lc87, X87, hQ87, st87⟩ := own_callS X0 hx hZ (y := (⟨"java/util/Arrays", "copyOfRangeByte", "([BII)[B"⟩ : MethodName)) (W := 0) hown (own_w hw 210 rfl) (own_w hw 211 rfl) (own_w hw 171 rfl) (own_w hw 212 rfl) (by decide) (t6_ l Z a0 hw a1 k cap h0 n0 Z0 B_a1 hk hcap) (by decide) (by decide) (g := (mkF m 13 #[.val (.ref a1), .val (.int (0 : Int32)), .val (.int (Int32.ofNat k))] [(.int (Int32.ofNat k)), (.int (0 : Int32)), (.ref a1)])) rfl (by rw [hml]; rfl) (argsL := [(.ref a1), (.int (0 : Int32)), (.int (Int32.ofNat k))]) (rest := []) (lenOf pd_16 rfl) rfl (by show 2 * 0 + _ ≤ _; exact Nat.le_of_eq rfl) (hb hby d40_13) rfl e0 (by decide) (by decide)
  obtain ⟨t2, rfl, Nq87, Kq87, fq87_t2, q87_0, q87_1⟩ := hQ87
  have ne_a1_t2 : a1 ≠ t2 := Nat.ne_of_lt (Nat.lt_of_lt_of_le B_a1.lt fq87_t2)
  have old_t2 : n0 ≤ t2 := Nat.le_trans Z0 fq87_t2
  have fr_t2 : h0.size ≤ t2 := Nat.le_trans K0.1 fq87_t2
  have Z0 := Nat.le_trans Z0 Kq87.1
  have K0 := K0.trans Kq87 all0
  have B_a1 := B_a1.keep Kq87 nin0
  have Nr87 := Fr.app N0 Nq87
  have E_t2 := q87_0
  have B_t2 := q87_1
  refine own_st st87 ?_
  show OGo p e below s _ _ (T87.setTop (mkF m 16 #[.val (.ref a1), .val (.int (0 : Int32)), .val (.int (Int32.ofNat k))] [(.ref t2)]))
  exact own_retA X87 hx hlk hret rfl rfl (hb hby d40_16) (by decide) (by decide) (⟨t2, rfl, Nr87, K0, fr_t2, E_t2, B_t2⟩)
theorem d40_17 : decode jdk_65_method_132_code 17 = .ok (.aload_n 0, 1) := by decide +kernel
theorem d40_18 : decode jdk_65_method_132_code 18 = .ok (.invokevirtual 310, 3) := by decide +kernel
theorem d40_21 : decode jdk_65_method_132_code 21 = .ok (.checkcast 311, 3) := by decide +kernel
theorem d40_24 : decode jdk_65_method_132_code 24 = .ok (.areturn, 1) := by decide +kernel
set_option maxRecDepth 65536 in
set_option maxHeartbeats 40000000 in
theorem t8_ (l : Launch) (Z : State) (a0 : Array Value) (hw : ∀ d ∈ tables_1, d.before a0 Z = true) (a1 : Addr) (cap : Nat) (h0 : Heap) (n0 : Nat) (Z0 : n0 ≤ h0.size) (E_a1 : Exa Z h0 a1 "[B") (B_a1 : OBy Z h0 a1 cap) (hcap : cap ≤ 34) :
    OMet l Z (⟨"java/util/Arrays", "copyOfRange", "([BII)[B"⟩ : MethodName) jdk_65_method_132_code 3 (some (.array .byte)) [] ({ frames := 1, cells := 1, slots := 34, locals := 14 } : Room) #[(.ref a1), (.int (0 : Int32)), (.int (Int32.ofNat cap))] h0 (fun v h' L => ∃ t2 : Addr, v = some (.ref t2) ∧ Fr n0 L ∧ Keep h0 h' [] ∧ h0.size ≤ t2 ∧ Exa Z h' t2 "[B" ∧ OBy Z h' t2 cap) := by
  refine own_body (plainFor_of_name pn_java_util_Arrays) (fun m => ef_40_RII m a1 (0 : Int32) (Int32.ofNat cap)) ?_
  intro p e s m below meth c T0 hx hby hml hown hnm hret hlk hZ X0 e0
  have hown : s.vm.findClass "java/util/Arrays" = some m.cls := hown
  have hml : c.maxLocals = 3 := hml
  have N0 := Fr.nil n0
  have K0 := Keep.refl h0 []
  show OGo p e below s _ _ (T0.setTop (mkF m 0 #[.val (.ref a1), .val (.int (0 : Int32)), .val (.int (Int32.ofNat cap))] []))
  refine own_st (fun _ z => XS.iloadN X0.here hx rfl (hb hby d40_0) rfl z) ?_
  show OGo p e below s _ _ (T0.setTop (mkF m 1 #[.val (.ref a1), .val (.int (0 : Int32)), .val (.int (Int32.ofNat cap))] [(.int (0 : Int32))]))
  refine own_st (fun _ z => XS.ifNo X0.here hx rfl (hb hby d40_1) rfl ((if0 _ _).trans (teq ((by decide : (0 : Int32) = (0 : Int32)))).2) z) ?_
  show OGo p e below s _ _ (T0.setTop (mkF m 4 #[.val (.ref a1), .val (.int (0 : Int32)), .val (.int (Int32.ofNat cap))] []))
  refine own_st (fun _ z => XS.iloadN X0.here hx rfl (hb hby d40_4) rfl z) ?_
  show OGo p e below s _ _ (T0.setTop (mkF m 5 #[.val (.ref a1), .val (.int (0 : Int32)), .val (.int (Int32.ofNat cap))] [(.int (Int32.ofNat cap))]))
  refine own_st (fun _ z => XS.aloadN X0.here hx rfl (hb hby d40_5) rfl rfl z) ?_
  show OGo p e below s _ _ (T0.setTop (mkF m 6 #[.val (.ref a1), .val (.int (0 : Int32)), .val (.int (Int32.ofNat cap))] [(.ref a1), (.int (Int32.ofNat cap))]))
  obtain ⟨cl88, Ar88, Sz88, -⟩ := id B_a1
  refine own_st (X0.arraylength hx (by rw [e0]; exact Ar88.1) (State.isArrayOf_alike hZ.alike Ar88.2.1) (g := (mkF m 6 #[.val (.ref a1), .val (.int (0 : Int32)), .val (.int (Int32.ofNat cap))] [(.ref a1), (.int (Int32.ofNat cap))])) rfl rfl (hb hby d40_6)) ?_
  rw [Sz88, own_len cap]
  show OGo p e below s _ _ (T0.setTop (mkF m 7 #[.val (.ref a1), .val (.int (0 : Int32)), .val (.int (Int32.ofNat cap))] [(.int (Int32.ofNat cap)), (.int (Int32.ofNat cap))]))
  refine own_st (fun _ z => XS.icmpYes X0.here hx rfl (pc0 := 7) (pc' := 17) rfl (hb hby d40_7) rfl (teq (rfl)).1 (by decide) (by decide) z) ?_
  show OGo p e below s _ _ (T0.setTop (mkF m 17 #[.val (.ref a1), .val (.int (0 : Int32)), .val (.int (Int32.ofNat cap))] []))
  refine own_st (fun _ z => XS.aloadN X0.here hx rfl (hb hby d40_17) rfl rfl z) ?_
  show OGo p e below s _ _ (T0.setTop (mkF m 18 #[.val (.ref a1), .val (.int (0 : Int32)), .val (.int (Int32.ofNat cap))] [(.ref a1)]))
  obtain ⟨ff, A_a1, ft_a1⟩ := OBy.oar B_a1
  obtain ⟨T89, hp89, X89, e89, Ex89, Aa89, Bb89, st89⟩ := own_clone X0 hx hZ hown (own_w hw 227 rfl) (own_w hw 228 rfl) (own_w hw 232 rfl) (own_w hw 230 rfl) (own_w hw 231 rfl) (own_w hw 233 rfl) e0 A_a1 E_a1 ft_a1 (g := (mkF m 18 #[.val (.ref a1), .val (.int (0 : Int32)), .val (.int (Int32.ofNat cap))] [(.ref a1)])) rfl (by rw [hml]; rfl) rfl (hb hby d40_18) (by decide) (W := 0) (by show 2 * 0 + _ ≤ _; exact Nat.le_of_eq rfl) (by decide) (cap := 34) hcap (by decide) (by decide)
  obtain ⟨t2, gs89⟩ : ∃ z, z = h0.size := ⟨_, rfl⟩
  rw [← gs89] at Aa89 Bb89 st89
  have ne_a1_t2 : a1 ≠ t2 := Nat.ne_of_lt (Nat.lt_of_lt_of_le E_a1.lt (Nat.le_of_eq gs89.symm))
  have old_t2 : n0 ≤ t2 := Nat.le_trans Z0 (Nat.le_of_eq gs89.symm)
  have fr_t2 : h0.size ≤ t2 := Nat.le_trans K0.1 (Nat.le_of_eq gs89.symm)
  have K0 := K0.ext Ex89
  have Z0 := Nat.le_trans Z0 Ex89.1
  have E_a1 := E_a1.ext Ex89
  have B_a1 := B_a1.ext Ex89
  have A_a1 := A_a1.ext Ex89
  have A_t2 := Aa89
  have E_t2 := Bb89
  refine own_st st89 ?_
  show OGo p e below s _ _ (T89.setTop (mkF m 21 #[.val (.ref a1), .val (.int (0 : Int32)), .val (.int (Int32.ofNat cap))] [(.ref t2)]))
  have B_t2 := own_by A_t2 ft_a1
  obtain ⟨T90, X90, e90, st90⟩ := castY X89 hx hZ hown (own_w hw 234 rfl) e89 (Ins.self E_t2) (g := (mkF m 21 #[.val (.ref a1), .val (.int (0 : Int32)), .val (.int (Int32.ofNat cap))] [(.ref t2)])) rfl rfl (hb hby d40_21)
  refine own_st st90 ?_
  show OGo p e below s _ _ (T90.setTop (mkF m 24 #[.val (.ref a1), .val (.int (0 : Int32)), .val (.int (Int32.ofNat cap))] [(.ref t2)]))
  exact own_retA X90 hx hlk hret rfl rfl (hb hby d40_24) (by decide) (by decide) (⟨t2, rfl, N0, (by rw [e90]; exact K0), fr_t2, (by rw [e90]; exact E_t2), (by rw [e90]; exact B_t2)⟩)
theorem d35_0 : decode jdk_42_method_150_code 0 = .ok (.aload_n 0, 1) := by decide +kernel
theorem d35_1 : decode jdk_42_method_150_code 1 = .ok (.invokespecial 1, 3) := by decide +kernel
theorem d35_4 : decode jdk_42_method_150_code 4 = .ok (.aload_n 1, 1) := by decide +kernel
theorem d35_5 : decode jdk_42_method_150_code 5 = .ok (.invokevirtual 552, 3) := by decide +kernel
theorem pd_17 : parseMethodDescriptor "()[B" = some ⟨[], some (.array .byte)⟩ := by decide +kernel
theorem d35_8 : decode jdk_42_method_150_code 8 = .ok (.astore_n 3, 1) := by decide +kernel
theorem d35_9 : decode jdk_42_method_150_code 9 = .ok (.aload_n 1, 1) := by decide +kernel
theorem d35_10 : decode jdk_42_method_150_code 10 = .ok (.invokevirtual 549, 3) := by decide +kernel
theorem d35_13 : decode jdk_42_method_150_code 13 = .ok (.istore 4, 2) := by decide +kernel
theorem d35_15 : decode jdk_42_method_150_code 15 = .ok (.aload_n 1, 1) := by decide +kernel
theorem d35_16 : decode jdk_42_method_150_code 16 = .ok (.invokevirtual 1047, 3) := by decide +kernel
theorem pd_18 : parseMethodDescriptor "()Z" = some ⟨[], some .boolean⟩ := by decide +kernel
theorem d35_19 : decode jdk_42_method_150_code 19 = .ok (.ifCond .eq 22, 3) := by decide +kernel
theorem d35_22 : decode jdk_42_method_150_code 22 = .ok (.aload_n 0, 1) := by decide +kernel
theorem d35_23 : decode jdk_42_method_150_code 23 = .ok (.iconst 0, 1) := by decide +kernel
theorem d35_24 : decode jdk_42_method_150_code 24 = .ok (.putfield 15, 3) := by decide +kernel
theorem d35_27 : decode jdk_42_method_150_code 27 = .ok (.aload_n 0, 1) := by decide +kernel
theorem d35_28 : decode jdk_42_method_150_code 28 = .ok (.aload_n 3, 1) := by decide +kernel
theorem d35_29 : decode jdk_42_method_150_code 29 = .ok (.iconst 0, 1) := by decide +kernel
theorem d35_30 : decode jdk_42_method_150_code 30 = .ok (.iload 4, 2) := by decide +kernel
theorem d35_32 : decode jdk_42_method_150_code 32 = .ok (.invokestatic 54, 3) := by decide +kernel
theorem d35_35 : decode jdk_42_method_150_code 35 = .ok (.putfield 9, 3) := by decide +kernel
theorem d35_38 : decode jdk_42_method_150_code 38 = .ok (.goto 59, 3) := by decide +kernel
theorem d35_97 : decode jdk_42_method_150_code 97 = .ok (.return_, 1) := by decide +kernel
theorem ef_35_RR0 (m : MethodId) (x0 : Addr) (x1 : Addr) : entryFrame m #[(.ref x0), (.ref x1), .null] 5 = mkF m 0 #[.val (.ref x0), .val (.ref x1), .val .null, .unset, .unset] [] := by first | (simp [entryFrame, mkF, argsToLocals, Value.category]; done) | rfl
set_option maxRecDepth 65536 in
set_option maxHeartbeats 40000000 in
theorem u1l (l : Launch) (Z : State) (a0 : Array Value) (hw : ∀ d ∈ tables_1, d.before a0 Z = true) (a1 : Addr) (a2 : Addr) (t1 : Addr) (k : Nat) (cap : Nat) (cs : Int32) (h0 : Heap) (n0 : Nat) (Z0 : n0 ≤ h0.size) (old_a1 : n0 ≤ a1) (ne_a2_a1 : a2 ≠ a1) (ne_t1_a1 : t1 ≠ a1) (E_a1 : Exa Z h0 a1 "java/lang/String") (F_coder_a1 : Fld Z h0 a1 "java/lang/String" "coder" "B" (.int (0 : Int32))) (F_value_a1 : Fld Z h0 a1 "java/lang/String" "value" "[B" .null) (E_a2 : Exa Z h0 a2 "java/lang/StringBuilder") (F_value_a2 : Fld Z h0 a2 "java/lang/AbstractStringBuilder" "value" "[B" (.ref t1)) (F_coder_a2 : Fld Z h0 a2 "java/lang/AbstractStringBuilder" "coder" "B" (.int (0 : Int32))) (F_count_a2 : Fld Z h0 a2 "java/lang/AbstractStringBuilder" "count" "I" (.int (Int32.ofNat k))) (E_t1 : Exa Z h0 t1 "[B") (B_t1 : OBy Z h0 t1 cap) (S_COMPACT_STRINGS : Sta Z h0 "java/lang/String" "COMPACT_STRINGS" "Z" (.int cs)) (hcs : ¬ cs = (0 : Int32)) (hk : k < cap) (hcap : cap ≤ 34) :
    OMet l Z (⟨"java/lang/String", "<init>", "(Ljava/lang/AbstractStringBuilder;Ljava/lang/Void;)V"⟩ : MethodName) jdk_42_method_150_code 5 none [] ({ frames := 3, cells := 1, slots := 34, locals := 49 } : Room) #[(.ref a1), (.ref a2), .null] h0 (fun v h' L => ∃ t2 : Addr, v = none ∧ Fr n0 L ∧ Keep h0 h' [a1] ∧ h0.size ≤ t2 ∧ Exa Z h' a1 "java/lang/String" ∧ Fld Z h' a1 "java/lang/String" "coder" "B" (.int (0 : Int32)) ∧ Fld Z h' a1 "java/lang/String" "value" "[B" (.ref t2) ∧ Exa Z h' t2 "[B" ∧ OBy Z h' t2 k) := by
  refine own_body (plainFor_of_name pn_java_lang_String) (fun m => ef_35_RR0 m a1 a2) ?_
  intro p e s m below meth c T0 hx hby hml hown hnm hret hlk hZ X0 e0
  have hown : s.vm.findClass "java/lang/String" = some m.cls := hown
  have hml : c.maxLocals = 5 := hml
  have N0 := Fr.nil n0
  have K0 := Keep.refl h0 [a1]
  show OGo p e below s _ _ (T0.setTop (mkF m 0 #[.val (.ref a1), .val (.ref a2), .val .null, .unset, .unset] []))
  refine own_st (fun _ z => XS.aloadN X0.here hx rfl (hb hby d35_0) rfl rfl z) ?_
  show OGo p e below s _ _ (T0.setTop (mkF m 1 #[.val (.ref a1), .val (.ref a2), .val .null, .unset, .unset] [(.ref a1)]))
  obtain ⟨T91, X91, e91, st91⟩ := initO X0 hx hZ hown (own_w hw 19 rfl) (own_w hw 20 rfl) (own_w hw 21 rfl) e0 (g := (mkF m 1 #[.val (.ref a1), .val (.ref a2), .val .null, .unset, .unset] [(.ref a1)])) rfl (by rw [hml]; rfl) rfl (hb hby d35_1) (by decide) (W := 0) (by show 2 * 0 + _ ≤ _; exact Nat.le_of_eq rfl) (by decide)
  refine own_st st91 ?_
  show OGo p e below s _ _ (T91.setTop (mkF m 4 #[.val (.ref a1), .val (.ref a2), .val .null, .unset, .unset] []))
  refine own_st (fun _ z => XS.aloadN X91.here hx rfl (hb hby d35_4) rfl rfl z) ?_
  show OGo p e below s _ _ (T91.setTop (mkF m 5 #[.val (.ref a1), .val (.ref a2), .val .null, .unset, .unset] [(.ref a2)]))
  obtain ⟨T92, X92, e92, st92⟩ := own_callVP X91 hx hZ (y := (⟨"java/lang/AbstractStringBuilder", "getValue", "()[B"⟩ : MethodName)) (z := (⟨"java/lang/AbstractStringBuilder", "getValue", "()[B"⟩ : MethodName)) (W := 0) hown (own_w hw 189 rfl) (own_w hw 190 rfl) (notFace_of_selects (args := #[]) (mvT hZ (own_w hw 192 rfl))) (own_w hw 192 rfl) (own_w hw 191 rfl) (own_w hw 193 rfl) (own_w hw 106 rfl) (by decide) (t1_ l Z a0 hw a2 t1 h0 F_value_a2) (by decide) (by decide) E_a2 (g := (mkF m 5 #[.val (.ref a1), .val (.ref a2), .val .null, .unset, .unset] [(.ref a2)])) rfl (by rw [hml]; rfl) (argsL := []) (rest := []) (lenOf pd_17 rfl) rfl (by show 2 * 0 + _ ≤ _; exact Nat.le_of_eq rfl) (hb hby d35_5) rfl e91 (by decide) (by decide)
  refine own_st st92 ?_
  show OGo p e below s _ _ (T92.setTop (mkF m 8 #[.val (.ref a1), .val (.ref a2), .val .null, .unset, .unset] [(.ref t1)]))
  refine own_st (fun _ z => XS.astoreN X92.here hx rfl (hb hby d35_8) rfl rfl (l' := #[.val (.ref a1), .val (.ref a2), .val .null, .val (.ref t1), .unset]) rfl z) ?_
  show OGo p e below s _ _ (T92.setTop (mkF m 9 #[.val (.ref a1), .val (.ref a2), .val .null, .val (.ref t1), .unset] []))
  refine own_st (fun _ z => XS.aloadN X92.here hx rfl (hb hby d35_9) rfl rfl z) ?_
  show OGo p e below s _ _ (T92.setTop (mkF m 10 #[.val (.ref a1), .val (.ref a2), .val .null, .val (.ref t1), .unset] [(.ref a2)]))
  obtain ⟨T93, X93, e93, st93⟩ := own_callVP X92 hx hZ (y := (⟨"java/lang/AbstractStringBuilder", "length", "()I"⟩ : MethodName)) (z := (⟨"java/lang/StringBuilder", "length", "()I"⟩ : MethodName)) (W := 0) hown (own_w hw 194 rfl) (own_w hw 195 rfl) (own_nface hZ (own_ord (y := (⟨"java/lang/AbstractStringBuilder", "ensureCapacityInternal", "(I)V"⟩ : MethodName)) (own_w hw 131 rfl))) (own_w hw 197 rfl) (own_w hw 198 rfl) (own_w hw 199 rfl) (own_w hw 98 rfl) (by decide) (t3_ l Z a0 hw a2 (Int32.ofNat k) h0 E_a2 F_count_a2) (by decide) (by decide) E_a2 (g := (mkF m 10 #[.val (.ref a1), .val (.ref a2), .val .null, .val (.ref t1), .unset] [(.ref a2)])) rfl (by rw [hml]; rfl) (argsL := []) (rest := []) (lenOf pd_12 rfl) rfl (by show 2 * 0 + _ ≤ _; exact Nat.le_of_eq rfl) (hb hby d35_10) rfl e92 (by decide) (by decide)
  refine own_st st93 ?_
  show OGo p e below s _ _ (T93.setTop (mkF m 13 #[.val (.ref a1), .val (.ref a2), .val .null, .val (.ref t1), .unset] [(.int (Int32.ofNat k))]))
  refine own_st (fun _ z => XS.istore X93.here hx rfl (hb hby d35_13) rfl (l' := #[.val (.ref a1), .val (.ref a2), .val .null, .val (.ref t1), .val (.int (Int32.ofNat k))]) rfl z) ?_
  show OGo p e below s _ _ (T93.setTop (mkF m 15 #[.val (.ref a1), .val (.ref a2), .val .null, .val (.ref t1), .val (.int (Int32.ofNat k))] []))
  refine own_st (fun _ z => XS.aloadN X93.here hx rfl (hb hby d35_15) rfl rfl z) ?_
  show OGo p e below s _ _ (T93.setTop (mkF m 16 #[.val (.ref a1), .val (.ref a2), .val .null, .val (.ref t1), .val (.int (Int32.ofNat k))] [(.ref a2)]))
  obtain ⟨T94, X94, e94, st94⟩ := own_callVP X93 hx hZ (y := (⟨"java/lang/AbstractStringBuilder", "isLatin1", "()Z"⟩ : MethodName)) (z := (⟨"java/lang/AbstractStringBuilder", "isLatin1", "()Z"⟩ : MethodName)) (W := 0) hown (own_w hw 202 rfl) (own_w hw 203 rfl) (notFace_of_selects (args := #[]) (mvT hZ (own_w hw 205 rfl))) (own_w hw 205 rfl) (own_w hw 204 rfl) (own_w hw 206 rfl) (own_w hw 106 rfl) (by decide) (t4_ l Z a0 hw a2 cs h0 F_coder_a2 S_COMPACT_STRINGS hcs) (by decide) (by decide) E_a2 (g := (mkF m 16 #[.val (.ref a1), .val (.ref a2), .val .null, .val (.ref t1), .val (.int (Int32.ofNat k))] [(.ref a2)])) rfl (by rw [hml]; rfl) (argsL := []) (rest := []) (lenOf pd_18 rfl) rfl (by show 2 * 0 + _ ≤ _; exact Nat.le_of_eq rfl) (hb hby d35_16) rfl e93 (by decide) (by decide)
  refine own_st st94 ?_
  show OGo p e below s _ _ (T94.setTop (mkF m 19 #[.val (.ref a1), .val (.ref a2), .val .null, .val (.ref t1), .val (.int (Int32.ofNat k))] [(.int (1 : Int32))]))
  refine own_st (fun _ z => XS.ifNo X94.here hx rfl (hb hby d35_19) rfl ((if0 _ _).trans (feq ((by decide : ¬ (1 : Int32) = (0 : Int32)))).1) z) ?_
  show OGo p e below s _ _ (T94.setTop (mkF m 22 #[.val (.ref a1), .val (.ref a2), .val .null, .val (.ref t1), .val (.int (Int32.ofNat k))] []))
  refine own_st (fun _ z => XS.aloadN X94.here hx rfl (hb hby d35_22) rfl rfl z) ?_
  show OGo p e below s _ _ (T94.setTop (mkF m 23 #[.val (.ref a1), .val (.ref a2), .val .null, .val (.ref t1), .val (.int (Int32.ofNat k))] [(.ref a1)]))
  refine own_st (fun _ z => XS.iconst X94.here hx rfl (hb hby d35_23) z) ?_
  show OGo p e below s _ _ (T94.setTop (mkF m 24 #[.val (.ref a1), .val (.ref a2), .val .null, .val (.ref t1), .val (.int (Int32.ofNat k))] [(.int (0 : Int32)), (.ref a1)]))
  obtain ⟨T95, hp95, X95, e95, Ww95, st95⟩ := putFN X94 hx hZ hown (own_w hw 34 rfl) Via.refl e94 F_coder_a1 E_a1 (Or.inr ⟨(own_w hw 35 rfl), rfl, hnm⟩) (own_w hw 9 rfl) (ty := .byte) (v' := (.int (0 : Int32))) (by decide) rfl (by decide) (g := (mkF m 24 #[.val (.ref a1), .val (.ref a2), .val .null, .val (.ref t1), .val (.int (Int32.ofNat k))] [(.int (0 : Int32)), (.ref a1)])) rfl rfl (hb hby d35_24)
  have Nf95 := Fr.snoc X95 N0 old_a1
  have Z0 := Nat.le_trans Z0 (Keep.of_wr Ww95).1
  have K0 := K0.wr Ww95 (Or.inl (List.mem_of_getElem? (i := 0) rfl))
  have E_a1 := E_a1.wr Ww95
  have F_coder_a1 := F_coder_a1.same Ww95
  have F_value_a1 := F_value_a1.other Ww95 (Or.inr (slot_ne (Or.inr (own_w hw 37 rfl)) (Or.inr (own_w hw 35 rfl)) (by decide) (t := (.array .byte)) (t' := .byte) (by decide) (by decide)))
  have E_a2 := E_a2.wr Ww95
  have F_value_a2 := F_value_a2.other Ww95 (Or.inl ne_a2_a1)
  have F_coder_a2 := F_coder_a2.other Ww95 (Or.inl ne_a2_a1)
  have F_count_a2 := F_count_a2.other Ww95 (Or.inl ne_a2_a1)
  have E_t1 := E_t1.wr Ww95
  have B_t1 := B_t1.other Ww95 ne_t1_a1
  have S_COMPACT_STRINGS := S_COMPACT_STRINGS.wr Ww95
  refine own_st st95 ?_
  show OGo p e below s _ _ (T95.setTop (mkF m 27 #[.val (.ref a1), .val (.ref a2), .val .null, .val (.ref t1), .val (.int (Int32.ofNat k))] []))
  refine own_st (fun _ z => XS.aloadN X95.here hx rfl (hb hby d35_27) rfl rfl z) ?_
  show OGo p e below s _ _ (T95.setTop (mkF m 28 #[.val (.ref a1), .val (.ref a2), .val .null, .val (.ref t1), .val (.int (Int32.ofNat k))] [(.ref a1)]))
  refine own_st (fun _ z => XS.aloadN X95.here hx rfl (hb hby d35_28) rfl rfl z) ?_
  show OGo p e below s _ _ (T95.setTop (mkF m 29 #[.val (.ref a1), .val (.ref a2), .val .null, .val (.ref t1), .val (.int (Int32.ofNat k))] [(.ref t1), (.ref a1)]))
  refine own_st (fun _ z => XS.iconst X95.here hx rfl (hb hby d35_29) z) ?_
  show OGo p e below s _ _ (T95.setTop (mkF m 30 #[.val (.ref a1), .val (.ref a2), .val .null, .val (.ref t1), .val (.int (Int32.ofNat k))] [(.int (0 : Int32)), (.ref t1), (.ref a1)]))
  refine own_st (fun _ z => XS.iload X95.here hx rfl (hb hby d35_30) rfl z) ?_
  show OGo p e below s _ _ (T95.setTop (mkF m 32 #[.val (.ref a1), .val (.ref a2), .val .null, .val (.ref t1), .val (.int (Int32.ofNat k))] [(.int (Int32.ofNat k)), (.int (0 : Int32)), (.ref t1), (.ref a1)]))
  obtain ⟨_, T96, Lc96, X96, hQ96, st96⟩ := own_callS X95 hx hZ (y := (⟨"java/util/Arrays", "copyOfRange", "([BII)[B"⟩ : MethodName)) (W := 1) hown (own_w hw 207 rfl) (own_w hw 208 rfl) (own_w hw 171 rfl) (own_w hw 209 rfl) (by decide) (t7_ l Z a0 hw t1 k cap hp95 n0 Z0 B_t1 hk hcap) (by decide) (by decide) (g := (mkF m 32 #[.val (.ref a1), .val (.ref a2), .val .null, .val (.ref t1), .val (.int (Int32.ofNat k))] [(.int (Int32.ofNat k)), (.int (0 : Int32)), (.ref t1), (.ref a1)])) rfl (by rw [hml]; rfl) (argsL := [(.ref t1), (.int (0 : Int32)), (.int (Int32.ofNat k))]) (rest := [(.ref a1)]) (lenOf pd_16 rfl) rfl (by show 2 * 0 + _ ≤ _; exact Nat.le_of_eq rfl) (hb hby d35_32) rfl e95 (by decide) (by decide)
  obtain ⟨t2, rfl, Nq96, Kq96, fq96_t2, q96_0, q96_1⟩ := hQ96
  have ne_a1_t2 : a1 ≠ t2 := Nat.ne_of_lt (Nat.lt_of_lt_of_le E_a1.lt fq96_t2)
  have ne_a2_t2 : a2 ≠ t2 := Nat.ne_of_lt (Nat.lt_of_lt_of_le E_a2.lt fq96_t2)
  have ne_t1_t2 : t1 ≠ t2 := Nat.ne_of_lt (Nat.lt_of_lt_of_le E_t1.lt fq96_t2)
  have old_t2 : n0 ≤ t2 := Nat.le_trans Z0 fq96_t2
  have fr_t2 : h0.size ≤ t2 := Nat.le_trans K0.1 fq96_t2
  have hpl_Kq96 : ∀ w ∈ ([] : List Addr), ∃ c : Cell, hp95[w]? = some c ∧ c.vm.isStatics = false := all0
  have Z0 := Nat.le_trans Z0 Kq96.1
  have K0 := K0.trans Kq96 all0
  have E_a1 := E_a1.keep Kq96
  have F_coder_a1 := F_coder_a1.keep Kq96 nin0
  have F_value_a1 := F_value_a1.keep Kq96 nin0
  have E_a2 := E_a2.keep Kq96
  have F_value_a2 := F_value_a2.keep Kq96 nin0
  have F_coder_a2 := F_coder_a2.keep Kq96 nin0
  have F_count_a2 := F_count_a2.keep Kq96 nin0
  have E_t1 := E_t1.keep Kq96
  have B_t1 := B_t1.keep Kq96 nin0
  have S_COMPACT_STRINGS := own_sta_keep S_COMPACT_STRINGS Kq96 hpl_Kq96
  have Nr96 := Fr.app Nf95 Nq96
  have E_t2 := q96_0
  have B_t2 := q96_1
  refine own_st st96 ?_
  show OGo p e below s _ _ (T96.setTop (mkF m 35 #[.val (.ref a1), .val (.ref a2), .val .null, .val (.ref t1), .val (.int (Int32.ofNat k))] [(.ref t2), (.ref a1)]))
  obtain ⟨T97, hp97, X97, e97, Ww97, st97⟩ := putF X96 hx hZ hown (host := "") (Or.inl (own_w hw 36 rfl)) Via.refl rfl F_value_a1 E_a1 (Or.inr ⟨(own_w hw 37 rfl), rfl, hnm⟩) (own_w hw 9 rfl) (ty := (.array .byte)) (by decide) rfl rfl (g := (mkF m 35 #[.val (.ref a1), .val (.ref a2), .val .null, .val (.ref t1), .val (.int (Int32.ofNat k))] [(.ref t2), (.ref a1)])) rfl rfl (hb hby d35_35)
  have Nf97 := Fr.snoc X97 Nr96 old_a1
  have Z0 := Nat.le_trans Z0 (Keep.of_wr Ww97).1
  have K0 := K0.wr Ww97 (Or.inl (List.mem_of_getElem? (i := 0) rfl))
  have E_a1 := E_a1.wr Ww97
  have F_coder_a1 := F_coder_a1.other Ww97 (Or.inr (slot_ne (Or.inr (own_w hw 35 rfl)) (Or.inr (own_w hw 37 rfl)) (by decide) (t := .byte) (t' := (.array .byte)) (by decide) (by decide)))
  have F_value_a1 := F_value_a1.same Ww97
  have E_a2 := E_a2.wr Ww97
  have F_value_a2 := F_value_a2.other Ww97 (Or.inl ne_a2_a1)
  have F_coder_a2 := F_coder_a2.other Ww97 (Or.inl ne_a2_a1)
  have F_count_a2 := F_count_a2.other Ww97 (Or.inl ne_a2_a1)
  have E_t1 := E_t1.wr Ww97
  have B_t1 := B_t1.other Ww97 ne_t1_a1
  have S_COMPACT_STRINGS := S_COMPACT_STRINGS.wr Ww97
  have E_t2 := E_t2.wr Ww97
  have B_t2 := B_t2.other Ww97 (Ne.symm ne_a1_t2)
  refine own_st st97 ?_
  show OGo p e below s _ _ (T97.setTop (mkF m 38 #[.val (.ref a1), .val (.ref a2), .val .null, .val (.ref t1), .val (.int (Int32.ofNat k))] []))
  refine own_st (fun _ z => XS.goto X97.here hx rfl (pc0 := 38) (pc' := 97) rfl (hb hby d35_38) (by decide) (by decide) z) ?_
  show OGo p e below s _ _ (T97.setTop (mkF m 97 #[.val (.ref a1), .val (.ref a2), .val .null, .val (.ref t1), .val (.int (Int32.ofNat k))] []))
  exact own_retV X97 hx hlk hret (hb hby d35_97) (by decide) (by decide) (⟨t2, rfl, Nf97, (by rw [e97]; exact K0), fr_t2, (by rw [e97]; exact E_a1), (by rw [e97]; exact F_coder_a1), (by rw [e97]; exact F_value_a1), (by rw [e97]; exact E_t2), (by rw [e97]; exact B_t2)⟩)
theorem d34_0 : decode jdk_42_method_53_code 0 = .ok (.aload_n 0, 1) := by decide +kernel
theorem d34_1 : decode jdk_42_method_53_code 1 = .ok (.aload_n 1, 1) := by decide +kernel
theorem d34_2 : decode jdk_42_method_53_code 2 = .ok (.aconst_null, 1) := by decide +kernel
theorem d34_3 : decode jdk_42_method_53_code 3 = .ok (.invokespecial 489, 3) := by decide +kernel
theorem pd_19 : parseMethodDescriptor "(Ljava/lang/AbstractStringBuilder;Ljava/lang/Void;)V" = some ⟨[(.object "java/lang/AbstractStringBuilder"), (.object "java/lang/Void")], none⟩ := by decide +kernel
theorem d34_6 : decode jdk_42_method_53_code 6 = .ok (.return_, 1) := by decide +kernel
theorem ef_34_RR (m : MethodId) (x0 : Addr) (x1 : Addr) : entryFrame m #[(.ref x0), (.ref x1)] 2 = mkF m 0 #[.val (.ref x0), .val (.ref x1)] [] := by first | (simp [entryFrame, mkF, argsToLocals, Value.category]; done) | rfl
set_option maxRecDepth 65536 in
set_option maxHeartbeats 40000000 in
theorem u2l (l : Launch) (Z : State) (a0 : Array Value) (hw : ∀ d ∈ tables_1, d.before a0 Z = true) (a1 : Addr) (a2 : Addr) (t1 : Addr) (k : Nat) (cap : Nat) (cs : Int32) (h0 : Heap) (n0 : Nat) (Z0 : n0 ≤ h0.size) (old_a1 : n0 ≤ a1) (ne_a2_a1 : a2 ≠ a1) (ne_t1_a1 : t1 ≠ a1) (E_a1 : Exa Z h0 a1 "java/lang/String") (F_coder_a1 : Fld Z h0 a1 "java/lang/String" "coder" "B" (.int (0 : Int32))) (F_value_a1 : Fld Z h0 a1 "java/lang/String" "value" "[B" .null) (E_a2 : Exa Z h0 a2 "java/lang/StringBuilder") (F_value_a2 : Fld Z h0 a2 "java/lang/AbstractStringBuilder" "value" "[B" (.ref t1)) (F_coder_a2 : Fld Z h0 a2 "java/lang/AbstractStringBuilder" "coder" "B" (.int (0 : Int32))) (F_count_a2 : Fld Z h0 a2 "java/lang/AbstractStringBuilder" "count" "I" (.int (Int32.ofNat k))) (E_t1 : Exa Z h0 t1 "[B") (B_t1 : OBy Z h0 t1 cap) (S_COMPACT_STRINGS : Sta Z h0 "java/lang/String" "COMPACT_STRINGS" "Z" (.int cs)) (hcs : ¬ cs = (0 : Int32)) (hk : k < cap) (hcap : cap ≤ 34) :
    OMet l Z (⟨"java/lang/String", "<init>", "(Ljava/lang/StringBuilder;)V"⟩ : MethodName) jdk_42_method_53_code 2 none [] ({ frames := 4, cells := 1, slots := 34, locals := 65 } : Room) #[(.ref a1), (.ref a2)] h0 (fun v h' L => ∃ t2 : Addr, v = none ∧ Fr n0 L ∧ Keep h0 h' [a1] ∧ h0.size ≤ t2 ∧ Exa Z h' a1 "java/lang/String" ∧ Fld Z h' a1 "java/lang/String" "coder" "B" (.int (0 : Int32)) ∧ Fld Z h' a1 "java/lang/String" "value" "[B" (.ref t2) ∧ Exa Z h' t2 "[B" ∧ OBy Z h' t2 k) := by
  refine own_body (plainFor_of_name pn_java_lang_String) (fun m => ef_34_RR m a1 a2) ?_
  intro p e s m below meth c T0 hx hby hml hown hnm hret hlk hZ X0 e0
  have hown : s.vm.findClass "java/lang/String" = some m.cls := hown
  have hml : c.maxLocals = 2 := hml
  have N0 := Fr.nil n0
  have K0 := Keep.refl h0 [a1]
  show OGo p e below s _ _ (T0.setTop (mkF m 0 #[.val (.ref a1), .val (.ref a2)] []))
  refine own_st (fun _ z => XS.aloadN X0.here hx rfl (hb hby d34_0) rfl rfl z) ?_
  show OGo p e below s _ _ (T0.setTop (mkF m 1 #[.val (.ref a1), .val (.ref a2)] [(.ref a1)]))
  refine own_st (fun _ z => XS.aloadN X0.here hx rfl (hb hby d34_1) rfl rfl z) ?_
  show OGo p e below s _ _ (T0.setTop (mkF m 2 #[.val (.ref a1), .val (.ref a2)] [(.ref a2), (.ref a1)]))
  refine own_st (fun _ z => XS.aconstNull X0.here hx rfl (hb hby d34_2) z) ?_
  show OGo p e below s _ _ (T0.setTop (mkF m 3 #[.val (.ref a1), .val (.ref a2)] [.null, (.ref a2), (.ref a1)]))
  obtain ⟨_, T98, Lc98, X98, hQ98, st98⟩ := own_callI X0 hx hZ (y := (⟨"java/lang/String", "<init>", "(Ljava/lang/AbstractStringBuilder;Ljava/lang/Void;)V"⟩ : MethodName)) (W := 0) rfl hown (own_w hw 186 rfl) (own_w hw 187 rfl) (own_w hw 188 rfl) (own_w hw 10 rfl) (by decide) (u1l l Z a0 hw a1 a2 t1 k cap cs h0 n0 Z0 old_a1 ne_a2_a1 ne_t1_a1 E_a1 F_coder_a1 F_value_a1 E_a2 F_value_a2 F_coder_a2 F_count_a2 E_t1 B_t1 S_COMPACT_STRINGS hcs hk hcap) (by decide) (by decide) (a := a1) (g := (mkF m 3 #[.val (.ref a1), .val (.ref a2)] [.null, (.ref a2), (.ref a1)])) rfl (by rw [hml]; rfl) (argsL := [(.ref a2), .null]) (rest := []) (lenOf pd_19 rfl) rfl (by show 2 * 0 + _ ≤ _; exact Nat.le_of_eq rfl) (hb hby d34_3) rfl e0 (by decide) (by decide)
  obtain ⟨t2, rfl, Nq98, Kq98, fq98_t2, q98_0, q98_1, q98_2, q98_3, q98_4⟩ := hQ98
  have ne_a1_t2 : a1 ≠ t2 := Nat.ne_of_lt (Nat.lt_of_lt_of_le E_a1.lt fq98_t2)
  have ne_a2_t2 : a2 ≠ t2 := Nat.ne_of_lt (Nat.lt_of_lt_of_le E_a2.lt fq98_t2)
  have ne_t1_t2 : t1 ≠ t2 := Nat.ne_of_lt (Nat.lt_of_lt_of_le E_t1.lt fq98_t2)
  have old_t2 : n0 ≤ t2 := Nat.le_trans Z0 fq98_t2
  have fr_t2 : h0.size ≤ t2 := Nat.le_trans K0.1 fq98_t2
  have hpl_Kq98 : ∀ w ∈ [a1], ∃ c : Cell, h0[w]? = some c ∧ c.vm.isStatics = false := (allS (own_pl_exa E_a1) all0)
  have Z0 := Nat.le_trans Z0 Kq98.1
  have K0 := K0.trans Kq98 (allS (Or.inl (List.mem_of_getElem? (i := 0) rfl)) all0)
  have E_a2 := E_a2.keep Kq98
  have F_value_a2 := F_value_a2.keep Kq98 (ninS ne_a2_a1 nin0)
  have F_coder_a2 := F_coder_a2.keep Kq98 (ninS ne_a2_a1 nin0)
  have F_count_a2 := F_count_a2.keep Kq98 (ninS ne_a2_a1 nin0)
  have E_t1 := E_t1.keep Kq98
  have B_t1 := B_t1.keep Kq98 (ninS ne_t1_a1 nin0)
  have S_COMPACT_STRINGS := own_sta_keep S_COMPACT_STRINGS Kq98 hpl_Kq98
  have Nr98 := Fr.app N0 Nq98
  have E_a1 := q98_0
  have F_coder_a1 := q98_1
  have F_value_a1 := q98_2
  have E_t2 := q98_3
  have B_t2 := q98_4
  refine own_st st98 ?_
  show OGo p e below s _ _ (T98.setTop (mkF m 6 #[.val (.ref a1), .val (.ref a2)] []))
  exact own_retV X98 hx hlk hret (hb hby d34_6) (by decide) (by decide) (⟨t2, rfl, Nr98, K0, fr_t2, E_a1, F_coder_a1, F_value_a1, E_t2, B_t2⟩)
theorem d33_0 : decode jdk_67_method_42_code 0 = .ok (.new 18, 3) := by decide +kernel
theorem d33_3 : decode jdk_67_method_42_code 3 = .ok (.dup, 1) := by decide +kernel
theorem d33_4 : decode jdk_67_method_42_code 4 = .ok (.aload_n 0, 1) := by decide +kernel
theorem d33_5 : decode jdk_67_method_42_code 5 = .ok (.invokespecial 137, 3) := by decide +kernel
theorem pd_20 : parseMethodDescriptor "(Ljava/lang/StringBuilder;)V" = some ⟨[(.object "java/lang/StringBuilder")], none⟩ := by decide +kernel
theorem d33_8 : decode jdk_67_method_42_code 8 = .ok (.areturn, 1) := by decide +kernel
theorem ef_33_R (m : MethodId) (x0 : Addr) : entryFrame m #[(.ref x0)] 1 = mkF m 0 #[.val (.ref x0)] [] := by first | (simp [entryFrame, mkF, argsToLocals, Value.category]; done) | rfl
set_option maxRecDepth 65536 in
set_option maxHeartbeats 40000000 in
theorem u3l (l : Launch) (Z : State) (a0 : Array Value) (hw : ∀ d ∈ tables_1, d.before a0 Z = true) (a1 : Addr) (t1 : Addr) (k : Nat) (cap : Nat) (cs : Int32) (h0 : Heap) (n0 : Nat) (Z0 : n0 ≤ h0.size) (E_a1 : Exa Z h0 a1 "java/lang/StringBuilder") (F_value_a1 : Fld Z h0 a1 "java/lang/AbstractStringBuilder" "value" "[B" (.ref t1)) (F_coder_a1 : Fld Z h0 a1 "java/lang/AbstractStringBuilder" "coder" "B" (.int (0 : Int32))) (F_count_a1 : Fld Z h0 a1 "java/lang/AbstractStringBuilder" "count" "I" (.int (Int32.ofNat k))) (E_t1 : Exa Z h0 t1 "[B") (B_t1 : OBy Z h0 t1 cap) (S_COMPACT_STRINGS : Sta Z h0 "java/lang/String" "COMPACT_STRINGS" "Z" (.int cs)) (hcs : ¬ cs = (0 : Int32)) (hk : k < cap) (hcap : cap ≤ 34) :
    OMet l Z (⟨"java/lang/StringBuilder", "toString", "()Ljava/lang/String;"⟩ : MethodName) jdk_67_method_42_code 1 (some (.object "java/lang/String")) [] ({ frames := 5, cells := 2, slots := 38, locals := 79 } : Room) #[(.ref a1)] h0 (fun v h' L => ∃ b1 : Addr, v = some (.ref b1) ∧ Fr n0 L ∧ Keep h0 h' [] ∧ h0.size ≤ b1 ∧ Exa Z h' b1 "java/lang/String") := by
  refine own_body (plainFor_of_name pn_java_lang_StringBuilder) (fun m => ef_33_R m a1) ?_
  intro p e s m below meth c T0 hx hby hml hown hnm hret hlk hZ X0 e0
  have hown : s.vm.findClass "java/lang/StringBuilder" = some m.cls := hown
  have hml : c.maxLocals = 1 := hml
  have N0 := Fr.nil n0
  have K0 := Keep.refl h0 []
  show OGo p e below s _ _ (T0.setTop (mkF m 0 #[.val (.ref a1)] []))
  obtain ⟨T99, hp99, X99, e99, Ex99, Aa99, Dd99, -, st99⟩ := newO X0 hx hZ hown (own_w hw 182 rfl) (own_w hw 9 rfl) (own_w hw 10 rfl) e0 (g := (mkF m 0 #[.val (.ref a1)] [])) rfl (hb hby d33_0) (by decide) (by decide)
  obtain ⟨b1, gs99⟩ : ∃ z, z = h0.size := ⟨_, rfl⟩
  rw [← gs99] at Aa99 Dd99 st99
  have ne_a1_b1 : a1 ≠ b1 := Nat.ne_of_lt (Nat.lt_of_lt_of_le E_a1.lt (Nat.le_of_eq gs99.symm))
  have ne_t1_b1 : t1 ≠ b1 := Nat.ne_of_lt (Nat.lt_of_lt_of_le E_t1.lt (Nat.le_of_eq gs99.symm))
  have old_b1 : n0 ≤ b1 := Nat.le_trans Z0 (Nat.le_of_eq gs99.symm)
  have fr_b1 : h0.size ≤ b1 := Nat.le_trans K0.1 (Nat.le_of_eq gs99.symm)
  have K0 := K0.ext Ex99
  have Z0 := Nat.le_trans Z0 Ex99.1
  have E_a1 := E_a1.ext Ex99
  have F_value_a1 := F_value_a1.ext Ex99
  have F_coder_a1 := F_coder_a1.ext Ex99
  have F_count_a1 := F_count_a1.ext Ex99
  have E_t1 := E_t1.ext Ex99
  have B_t1 := B_t1.ext Ex99
  have S_COMPACT_STRINGS := S_COMPACT_STRINGS.ext Ex99
  have E_b1 := Aa99
  have F_coder_b1 : Fld Z hp99 b1 "java/lang/String" "coder" "B" (.int (0 : Int32)) := Dd99 (Or.inr (own_w hw 35 rfl)) (ty := .byte) (by decide)
  have F_value_b1 : Fld Z hp99 b1 "java/lang/String" "value" "[B" .null := Dd99 (Or.inr (own_w hw 37 rfl)) (ty := (.array .byte)) (by decide)
  refine own_st st99 ?_
  show OGo p e below s _ _ (T99.setTop (mkF m 3 #[.val (.ref a1)] [(.ref b1)]))
  refine own_st (fun _ z => XS.dup X99.here hx rfl (hb hby d33_3) rfl rfl z) ?_
  show OGo p e below s _ _ (T99.setTop (mkF m 4 #[.val (.ref a1)] [(.ref b1), (.ref b1)]))
  refine own_st (fun _ z => XS.aloadN X99.here hx rfl (hb hby d33_4) rfl rfl z) ?_
  show OGo p e below s _ _ (T99.setTop (mkF m 5 #[.val (.ref a1)] [(.ref a1), (.ref b1), (.ref b1)]))
  obtain ⟨_, T100, Lc100, X100, hQ100, st100⟩ := own_callI X99 hx hZ (y := (⟨"java/lang/String", "<init>", "(Ljava/lang/StringBuilder;)V"⟩ : MethodName)) (W := 1) rfl hown (own_w hw 183 rfl) (own_w hw 184 rfl) (own_w hw 185 rfl) (own_w hw 10 rfl) (by decide) (u2l l Z a0 hw b1 a1 t1 k cap cs hp99 n0 Z0 old_b1 ne_a1_b1 ne_t1_b1 E_b1 F_coder_b1 F_value_b1 E_a1 F_value_a1 F_coder_a1 F_count_a1 E_t1 B_t1 S_COMPACT_STRINGS hcs hk hcap) (by decide) (by decide) (a := b1) (g := (mkF m 5 #[.val (.ref a1)] [(.ref a1), (.ref b1), (.ref b1)])) rfl (by rw [hml]; rfl) (argsL := [(.ref a1)]) (rest := [(.ref b1)]) (lenOf pd_20 rfl) rfl (by show 2 * 0 + _ ≤ _; exact Nat.le_of_eq rfl) (hb hby d33_5) rfl e99 (by decide) (by decide)
  obtain ⟨t2, rfl, Nq100, Kq100, fq100_t2, q100_0, q100_1, q100_2, q100_3, q100_4⟩ := hQ100
  have ne_a1_t2 : a1 ≠ t2 := Nat.ne_of_lt (Nat.lt_of_lt_of_le E_a1.lt fq100_t2)
  have ne_t1_t2 : t1 ≠ t2 := Nat.ne_of_lt (Nat.lt_of_lt_of_le E_t1.lt fq100_t2)
  have ne_b1_t2 : b1 ≠ t2 := Nat.ne_of_lt (Nat.lt_of_lt_of_le E_b1.lt fq100_t2)
  have old_t2 : n0 ≤ t2 := Nat.le_trans Z0 fq100_t2
  have fr_t2 : h0.size ≤ t2 := Nat.le_trans K0.1 fq100_t2
  have hpl_Kq100 : ∀ w ∈ [b1], ∃ c : Cell, hp99[w]? = some c ∧ c.vm.isStatics = false := (allS (own_pl_exa E_b1) all0)
  have Z0 := Nat.le_trans Z0 Kq100.1
  have K0 := K0.trans Kq100 (allS (Or.inr fr_b1) all0)
  have E_a1 := E_a1.keep Kq100
  have F_value_a1 := F_value_a1.keep Kq100 (ninS ne_a1_b1 nin0)
  have F_coder_a1 := F_coder_a1.keep Kq100 (ninS ne_a1_b1 nin0)
  have F_count_a1 := F_count_a1.keep Kq100 (ninS ne_a1_b1 nin0)
  have E_t1 := E_t1.keep Kq100
  have B_t1 := B_t1.keep Kq100 (ninS ne_t1_b1 nin0)
  have S_COMPACT_STRINGS := own_sta_keep S_COMPACT_STRINGS Kq100 hpl_Kq100
  have Nr100 := Fr.app N0 Nq100
  have E_b1 := q100_0
  have F_coder_b1 := q100_1
  have F_value_b1 := q100_2
  have E_t2 := q100_3
  have B_t2 := q100_4
  refine own_st st100 ?_
  show OGo p e below s _ _ (T100.setTop (mkF m 8 #[.val (.ref a1)] [(.ref b1)]))
  exact own_retA X100 hx hlk hret rfl rfl (hb hby d33_8) (by decide) (by decide) (⟨b1, rfl, Nr100, K0, fr_b1, E_b1⟩)

set_option maxRecDepth 65536 in
set_option maxHeartbeats 40000000 in
theorem u1e (l : Launch) (Z : State) (a0 : Array Value) (hw : ∀ d ∈ tables_1, d.before a0 Z = true) (a1 : Addr) (a2 : Addr) (t1 : Addr) (cap : Nat) (cs : Int32) (h0 : Heap) (n0 : Nat) (Z0 : n0 ≤ h0.size) (old_a1 : n0 ≤ a1) (ne_a2_a1 : a2 ≠ a1) (ne_t1_a1 : t1 ≠ a1) (E_a1 : Exa Z h0 a1 "java/lang/String") (F_coder_a1 : Fld Z h0 a1 "java/lang/String" "coder" "B" (.int (0 : Int32))) (F_value_a1 : Fld Z h0 a1 "java/lang/String" "value" "[B" .null) (E_a2 : Exa Z h0 a2 "java/lang/StringBuilder") (F_value_a2 : Fld Z h0 a2 "java/lang/AbstractStringBuilder" "value" "[B" (.ref t1)) (F_coder_a2 : Fld Z h0 a2 "java/lang/AbstractStringBuilder" "coder" "B" (.int (0 : Int32))) (F_count_a2 : Fld Z h0 a2 "java/lang/AbstractStringBuilder" "count" "I" (.int (Int32.ofNat cap))) (E_t1 : Exa Z h0 t1 "[B") (B_t1 : OBy Z h0 t1 cap) (S_COMPACT_STRINGS : Sta Z h0 "java/lang/String" "COMPACT_STRINGS" "Z" (.int cs)) (hcs : ¬ cs = (0 : Int32)) (hcap : cap ≤ 34) :
    OMet l Z (⟨"java/lang/String", "<init>", "(Ljava/lang/AbstractStringBuilder;Ljava/lang/Void;)V"⟩ : MethodName) jdk_42_method_150_code 5 none [] ({ frames := 2, cells := 1, slots := 34, locals := 29 } : Room) #[(.ref a1), (.ref a2), .null] h0 (fun v h' L => ∃ t2 : Addr, v = none ∧ Fr n0 L ∧ Keep h0 h' [a1] ∧ h0.size ≤ t2 ∧ Exa Z h' a1 "java/lang/String" ∧ Fld Z h' a1 "java/lang/String" "coder" "B" (.int (0 : Int32)) ∧ Fld Z h' a1 "java/lang/String" "value" "[B" (.ref t2) ∧ Exa Z h' t2 "[B" ∧ OBy Z h' t2 cap) := by
  refine own_body (plainFor_of_name pn_java_lang_String) (fun m => ef_35_RR0 m a1 a2) ?_
  intro p e s m below meth c T0 hx hby hml hown hnm hret hlk hZ X0 e0
  have hown : s.vm.findClass "java/lang/String" = some m.cls := hown
  have hml : c.maxLocals = 5 := hml
  have N0 := Fr.nil n0
  have K0 := Keep.refl h0 [a1]
  show OGo p e below s _ _ (T0.setTop (mkF m 0 #[.val (.ref a1), .val (.ref a2), .val .null, .unset, .unset] []))
  refine own_st (fun _ z => XS.aloadN X0.here hx rfl (hb hby d35_0) rfl rfl z) ?_
  show OGo p e below s _ _ (T0.setTop (mkF m 1 #[.val (.ref a1), .val (.ref a2), .val .null, .unset, .unset] [(.ref a1)]))
  obtain ⟨T101, X101, e101, st101⟩ := initO X0 hx hZ hown (own_w hw 19 rfl) (own_w hw 20 rfl) (own_w hw 21 rfl) e0 (g := (mkF m 1 #[.val (.ref a1), .val (.ref a2), .val .null, .unset, .unset] [(.ref a1)])) rfl (by rw [hml]; rfl) rfl (hb hby d35_1) (by decide) (W := 0) (by show 2 * 0 + _ ≤ _; exact Nat.le_of_eq rfl) (by decide)
  refine own_st st101 ?_
  show OGo p e below s _ _ (T101.setTop (mkF m 4 #[.val (.ref a1), .val (.ref a2), .val .null, .unset, .unset] []))
  refine own_st (fun _ z => XS.aloadN X101.here hx rfl (hb hby d35_4) rfl rfl z) ?_
  show OGo p e below s _ _ (T101.setTop (mkF m 5 #[.val (.ref a1), .val (.ref a2), .val .null, .unset, .unset] [(.ref a2)]))
  obtain ⟨T102, X102, e102, st102⟩ := own_callVP X101 hx hZ (y := (⟨"java/lang/AbstractStringBuilder", "getValue", "()[B"⟩ : MethodName)) (z := (⟨"java/lang/AbstractStringBuilder", "getValue", "()[B"⟩ : MethodName)) (W := 0) hown (own_w hw 189 rfl) (own_w hw 190 rfl) (notFace_of_selects (args := #[]) (mvT hZ (own_w hw 192 rfl))) (own_w hw 192 rfl) (own_w hw 191 rfl) (own_w hw 193 rfl) (own_w hw 106 rfl) (by decide) (t1_ l Z a0 hw a2 t1 h0 F_value_a2) (by decide) (by decide) E_a2 (g := (mkF m 5 #[.val (.ref a1), .val (.ref a2), .val .null, .unset, .unset] [(.ref a2)])) rfl (by rw [hml]; rfl) (argsL := []) (rest := []) (lenOf pd_17 rfl) rfl (by show 2 * 0 + _ ≤ _; exact Nat.le_of_eq rfl) (hb hby d35_5) rfl e101 (by decide) (by decide)
  refine own_st st102 ?_
  show OGo p e below s _ _ (T102.setTop (mkF m 8 #[.val (.ref a1), .val (.ref a2), .val .null, .unset, .unset] [(.ref t1)]))
  refine own_st (fun _ z => XS.astoreN X102.here hx rfl (hb hby d35_8) rfl rfl (l' := #[.val (.ref a1), .val (.ref a2), .val .null, .val (.ref t1), .unset]) rfl z) ?_
  show OGo p e below s _ _ (T102.setTop (mkF m 9 #[.val (.ref a1), .val (.ref a2), .val .null, .val (.ref t1), .unset] []))
  refine own_st (fun _ z => XS.aloadN X102.here hx rfl (hb hby d35_9) rfl rfl z) ?_
  show OGo p e below s _ _ (T102.setTop (mkF m 10 #[.val (.ref a1), .val (.ref a2), .val .null, .val (.ref t1), .unset] [(.ref a2)]))
  obtain ⟨T103, X103, e103, st103⟩ := own_callVP X102 hx hZ (y := (⟨"java/lang/AbstractStringBuilder", "length", "()I"⟩ : MethodName)) (z := (⟨"java/lang/StringBuilder", "length", "()I"⟩ : MethodName)) (W := 0) hown (own_w hw 194 rfl) (own_w hw 195 rfl) (own_nface hZ (own_ord (y := (⟨"java/lang/AbstractStringBuilder", "ensureCapacityInternal", "(I)V"⟩ : MethodName)) (own_w hw 131 rfl))) (own_w hw 197 rfl) (own_w hw 198 rfl) (own_w hw 199 rfl) (own_w hw 98 rfl) (by decide) (t3_ l Z a0 hw a2 (Int32.ofNat cap) h0 E_a2 F_count_a2) (by decide) (by decide) E_a2 (g := (mkF m 10 #[.val (.ref a1), .val (.ref a2), .val .null, .val (.ref t1), .unset] [(.ref a2)])) rfl (by rw [hml]; rfl) (argsL := []) (rest := []) (lenOf pd_12 rfl) rfl (by show 2 * 0 + _ ≤ _; exact Nat.le_of_eq rfl) (hb hby d35_10) rfl e102 (by decide) (by decide)
  refine own_st st103 ?_
  show OGo p e below s _ _ (T103.setTop (mkF m 13 #[.val (.ref a1), .val (.ref a2), .val .null, .val (.ref t1), .unset] [(.int (Int32.ofNat cap))]))
  refine own_st (fun _ z => XS.istore X103.here hx rfl (hb hby d35_13) rfl (l' := #[.val (.ref a1), .val (.ref a2), .val .null, .val (.ref t1), .val (.int (Int32.ofNat cap))]) rfl z) ?_
  show OGo p e below s _ _ (T103.setTop (mkF m 15 #[.val (.ref a1), .val (.ref a2), .val .null, .val (.ref t1), .val (.int (Int32.ofNat cap))] []))
  refine own_st (fun _ z => XS.aloadN X103.here hx rfl (hb hby d35_15) rfl rfl z) ?_
  show OGo p e below s _ _ (T103.setTop (mkF m 16 #[.val (.ref a1), .val (.ref a2), .val .null, .val (.ref t1), .val (.int (Int32.ofNat cap))] [(.ref a2)]))
  obtain ⟨T104, X104, e104, st104⟩ := own_callVP X103 hx hZ (y := (⟨"java/lang/AbstractStringBuilder", "isLatin1", "()Z"⟩ : MethodName)) (z := (⟨"java/lang/AbstractStringBuilder", "isLatin1", "()Z"⟩ : MethodName)) (W := 0) hown (own_w hw 202 rfl) (own_w hw 203 rfl) (notFace_of_selects (args := #[]) (mvT hZ (own_w hw 205 rfl))) (own_w hw 205 rfl) (own_w hw 204 rfl) (own_w hw 206 rfl) (own_w hw 106 rfl) (by decide) (t4_ l Z a0 hw a2 cs h0 F_coder_a2 S_COMPACT_STRINGS hcs) (by decide) (by decide) E_a2 (g := (mkF m 16 #[.val (.ref a1), .val (.ref a2), .val .null, .val (.ref t1), .val (.int (Int32.ofNat cap))] [(.ref a2)])) rfl (by rw [hml]; rfl) (argsL := []) (rest := []) (lenOf pd_18 rfl) rfl (by show 2 * 0 + _ ≤ _; exact Nat.le_of_eq rfl) (hb hby d35_16) rfl e103 (by decide) (by decide)
  refine own_st st104 ?_
  show OGo p e below s _ _ (T104.setTop (mkF m 19 #[.val (.ref a1), .val (.ref a2), .val .null, .val (.ref t1), .val (.int (Int32.ofNat cap))] [(.int (1 : Int32))]))
  refine own_st (fun _ z => XS.ifNo X104.here hx rfl (hb hby d35_19) rfl ((if0 _ _).trans (feq ((by decide : ¬ (1 : Int32) = (0 : Int32)))).1) z) ?_
  show OGo p e below s _ _ (T104.setTop (mkF m 22 #[.val (.ref a1), .val (.ref a2), .val .null, .val (.ref t1), .val (.int (Int32.ofNat cap))] []))
  refine own_st (fun _ z => XS.aloadN X104.here hx rfl (hb hby d35_22) rfl rfl z) ?_
  show OGo p e below s _ _ (T104.setTop (mkF m 23 #[.val (.ref a1), .val (.ref a2), .val .null, .val (.ref t1), .val (.int (Int32.ofNat cap))] [(.ref a1)]))
  refine own_st (fun _ z => XS.iconst X104.here hx rfl (hb hby d35_23) z) ?_
  show OGo p e below s _ _ (T104.setTop (mkF m 24 #[.val (.ref a1), .val (.ref a2), .val .null, .val (.ref t1), .val (.int (Int32.ofNat cap))] [(.int (0 : Int32)), (.ref a1)]))
  obtain ⟨T105, hp105, X105, e105, Ww105, st105⟩ := putFN X104 hx hZ hown (own_w hw 34 rfl) Via.refl e104 F_coder_a1 E_a1 (Or.inr ⟨(own_w hw 35 rfl), rfl, hnm⟩) (own_w hw 9 rfl) (ty := .byte) (v' := (.int (0 : Int32))) (by decide) rfl (by decide) (g := (mkF m 24 #[.val (.ref a1), .val (.ref a2), .val .null, .val (.ref t1), .val (.int (Int32.ofNat cap))] [(.int (0 : Int32)), (.ref a1)])) rfl rfl (hb hby d35_24)
  have Nf105 := Fr.snoc X105 N0 old_a1
  have Z0 := Nat.le_trans Z0 (Keep.of_wr Ww105).1
  have K0 := K0.wr Ww105 (Or.inl (List.mem_of_getElem? (i := 0) rfl))
  have E_a1 := E_a1.wr Ww105
  have F_coder_a1 := F_coder_a1.same Ww105
  have F_value_a1 := F_value_a1.other Ww105 (Or.inr (slot_ne (Or.inr (own_w hw 37 rfl)) (Or.inr (own_w hw 35 rfl)) (by decide) (t := (.array .byte)) (t' := .byte) (by decide) (by decide)))
  have E_a2 := E_a2.wr Ww105
  have F_value_a2 := F_value_a2.other Ww105 (Or.inl ne_a2_a1)
  have F_coder_a2 := F_coder_a2.other Ww105 (Or.inl ne_a2_a1)
  have F_count_a2 := F_count_a2.other Ww105 (Or.inl ne_a2_a1)
  have E_t1 := E_t1.wr Ww105
  have B_t1 := B_t1.other Ww105 ne_t1_a1
  have S_COMPACT_STRINGS := S_COMPACT_STRINGS.wr Ww105
  refine own_st st105 ?_
  show OGo p e below s _ _ (T105.setTop (mkF m 27 #[.val (.ref a1), .val (.ref a2), .val .null, .val (.ref t1), .val (.int (Int32.ofNat cap))] []))
  refine own_st (fun _ z => XS.aloadN X105.here hx rfl (hb hby d35_27) rfl rfl z) ?_
  show OGo p e below s _ _ (T105.setTop (mkF m 28 #[.val (.ref a1), .val (.ref a2), .val .null, .val (.ref t1), .val (.int (Int32.ofNat cap))] [(.ref a1)]))
  refine own_st (fun _ z => XS.aloadN X105.here hx rfl (hb hby d35_28) rfl rfl z) ?_
  show OGo p e below s _ _ (T105.setTop (mkF m 29 #[.val (.ref a1), .val (.ref a2), .val .null, .val (.ref t1), .val (.int (Int32.ofNat cap))] [(.ref t1), (.ref a1)]))
  refine own_st (fun _ z => XS.iconst X105.here hx rfl (hb hby d35_29) z) ?_
  show OGo p e below s _ _ (T105.setTop (mkF m 30 #[.val (.ref a1), .val (.ref a2), .val .null, .val (.ref t1), .val (.int (Int32.ofNat cap))] [(.int (0 : Int32)), (.ref t1), (.ref a1)]))
  refine own_st (fun _ z => XS.iload X105.here hx rfl (hb hby d35_30) rfl z) ?_
  show OGo p e below s _ _ (T105.setTop (mkF m 32 #[.val (.ref a1), .val (.ref a2), .val .null, .val (.ref t1), .val (.int (Int32.ofNat cap))] [(.int (Int32.ofNat cap)), (.int (0 : Int32)), (.ref t1), (.ref a1)]))
  obtain ⟨_, T106, Lc106, X106, hQ106, st106⟩ := own_callS X105 hx hZ (y := (⟨"java/util/Arrays", "copyOfRange", "([BII)[B"⟩ : MethodName)) (W := 1) hown (own_w hw 207 rfl) (own_w hw 208 rfl) (own_w hw 171 rfl) (own_w hw 209 rfl) (by decide) (t8_ l Z a0 hw t1 cap hp105 n0 Z0 E_t1 B_t1 hcap) (by decide) (by decide) (g := (mkF m 32 #[.val (.ref a1), .val (.ref a2), .val .null, .val (.ref t1), .val (.int (Int32.ofNat cap))] [(.int (Int32.ofNat cap)), (.int (0 : Int32)), (.ref t1), (.ref a1)])) rfl (by rw [hml]; rfl) (argsL := [(.ref t1), (.int (0 : Int32)), (.int (Int32.ofNat cap))]) (rest := [(.ref a1)]) (lenOf pd_16 rfl) rfl (by show 2 * 0 + _ ≤ _; exact Nat.le_of_eq rfl) (hb hby d35_32) rfl e105 (by decide) (by decide)
  obtain ⟨t2, rfl, Nq106, Kq106, fq106_t2, q106_0, q106_1⟩ := hQ106
  have ne_a1_t2 : a1 ≠ t2 := Nat.ne_of_lt (Nat.lt_of_lt_of_le E_a1.lt fq106_t2)
  have ne_a2_t2 : a2 ≠ t2 := Nat.ne_of_lt (Nat.lt_of_lt_of_le E_a2.lt fq106_t2)
  have ne_t1_t2 : t1 ≠ t2 := Nat.ne_of_lt (Nat.lt_of_lt_of_le E_t1.lt fq106_t2)
  have old_t2 : n0 ≤ t2 := Nat.le_trans Z0 fq106_t2
  have fr_t2 : h0.size ≤ t2 := Nat.le_trans K0.1 fq106_t2
  have hpl_Kq106 : ∀ w ∈ ([] : List Addr), ∃ c : Cell, hp105[w]? = some c ∧ c.vm.isStatics = false := all0
  have Z0 := Nat.le_trans Z0 Kq106.1
  have K0 := K0.trans Kq106 all0
  have E_a1 := E_a1.keep Kq106
  have F_coder_a1 := F_coder_a1.keep Kq106 nin0
  have F_value_a1 := F_value_a1.keep Kq106 nin0
  have E_a2 := E_a2.keep Kq106
  have F_value_a2 := F_value_a2.keep Kq106 nin0
  have F_coder_a2 := F_coder_a2.keep Kq106 nin0
  have F_count_a2 := F_count_a2.keep Kq106 nin0
  have E_t1 := E_t1.keep Kq106
  have B_t1 := B_t1.keep Kq106 nin0
  have S_COMPACT_STRINGS := own_sta_keep S_COMPACT_STRINGS Kq106 hpl_Kq106
  have Nr106 := Fr.app Nf105 Nq106
  have E_t2 := q106_0
  have B_t2 := q106_1
  refine own_st st106 ?_
  show OGo p e below s _ _ (T106.setTop (mkF m 35 #[.val (.ref a1), .val (.ref a2), .val .null, .val (.ref t1), .val (.int (Int32.ofNat cap))] [(.ref t2), (.ref a1)]))
  obtain ⟨T107, hp107, X107, e107, Ww107, st107⟩ := putF X106 hx hZ hown (host := "") (Or.inl (own_w hw 36 rfl)) Via.refl rfl F_value_a1 E_a1 (Or.inr ⟨(own_w hw 37 rfl), rfl, hnm⟩) (own_w hw 9 rfl) (ty := (.array .byte)) (by decide) rfl rfl (g := (mkF m 35 #[.val (.ref a1), .val (.ref a2), .val .null, .val (.ref t1), .val (.int (Int32.ofNat cap))] [(.ref t2), (.ref a1)])) rfl rfl (hb hby d35_35)
  have Nf107 := Fr.snoc X107 Nr106 old_a1
  have Z0 := Nat.le_trans Z0 (Keep.of_wr Ww107).1
  have K0 := K0.wr Ww107 (Or.inl (List.mem_of_getElem? (i := 0) rfl))
  have E_a1 := E_a1.wr Ww107
  have F_coder_a1 := F_coder_a1.other Ww107 (Or.inr (slot_ne (Or.inr (own_w hw 35 rfl)) (Or.inr (own_w hw 37 rfl)) (by decide) (t := .byte) (t' := (.array .byte)) (by decide) (by decide)))
  have F_value_a1 := F_value_a1.same Ww107
  have E_a2 := E_a2.wr Ww107
  have F_value_a2 := F_value_a2.other Ww107 (Or.inl ne_a2_a1)
  have F_coder_a2 := F_coder_a2.other Ww107 (Or.inl ne_a2_a1)
  have F_count_a2 := F_count_a2.other Ww107 (Or.inl ne_a2_a1)
  have E_t1 := E_t1.wr Ww107
  have B_t1 := B_t1.other Ww107 ne_t1_a1
  have S_COMPACT_STRINGS := S_COMPACT_STRINGS.wr Ww107
  have E_t2 := E_t2.wr Ww107
  have B_t2 := B_t2.other Ww107 (Ne.symm ne_a1_t2)
  refine own_st st107 ?_
  show OGo p e below s _ _ (T107.setTop (mkF m 38 #[.val (.ref a1), .val (.ref a2), .val .null, .val (.ref t1), .val (.int (Int32.ofNat cap))] []))
  refine own_st (fun _ z => XS.goto X107.here hx rfl (pc0 := 38) (pc' := 97) rfl (hb hby d35_38) (by decide) (by decide) z) ?_
  show OGo p e below s _ _ (T107.setTop (mkF m 97 #[.val (.ref a1), .val (.ref a2), .val .null, .val (.ref t1), .val (.int (Int32.ofNat cap))] []))
  exact own_retV X107 hx hlk hret (hb hby d35_97) (by decide) (by decide) (⟨t2, rfl, Nf107, (by rw [e107]; exact K0), fr_t2, (by rw [e107]; exact E_a1), (by rw [e107]; exact F_coder_a1), (by rw [e107]; exact F_value_a1), (by rw [e107]; exact E_t2), (by rw [e107]; exact B_t2)⟩)

set_option maxRecDepth 65536 in
set_option maxHeartbeats 40000000 in
theorem u2e (l : Launch) (Z : State) (a0 : Array Value) (hw : ∀ d ∈ tables_1, d.before a0 Z = true) (a1 : Addr) (a2 : Addr) (t1 : Addr) (cap : Nat) (cs : Int32) (h0 : Heap) (n0 : Nat) (Z0 : n0 ≤ h0.size) (old_a1 : n0 ≤ a1) (ne_a2_a1 : a2 ≠ a1) (ne_t1_a1 : t1 ≠ a1) (E_a1 : Exa Z h0 a1 "java/lang/String") (F_coder_a1 : Fld Z h0 a1 "java/lang/String" "coder" "B" (.int (0 : Int32))) (F_value_a1 : Fld Z h0 a1 "java/lang/String" "value" "[B" .null) (E_a2 : Exa Z h0 a2 "java/lang/StringBuilder") (F_value_a2 : Fld Z h0 a2 "java/lang/AbstractStringBuilder" "value" "[B" (.ref t1)) (F_coder_a2 : Fld Z h0 a2 "java/lang/AbstractStringBuilder" "coder" "B" (.int (0 : Int32))) (F_count_a2 : Fld Z h0 a2 "java/lang/AbstractStringBuilder" "count" "I" (.int (Int32.ofNat cap))) (E_t1 : Exa Z h0 t1 "[B") (B_t1 : OBy Z h0 t1 cap) (S_COMPACT_STRINGS : Sta Z h0 "java/lang/String" "COMPACT_STRINGS" "Z" (.int cs)) (hcs : ¬ cs = (0 : Int32)) (hcap : cap ≤ 34) :
    OMet l Z (⟨"java/lang/String", "<init>", "(Ljava/lang/StringBuilder;)V"⟩ : MethodName) jdk_42_method_53_code 2 none [] ({ frames := 3, cells := 1, slots := 34, locals := 45 } : Room) #[(.ref a1), (.ref a2)] h0 (fun v h' L => ∃ t2 : Addr, v = none ∧ Fr n0 L ∧ Keep h0 h' [a1] ∧ h0.size ≤ t2 ∧ Exa Z h' a1 "java/lang/String" ∧ Fld Z h' a1 "java/lang/String" "coder" "B" (.int (0 : Int32)) ∧ Fld Z h' a1 "java/lang/String" "value" "[B" (.ref t2) ∧ Exa Z h' t2 "[B" ∧ OBy Z h' t2 cap) := by
  refine own_body (plainFor_of_name pn_java_lang_String) (fun m => ef_34_RR m a1 a2) ?_
  intro p e s m below meth c T0 hx hby hml hown hnm hret hlk hZ X0 e0
  have hown : s.vm.findClass "java/lang/String" = some m.cls := hown
  have hml : c.maxLocals = 2 := hml
  have N0 := Fr.nil n0
  have K0 := Keep.refl h0 [a1]
  show OGo p e below s _ _ (T0.setTop (mkF m 0 #[.val (.ref a1), .val (.ref a2)] []))
  refine own_st (fun _ z => XS.aloadN X0.here hx rfl (hb hby d34_0) rfl rfl z) ?_
  show OGo p e below s _ _ (T0.setTop (mkF m 1 #[.val (.ref a1), .val (.ref a2)] [(.ref a1)]))
  refine own_st (fun _ z => XS.aloadN X0.here hx rfl (hb hby d34_1) rfl rfl z) ?_
  show OGo p e below s _ _ (T0.setTop (mkF m 2 #[.val (.ref a1), .val (.ref a2)] [(.ref a2), (.ref a1)]))
  refine own_st (fun _ z => XS.aconstNull X0.here hx rfl (hb hby d34_2) z) ?_
  show OGo p e below s _ _ (T0.setTop (mkF m 3 #[.val (.ref a1), .val (.ref a2)] [.null, (.ref a2), (.ref a1)]))
  obtain ⟨_, T108, Lc108, X108, hQ108, st108⟩ := own_callI X0 hx hZ (y := (⟨"java/lang/String", "<init>", "(Ljava/lang/AbstractStringBuilder;Ljava/lang/Void;)V"⟩ : MethodName)) (W := 0) rfl hown (own_w hw 186 rfl) (own_w hw 187 rfl) (own_w hw 188 rfl) (own_w hw 10 rfl) (by decide) (u1e l Z a0 hw a1 a2 t1 cap cs h0 n0 Z0 old_a1 ne_a2_a1 ne_t1_a1 E_a1 F_coder_a1 F_value_a1 E_a2 F_value_a2 F_coder_a2 F_count_a2 E_t1 B_t1 S_COMPACT_STRINGS hcs hcap) (by decide) (by decide) (a := a1) (g := (mkF m 3 #[.val (.ref a1), .val (.ref a2)] [.null, (.ref a2), (.ref a1)])) rfl (by rw [hml]; rfl) (argsL := [(.ref a2), .null]) (rest := []) (lenOf pd_19 rfl) rfl (by show 2 * 0 + _ ≤ _; exact Nat.le_of_eq rfl) (hb hby d34_3) rfl e0 (by decide) (by decide)
  obtain ⟨t2, rfl, Nq108, Kq108, fq108_t2, q108_0, q108_1, q108_2, q108_3, q108_4⟩ := hQ108
  have ne_a1_t2 : a1 ≠ t2 := Nat.ne_of_lt (Nat.lt_of_lt_of_le E_a1.lt fq108_t2)
  have ne_a2_t2 : a2 ≠ t2 := Nat.ne_of_lt (Nat.lt_of_lt_of_le E_a2.lt fq108_t2)
  have ne_t1_t2 : t1 ≠ t2 := Nat.ne_of_lt (Nat.lt_of_lt_of_le E_t1.lt fq108_t2)
  have old_t2 : n0 ≤ t2 := Nat.le_trans Z0 fq108_t2
  have fr_t2 : h0.size ≤ t2 := Nat.le_trans K0.1 fq108_t2
  have hpl_Kq108 : ∀ w ∈ [a1], ∃ c : Cell, h0[w]? = some c ∧ c.vm.isStatics = false := (allS (own_pl_exa E_a1) all0)
  have Z0 := Nat.le_trans Z0 Kq108.1
  have K0 := K0.trans Kq108 (allS (Or.inl (List.mem_of_getElem? (i := 0) rfl)) all0)
  have E_a2 := E_a2.keep Kq108
  have F_value_a2 := F_value_a2.keep Kq108 (ninS ne_a2_a1 nin0)
  have F_coder_a2 := F_coder_a2.keep Kq108 (ninS ne_a2_a1 nin0)
  have F_count_a2 := F_count_a2.keep Kq108 (ninS ne_a2_a1 nin0)
  have E_t1 := E_t1.keep Kq108
  have B_t1 := B_t1.keep Kq108 (ninS ne_t1_a1 nin0)
  have S_COMPACT_STRINGS := own_sta_keep S_COMPACT_STRINGS Kq108 hpl_Kq108
  have Nr108 := Fr.app N0 Nq108
  have E_a1 := q108_0
  have F_coder_a1 := q108_1
  have F_value_a1 := q108_2
  have E_t2 := q108_3
  have B_t2 := q108_4
  refine own_st st108 ?_
  show OGo p e below s _ _ (T108.setTop (mkF m 6 #[.val (.ref a1), .val (.ref a2)] []))
  exact own_retV X108 hx hlk hret (hb hby d34_6) (by decide) (by decide) (⟨t2, rfl, Nr108, K0, fr_t2, E_a1, F_coder_a1, F_value_a1, E_t2, B_t2⟩)

set_option maxRecDepth 65536 in
set_option maxHeartbeats 40000000 in
theorem u3e (l : Launch) (Z : State) (a0 : Array Value) (hw : ∀ d ∈ tables_1, d.before a0 Z = true) (a1 : Addr) (t1 : Addr) (cap : Nat) (cs : Int32) (h0 : Heap) (n0 : Nat) (Z0 : n0 ≤ h0.size) (E_a1 : Exa Z h0 a1 "java/lang/StringBuilder") (F_value_a1 : Fld Z h0 a1 "java/lang/AbstractStringBuilder" "value" "[B" (.ref t1)) (F_coder_a1 : Fld Z h0 a1 "java/lang/AbstractStringBuilder" "coder" "B" (.int (0 : Int32))) (F_count_a1 : Fld Z h0 a1 "java/lang/AbstractStringBuilder" "count" "I" (.int (Int32.ofNat cap))) (E_t1 : Exa Z h0 t1 "[B") (B_t1 : OBy Z h0 t1 cap) (S_COMPACT_STRINGS : Sta Z h0 "java/lang/String" "COMPACT_STRINGS" "Z" (.int cs)) (hcs : ¬ cs = (0 : Int32)) (hcap : cap ≤ 34) :
    OMet l Z (⟨"java/lang/StringBuilder", "toString", "()Ljava/lang/String;"⟩ : MethodName) jdk_67_method_42_code 1 (some (.object "java/lang/String")) [] ({ frames := 4, cells := 2, slots := 38, locals := 59 } : Room) #[(.ref a1)] h0 (fun v h' L => ∃ b1 : Addr, v = some (.ref b1) ∧ Fr n0 L ∧ Keep h0 h' [] ∧ h0.size ≤ b1 ∧ Exa Z h' b1 "java/lang/String") := by
  refine own_body (plainFor_of_name pn_java_lang_StringBuilder) (fun m => ef_33_R m a1) ?_
  intro p e s m below meth c T0 hx hby hml hown hnm hret hlk hZ X0 e0
  have hown : s.vm.findClass "java/lang/StringBuilder" = some m.cls := hown
  have hml : c.maxLocals = 1 := hml
  have N0 := Fr.nil n0
  have K0 := Keep.refl h0 []
  show OGo p e below s _ _ (T0.setTop (mkF m 0 #[.val (.ref a1)] []))
  obtain ⟨T109, hp109, X109, e109, Ex109, Aa109, Dd109, -, st109⟩ := newO X0 hx hZ hown (own_w hw 182 rfl) (own_w hw 9 rfl) (own_w hw 10 rfl) e0 (g := (mkF m 0 #[.val (.ref a1)] [])) rfl (hb hby d33_0) (by decide) (by decide)
  obtain ⟨b1, gs109⟩ : ∃ z, z = h0.size := ⟨_, rfl⟩
  rw [← gs109] at Aa109 Dd109 st109
  have ne_a1_b1 : a1 ≠ b1 := Nat.ne_of_lt (Nat.lt_of_lt_of_le E_a1.lt (Nat.le_of_eq gs109.symm))
  have ne_t1_b1 : t1 ≠ b1 := Nat.ne_of_lt (Nat.lt_of_lt_of_le E_t1.lt (Nat.le_of_eq gs109.symm))
  have old_b1 : n0 ≤ b1 := Nat.le_trans Z0 (Nat.le_of_eq gs109.symm)
  have fr_b1 : h0.size ≤ b1 := Nat.le_trans K0.1 (Nat.le_of_eq gs109.symm)
  have K0 := K0.ext Ex109
  have Z0 := Nat.le_trans Z0 Ex109.1
  have E_a1 := E_a1.ext Ex109
  have F_value_a1 := F_value_a1.ext Ex109
  have F_coder_a1 := F_coder_a1.ext Ex109
  have F_count_a1 := F_count_a1.ext Ex109
  have E_t1 := E_t1.ext Ex109
  have B_t1 := B_t1.ext Ex109
  have S_COMPACT_STRINGS := S_COMPACT_STRINGS.ext Ex109
  have E_b1 := Aa109
  have F_coder_b1 : Fld Z hp109 b1 "java/lang/String" "coder" "B" (.int (0 : Int32)) := Dd109 (Or.inr (own_w hw 35 rfl)) (ty := .byte) (by decide)
  have F_value_b1 : Fld Z hp109 b1 "java/lang/String" "value" "[B" .null := Dd109 (Or.inr (own_w hw 37 rfl)) (ty := (.array .byte)) (by decide)
  refine own_st st109 ?_
  show OGo p e below s _ _ (T109.setTop (mkF m 3 #[.val (.ref a1)] [(.ref b1)]))
  refine own_st (fun _ z => XS.dup X109.here hx rfl (hb hby d33_3) rfl rfl z) ?_
  show OGo p e below s _ _ (T109.setTop (mkF m 4 #[.val (.ref a1)] [(.ref b1), (.ref b1)]))
  refine own_st (fun _ z => XS.aloadN X109.here hx rfl (hb hby d33_4) rfl rfl z) ?_
  show OGo p e below s _ _ (T109.setTop (mkF m 5 #[.val (.ref a1)] [(.ref a1), (.ref b1), (.ref b1)]))
  obtain ⟨_, T110, Lc110, X110, hQ110, st110⟩ := own_callI X109 hx hZ (y := (⟨"java/lang/String", "<init>", "(Ljava/lang/StringBuilder;)V"⟩ : MethodName)) (W := 1) rfl hown (own_w hw 183 rfl) (own_w hw 184 rfl) (own_w hw 185 rfl) (own_w hw 10 rfl) (by decide) (u2e l Z a0 hw b1 a1 t1 cap cs hp109 n0 Z0 old_b1 ne_a1_b1 ne_t1_b1 E_b1 F_coder_b1 F_value_b1 E_a1 F_value_a1 F_coder_a1 F_count_a1 E_t1 B_t1 S_COMPACT_STRINGS hcs hcap) (by decide) (by decide) (a := b1) (g := (mkF m 5 #[.val (.ref a1)] [(.ref a1), (.ref b1), (.ref b1)])) rfl (by rw [hml]; rfl) (argsL := [(.ref a1)]) (rest := [(.ref b1)]) (lenOf pd_20 rfl) rfl (by show 2 * 0 + _ ≤ _; exact Nat.le_of_eq rfl) (hb hby d33_5) rfl e109 (by decide) (by decide)
  obtain ⟨t2, rfl, Nq110, Kq110, fq110_t2, q110_0, q110_1, q110_2, q110_3, q110_4⟩ := hQ110
  have ne_a1_t2 : a1 ≠ t2 := Nat.ne_of_lt (Nat.lt_of_lt_of_le E_a1.lt fq110_t2)
  have ne_t1_t2 : t1 ≠ t2 := Nat.ne_of_lt (Nat.lt_of_lt_of_le E_t1.lt fq110_t2)
  have ne_b1_t2 : b1 ≠ t2 := Nat.ne_of_lt (Nat.lt_of_lt_of_le E_b1.lt fq110_t2)
  have old_t2 : n0 ≤ t2 := Nat.le_trans Z0 fq110_t2
  have fr_t2 : h0.size ≤ t2 := Nat.le_trans K0.1 fq110_t2
  have hpl_Kq110 : ∀ w ∈ [b1], ∃ c : Cell, hp109[w]? = some c ∧ c.vm.isStatics = false := (allS (own_pl_exa E_b1) all0)
  have Z0 := Nat.le_trans Z0 Kq110.1
  have K0 := K0.trans Kq110 (allS (Or.inr fr_b1) all0)
  have E_a1 := E_a1.keep Kq110
  have F_value_a1 := F_value_a1.keep Kq110 (ninS ne_a1_b1 nin0)
  have F_coder_a1 := F_coder_a1.keep Kq110 (ninS ne_a1_b1 nin0)
  have F_count_a1 := F_count_a1.keep Kq110 (ninS ne_a1_b1 nin0)
  have E_t1 := E_t1.keep Kq110
  have B_t1 := B_t1.keep Kq110 (ninS ne_t1_b1 nin0)
  have S_COMPACT_STRINGS := own_sta_keep S_COMPACT_STRINGS Kq110 hpl_Kq110
  have Nr110 := Fr.app N0 Nq110
  have E_b1 := q110_0
  have F_coder_b1 := q110_1
  have F_value_b1 := q110_2
  have E_t2 := q110_3
  have B_t2 := q110_4
  refine own_st st110 ?_
  show OGo p e below s _ _ (T110.setTop (mkF m 8 #[.val (.ref a1)] [(.ref b1)]))
  exact own_retA X110 hx hlk hret rfl rfl (hb hby d33_8) (by decide) (by decide) (⟨b1, rfl, Nr110, K0, fr_b1, E_b1⟩)
theorem own_wS {Z : State} {a0 : Array Value} (hw : ∀ d ∈ tables_1, d.before a0 Z = true) : ∀ a ∈ Bundle.stringAtoms, a.before a0 Z = true := fun a ha => by
  simp only [Bundle.stringAtoms, List.mem_cons, List.not_mem_nil, or_false] at ha
  rcases ha with rfl | rfl | rfl | rfl | rfl | rfl | rfl
  · exact hw _ (List.mem_of_getElem? (i := 10) rfl)
  · exact hw _ (List.mem_of_getElem? (i := 9) rfl)
  · exact hw _ (List.mem_of_getElem? (i := 27) rfl)
  · exact hw _ (List.mem_of_getElem? (i := 37) rfl)
  · exact hw _ (List.mem_of_getElem? (i := 35) rfl)
  · exact hw _ (List.mem_of_getElem? (i := 46) rfl)
  · exact hw _ (List.mem_of_getElem? (i := 47) rfl)
def own_EL : List (String × Nat) := [("com/example/limpet/limpet/LockName", 7), ("com/example/limpet/limpet/LockName", 79), ("com/example/limpet/limpet/LockName", 88), ("com/example/limpet/limpet/LockName", 93), ("com/example/limpet/limpet/LockName", 98), ("com/example/limpet/limpet/LockName", 112), ("com/example/limpet/limpet/LockName", 114)]
theorem own_EW {Z : State} {a0 : Array Value} (hw : ∀ d ∈ tables_1, d.before a0 Z = true) : EW Z a0 own_EL := (EW.cons (own_w hw 45 rfl) (by decide) (EW.cons (own_w hw 91 rfl) (by decide) (EW.cons (own_w hw 218 rfl) (by decide) (EW.cons (own_w hw 221 rfl) (by decide) (EW.cons (own_w hw 224 rfl) (by decide) (EW.cons (own_w hw 114 rfl) (by decide) (EW.cons (own_w hw 153 rfl) (by decide) EW.nil)))))))
theorem own_no {Z : State} {a0 : Array Value} {C O K : String} {n : Nat} (w : (Cond.superclass C O).before a0 Z = true) (wO : (Cond.noSuperclass O).before a0 Z = true) (wi : (Cond.instantiable K n).before a0 Z = true) (h1 : C ≠ K) (h2 : O ≠ K) : ∃ c t, Z.vm.findClass C = some c ∧ Z.vm.findClass K = some t ∧ Z.vm.assignable c t = false := by
  obtain ⟨t, kt, g1, g2, g3, g4, -, -⟩ := Cond.instantiable_spec wi
  have gi : kt.isInterface = false := by simp only [Bool.or_eq_false_iff] at g4; exact g4.1
  obtain ⟨o, ko, o1, o2, o3, -, -⟩ := Cond.noSuperclass_spec wO
  obtain ⟨c, h0⟩ := found_sup w
  obtain ⟨p, k, kp, q1, q2, q3, q4, q5, -, q7⟩ := Cond.superclass_spec h0 w
  cases q1.symm.trans o1
  have ne1 := ids_ne h0 g1 h1
  have ne2 := ids_ne o1 g1 h2
  have n0 : ∀ fuel, Z.vm.isSubclassAux fuel o t = false := fun fuel => by
    cases fuel with
    | zero => rfl
    | succ f => simp [Vm.isSubclassAux, ne2, o2, o3]
  have n3 : ∀ fuel, Z.vm.isSubclassAux fuel c t = false := fun fuel => by
    cases fuel with
    | zero => rfl
    | succ f => simp [Vm.isSubclassAux, ne1, q2, q4, n0]
  refine ⟨c, t, h0, g1, ?_⟩
  show Z.vm.assignableAux (255 + 1) c t = false
  simp [Vm.assignableAux, ne1, q2, g2, q5, g3, gi, Vm.isSubclass, n3]
theorem d19_0 : decode prog_3_method_10_code 0 = .ok (.new 31, 3) := by decide +kernel
theorem d19_3 : decode prog_3_method_10_code 3 = .ok (.dup, 1) := by decide +kernel
theorem d19_4 : decode prog_3_method_10_code 4 = .ok (.invokespecial 33, 3) := by decide +kernel
theorem pd_21 : parseMethodDescriptor "()V" = some ⟨[], none⟩ := by decide +kernel
theorem d19_7 : decode prog_3_method_10_code 7 = .ok (.ldc 112, 2) := by decide +kernel
theorem pd_22 : parseMethodDescriptor "(Ljava/lang/String;)Ljava/lang/StringBuilder;" = some ⟨[(.object "java/lang/String")], some (.object "java/lang/StringBuilder")⟩ := by decide +kernel
theorem d19_9 : decode prog_3_method_10_code 9 = .ok (.invokevirtual 36, 3) := by decide +kernel
theorem d19_12 : decode prog_3_method_10_code 12 = .ok (.aload_n 0, 1) := by decide +kernel
theorem d19_13 : decode prog_3_method_10_code 13 = .ok (.getfield 76, 3) := by decide +kernel
theorem d19_16 : decode prog_3_method_10_code 16 = .ok (.invokevirtual 36, 3) := by decide +kernel
theorem d19_19 : decode prog_3_method_10_code 19 = .ok (.ldc 114, 2) := by decide +kernel
theorem d19_21 : decode prog_3_method_10_code 21 = .ok (.invokevirtual 36, 3) := by decide +kernel
theorem d19_24 : decode prog_3_method_10_code 24 = .ok (.aload_n 1, 1) := by decide +kernel
theorem d19_25 : decode prog_3_method_10_code 25 = .ok (.invokevirtual 36, 3) := by decide +kernel
theorem d19_28 : decode prog_3_method_10_code 28 = .ok (.invokevirtual 43, 3) := by decide +kernel
theorem pd_23 : parseMethodDescriptor "()Ljava/lang/String;" = some ⟨[], some (.object "java/lang/String")⟩ := by decide +kernel
theorem d19_31 : decode prog_3_method_10_code 31 = .ok (.areturn, 1) := by decide +kernel
theorem pn_com_example_limpet_limpet_LockName : plainName "com/example/limpet/limpet/LockName" = true := by first | (simp [plainName, overriddenIn]; done) | decide +kernel
theorem ef_19_RR (m : MethodId) (x0 : Addr) (x1 : Addr) : entryFrame m #[(.ref x0), (.ref x1)] 2 = mkF m 0 #[.val (.ref x0), .val (.ref x1)] [] := by first | (simp [entryFrame, mkF, argsToLocals, Value.category]; done) | rfl
set_option maxRecDepth 65536 in
set_option maxHeartbeats 40000000 in
theorem k1_ (l : Launch) (Z : State) (a0 : Array Value) (hw : ∀ d ∈ tables_1, d.before a0 Z = true) (a1 : Addr) (a2 : Addr) (s1 : Addr) (u1 : Addr) (n : Nat) (u2 : Addr) (m' : Nat) (cs : Int32) (h0 : Heap) (n0 : Nat) (Z0 : n0 ≤ h0.size) (E_a1 : Exa Z h0 a1 "com/example/limpet/limpet/LockName") (F_value_a1 : Fld Z h0 a1 "com/example/limpet/limpet/LockName" "value" "Ljava/lang/String;" (.ref s1)) (E_s1 : Exa Z h0 s1 "java/lang/String") (F_coder_s1 : Fld Z h0 s1 "java/lang/String" "coder" "B" (.int (0 : Int32))) (F_value_s1 : Fld Z h0 s1 "java/lang/String" "value" "[B" (.ref u1)) (B_u1 : OBy Z h0 u1 n) (E_a2 : Exa Z h0 a2 "java/lang/String") (F_coder_a2 : Fld Z h0 a2 "java/lang/String" "coder" "B" (.int (0 : Int32))) (F_value_a2 : Fld Z h0 a2 "java/lang/String" "value" "[B" (.ref u2)) (B_u2 : OBy Z h0 u2 m') (S_COMPACT_STRINGS : Sta Z h0 "java/lang/String" "COMPACT_STRINGS" "Z" (.int cs)) (hcs : ¬ cs = (0 : Int32)) (hn : n ≤ 3) (hm : m' ≤ 8) :
    OMetW l Z own_EL (⟨"com/example/limpet/limpet/LockName", "key", "(Ljava/lang/String;)Ljava/lang/String;"⟩ : MethodName) prog_3_method_10_code 2 (some (.object "java/lang/String")) [] ({ frames := 6, cells := 9, slots := 140, locals := 91 } : Room) #[(.ref a1), (.ref a2)] h0 (fun v h' L => ∃ z1 : Addr, v = some (.ref z1) ∧ Fr n0 L ∧ Keep h0 h' [] ∧ h0.size ≤ z1 ∧ Exa Z h' z1 "java/lang/String") := by
  refine own_bodyW (plainFor_of_name pn_com_example_limpet_limpet_LockName) (fun m => ef_19_RR m a1 a2) ?_
  intro p e s m below meth c T0 hx hby hml hown hnm hret hlk hZ X0 e0 es hS CH
  have hk := Nat.le_refl h0.size
  have hEL := own_EW hw
  have hown : s.vm.findClass "com/example/limpet/limpet/LockName" = some m.cls := hown
  have hml : c.maxLocals = 2 := hml
  have N0 := Fr.nil n0
  have K0 := Keep.refl h0 []
  show OGoW p e below s _ Z _ _ (T0.setTop (mkF m 0 #[.val (.ref a1), .val (.ref a2)] []))
  obtain ⟨T111, hp111, X111, e111, Ex111, Aa111, Dd111, -, st111⟩ := newO X0 hx hZ hown (own_w hw 96 rfl) (own_w hw 97 rfl) (own_w hw 98 rfl) e0 (g := (mkF m 0 #[.val (.ref a1), .val (.ref a2)] [])) rfl (hb hby d19_0) (by decide) (by decide)
  obtain ⟨b0, gs111⟩ : ∃ z, z = h0.size := ⟨_, rfl⟩
  rw [← gs111] at Aa111 Dd111 st111
  have ne_a1_b0 : a1 ≠ b0 := Nat.ne_of_lt (Nat.lt_of_lt_of_le E_a1.lt (Nat.le_of_eq gs111.symm))
  have ne_s1_b0 : s1 ≠ b0 := Nat.ne_of_lt (Nat.lt_of_lt_of_le E_s1.lt (Nat.le_of_eq gs111.symm))
  have ne_u1_b0 : u1 ≠ b0 := Nat.ne_of_lt (Nat.lt_of_lt_of_le B_u1.lt (Nat.le_of_eq gs111.symm))
  have ne_a2_b0 : a2 ≠ b0 := Nat.ne_of_lt (Nat.lt_of_lt_of_le E_a2.lt (Nat.le_of_eq gs111.symm))
  have ne_u2_b0 : u2 ≠ b0 := Nat.ne_of_lt (Nat.lt_of_lt_of_le B_u2.lt (Nat.le_of_eq gs111.symm))
  have old_b0 : n0 ≤ b0 := Nat.le_trans Z0 (Nat.le_of_eq gs111.symm)
  have fr_b0 : h0.size ≤ b0 := Nat.le_trans K0.1 (Nat.le_of_eq gs111.symm)
  have K0 := K0.ext Ex111
  have Z0 := Nat.le_trans Z0 Ex111.1
  have hk := Nat.le_trans hk Ex111.1
  have CH := CH.trans (CHr.ext Ex111 CH.1)
  have E_a1 := E_a1.ext Ex111
  have F_value_a1 := F_value_a1.ext Ex111
  have E_s1 := E_s1.ext Ex111
  have F_coder_s1 := F_coder_s1.ext Ex111
  have F_value_s1 := F_value_s1.ext Ex111
  have B_u1 := B_u1.ext Ex111
  have E_a2 := E_a2.ext Ex111
  have F_coder_a2 := F_coder_a2.ext Ex111
  have F_value_a2 := F_value_a2.ext Ex111
  have B_u2 := B_u2.ext Ex111
  have S_COMPACT_STRINGS := S_COMPACT_STRINGS.ext Ex111
  have E_b0 := Aa111
  have F_value_b0 : Fld Z hp111 b0 "java/lang/AbstractStringBuilder" "value" "[B" .null := Dd111 (Or.inl (own_w hw 111 rfl)) (ty := (.array .byte)) (by decide)
  have F_coder_b0 : Fld Z hp111 b0 "java/lang/AbstractStringBuilder" "coder" "B" (.int (0 : Int32)) := Dd111 (Or.inl (own_w hw 113 rfl)) (ty := .byte) (by decide)
  have F_count_b0 : Fld Z hp111 b0 "java/lang/AbstractStringBuilder" "count" "I" (.int (0 : Int32)) := Dd111 (Or.inl (own_w hw 127 rfl)) (ty := .int) (by decide)
  refine own_stW st111 ?_
  show OGoW p e below s _ Z _ _ (T111.setTop (mkF m 3 #[.val (.ref a1), .val (.ref a2)] [(.ref b0)]))
  refine own_stW (fun _ z => XS.dup X111.here hx rfl (hb hby d19_3) rfl rfl z) ?_
  show OGoW p e below s _ Z _ _ (T111.setTop (mkF m 4 #[.val (.ref a1), .val (.ref a2)] [(.ref b0), (.ref b0)]))
  obtain ⟨_, T112, Lc112, X112, hQ112, st112⟩ := own_callI X111 hx hZ (y := (⟨"java/lang/StringBuilder", "<init>", "()V"⟩ : MethodName)) (W := 1) rfl hown (own_w hw 99 rfl) (own_w hw 100 rfl) (own_w hw 101 rfl) (own_w hw 98 rfl) (by decide) (b2_ l Z a0 hw b0 cs hp111 n0 Z0 old_b0 E_b0 F_value_b0 F_coder_b0 F_count_b0 S_COMPACT_STRINGS hcs) (by decide) (by decide) (a := b0) (g := (mkF m 4 #[.val (.ref a1), .val (.ref a2)] [(.ref b0), (.ref b0)])) rfl (by rw [hml]; rfl) (argsL := []) (rest := [(.ref b0)]) (lenOf pd_21 rfl) rfl (by show 2 * 0 + _ ≤ _; exact Nat.le_of_eq rfl) (hb hby d19_4) rfl e111 (by decide) (by decide)
  obtain ⟨t0, rfl, Nq112, Kq112, fq112_t0, q112_0, q112_1, q112_2, q112_3, q112_4, q112_5⟩ := hQ112
  have ne_a1_t0 : a1 ≠ t0 := Nat.ne_of_lt (Nat.lt_of_lt_of_le E_a1.lt fq112_t0)
  have ne_s1_t0 : s1 ≠ t0 := Nat.ne_of_lt (Nat.lt_of_lt_of_le E_s1.lt fq112_t0)
  have ne_u1_t0 : u1 ≠ t0 := Nat.ne_of_lt (Nat.lt_of_lt_of_le B_u1.lt fq112_t0)
  have ne_a2_t0 : a2 ≠ t0 := Nat.ne_of_lt (Nat.lt_of_lt_of_le E_a2.lt fq112_t0)
  have ne_u2_t0 : u2 ≠ t0 := Nat.ne_of_lt (Nat.lt_of_lt_of_le B_u2.lt fq112_t0)
  have ne_b0_t0 : b0 ≠ t0 := Nat.ne_of_lt (Nat.lt_of_lt_of_le E_b0.lt fq112_t0)
  have old_t0 : n0 ≤ t0 := Nat.le_trans Z0 fq112_t0
  have fr_t0 : h0.size ≤ t0 := Nat.le_trans K0.1 fq112_t0
  have SFn_t0 := own_safe_fresh (EL := own_EL) Kq112 (allS (Safe.exa hZ.alike E_b0 (by decide) (by decide)) all0) CH.1 fq112_t0
  have hpl_Kq112 : ∀ w ∈ [b0], ∃ c : Cell, hp111[w]? = some c ∧ c.vm.isStatics = false := (allS (own_pl_exa E_b0) all0)
  have Z0 := Nat.le_trans Z0 Kq112.1
  have hk := Nat.le_trans hk Kq112.1
  have CH := CH.trans (CHr.keep Kq112 (allS (Safe.exa hZ.alike E_b0 (by decide) (by decide)) all0) CH.1)
  have K0 := K0.trans Kq112 (allS (Or.inr fr_b0) all0)
  have E_a1 := E_a1.keep Kq112
  have F_value_a1 := F_value_a1.keep Kq112 (ninS ne_a1_b0 nin0)
  have E_s1 := E_s1.keep Kq112
  have F_coder_s1 := F_coder_s1.keep Kq112 (ninS ne_s1_b0 nin0)
  have F_value_s1 := F_value_s1.keep Kq112 (ninS ne_s1_b0 nin0)
  have B_u1 := B_u1.keep Kq112 (ninS ne_u1_b0 nin0)
  have E_a2 := E_a2.keep Kq112
  have F_coder_a2 := F_coder_a2.keep Kq112 (ninS ne_a2_b0 nin0)
  have F_value_a2 := F_value_a2.keep Kq112 (ninS ne_a2_b0 nin0)
  have B_u2 := B_u2.keep Kq112 (ninS ne_u2_b0 nin0)
  have S_COMPACT_STRINGS := own_sta_keep S_COMPACT_STRINGS Kq112 hpl_Kq112
  have SF_t0 : Safe Z own_EL _ _ t0 := SFn_t0
  have Nr112 := Fr.app N0 Nq112
  have E_b0 := q112_0
  have F_value_b0 := q112_1
  have F_coder_b0 := q112_2
  have F_count_b0 := q112_3
  have E_t0 := q112_4
  have B_t0 := q112_5
  refine own_stW st112 ?_
  show OGoW p e below s _ Z _ _ (T112.setTop (mkF m 7 #[.val (.ref a1), .val (.ref a2)] [(.ref b0)]))
  obtain ⟨lx, T113, hp113, kc113, lt, kk113, X113, e113, Ex113, hS, hk, hZ, hown, E_lx, F_coder_lx, F_value_lx, V113, lx113, lt113, CH113, Lt113, sep113, st113⟩ := ldcCH X112 hx hZ hown (own_w hw 114 rfl) (own_wS hw) rfl hS hk hEL (by decide) CH.1 (vs := [.int (108 : Int32), .int (105 : Int32), .int (109 : Int32), .int (112 : Int32), .int (101 : Int32), .int (116 : Int32), .int (58 : Int32), .int (123 : Int32)]) (z := (8 : Int32)) ⟨by decide, by decide⟩ (by decide) (by decide) (g := (mkF m 7 #[.val (.ref a1), .val (.ref a2)] [(.ref b0)])) rfl (hb hby d19_7) (n := 32) (by decide) (by decide) (by decide) (by decide)
  have SF_t0 := CH113.safe E_t0.lt SF_t0
  have Z0 := Nat.le_trans Z0 Ex113.1
  have CH := CH.trans CH113
  have K0 := K0.ext Ex113
  have E_a1 := E_a1.ext Ex113
  have F_value_a1 := F_value_a1.ext Ex113
  have E_s1 := E_s1.ext Ex113
  have F_coder_s1 := F_coder_s1.ext Ex113
  have F_value_s1 := F_value_s1.ext Ex113
  have B_u1 := B_u1.ext Ex113
  have E_a2 := E_a2.ext Ex113
  have F_coder_a2 := F_coder_a2.ext Ex113
  have F_value_a2 := F_value_a2.ext Ex113
  have B_u2 := B_u2.ext Ex113
  have S_COMPACT_STRINGS := S_COMPACT_STRINGS.ext Ex113
  have E_b0 := E_b0.ext Ex113
  have F_value_b0 := F_value_b0.ext Ex113
  have F_coder_b0 := F_coder_b0.ext Ex113
  have F_count_b0 := F_count_b0.ext Ex113
  have E_t0 := E_t0.ext Ex113
  have B_t0 := B_t0.ext Ex113
  refine own_stW st113 ?_
  show OGoW p e below s _ Z _ _ (T113.setTop (mkF m 9 #[.val (.ref a1), .val (.ref a2)] [(.ref lx), (.ref b0)]))
  have sp := sep113 b0 (Safe.exa hZ.alike E_b0 (by decide) (by decide))
  have ne_b0_lx := sp.1
  have ne_b0_lt := sp.2
  have sp := sep113 t0 SF_t0
  have ne_t0_lx := sp.1
  have ne_t0_lt := sp.2
  have B_lt : OBy Z hp113 lt 8 := own_by_arv V113 (by decide)
  obtain ⟨_, T114, Lc114, X114, hQ114, st114⟩ := own_callV X113 hx hZ (y := (⟨"java/lang/StringBuilder", "append", "(Ljava/lang/String;)Ljava/lang/StringBuilder;"⟩ : MethodName)) (z := (⟨"java/lang/StringBuilder", "append", "(Ljava/lang/String;)Ljava/lang/StringBuilder;"⟩ : MethodName)) (W := 0) hown (own_w hw 115 rfl) (own_w hw 116 rfl) (notFace_of_selects (args := #[]) (mvT hZ (own_w hw 118 rfl))) (own_w hw 118 rfl) (own_w hw 117 rfl) (own_w hw 119 rfl) (own_w hw 98 rfl) (by decide) (g6_ l Z a0 hw b0 lx t0 0 lt 8 16 cs hp113 n0 Z0 old_b0 old_t0 (Ne.symm ne_t0_lt) (Ne.symm ne_t0_lx) ne_b0_t0 (Ne.symm ne_b0_lx) (Ne.symm ne_b0_lt) E_b0 F_value_b0 F_coder_b0 F_count_b0 E_t0 B_t0 E_lx F_coder_lx F_value_lx B_lt S_COMPACT_STRINGS hcs (by decide) (by decide)) (by decide) (by decide) E_b0 (g := (mkF m 9 #[.val (.ref a1), .val (.ref a2)] [(.ref lx), (.ref b0)])) rfl (by rw [hml]; rfl) (argsL := [(.ref lx)]) (rest := []) (lenOf pd_22 rfl) rfl (by show 2 * 0 + _ ≤ _; exact Nat.le_of_eq rfl) (hb hby d19_9) rfl e113 (by decide) (by decide)
  obtain ⟨rfl, Nq114, Kq114, q114_0, q114_1, q114_2, q114_3, q114_4, q114_5⟩ := hQ114
  have hpl_Kq114 : ∀ w ∈ [b0, t0], ∃ c : Cell, hp113[w]? = some c ∧ c.vm.isStatics = false := (allS (own_pl_exa E_b0) (allS (own_pl_exa E_t0) all0))
  have Z0 := Nat.le_trans Z0 Kq114.1
  have SFs : ∀ x ∈ [b0, t0], Safe Z own_EL _ _ x := (allS (Safe.exa hZ.alike E_b0 (by decide) (by decide)) (allS SF_t0 all0))
  have SF_t0 := Safe.keep Kq114 SFs CH.1 SF_t0
  have hk := Nat.le_trans hk Kq114.1
  have CH := CH.trans (CHr.keep Kq114 SFs CH.1)
  have K0 := K0.trans Kq114 (allS (Or.inr fr_b0) (allS (Or.inr fr_t0) all0))
  have E_a1 := E_a1.keep Kq114
  have F_value_a1 := F_value_a1.keep Kq114 (ninS ne_a1_b0 (ninS ne_a1_t0 nin0))
  have E_s1 := E_s1.keep Kq114
  have F_coder_s1 := F_coder_s1.keep Kq114 (ninS ne_s1_b0 (ninS ne_s1_t0 nin0))
  have F_value_s1 := F_value_s1.keep Kq114 (ninS ne_s1_b0 (ninS ne_s1_t0 nin0))
  have B_u1 := B_u1.keep Kq114 (ninS ne_u1_b0 (ninS ne_u1_t0 nin0))
  have E_a2 := E_a2.keep Kq114
  have F_coder_a2 := F_coder_a2.keep Kq114 (ninS ne_a2_b0 (ninS ne_a2_t0 nin0))
  have F_value_a2 := F_value_a2.keep Kq114 (ninS ne_a2_b0 (ninS ne_a2_t0 nin0))
  have B_u2 := B_u2.keep Kq114 (ninS ne_u2_b0 (ninS ne_u2_t0 nin0))
  have S_COMPACT_STRINGS := own_sta_keep S_COMPACT_STRINGS Kq114 hpl_Kq114
  have E_lx := E_lx.keep Kq114
  have F_coder_lx := F_coder_lx.keep Kq114 (ninS (Ne.symm ne_b0_lx) (ninS (Ne.symm ne_t0_lx) nin0))
  have F_value_lx := F_value_lx.keep Kq114 (ninS (Ne.symm ne_b0_lx) (ninS (Ne.symm ne_t0_lx) nin0))
  have B_lt := B_lt.keep Kq114 (ninS (Ne.symm ne_b0_lt) (ninS (Ne.symm ne_t0_lt) nin0))
  have Nr114 := Fr.app Nr112 Nq114
  have E_b0 := q114_0
  have F_value_b0 := q114_1
  have F_coder_b0 := q114_2
  have F_count_b0 := q114_3
  have E_t0 := q114_4
  have B_t0 := q114_5
  refine own_stW st114 ?_
  show OGoW p e below s _ Z _ _ (T114.setTop (mkF m 12 #[.val (.ref a1), .val (.ref a2)] [(.ref b0)]))
  refine own_stW (fun _ z => XS.aloadN X114.here hx rfl (hb hby d19_12) rfl rfl z) ?_
  show OGoW p e below s _ Z _ _ (T114.setTop (mkF m 13 #[.val (.ref a1), .val (.ref a2)] [(.ref a1), (.ref b0)]))
  obtain ⟨T115, X115, e115, st115⟩ := getF X114 hx hZ hown (host := "") (Or.inl (own_w hw 89 rfl)) Via.refl rfl F_value_a1 (g := (mkF m 13 #[.val (.ref a1), .val (.ref a2)] [(.ref a1), (.ref b0)])) rfl rfl (hb hby d19_13)
  refine own_stW st115 ?_
  show OGoW p e below s _ Z _ _ (T115.setTop (mkF m 16 #[.val (.ref a1), .val (.ref a2)] [(.ref s1), (.ref b0)]))
  obtain ⟨_, T116, Lc116, X116, hQ116, st116⟩ := own_callV X115 hx hZ (y := (⟨"java/lang/StringBuilder", "append", "(Ljava/lang/String;)Ljava/lang/StringBuilder;"⟩ : MethodName)) (z := (⟨"java/lang/StringBuilder", "append", "(Ljava/lang/String;)Ljava/lang/StringBuilder;"⟩ : MethodName)) (W := 0) hown (own_w hw 115 rfl) (own_w hw 116 rfl) (notFace_of_selects (args := #[]) (mvT hZ (own_w hw 118 rfl))) (own_w hw 118 rfl) (own_w hw 117 rfl) (own_w hw 119 rfl) (own_w hw 98 rfl) (by decide) (g6_ l Z a0 hw b0 s1 t0 (0 + 8) u1 n 16 cs T114.heap n0 Z0 old_b0 old_t0 ne_u1_t0 ne_s1_t0 ne_b0_t0 ne_s1_b0 ne_u1_b0 E_b0 F_value_b0 F_coder_b0 F_count_b0 E_t0 B_t0 E_s1 F_coder_s1 F_value_s1 B_u1 S_COMPACT_STRINGS hcs (by omega) (by decide)) (by decide) (by decide) E_b0 (g := (mkF m 16 #[.val (.ref a1), .val (.ref a2)] [(.ref s1), (.ref b0)])) rfl (by rw [hml]; rfl) (argsL := [(.ref s1)]) (rest := []) (lenOf pd_22 rfl) rfl (by show 2 * 0 + _ ≤ _; exact Nat.le_of_eq rfl) (hb hby d19_16) rfl e115 (by decide) (by decide)
  obtain ⟨rfl, Nq116, Kq116, q116_0, q116_1, q116_2, q116_3, q116_4, q116_5⟩ := hQ116
  have hpl_Kq116 : ∀ w ∈ [b0, t0], ∃ c : Cell, T114.heap[w]? = some c ∧ c.vm.isStatics = false := (allS (own_pl_exa E_b0) (allS (own_pl_exa E_t0) all0))
  have Z0 := Nat.le_trans Z0 Kq116.1
  have SFs : ∀ x ∈ [b0, t0], Safe Z own_EL _ _ x := (allS (Safe.exa hZ.alike E_b0 (by decide) (by decide)) (allS SF_t0 all0))
  have SF_t0 := Safe.keep Kq116 SFs CH.1 SF_t0
  have hk := Nat.le_trans hk Kq116.1
  have CH := CH.trans (CHr.keep Kq116 SFs CH.1)
  have K0 := K0.trans Kq116 (allS (Or.inr fr_b0) (allS (Or.inr fr_t0) all0))
  have E_a1 := E_a1.keep Kq116
  have F_value_a1 := F_value_a1.keep Kq116 (ninS ne_a1_b0 (ninS ne_a1_t0 nin0))
  have E_s1 := E_s1.keep Kq116
  have F_coder_s1 := F_coder_s1.keep Kq116 (ninS ne_s1_b0 (ninS ne_s1_t0 nin0))
  have F_value_s1 := F_value_s1.keep Kq116 (ninS ne_s1_b0 (ninS ne_s1_t0 nin0))
  have B_u1 := B_u1.keep Kq116 (ninS ne_u1_b0 (ninS ne_u1_t0 nin0))
  have E_a2 := E_a2.keep Kq116
  have F_coder_a2 := F_coder_a2.keep Kq116 (ninS ne_a2_b0 (ninS ne_a2_t0 nin0))
  have F_value_a2 := F_value_a2.keep Kq116 (ninS ne_a2_b0 (ninS ne_a2_t0 nin0))
  have B_u2 := B_u2.keep Kq116 (ninS ne_u2_b0 (ninS ne_u2_t0 nin0))
  have S_COMPACT_STRINGS := own_sta_keep S_COMPACT_STRINGS Kq116 hpl_Kq116
  have Nr116 := Fr.app Nr114 Nq116
  have E_b0 := q116_0
  have F_value_b0 := q116_1
  have F_coder_b0 := q116_2
  have F_count_b0 := q116_3
  have E_t0 := q116_4
  have B_t0 := q116_5
  refine own_stW st116 ?_
  show OGoW p e below s _ Z _ _ (T116.setTop (mkF m 19 #[.val (.ref a1), .val (.ref a2)] [(.ref b0)]))
  obtain ⟨ly, T117, hp117, kc117, lu, kk117, X117, e117, Ex117, hS, hk, hZ, hown, E_ly, F_coder_ly, F_value_ly, V117, lx117, lt117, CH117, Lt117, sep117, st117⟩ := ldcCH X116 hx hZ hown (own_w hw 153 rfl) (own_wS hw) rfl hS hk hEL (by decide) CH.1 (vs := [.int (125 : Int32), .int (58 : Int32)]) (z := (2 : Int32)) ⟨by decide, by decide⟩ (by decide) (by decide) (g := (mkF m 19 #[.val (.ref a1), .val (.ref a2)] [(.ref b0)])) rfl (hb hby d19_19) (n := 8) (by decide) (by decide) (by decide) (by decide)
  have SF_t0 := CH117.safe E_t0.lt SF_t0
  have Z0 := Nat.le_trans Z0 Ex117.1
  have CH := CH.trans CH117
  have K0 := K0.ext Ex117
  have E_a1 := E_a1.ext Ex117
  have F_value_a1 := F_value_a1.ext Ex117
  have E_s1 := E_s1.ext Ex117
  have F_coder_s1 := F_coder_s1.ext Ex117
  have F_value_s1 := F_value_s1.ext Ex117
  have B_u1 := B_u1.ext Ex117
  have E_a2 := E_a2.ext Ex117
  have F_coder_a2 := F_coder_a2.ext Ex117
  have F_value_a2 := F_value_a2.ext Ex117
  have B_u2 := B_u2.ext Ex117
  have S_COMPACT_STRINGS := S_COMPACT_STRINGS.ext Ex117
  have E_b0 := E_b0.ext Ex117
  have F_value_b0 := F_value_b0.ext Ex117
  have F_coder_b0 := F_coder_b0.ext Ex117
  have F_count_b0 := F_count_b0.ext Ex117
  have E_t0 := E_t0.ext Ex117
  have B_t0 := B_t0.ext Ex117
  refine own_stW st117 ?_
  show OGoW p e below s _ Z _ _ (T117.setTop (mkF m 21 #[.val (.ref a1), .val (.ref a2)] [(.ref ly), (.ref b0)]))
  have sp := sep117 b0 (Safe.exa hZ.alike E_b0 (by decide) (by decide))
  have ne_b0_ly := sp.1
  have ne_b0_lu := sp.2
  have sp := sep117 t0 SF_t0
  have ne_t0_ly := sp.1
  have ne_t0_lu := sp.2
  have B_lu : OBy Z hp117 lu 2 := own_by_arv V117 (by decide)
  obtain ⟨_, T118, Lc118, X118, hQ118, st118⟩ := own_callV X117 hx hZ (y := (⟨"java/lang/StringBuilder", "append", "(Ljava/lang/String;)Ljava/lang/StringBuilder;"⟩ : MethodName)) (z := (⟨"java/lang/StringBuilder", "append", "(Ljava/lang/String;)Ljava/lang/StringBuilder;"⟩ : MethodName)) (W := 0) hown (own_w hw 115 rfl) (own_w hw 116 rfl) (notFace_of_selects (args := #[]) (mvT hZ (own_w hw 118 rfl))) (own_w hw 118 rfl) (own_w hw 117 rfl) (own_w hw 119 rfl) (own_w hw 98 rfl) (by decide) (g6_ l Z a0 hw b0 ly t0 ((0 + 8) + n) lu 2 16 cs hp117 n0 Z0 old_b0 old_t0 (Ne.symm ne_t0_lu) (Ne.symm ne_t0_ly) ne_b0_t0 (Ne.symm ne_b0_ly) (Ne.symm ne_b0_lu) E_b0 F_value_b0 F_coder_b0 F_count_b0 E_t0 B_t0 E_ly F_coder_ly F_value_ly B_lu S_COMPACT_STRINGS hcs (by omega) (by decide)) (by decide) (by decide) E_b0 (g := (mkF m 21 #[.val (.ref a1), .val (.ref a2)] [(.ref ly), (.ref b0)])) rfl (by rw [hml]; rfl) (argsL := [(.ref ly)]) (rest := []) (lenOf pd_22 rfl) rfl (by show 2 * 0 + _ ≤ _; exact Nat.le_of_eq rfl) (hb hby d19_21) rfl e117 (by decide) (by decide)
  obtain ⟨rfl, Nq118, Kq118, q118_0, q118_1, q118_2, q118_3, q118_4, q118_5⟩ := hQ118
  have hpl_Kq118 : ∀ w ∈ [b0, t0], ∃ c : Cell, hp117[w]? = some c ∧ c.vm.isStatics = false := (allS (own_pl_exa E_b0) (allS (own_pl_exa E_t0) all0))
  have Z0 := Nat.le_trans Z0 Kq118.1
  have SFs : ∀ x ∈ [b0, t0], Safe Z own_EL _ _ x := (allS (Safe.exa hZ.alike E_b0 (by decide) (by decide)) (allS SF_t0 all0))
  have SF_t0 := Safe.keep Kq118 SFs CH.1 SF_t0
  have hk := Nat.le_trans hk Kq118.1
  have CH := CH.trans (CHr.keep Kq118 SFs CH.1)
  have K0 := K0.trans Kq118 (allS (Or.inr fr_b0) (allS (Or.inr fr_t0) all0))
  have E_a1 := E_a1.keep Kq118
  have F_value_a1 := F_value_a1.keep Kq118 (ninS ne_a1_b0 (ninS ne_a1_t0 nin0))
  have E_s1 := E_s1.keep Kq118
  have F_coder_s1 := F_coder_s1.keep Kq118 (ninS ne_s1_b0 (ninS ne_s1_t0 nin0))
  have F_value_s1 := F_value_s1.keep Kq118 (ninS ne_s1_b0 (ninS ne_s1_t0 nin0))
  have B_u1 := B_u1.keep Kq118 (ninS ne_u1_b0 (ninS ne_u1_t0 nin0))
  have E_a2 := E_a2.keep Kq118
  have F_coder_a2 := F_coder_a2.keep Kq118 (ninS ne_a2_b0 (ninS ne_a2_t0 nin0))
  have F_value_a2 := F_value_a2.keep Kq118 (ninS ne_a2_b0 (ninS ne_a2_t0 nin0))
  have B_u2 := B_u2.keep Kq118 (ninS ne_u2_b0 (ninS ne_u2_t0 nin0))
  have S_COMPACT_STRINGS := own_sta_keep S_COMPACT_STRINGS Kq118 hpl_Kq118
  have E_ly := E_ly.keep Kq118
  have F_coder_ly := F_coder_ly.keep Kq118 (ninS (Ne.symm ne_b0_ly) (ninS (Ne.symm ne_t0_ly) nin0))
  have F_value_ly := F_value_ly.keep Kq118 (ninS (Ne.symm ne_b0_ly) (ninS (Ne.symm ne_t0_ly) nin0))
  have B_lu := B_lu.keep Kq118 (ninS (Ne.symm ne_b0_lu) (ninS (Ne.symm ne_t0_lu) nin0))
  have Nr118 := Fr.app Nr116 Nq118
  have E_b0 := q118_0
  have F_value_b0 := q118_1
  have F_coder_b0 := q118_2
  have F_count_b0 := q118_3
  have E_t0 := q118_4
  have B_t0 := q118_5
  refine own_stW st118 ?_
  show OGoW p e below s _ Z _ _ (T118.setTop (mkF m 24 #[.val (.ref a1), .val (.ref a2)] [(.ref b0)]))
  refine own_stW (fun _ z => XS.aloadN X118.here hx rfl (hb hby d19_24) rfl rfl z) ?_
  show OGoW p e below s _ Z _ _ (T118.setTop (mkF m 25 #[.val (.ref a1), .val (.ref a2)] [(.ref a2), (.ref b0)]))
  by_cases hgr : 16 < (((0 + 8) + n) + 2) + m'
  · obtain ⟨_, T119, Lc119, X119, hQ119, st119⟩ := own_callV X118 hx hZ (y := (⟨"java/lang/StringBuilder", "append", "(Ljava/lang/String;)Ljava/lang/StringBuilder;"⟩ : MethodName)) (z := (⟨"java/lang/StringBuilder", "append", "(Ljava/lang/String;)Ljava/lang/StringBuilder;"⟩ : MethodName)) (W := 0) hown (own_w hw 115 rfl) (own_w hw 116 rfl) (notFace_of_selects (args := #[]) (mvT hZ (own_w hw 118 rfl))) (own_w hw 118 rfl) (own_w hw 117 rfl) (own_w hw 119 rfl) (own_w hw 98 rfl) (by decide) (g7_ l Z a0 hw b0 a2 t0 (((0 + 8) + n) + 2) u2 m' cs T118.heap n0 Z0 old_b0 ne_u2_t0 ne_a2_t0 ne_b0_t0 ne_a2_b0 ne_u2_b0 E_b0 F_value_b0 F_coder_b0 F_count_b0 E_t0 B_t0 E_a2 F_coder_a2 F_value_a2 B_u2 S_COMPACT_STRINGS hcs hgr (by omega)) (by decide) (by decide) E_b0 (g := (mkF m 25 #[.val (.ref a1), .val (.ref a2)] [(.ref a2), (.ref b0)])) rfl (by rw [hml]; rfl) (argsL := [(.ref a2)]) (rest := []) (lenOf pd_22 rfl) rfl (by show 2 * 0 + _ ≤ _; exact Nat.le_of_eq rfl) (hb hby d19_25) rfl rfl (by decide) (by decide)
    obtain ⟨t9, rfl, Nq119, Kq119, fq119_t9, q119_0, q119_1, q119_2, q119_3, q119_4, q119_5⟩ := hQ119
    have ne_a1_t9 : a1 ≠ t9 := Nat.ne_of_lt (Nat.lt_of_lt_of_le E_a1.lt fq119_t9)
    have ne_s1_t9 : s1 ≠ t9 := Nat.ne_of_lt (Nat.lt_of_lt_of_le E_s1.lt fq119_t9)
    have ne_u1_t9 : u1 ≠ t9 := Nat.ne_of_lt (Nat.lt_of_lt_of_le B_u1.lt fq119_t9)
    have ne_a2_t9 : a2 ≠ t9 := Nat.ne_of_lt (Nat.lt_of_lt_of_le E_a2.lt fq119_t9)
    have ne_u2_t9 : u2 ≠ t9 := Nat.ne_of_lt (Nat.lt_of_lt_of_le B_u2.lt fq119_t9)
    have ne_b0_t9 : b0 ≠ t9 := Nat.ne_of_lt (Nat.lt_of_lt_of_le E_b0.lt fq119_t9)
    have ne_t0_t9 : t0 ≠ t9 := Nat.ne_of_lt (Nat.lt_of_lt_of_le E_t0.lt fq119_t9)
    have old_t9 : n0 ≤ t9 := Nat.le_trans Z0 fq119_t9
    have fr_t9 : h0.size ≤ t9 := Nat.le_trans K0.1 fq119_t9
    have SFn_t9 := own_safe_fresh (EL := own_EL) Kq119 (allS (Safe.exa hZ.alike E_b0 (by decide) (by decide)) all0) CH.1 fq119_t9
    have hpl_Kq119 : ∀ w ∈ [b0], ∃ c : Cell, T118.heap[w]? = some c ∧ c.vm.isStatics = false := (allS (own_pl_exa E_b0) all0)
    have Z0 := Nat.le_trans Z0 Kq119.1
    have SFs : ∀ x ∈ [b0], Safe Z own_EL _ _ x := (allS (Safe.exa hZ.alike E_b0 (by decide) (by decide)) all0)
    have SF_t0 := Safe.keep Kq119 SFs CH.1 SF_t0
    have hk := Nat.le_trans hk Kq119.1
    have CH := CH.trans (CHr.keep Kq119 SFs CH.1)
    have K0 := K0.trans Kq119 (allS (Or.inr fr_b0) all0)
    have E_a1 := E_a1.keep Kq119
    have F_value_a1 := F_value_a1.keep Kq119 (ninS ne_a1_b0 nin0)
    have E_s1 := E_s1.keep Kq119
    have F_coder_s1 := F_coder_s1.keep Kq119 (ninS ne_s1_b0 nin0)
    have F_value_s1 := F_value_s1.keep Kq119 (ninS ne_s1_b0 nin0)
    have B_u1 := B_u1.keep Kq119 (ninS ne_u1_b0 nin0)
    have E_a2 := E_a2.keep Kq119
    have F_coder_a2 := F_coder_a2.keep Kq119 (ninS ne_a2_b0 nin0)
    have F_value_a2 := F_value_a2.keep Kq119 (ninS ne_a2_b0 nin0)
    have B_u2 := B_u2.keep Kq119 (ninS ne_u2_b0 nin0)
    have S_COMPACT_STRINGS := own_sta_keep S_COMPACT_STRINGS Kq119 hpl_Kq119
    have E_t0 := E_t0.keep Kq119
    have B_t0 := B_t0.keep Kq119 (ninS (Ne.symm ne_b0_t0) nin0)
    have SF_t9 : Safe Z own_EL _ _ t9 := SFn_t9
    have Nr119 := Fr.app Nr118 Nq119
    have E_b0 := q119_0
    have F_value_b0 := q119_1
    have F_coder_b0 := q119_2
    have F_count_b0 := q119_3
    have E_t9 := q119_4
    have B_t9 := q119_5
    refine own_stW st119 ?_
    show OGoW p e below s _ Z _ _ (T119.setTop (mkF m 28 #[.val (.ref a1), .val (.ref a2)] [(.ref b0)]))
    obtain ⟨_, T120, Lc120, X120, hQ120, st120⟩ := own_callV X119 hx hZ (y := (⟨"java/lang/StringBuilder", "toString", "()Ljava/lang/String;"⟩ : MethodName)) (z := (⟨"java/lang/StringBuilder", "toString", "()Ljava/lang/String;"⟩ : MethodName)) (W := 0) hown (own_w hw 177 rfl) (own_w hw 178 rfl) (notFace_of_selects (args := #[]) (mvT hZ (own_w hw 180 rfl))) (own_w hw 180 rfl) (own_w hw 179 rfl) (own_w hw 181 rfl) (own_w hw 98 rfl) (by decide) (u3l l Z a0 hw b0 t9 ((((0 + 8) + n) + 2) + m') 34 cs T119.heap n0 Z0 E_b0 F_value_b0 F_coder_b0 F_count_b0 E_t9 B_t9 S_COMPACT_STRINGS hcs (by omega) (by decide)) (by decide) (by decide) E_b0 (g := (mkF m 28 #[.val (.ref a1), .val (.ref a2)] [(.ref b0)])) rfl (by rw [hml]; rfl) (argsL := []) (rest := []) (lenOf pd_23 rfl) rfl (by show 2 * 0 + _ ≤ _; exact Nat.le_of_eq rfl) (hb hby d19_28) rfl rfl (by decide) (by decide)
    obtain ⟨z1, rfl, Nq120, Kq120, fq120_z1, q120_0⟩ := hQ120
    have ne_a1_z1 : a1 ≠ z1 := Nat.ne_of_lt (Nat.lt_of_lt_of_le E_a1.lt fq120_z1)
    have ne_s1_z1 : s1 ≠ z1 := Nat.ne_of_lt (Nat.lt_of_lt_of_le E_s1.lt fq120_z1)
    have ne_u1_z1 : u1 ≠ z1 := Nat.ne_of_lt (Nat.lt_of_lt_of_le B_u1.lt fq120_z1)
    have ne_a2_z1 : a2 ≠ z1 := Nat.ne_of_lt (Nat.lt_of_lt_of_le E_a2.lt fq120_z1)
    have ne_u2_z1 : u2 ≠ z1 := Nat.ne_of_lt (Nat.lt_of_lt_of_le B_u2.lt fq120_z1)
    have ne_t0_z1 : t0 ≠ z1 := Nat.ne_of_lt (Nat.lt_of_lt_of_le E_t0.lt fq120_z1)
    have ne_b0_z1 : b0 ≠ z1 := Nat.ne_of_lt (Nat.lt_of_lt_of_le E_b0.lt fq120_z1)
    have ne_t9_z1 : t9 ≠ z1 := Nat.ne_of_lt (Nat.lt_of_lt_of_le E_t9.lt fq120_z1)
    have old_z1 : n0 ≤ z1 := Nat.le_trans Z0 fq120_z1
    have fr_z1 : h0.size ≤ z1 := Nat.le_trans K0.1 fq120_z1
    have SFn_z1 := own_safe_fresh (EL := own_EL) Kq120 all0 CH.1 fq120_z1
    have hpl_Kq120 : ∀ w ∈ ([] : List Addr), ∃ c : Cell, T119.heap[w]? = some c ∧ c.vm.isStatics = false := all0
    have Z0 := Nat.le_trans Z0 Kq120.1
    have SF_t0 := Safe.keep Kq120 all0 CH.1 SF_t0
    have SF_t9 := Safe.keep Kq120 all0 CH.1 SF_t9
    have hk := Nat.le_trans hk Kq120.1
    have CH := CH.trans (CHr.keep Kq120 all0 CH.1)
    have K0 := K0.trans Kq120 all0
    have E_a1 := E_a1.keep Kq120
    have F_value_a1 := F_value_a1.keep Kq120 nin0
    have E_s1 := E_s1.keep Kq120
    have F_coder_s1 := F_coder_s1.keep Kq120 nin0
    have F_value_s1 := F_value_s1.keep Kq120 nin0
    have B_u1 := B_u1.keep Kq120 nin0
    have E_a2 := E_a2.keep Kq120
    have F_coder_a2 := F_coder_a2.keep Kq120 nin0
    have F_value_a2 := F_value_a2.keep Kq120 nin0
    have B_u2 := B_u2.keep Kq120 nin0
    have S_COMPACT_STRINGS := own_sta_keep S_COMPACT_STRINGS Kq120 hpl_Kq120
    have E_t0 := E_t0.keep Kq120
    have B_t0 := B_t0.keep Kq120 nin0
    have E_b0 := E_b0.keep Kq120
    have F_value_b0 := F_value_b0.keep Kq120 nin0
    have F_coder_b0 := F_coder_b0.keep Kq120 nin0
    have F_count_b0 := F_count_b0.keep Kq120 nin0
    have E_t9 := E_t9.keep Kq120
    have B_t9 := B_t9.keep Kq120 nin0
    have SF_z1 : Safe Z own_EL _ _ z1 := SFn_z1
    have Nr120 := Fr.app Nr119 Nq120
    have E_z1 := q120_0
    refine own_stW st120 ?_
    show OGoW p e below s _ Z _ _ (T120.setTop (mkF m 31 #[.val (.ref a1), .val (.ref a2)] [(.ref z1)]))
    exact own_retWA X120 hx hlk hret rfl rfl (hb hby d19_31) (by decide) (by decide) hS rfl es hk hZ hEL CH (⟨z1, rfl, Nr120, K0, fr_z1, E_z1⟩)
  · obtain ⟨_, T121, Lc121, X121, hQ121, st121⟩ := own_callV X118 hx hZ (y := (⟨"java/lang/StringBuilder", "append", "(Ljava/lang/String;)Ljava/lang/StringBuilder;"⟩ : MethodName)) (z := (⟨"java/lang/StringBuilder", "append", "(Ljava/lang/String;)Ljava/lang/StringBuilder;"⟩ : MethodName)) (W := 0) hown (own_w hw 115 rfl) (own_w hw 116 rfl) (notFace_of_selects (args := #[]) (mvT hZ (own_w hw 118 rfl))) (own_w hw 118 rfl) (own_w hw 117 rfl) (own_w hw 119 rfl) (own_w hw 98 rfl) (by decide) (g6_ l Z a0 hw b0 a2 t0 (((0 + 8) + n) + 2) u2 m' 16 cs T118.heap n0 Z0 old_b0 old_t0 ne_u2_t0 ne_a2_t0 ne_b0_t0 ne_a2_b0 ne_u2_b0 E_b0 F_value_b0 F_coder_b0 F_count_b0 E_t0 B_t0 E_a2 F_coder_a2 F_value_a2 B_u2 S_COMPACT_STRINGS hcs (by omega) (by decide)) (by decide) (by decide) E_b0 (g := (mkF m 25 #[.val (.ref a1), .val (.ref a2)] [(.ref a2), (.ref b0)])) rfl (by rw [hml]; rfl) (argsL := [(.ref a2)]) (rest := []) (lenOf pd_22 rfl) rfl (by show 2 * 0 + _ ≤ _; exact Nat.le_of_eq rfl) (hb hby d19_25) rfl rfl (by decide) (by decide)
    obtain ⟨rfl, Nq121, Kq121, q121_0, q121_1, q121_2, q121_3, q121_4, q121_5⟩ := hQ121
    have hpl_Kq121 : ∀ w ∈ [b0, t0], ∃ c : Cell, T118.heap[w]? = some c ∧ c.vm.isStatics = false := (allS (own_pl_exa E_b0) (allS (own_pl_exa E_t0) all0))
    have Z0 := Nat.le_trans Z0 Kq121.1
    have SFs : ∀ x ∈ [b0, t0], Safe Z own_EL _ _ x := (allS (Safe.exa hZ.alike E_b0 (by decide) (by decide)) (allS SF_t0 all0))
    have SF_t0 := Safe.keep Kq121 SFs CH.1 SF_t0
    have hk := Nat.le_trans hk Kq121.1
    have CH := CH.trans (CHr.keep Kq121 SFs CH.1)
    have K0 := K0.trans Kq121 (allS (Or.inr fr_b0) (allS (Or.inr fr_t0) all0))
    have E_a1 := E_a1.keep Kq121
    have F_value_a1 := F_value_a1.keep Kq121 (ninS ne_a1_b0 (ninS ne_a1_t0 nin0))
    have E_s1 := E_s1.keep Kq121
    have F_coder_s1 := F_coder_s1.keep Kq121 (ninS ne_s1_b0 (ninS ne_s1_t0 nin0))
    have F_value_s1 := F_value_s1.keep Kq121 (ninS ne_s1_b0 (ninS ne_s1_t0 nin0))
    have B_u1 := B_u1.keep Kq121 (ninS ne_u1_b0 (ninS ne_u1_t0 nin0))
    have E_a2 := E_a2.keep Kq121
    have F_coder_a2 := F_coder_a2.keep Kq121 (ninS ne_a2_b0 (ninS ne_a2_t0 nin0))
    have F_value_a2 := F_value_a2.keep Kq121 (ninS ne_a2_b0 (ninS ne_a2_t0 nin0))
    have B_u2 := B_u2.keep Kq121 (ninS ne_u2_b0 (ninS ne_u2_t0 nin0))
    have S_COMPACT_STRINGS := own_sta_keep S_COMPACT_STRINGS Kq121 hpl_Kq121
    have Nr121 := Fr.app Nr118 Nq121
    have E_b0 := q121_0
    have F_value_b0 := q121_1
    have F_coder_b0 := q121_2
    have F_count_b0 := q121_3
    have E_t0 := q121_4
    have B_t0 := q121_5
    refine own_stW st121 ?_
    show OGoW p e below s _ Z _ _ (T121.setTop (mkF m 28 #[.val (.ref a1), .val (.ref a2)] [(.ref b0)]))
    by_cases heq : (((0 + 8) + n) + 2) + m' = 16
    · rw [heq] at F_count_b0
      obtain ⟨_, T122, Lc122, X122, hQ122, st122⟩ := own_callV X121 hx hZ (y := (⟨"java/lang/StringBuilder", "toString", "()Ljava/lang/String;"⟩ : MethodName)) (z := (⟨"java/lang/StringBuilder", "toString", "()Ljava/lang/String;"⟩ : MethodName)) (W := 0) hown (own_w hw 177 rfl) (own_w hw 178 rfl) (notFace_of_selects (args := #[]) (mvT hZ (own_w hw 180 rfl))) (own_w hw 180 rfl) (own_w hw 179 rfl) (own_w hw 181 rfl) (own_w hw 98 rfl) (by decide) (u3e l Z a0 hw b0 t0 16 cs T121.heap n0 Z0 E_b0 F_value_b0 F_coder_b0 F_count_b0 E_t0 B_t0 S_COMPACT_STRINGS hcs (by decide)) (by decide) (by decide) E_b0 (g := (mkF m 28 #[.val (.ref a1), .val (.ref a2)] [(.ref b0)])) rfl (by rw [hml]; rfl) (argsL := []) (rest := []) (lenOf pd_23 rfl) rfl (by show 2 * 0 + _ ≤ _; exact Nat.le_of_eq rfl) (hb hby d19_28) rfl rfl (by decide) (by decide)
      obtain ⟨z1, rfl, Nq122, Kq122, fq122_z1, q122_0⟩ := hQ122
      have ne_a1_z1 : a1 ≠ z1 := Nat.ne_of_lt (Nat.lt_of_lt_of_le E_a1.lt fq122_z1)
      have ne_s1_z1 : s1 ≠ z1 := Nat.ne_of_lt (Nat.lt_of_lt_of_le E_s1.lt fq122_z1)
      have ne_u1_z1 : u1 ≠ z1 := Nat.ne_of_lt (Nat.lt_of_lt_of_le B_u1.lt fq122_z1)
      have ne_a2_z1 : a2 ≠ z1 := Nat.ne_of_lt (Nat.lt_of_lt_of_le E_a2.lt fq122_z1)
      have ne_u2_z1 : u2 ≠ z1 := Nat.ne_of_lt (Nat.lt_of_lt_of_le B_u2.lt fq122_z1)
      have ne_b0_z1 : b0 ≠ z1 := Nat.ne_of_lt (Nat.lt_of_lt_of_le E_b0.lt fq122_z1)
      have ne_t0_z1 : t0 ≠ z1 := Nat.ne_of_lt (Nat.lt_of_lt_of_le E_t0.lt fq122_z1)
      have old_z1 : n0 ≤ z1 := Nat.le_trans Z0 fq122_z1
      have fr_z1 : h0.size ≤ z1 := Nat.le_trans K0.1 fq122_z1
      have SFn_z1 := own_safe_fresh (EL := own_EL) Kq122 all0 CH.1 fq122_z1
      have hpl_Kq122 : ∀ w ∈ ([] : List Addr), ∃ c : Cell, T121.heap[w]? = some c ∧ c.vm.isStatics = false := all0
      have Z0 := Nat.le_trans Z0 Kq122.1
      have SF_t0 := Safe.keep Kq122 all0 CH.1 SF_t0
      have hk := Nat.le_trans hk Kq122.1
      have CH := CH.trans (CHr.keep Kq122 all0 CH.1)
      have K0 := K0.trans Kq122 all0
      have E_a1 := E_a1.keep Kq122
      have F_value_a1 := F_value_a1.keep Kq122 nin0
      have E_s1 := E_s1.keep Kq122
      have F_coder_s1 := F_coder_s1.keep Kq122 nin0
      have F_value_s1 := F_value_s1.keep Kq122 nin0
      have B_u1 := B_u1.keep Kq122 nin0
      have E_a2 := E_a2.keep Kq122
      have F_coder_a2 := F_coder_a2.keep Kq122 nin0
      have F_value_a2 := F_value_a2.keep Kq122 nin0
      have B_u2 := B_u2.keep Kq122 nin0
      have S_COMPACT_STRINGS := own_sta_keep S_COMPACT_STRINGS Kq122 hpl_Kq122
      have E_b0 := E_b0.keep Kq122
      have F_value_b0 := F_value_b0.keep Kq122 nin0
      have F_coder_b0 := F_coder_b0.keep Kq122 nin0
      have F_count_b0 := F_count_b0.keep Kq122 nin0
      have E_t0 := E_t0.keep Kq122
      have B_t0 := B_t0.keep Kq122 nin0
      have SF_z1 : Safe Z own_EL _ _ z1 := SFn_z1
      have Nr122 := Fr.app Nr121 Nq122
      have E_z1 := q122_0
      refine own_stW st122 ?_
      show OGoW p e below s _ Z _ _ (T122.setTop (mkF m 31 #[.val (.ref a1), .val (.ref a2)] [(.ref z1)]))
      exact own_retWA X122 hx hlk hret rfl rfl (hb hby d19_31) (by decide) (by decide) hS rfl es hk hZ hEL CH (⟨z1, rfl, Nr122, K0, fr_z1, E_z1⟩)
    · obtain ⟨_, T123, Lc123, X123, hQ123, st123⟩ := own_callV X121 hx hZ (y := (⟨"java/lang/StringBuilder", "toString", "()Ljava/lang/String;"⟩ : MethodName)) (z := (⟨"java/lang/StringBuilder", "toString", "()Ljava/lang/String;"⟩ : MethodName)) (W := 0) hown (own_w hw 177 rfl) (own_w hw 178 rfl) (notFace_of_selects (args := #[]) (mvT hZ (own_w hw 180 rfl))) (own_w hw 180 rfl) (own_w hw 179 rfl) (own_w hw 181 rfl) (own_w hw 98 rfl) (by decide) (u3l l Z a0 hw b0 t0 ((((0 + 8) + n) + 2) + m') 16 cs T121.heap n0 Z0 E_b0 F_value_b0 F_coder_b0 F_count_b0 E_t0 B_t0 S_COMPACT_STRINGS hcs (by omega) (by decide)) (by decide) (by decide) E_b0 (g := (mkF m 28 #[.val (.ref a1), .val (.ref a2)] [(.ref b0)])) rfl (by rw [hml]; rfl) (argsL := []) (rest := []) (lenOf pd_23 rfl) rfl (by show 2 * 0 + _ ≤ _; exact Nat.le_of_eq rfl) (hb hby d19_28) rfl rfl (by decide) (by decide)
      obtain ⟨z1, rfl, Nq123, Kq123, fq123_z1, q123_0⟩ := hQ123
      have ne_a1_z1 : a1 ≠ z1 := Nat.ne_of_lt (Nat.lt_of_lt_of_le E_a1.lt fq123_z1)
      have ne_s1_z1 : s1 ≠ z1 := Nat.ne_of_lt (Nat.lt_of_lt_of_le E_s1.lt fq123_z1)
      have ne_u1_z1 : u1 ≠ z1 := Nat.ne_of_lt (Nat.lt_of_lt_of_le B_u1.lt fq123_z1)
      have ne_a2_z1 : a2 ≠ z1 := Nat.ne_of_lt (Nat.lt_of_lt_of_le E_a2.lt fq123_z1)
      have ne_u2_z1 : u2 ≠ z1 := Nat.ne_of_lt (Nat.lt_of_lt_of_le B_u2.lt fq123_z1)
      have ne_b0_z1 : b0 ≠ z1 := Nat.ne_of_lt (Nat.lt_of_lt_of_le E_b0.lt fq123_z1)
      have ne_t0_z1 : t0 ≠ z1 := Nat.ne_of_lt (Nat.lt_of_lt_of_le E_t0.lt fq123_z1)
      have old_z1 : n0 ≤ z1 := Nat.le_trans Z0 fq123_z1
      have fr_z1 : h0.size ≤ z1 := Nat.le_trans K0.1 fq123_z1
      have SFn_z1 := own_safe_fresh (EL := own_EL) Kq123 all0 CH.1 fq123_z1
      have hpl_Kq123 : ∀ w ∈ ([] : List Addr), ∃ c : Cell, T121.heap[w]? = some c ∧ c.vm.isStatics = false := all0
      have Z0 := Nat.le_trans Z0 Kq123.1
      have SF_t0 := Safe.keep Kq123 all0 CH.1 SF_t0
      have hk := Nat.le_trans hk Kq123.1
      have CH := CH.trans (CHr.keep Kq123 all0 CH.1)
      have K0 := K0.trans Kq123 all0
      have E_a1 := E_a1.keep Kq123
      have F_value_a1 := F_value_a1.keep Kq123 nin0
      have E_s1 := E_s1.keep Kq123
      have F_coder_s1 := F_coder_s1.keep Kq123 nin0
      have F_value_s1 := F_value_s1.keep Kq123 nin0
      have B_u1 := B_u1.keep Kq123 nin0
      have E_a2 := E_a2.keep Kq123
      have F_coder_a2 := F_coder_a2.keep Kq123 nin0
      have F_value_a2 := F_value_a2.keep Kq123 nin0
      have B_u2 := B_u2.keep Kq123 nin0
      have S_COMPACT_STRINGS := own_sta_keep S_COMPACT_STRINGS Kq123 hpl_Kq123
      have E_b0 := E_b0.keep Kq123
      have F_value_b0 := F_value_b0.keep Kq123 nin0
      have F_coder_b0 := F_coder_b0.keep Kq123 nin0
      have F_count_b0 := F_count_b0.keep Kq123 nin0
      have E_t0 := E_t0.keep Kq123
      have B_t0 := B_t0.keep Kq123 nin0
      have SF_z1 : Safe Z own_EL _ _ z1 := SFn_z1
      have Nr123 := Fr.app Nr121 Nq123
      have E_z1 := q123_0
      refine own_stW st123 ?_
      show OGoW p e below s _ Z _ _ (T123.setTop (mkF m 31 #[.val (.ref a1), .val (.ref a2)] [(.ref z1)]))
      exact own_retWA X123 hx hlk hret rfl rfl (hb hby d19_31) (by decide) (by decide) hS rfl es hk hZ hEL CH (⟨z1, rfl, Nr123, K0, fr_z1, E_z1⟩)
theorem d10_0 : decode jdk_31_method_11_code 0 = .ok (.aload_n 0, 1) := by decide +kernel
theorem d10_1 : decode jdk_31_method_11_code 1 = .ok (.ifnonnull 12, 3) := by decide +kernel
theorem d10_13 : decode jdk_31_method_11_code 13 = .ok (.aload_n 0, 1) := by decide +kernel
theorem d10_14 : decode jdk_31_method_11_code 14 = .ok (.areturn, 1) := by decide +kernel
theorem pn_java_util_Objects : plainName "java/util/Objects" = true := by first | (simp [plainName, overriddenIn]; done) | decide +kernel
theorem ef_10_RR (m : MethodId) (x0 : Addr) (x1 : Addr) : entryFrame m #[(.ref x0), (.ref x1)] 2 = mkF m 0 #[.val (.ref x0), .val (.ref x1)] [] := by first | (simp [entryFrame, mkF, argsToLocals, Value.category]; done) | rfl
set_option maxRecDepth 65536 in
set_option maxHeartbeats 40000000 in
theorem k2_ (l : Launch) (Z : State) (a0 : Array Value) (hw : ∀ d ∈ tables_1, d.before a0 Z = true) (a1 : Addr) (a2 : Addr) (h0 : Heap) :
    OPure l Z (⟨"java/util/Objects", "requireNonNull", "(Ljava/lang/Object;Ljava/lang/String;)Ljava/lang/Object;"⟩ : MethodName) jdk_31_method_11_code 2 (some (.object "java/lang/Object")) [] ({ frames := 0, cells := 0, slots := 0, locals := 0 } : Room) #[(.ref a1), (.ref a2)] h0 (some (.ref a1)) := by
  refine own_body (plainFor_of_name pn_java_util_Objects) (fun m => ef_10_RR m a1 a2) ?_
  intro p e s m below meth c T0 hx hby hml hown hnm hret hlk hZ X0 e0
  have hown : s.vm.findClass "java/util/Objects" = some m.cls := hown
  have hml : c.maxLocals = 2 := hml
  show OGo p e below s _ _ (T0.setTop (mkF m 0 #[.val (.ref a1), .val (.ref a2)] []))
  refine own_st (fun _ z => XS.aloadN X0.here hx rfl (hb hby d10_0) rfl rfl z) ?_
  show OGo p e below s _ _ (T0.setTop (mkF m 1 #[.val (.ref a1), .val (.ref a2)] [(.ref a1)]))
  refine own_st (fun _ z => XS.ifnonnullYes X0.here hx rfl (pc0 := 1) (pc' := 13) rfl (hb hby d10_1) rfl (by decide) (by decide) z) ?_
  show OGo p e below s _ _ (T0.setTop (mkF m 13 #[.val (.ref a1), .val (.ref a2)] []))
  refine own_st (fun _ z => XS.aloadN X0.here hx rfl (hb hby d10_13) rfl rfl z) ?_
  show OGo p e below s _ _ (T0.setTop (mkF m 14 #[.val (.ref a1), .val (.ref a2)] [(.ref a1)]))
  exact own_retA X0 hx hlk hret rfl rfl (hb hby d10_14) (by decide) (by decide) (⟨rfl, rfl, e0⟩)
theorem d17_0 : decode prog_3_method_11_code 0 = .ok (.iload_n 0, 1) := by decide +kernel
theorem d17_1 : decode prog_3_method_11_code 1 = .ok (.sipush 128, 3) := by decide +kernel
theorem d17_4 : decode prog_3_method_11_code 4 = .ok (.if_icmp .ge 8, 3) := by decide +kernel
theorem d17_7 : decode prog_3_method_11_code 7 = .ok (.iconst 1, 1) := by decide +kernel
theorem d17_8 : decode prog_3_method_11_code 8 = .ok (.istore_n 1, 1) := by decide +kernel
theorem d17_9 : decode prog_3_method_11_code 9 = .ok (.goto 28, 3) := by decide +kernel
theorem d17_37 : decode prog_3_method_11_code 37 = .ok (.iload_n 1, 1) := by decide +kernel
theorem d17_38 : decode prog_3_method_11_code 38 = .ok (.ireturn, 1) := by decide +kernel
theorem ef_17_I (m : MethodId) (x0 : Int32) : entryFrame m #[(.int x0)] 2 = mkF m 0 #[.val (.int x0), .unset] [] := by first | (simp [entryFrame, mkF, argsToLocals, Value.category]; done) | rfl
set_option maxRecDepth 65536 in
set_option maxHeartbeats 40000000 in
theorem k3_ (l : Launch) (Z : State) (a0 : Array Value) (hw : ∀ d ∈ tables_1, d.before a0 Z = true) (q1 : Int32) (h0 : Heap) (hq : q1 < (128 : Int32)) :
    OPure l Z (⟨"com/example/limpet/limpet/LockName", "utf8Length", "(I)I"⟩ : MethodName) prog_3_method_11_code 2 (some .int) [] ({ frames := 0, cells := 0, slots := 0, locals := 0 } : Room) #[(.int q1)] h0 (some (.int (1 : Int32))) := by
  refine own_body (plainFor_of_name pn_com_example_limpet_limpet_LockName) (fun m => ef_17_I m q1) ?_
  intro p e s m below meth c T0 hx hby hml hown hnm hret hlk hZ X0 e0
  have hown : s.vm.findClass "com/example/limpet/limpet/LockName" = some m.cls := hown
  have hml : c.maxLocals = 2 := hml
  show OGo p e below s _ _ (T0.setTop (mkF m 0 #[.val (.int q1), .unset] []))
  refine own_st (fun _ z => XS.iloadN X0.here hx rfl (hb hby d17_0) rfl z) ?_
  show OGo p e below s _ _ (T0.setTop (mkF m 1 #[.val (.int q1), .unset] [(.int q1)]))
  refine own_st (fun _ z => XS.sipush X0.here hx rfl (hb hby d17_1) z) ?_
  show OGo p e below s _ _ (T0.setTop (mkF m 4 #[.val (.int q1), .unset] [(.int (128 : Int32)), (.int q1)]))
  refine own_st (fun _ z => XS.icmpNo X0.here hx rfl (hb hby d17_4) rfl (tlt (hq)).2.1 z) ?_
  show OGo p e below s _ _ (T0.setTop (mkF m 7 #[.val (.int q1), .unset] []))
  refine own_st (fun _ z => XS.iconst X0.here hx rfl (hb hby d17_7) z) ?_
  show OGo p e below s _ _ (T0.setTop (mkF m 8 #[.val (.int q1), .unset] [(.int (1 : Int32))]))
  refine own_st (fun _ z => XS.istoreN X0.here hx rfl (hb hby d17_8) rfl (l' := #[.val (.int q1), .val (.int (1 : Int32))]) rfl z) ?_
  show OGo p e below s _ _ (T0.setTop (mkF m 9 #[.val (.int q1), .val (.int (1 : Int32))] []))
  refine own_st (fun _ z => XS.goto X0.here hx rfl (pc0 := 9) (pc' := 37) rfl (hb hby d17_9) (by decide) (by decide) z) ?_
  show OGo p e below s _ _ (T0.setTop (mkF m 37 #[.val (.int q1), .val (.int (1 : Int32))] []))
  refine own_st (fun _ z => XS.iloadN X0.here hx rfl (hb hby d17_37) rfl z) ?_
  show OGo p e below s _ _ (T0.setTop (mkF m 38 #[.val (.int q1), .val (.int (1 : Int32))] [(.int (1 : Int32))]))
  exact own_retI X0 hx hlk hret (hb hby d17_38) (by decide) (by decide) (⟨rfl, rfl, e0⟩)
theorem d17_12 : decode prog_3_method_11_code 12 = .ok (.iload_n 0, 1) := by decide +kernel
theorem d17_13 : decode prog_3_method_11_code 13 = .ok (.sipush 2048, 3) := by decide +kernel
theorem d17_16 : decode prog_3_method_11_code 16 = .ok (.if_icmp .ge 8, 3) := by decide +kernel
theorem d17_19 : decode prog_3_method_11_code 19 = .ok (.iconst 2, 1) := by decide +kernel
theorem d17_20 : decode prog_3_method_11_code 20 = .ok (.istore_n 1, 1) := by decide +kernel
theorem d17_21 : decode prog_3_method_11_code 21 = .ok (.goto 16, 3) := by decide +kernel
set_option maxRecDepth 65536 in
set_option maxHeartbeats 40000000 in
theorem k4_ (l : Launch) (Z : State) (a0 : Array Value) (hw : ∀ d ∈ tables_1, d.before a0 Z = true) (q1 : Int32) (h0 : Heap) (hq : ¬ q1 < (128 : Int32)) (hq2 : q1 < (2048 : Int32)) :
    OPure l Z (⟨"com/example/limpet/limpet/LockName", "utf8Length", "(I)I"⟩ : MethodName) prog_3_method_11_code 2 (some .int) [] ({ frames := 0, cells := 0, slots := 0, locals := 0 } : Room) #[(.int q1)] h0 (some (.int (2 : Int32))) := by
  refine own_body (plainFor_of_name pn_com_example_limpet_limpet_LockName) (fun m => ef_17_I m q1) ?_
  intro p e s m below meth c T0 hx hby hml hown hnm hret hlk hZ X0 e0
  have hown : s.vm.findClass "com/example/limpet/limpet/LockName" = some m.cls := hown
  have hml : c.maxLocals = 2 := hml
  show OGo p e below s _ _ (T0.setTop (mkF m 0 #[.val (.int q1), .unset] []))
  refine own_st (fun _ z => XS.iloadN X0.here hx rfl (hb hby d17_0) rfl z) ?_
  show OGo p e below s _ _ (T0.setTop (mkF m 1 #[.val (.int q1), .unset] [(.int q1)]))
  refine own_st (fun _ z => XS.sipush X0.here hx rfl (hb hby d17_1) z) ?_
  show OGo p e below s _ _ (T0.setTop (mkF m 4 #[.val (.int q1), .unset] [(.int (128 : Int32)), (.int q1)]))
  refine own_st (fun _ z => XS.icmpYes X0.here hx rfl (pc0 := 4) (pc' := 12) rfl (hb hby d17_4) rfl (flt (hq)).2.1 (by decide) (by decide) z) ?_
  show OGo p e below s _ _ (T0.setTop (mkF m 12 #[.val (.int q1), .unset] []))
  refine own_st (fun _ z => XS.iloadN X0.here hx rfl (hb hby d17_12) rfl z) ?_
  show OGo p e below s _ _ (T0.setTop (mkF m 13 #[.val (.int q1), .unset] [(.int q1)]))
  refine own_st (fun _ z => XS.sipush X0.here hx rfl (hb hby d17_13) z) ?_
  show OGo p e below s _ _ (T0.setTop (mkF m 16 #[.val (.int q1), .unset] [(.int (2048 : Int32)), (.int q1)]))
  refine own_st (fun _ z => XS.icmpNo X0.here hx rfl (hb hby d17_16) rfl (tlt (hq2)).2.1 z) ?_
  show OGo p e below s _ _ (T0.setTop (mkF m 19 #[.val (.int q1), .unset] []))
  refine own_st (fun _ z => XS.iconst X0.here hx rfl (hb hby d17_19) z) ?_
  show OGo p e below s _ _ (T0.setTop (mkF m 20 #[.val (.int q1), .unset] [(.int (2 : Int32))]))
  refine own_st (fun _ z => XS.istoreN X0.here hx rfl (hb hby d17_20) rfl (l' := #[.val (.int q1), .val (.int (2 : Int32))]) rfl z) ?_
  show OGo p e below s _ _ (T0.setTop (mkF m 21 #[.val (.int q1), .val (.int (2 : Int32))] []))
  refine own_st (fun _ z => XS.goto X0.here hx rfl (pc0 := 21) (pc' := 37) rfl (hb hby d17_21) (by decide) (by decide) z) ?_
  show OGo p e below s _ _ (T0.setTop (mkF m 37 #[.val (.int q1), .val (.int (2 : Int32))] []))
  refine own_st (fun _ z => XS.iloadN X0.here hx rfl (hb hby d17_37) rfl z) ?_
  show OGo p e below s _ _ (T0.setTop (mkF m 38 #[.val (.int q1), .val (.int (2 : Int32))] [(.int (2 : Int32))]))
  exact own_retI X0 hx hlk hret (hb hby d17_38) (by decide) (by decide) (⟨rfl, rfl, e0⟩)
theorem d18_0 : decode jdk_89_method_18_code 0 = .ok (.iload_n 0, 1) := by decide +kernel
theorem d18_1 : decode jdk_89_method_18_code 1 = .ok (.ldc 73, 2) := by decide +kernel
theorem d18_3 : decode jdk_89_method_18_code 3 = .ok (.if_icmp .lt 7, 3) := by decide +kernel
theorem d18_10 : decode jdk_89_method_18_code 10 = .ok (.iconst 1, 1) := by decide +kernel
theorem d18_11 : decode jdk_89_method_18_code 11 = .ok (.ireturn, 1) := by decide +kernel
theorem pn_java_lang_Character : plainName "java/lang/Character" = true := by first | (simp [plainName, overriddenIn]; done) | decide +kernel
theorem ef_18_I (m : MethodId) (x0 : Int32) : entryFrame m #[(.int x0)] 1 = mkF m 0 #[.val (.int x0)] [] := by first | (simp [entryFrame, mkF, argsToLocals, Value.category]; done) | rfl
set_option maxRecDepth 65536 in
set_option maxHeartbeats 40000000 in
theorem k5_ (l : Launch) (Z : State) (a0 : Array Value) (hw : ∀ d ∈ tables_1, d.before a0 Z = true) (q1 : Int32) (h0 : Heap) (hq : q1 < (65536 : Int32)) :
    OPure l Z (⟨"java/lang/Character", "charCount", "(I)I"⟩ : MethodName) jdk_89_method_18_code 1 (some .int) [] ({ frames := 0, cells := 0, slots := 0, locals := 0 } : Room) #[(.int q1)] h0 (some (.int (1 : Int32))) := by
  refine own_body (plainFor_of_name pn_java_lang_Character) (fun m => ef_18_I m q1) ?_
  intro p e s m below meth c T0 hx hby hml hown hnm hret hlk hZ X0 e0
  have hown : s.vm.findClass "java/lang/Character" = some m.cls := hown
  have hml : c.maxLocals = 1 := hml
  show OGo p e below s _ _ (T0.setTop (mkF m 0 #[.val (.int q1)] []))
  refine own_st (fun _ z => XS.iloadN X0.here hx rfl (hb hby d18_0) rfl z) ?_
  show OGo p e below s _ _ (T0.setTop (mkF m 1 #[.val (.int q1)] [(.int q1)]))
  refine own_st (X0.ldcInt hx hown (mvT hZ (own_w hw 88 rfl)) (g := (mkF m 1 #[.val (.int q1)] [(.int q1)])) rfl (hb hby d18_1)) ?_
  show OGo p e below s _ _ (T0.setTop (mkF m 3 #[.val (.int q1)] [(.int (65536 : Int32)), (.int q1)]))
  refine own_st (fun _ z => XS.icmpYes X0.here hx rfl (pc0 := 3) (pc' := 10) rfl (hb hby d18_3) rfl (tlt (hq)).1 (by decide) (by decide) z) ?_
  show OGo p e below s _ _ (T0.setTop (mkF m 10 #[.val (.int q1)] []))
  refine own_st (fun _ z => XS.iconst X0.here hx rfl (hb hby d18_10) z) ?_
  show OGo p e below s _ _ (T0.setTop (mkF m 11 #[.val (.int q1)] [(.int (1 : Int32))]))
  exact own_retI X0 hx hlk hret (hb hby d18_11) (by decide) (by decide) (⟨rfl, rfl, e0⟩)
theorem d16_0 : decode jdk_41_method_11_code 0 = .ok (.iload_n 0, 1) := by decide +kernel
theorem d16_1 : decode jdk_41_method_11_code 1 = .ok (.ifCond .lt 8, 3) := by decide +kernel
theorem d16_4 : decode jdk_41_method_11_code 4 = .ok (.iload_n 0, 1) := by decide +kernel
theorem d16_5 : decode jdk_41_method_11_code 5 = .ok (.iload_n 1, 1) := by decide +kernel
theorem d16_6 : decode jdk_41_method_11_code 6 = .ok (.if_icmp .lt 10, 3) := by decide +kernel
theorem d16_16 : decode jdk_41_method_11_code 16 = .ok (.iload_n 0, 1) := by decide +kernel
theorem d16_17 : decode jdk_41_method_11_code 17 = .ok (.ireturn, 1) := by decide +kernel
theorem pn_jdk_internal_util_Preconditions : plainName "jdk/internal/util/Preconditions" = true := by first | (simp [plainName, overriddenIn]; done) | decide +kernel
theorem ef_16_IIV (m : MethodId) (x0 : Int32) (x1 : Int32) (x2 : Value) (hx2 : x2.category = 1) : entryFrame m #[(.int x0), (.int x1), x2] 3 = mkF m 0 #[.val (.int x0), .val (.int x1), .val x2] [] := by cases x2 <;> first | (simp [entryFrame, mkF, argsToLocals, Value.category]; done) | rfl | (simp [Value.category] at hx2)
set_option maxRecDepth 65536 in
set_option maxHeartbeats 40000000 in
theorem sk1 (l : Launch) (Z : State) (a0 : Array Value) (hw : ∀ d ∈ tables_1, d.before a0 Z = true) (q1 : Int32) (q2 : Int32) (fm : Value) (h0 : Heap) (cat_fm : fm.category = 1) (ir_fm : fm.isRef = true) (p0 : ¬ q1 < (0 : Int32)) (p1 : q1 < q2) :
    OPure l Z (⟨"jdk/internal/util/Preconditions", "checkIndex", "(IILjava/util/function/BiFunction;)I"⟩ : MethodName) jdk_41_method_11_code 3 (some .int) [] ({ frames := 0, cells := 0, slots := 0, locals := 0 } : Room) #[(.int q1), (.int q2), fm] h0 (some (.int q1)) := by
  refine own_body (plainFor_of_name pn_jdk_internal_util_Preconditions) (fun m => ef_16_IIV m q1 q2 fm cat_fm) ?_
  intro p e s m below meth c T0 hx hby hml hown hnm hret hlk hZ X0 e0
  have hown : s.vm.findClass "jdk/internal/util/Preconditions" = some m.cls := hown
  have hml : c.maxLocals = 3 := hml
  show OGo p e below s _ _ (T0.setTop (mkF m 0 #[.val (.int q1), .val (.int q2), .val fm] []))
  refine own_st (fun _ z => XS.iloadN X0.here hx rfl (hb hby d16_0) rfl z) ?_
  show OGo p e below s _ _ (T0.setTop (mkF m 1 #[.val (.int q1), .val (.int q2), .val fm] [(.int q1)]))
  refine own_st (fun _ z => XS.ifNo X0.here hx rfl (hb hby d16_1) rfl ((if0 _ _).trans (flt (p0)).1) z) ?_
  show OGo p e below s _ _ (T0.setTop (mkF m 4 #[.val (.int q1), .val (.int q2), .val fm] []))
  refine own_st (fun _ z => XS.iloadN X0.here hx rfl (hb hby d16_4) rfl z) ?_
  show OGo p e below s _ _ (T0.setTop (mkF m 5 #[.val (.int q1), .val (.int q2), .val fm] [(.int q1)]))
  refine own_st (fun _ z => XS.iloadN X0.here hx rfl (hb hby d16_5) rfl z) ?_
  show OGo p e below s _ _ (T0.setTop (mkF m 6 #[.val (.int q1), .val (.int q2), .val fm] [(.int q2), (.int q1)]))
  refine own_st (fun _ z => XS.icmpYes X0.here hx rfl (pc0 := 6) (pc' := 16) rfl (hb hby d16_6) rfl (tlt (p1)).1 (by decide) (by decide) z) ?_
  show OGo p e below s _ _ (T0.setTop (mkF m 16 #[.val (.int q1), .val (.int q2), .val fm] []))
  refine own_st (fun _ z => XS.iloadN X0.here hx rfl (hb hby d16_16) rfl z) ?_
  show OGo p e below s _ _ (T0.setTop (mkF m 17 #[.val (.int q1), .val (.int q2), .val fm] [(.int q1)]))
  exact own_retI X0 hx hlk hret (hb hby d16_17) (by decide) (by decide) (⟨rfl, rfl, e0⟩)
theorem d15_0 : decode jdk_42_method_155_code 0 = .ok (.iload_n 0, 1) := by decide +kernel
theorem d15_1 : decode jdk_42_method_155_code 1 = .ok (.iload_n 1, 1) := by decide +kernel
theorem d15_2 : decode jdk_42_method_155_code 2 = .ok (.getstatic 1053, 3) := by decide +kernel
theorem pd_24 : parseMethodDescriptor "(IILjava/util/function/BiFunction;)I" = some ⟨[.int, .int, (.object "java/util/function/BiFunction")], some .int⟩ := by decide +kernel
theorem d15_5 : decode jdk_42_method_155_code 5 = .ok (.invokestatic 1059, 3) := by decide +kernel
theorem d15_8 : decode jdk_42_method_155_code 8 = .ok (.pop, 1) := by decide +kernel
theorem d15_9 : decode jdk_42_method_155_code 9 = .ok (.return_, 1) := by decide +kernel
theorem ef_15_II (m : MethodId) (x0 : Int32) (x1 : Int32) : entryFrame m #[(.int x0), (.int x1)] 2 = mkF m 0 #[.val (.int x0), .val (.int x1)] [] := by first | (simp [entryFrame, mkF, argsToLocals, Value.category]; done) | rfl
set_option maxRecDepth 65536 in
set_option maxHeartbeats 40000000 in
theorem sk2 (l : Launch) (Z : State) (a0 : Array Value) (hw : ∀ d ∈ tables_1, d.before a0 Z = true) (q1 : Int32) (q2 : Int32) (fm : Value) (h0 : Heap) (S_SIOOBE_FORMATTER : Sta Z h0 "jdk/internal/util/Preconditions" "SIOOBE_FORMATTER" "Ljava/util/function/BiFunction;" fm) (cat_fm : fm.category = 1) (ir_fm : fm.isRef = true) (p0 : ¬ q1 < (0 : Int32)) (p1 : q1 < q2) :
    OPure l Z (⟨"java/lang/String", "checkIndex", "(II)V"⟩ : MethodName) jdk_42_method_155_code 2 none [] ({ frames := 1, cells := 0, slots := 0, locals := 14 } : Room) #[(.int q1), (.int q2)] h0 (none) := by
  refine own_body (plainFor_of_name pn_java_lang_String) (fun m => ef_15_II m q1 q2) ?_
  intro p e s m below meth c T0 hx hby hml hown hnm hret hlk hZ X0 e0
  have hown : s.vm.findClass "java/lang/String" = some m.cls := hown
  have hml : c.maxLocals = 2 := hml
  show OGo p e below s _ _ (T0.setTop (mkF m 0 #[.val (.int q1), .val (.int q2)] []))
  refine own_st (fun _ z => XS.iloadN X0.here hx rfl (hb hby d15_0) rfl z) ?_
  show OGo p e below s _ _ (T0.setTop (mkF m 1 #[.val (.int q1), .val (.int q2)] [(.int q1)]))
  refine own_st (fun _ z => XS.iloadN X0.here hx rfl (hb hby d15_1) rfl z) ?_
  show OGo p e below s _ _ (T0.setTop (mkF m 2 #[.val (.int q1), .val (.int q2)] [(.int q2), (.int q1)]))
  obtain ⟨T124, X124, e124, st124⟩ := getS2 X0 hx hZ hown (host := "") (Or.inl (own_w hw 75 rfl)) Via.refl e0 S_SIOOBE_FORMATTER (g := (mkF m 2 #[.val (.int q1), .val (.int q2)] [(.int q2), (.int q1)])) rfl (hb hby d15_2)
  refine own_st st124 ?_
  show OGo p e below s _ _ (T124.setTop (mkF m 5 #[.val (.int q1), .val (.int q2)] [fm, (.int q2), (.int q1)]))
  obtain ⟨T125, X125, e125, st125⟩ := own_callSP X124 hx hZ (y := (⟨"jdk/internal/util/Preconditions", "checkIndex", "(IILjava/util/function/BiFunction;)I"⟩ : MethodName)) (W := 0) hown (own_w hw 77 rfl) (own_w hw 78 rfl) (own_w hw 76 rfl) (own_w hw 79 rfl) (by decide) (sk1 l Z a0 hw q1 q2 fm h0 cat_fm ir_fm p0 p1) (by decide) (by decide) (g := (mkF m 5 #[.val (.int q1), .val (.int q2)] [fm, (.int q2), (.int q1)])) rfl (by rw [hml]; rfl) (argsL := [(.int q1), (.int q2), fm]) (rest := []) (lenOf pd_24 rfl) rfl (by show 2 * 0 + _ ≤ _; exact Nat.le_of_eq rfl) (hb hby d15_5) rfl e124 (by decide) (by decide)
  refine own_st st125 ?_
  show OGo p e below s _ _ (T125.setTop (mkF m 8 #[.val (.int q1), .val (.int q2)] [(.int q1)]))
  refine own_st (fun _ z => XS.pop X125.here hx rfl (hb hby d15_8) rfl rfl z) ?_
  show OGo p e below s _ _ (T125.setTop (mkF m 9 #[.val (.int q1), .val (.int q2)] []))
  exact own_retV X125 hx hlk hret (hb hby d15_9) (by decide) (by decide) (⟨rfl, rfl, e125⟩)
theorem d14_0 : decode jdk_42_method_154_code 0 = .ok (.getstatic 38, 3) := by decide +kernel
theorem d14_3 : decode jdk_42_method_154_code 3 = .ok (.ifCond .eq 14, 3) := by decide +kernel
theorem d14_6 : decode jdk_42_method_154_code 6 = .ok (.aload_n 0, 1) := by decide +kernel
theorem d14_7 : decode jdk_42_method_154_code 7 = .ok (.getfield 15, 3) := by decide +kernel
theorem d14_10 : decode jdk_42_method_154_code 10 = .ok (.ifCond .ne 7, 3) := by decide +kernel
theorem d14_13 : decode jdk_42_method_154_code 13 = .ok (.iconst 1, 1) := by decide +kernel
theorem d14_14 : decode jdk_42_method_154_code 14 = .ok (.goto 4, 3) := by decide +kernel
theorem d14_18 : decode jdk_42_method_154_code 18 = .ok (.ireturn, 1) := by decide +kernel
theorem ef_14_R (m : MethodId) (x0 : Addr) : entryFrame m #[(.ref x0)] 1 = mkF m 0 #[.val (.ref x0)] [] := by first | (simp [entryFrame, mkF, argsToLocals, Value.category]; done) | rfl
set_option maxRecDepth 65536 in
set_option maxHeartbeats 40000000 in
theorem sk3 (l : Launch) (Z : State) (a0 : Array Value) (hw : ∀ d ∈ tables_1, d.before a0 Z = true) (a1 : Addr) (cs : Int32) (h0 : Heap) (F_coder_a1 : Fld Z h0 a1 "java/lang/String" "coder" "B" (.int (0 : Int32))) (S_COMPACT_STRINGS : Sta Z h0 "java/lang/String" "COMPACT_STRINGS" "Z" (.int cs)) (hcs : ¬ cs = (0 : Int32)) :
    OPure l Z (⟨"java/lang/String", "isLatin1", "()Z"⟩ : MethodName) jdk_42_method_154_code 1 (some .boolean) [] ({ frames := 0, cells := 0, slots := 0, locals := 0 } : Room) #[(.ref a1)] h0 (some (.int (1 : Int32))) := by
  refine own_body (plainFor_of_name pn_java_lang_String) (fun m => ef_14_R m a1) ?_
  intro p e s m below meth c T0 hx hby hml hown hnm hret hlk hZ X0 e0
  have hown : s.vm.findClass "java/lang/String" = some m.cls := hown
  have hml : c.maxLocals = 1 := hml
  show OGo p e below s _ _ (T0.setTop (mkF m 0 #[.val (.ref a1)] []))
  obtain ⟨T126, X126, e126, st126⟩ := getS2 X0 hx hZ hown (host := "") (Or.inl (own_w hw 22 rfl)) Via.refl e0 S_COMPACT_STRINGS (g := (mkF m 0 #[.val (.ref a1)] [])) rfl (hb hby d14_0)
  refine own_st st126 ?_
  show OGo p e below s _ _ (T126.setTop (mkF m 3 #[.val (.ref a1)] [(.int cs)]))
  refine own_st (fun _ z => XS.ifNo X126.here hx rfl (hb hby d14_3) rfl ((if0 _ _).trans (feq (hcs)).1) z) ?_
  show OGo p e below s _ _ (T126.setTop (mkF m 6 #[.val (.ref a1)] []))
  refine own_st (fun _ z => XS.aloadN X126.here hx rfl (hb hby d14_6) rfl rfl z) ?_
  show OGo p e below s _ _ (T126.setTop (mkF m 7 #[.val (.ref a1)] [(.ref a1)]))
  obtain ⟨T127, X127, e127, st127⟩ := getF X126 hx hZ hown (host := "") (Or.inl (own_w hw 34 rfl)) Via.refl e126 F_coder_a1 (g := (mkF m 7 #[.val (.ref a1)] [(.ref a1)])) rfl rfl (hb hby d14_7)
  refine own_st st127 ?_
  show OGo p e below s _ _ (T127.setTop (mkF m 10 #[.val (.ref a1)] [(.int (0 : Int32))]))
  refine own_st (fun _ z => XS.ifNo X127.here hx rfl (hb hby d14_10) rfl ((if0 _ _).trans (teq ((by decide : (0 : Int32) = (0 : Int32)))).2) z) ?_
  show OGo p e below s _ _ (T127.setTop (mkF m 13 #[.val (.ref a1)] []))
  refine own_st (fun _ z => XS.iconst X127.here hx rfl (hb hby d14_13) z) ?_
  show OGo p e below s _ _ (T127.setTop (mkF m 14 #[.val (.ref a1)] [(.int (1 : Int32))]))
  refine own_st (fun _ z => XS.goto X127.here hx rfl (pc0 := 14) (pc' := 18) rfl (hb hby d14_14) (by decide) (by decide) z) ?_
  show OGo p e below s _ _ (T127.setTop (mkF m 18 #[.val (.ref a1)] [(.int (1 : Int32))]))
  exact own_retN X127 hx hlk (t := .boolean) hret (by simp) (hb hby d14_18) (by decide) (by decide) (⟨rfl, rfl, e127⟩)
theorem own_nci (x : Int32) (h0 : 0 ≤ x.toInt) (h1 : x.toInt < 65536) : nar .char x.toUInt32.toUInt16.toUInt32.toInt32 = x := by
  have i := c_i2c x
  have i2 := c_i2c x.toUInt32.toUInt16.toUInt32.toInt32
  exact Int32.toInt_inj.mp (by show x.toUInt32.toUInt16.toUInt32.toInt32.toUInt32.toUInt16.toUInt32.toInt32.toInt = _; omega)
theorem own_nc (x : Int32) (h0 : 0 ≤ x.toInt) (h1 : x.toInt < 65536) : nar .char x = x := by
  have i := c_i2c x
  exact Int32.toInt_inj.mp (by show x.toUInt32.toUInt16.toUInt32.toInt32.toInt = _; omega)
theorem own_lb255 (x : Int32) (h0 : 0 ≤ x.toInt) (h1 : x.toInt ≤ 255) : own_lb x &&& (255 : Int32) = x := by
  have m0 := c_mask (own_lb x) 255 8 (by decide) (by decide)
  have a0 := c_i2b x
  have a1 := c_i2b x.toInt8.toInt32
  have e0 : own_lb x = x.toInt8.toInt32.toInt8.toInt32 := rfl
  rw [e0] at m0 ⊢
  exact Int32.toInt_inj.mp (by omega)
def own_good (c : Int32) : Prop := 32 ≤ c.toInt ∧ c.toInt ≤ 255 ∧ ¬ c = (123 : Int32) ∧ ¬ c = (125 : Int32) ∧ ¬ c = (127 : Int32)
theorem d13_0 : decode jdk_42_method_57_code 0 = .ok (.aload_n 0, 1) := by decide +kernel
theorem d13_1 : decode jdk_42_method_57_code 1 = .ok (.invokevirtual 492, 3) := by decide +kernel
theorem d13_4 : decode jdk_42_method_57_code 4 = .ok (.ifCond .eq 23, 3) := by decide +kernel
theorem d13_7 : decode jdk_42_method_57_code 7 = .ok (.iload_n 1, 1) := by decide +kernel
theorem d13_8 : decode jdk_42_method_57_code 8 = .ok (.aload_n 0, 1) := by decide +kernel
theorem d13_9 : decode jdk_42_method_57_code 9 = .ok (.getfield 9, 3) := by decide +kernel
theorem d13_12 : decode jdk_42_method_57_code 12 = .ok (.arraylength, 1) := by decide +kernel
theorem d13_13 : decode jdk_42_method_57_code 13 = .ok (.invokestatic 499, 3) := by decide +kernel
theorem d13_16 : decode jdk_42_method_57_code 16 = .ok (.aload_n 0, 1) := by decide +kernel
theorem d13_17 : decode jdk_42_method_57_code 17 = .ok (.getfield 9, 3) := by decide +kernel
theorem d13_20 : decode jdk_42_method_57_code 20 = .ok (.iload_n 1, 1) := by decide +kernel
theorem d13_21 : decode jdk_42_method_57_code 21 = .ok (.baload, 1) := by decide +kernel
theorem d13_22 : decode jdk_42_method_57_code 22 = .ok (.sipush 255, 3) := by decide +kernel
theorem d13_25 : decode jdk_42_method_57_code 25 = .ok (.iand, 1) := by decide +kernel
theorem d13_26 : decode jdk_42_method_57_code 26 = .ok (.ireturn, 1) := by decide +kernel
theorem ef_13_RI (m : MethodId) (x0 : Addr) (x1 : Int32) : entryFrame m #[(.ref x0), (.int x1)] 3 = mkF m 0 #[.val (.ref x0), .val (.int x1), .unset] [] := by first | (simp [entryFrame, mkF, argsToLocals, Value.category]; done) | rfl
set_option maxRecDepth 65536 in
set_option maxHeartbeats 40000000 in
theorem k6_ (l : Launch) (Z : State) (a0 : Array Value) (hw : ∀ d ∈ tables_1, d.before a0 Z = true) (a1 : Addr) (i : Nat) (t1 : Addr) (n : Nat) (cf : Nat → Int32) (cs : Int32) (fm : Value) (h0 : Heap) (E_a1 : Exa Z h0 a1 "java/lang/String") (F_coder_a1 : Fld Z h0 a1 "java/lang/String" "coder" "B" (.int (0 : Int32))) (F_value_a1 : Fld Z h0 a1 "java/lang/String" "value" "[B" (.ref t1)) (A_t1 : OAr Z h0 t1 .byte n (fun j => .int (own_lb (cf j)))) (S_COMPACT_STRINGS : Sta Z h0 "java/lang/String" "COMPACT_STRINGS" "Z" (.int cs)) (S_SIOOBE_FORMATTER : Sta Z h0 "jdk/internal/util/Preconditions" "SIOOBE_FORMATTER" "Ljava/util/function/BiFunction;" fm) (hcs : ¬ cs = (0 : Int32)) (cat_fm : fm.category = 1) (ir_fm : fm.isRef = true) (hi : i < n) (hn : n ≤ 3) (hgd : own_good (cf i)) :
    OPure l Z (⟨"java/lang/String", "codePointAt", "(I)I"⟩ : MethodName) jdk_42_method_57_code 3 (some .int) [] ({ frames := 2, cells := 0, slots := 0, locals := 27 } : Room) #[(.ref a1), (.int (Int32.ofNat i))] h0 (some (.int (cf i))) := by
  refine own_body (plainFor_of_name pn_java_lang_String) (fun m => ef_13_RI m a1 (Int32.ofNat i)) ?_
  intro p e s m below meth c T0 hx hby hml hown hnm hret hlk hZ X0 e0
  have hown : s.vm.findClass "java/lang/String" = some m.cls := hown
  have hml : c.maxLocals = 3 := hml
  show OGo p e below s _ _ (T0.setTop (mkF m 0 #[.val (.ref a1), .val (.int (Int32.ofNat i)), .unset] []))
  refine own_st (fun _ z => XS.aloadN X0.here hx rfl (hb hby d13_0) rfl rfl z) ?_
  show OGo p e below s _ _ (T0.setTop (mkF m 1 #[.val (.ref a1), .val (.int (Int32.ofNat i)), .unset] [(.ref a1)]))
  obtain ⟨T128, X128, e128, st128⟩ := own_callVP X0 hx hZ (y := (⟨"java/lang/String", "isLatin1", "()Z"⟩ : MethodName)) (z := (⟨"java/lang/String", "isLatin1", "()Z"⟩ : MethodName)) (W := 0) hown (own_w hw 67 rfl) (own_w hw 68 rfl) (notFace_of_selects (args := #[]) (mvT hZ (own_w hw 70 rfl))) (own_w hw 70 rfl) (own_w hw 69 rfl) (own_w hw 71 rfl) (own_w hw 10 rfl) (by decide) (sk3 l Z a0 hw a1 cs h0 F_coder_a1 S_COMPACT_STRINGS hcs) (by decide) (by decide) E_a1 (g := (mkF m 1 #[.val (.ref a1), .val (.int (Int32.ofNat i)), .unset] [(.ref a1)])) rfl (by rw [hml]; rfl) (argsL := []) (rest := []) (lenOf pd_18 rfl) rfl (by show 2 * 0 + _ ≤ _; exact Nat.le_of_eq rfl) (hb hby d13_1) rfl e0 (by decide) (by decide)
  refine own_st st128 ?_
  show OGo p e below s _ _ (T128.setTop (mkF m 4 #[.val (.ref a1), .val (.int (Int32.ofNat i)), .unset] [(.int (1 : Int32))]))
  refine own_st (fun _ z => XS.ifNo X128.here hx rfl (hb hby d13_4) rfl ((if0 _ _).trans (feq ((by decide : ¬ (1 : Int32) = (0 : Int32)))).1) z) ?_
  show OGo p e below s _ _ (T128.setTop (mkF m 7 #[.val (.ref a1), .val (.int (Int32.ofNat i)), .unset] []))
  refine own_st (fun _ z => XS.iloadN X128.here hx rfl (hb hby d13_7) rfl z) ?_
  show OGo p e below s _ _ (T128.setTop (mkF m 8 #[.val (.ref a1), .val (.int (Int32.ofNat i)), .unset] [(.int (Int32.ofNat i))]))
  refine own_st (fun _ z => XS.aloadN X128.here hx rfl (hb hby d13_8) rfl rfl z) ?_
  show OGo p e below s _ _ (T128.setTop (mkF m 9 #[.val (.ref a1), .val (.int (Int32.ofNat i)), .unset] [(.ref a1), (.int (Int32.ofNat i))]))
  obtain ⟨T129, X129, e129, st129⟩ := getF X128 hx hZ hown (host := "") (Or.inl (own_w hw 36 rfl)) Via.refl e128 F_value_a1 (g := (mkF m 9 #[.val (.ref a1), .val (.int (Int32.ofNat i)), .unset] [(.ref a1), (.int (Int32.ofNat i))])) rfl rfl (hb hby d13_9)
  refine own_st st129 ?_
  show OGo p e below s _ _ (T129.setTop (mkF m 12 #[.val (.ref a1), .val (.int (Int32.ofNat i)), .unset] [(.ref t1), (.int (Int32.ofNat i))]))
  obtain ⟨cl130, Ar130, Sz130, -⟩ := id A_t1
  refine own_st (X129.arraylength hx (by rw [e129]; exact Ar130.1) (State.isArrayOf_alike hZ.alike Ar130.2.1) (g := (mkF m 12 #[.val (.ref a1), .val (.int (Int32.ofNat i)), .unset] [(.ref t1), (.int (Int32.ofNat i))])) rfl rfl (hb hby d13_12)) ?_
  rw [Sz130, own_len n]
  show OGo p e below s _ _ (T129.setTop (mkF m 13 #[.val (.ref a1), .val (.int (Int32.ofNat i)), .unset] [(.int (Int32.ofNat n)), (.int (Int32.ofNat i))]))
  obtain ⟨T131, X131, e131, st131⟩ := own_callSP X129 hx hZ (y := (⟨"java/lang/String", "checkIndex", "(II)V"⟩ : MethodName)) (W := 0) hown (own_w hw 72 rfl) (own_w hw 73 rfl) (own_w hw 10 rfl) (own_w hw 74 rfl) (by decide) (sk2 l Z a0 hw (Int32.ofNat i) (Int32.ofNat n) fm h0 S_SIOOBE_FORMATTER cat_fm ir_fm (own_nat (by omega)).2.1 ((own_lt (by omega) (by omega)).mpr hi)) (by decide) (by decide) (g := (mkF m 13 #[.val (.ref a1), .val (.int (Int32.ofNat i)), .unset] [(.int (Int32.ofNat n)), (.int (Int32.ofNat i))])) rfl (by rw [hml]; rfl) (argsL := [(.int (Int32.ofNat i)), (.int (Int32.ofNat n))]) (rest := []) (lenOf pd_15 rfl) rfl (by show 2 * 0 + _ ≤ _; exact Nat.le_of_eq rfl) (hb hby d13_13) rfl e129 (by decide) (by decide)
  refine own_st st131 ?_
  show OGo p e below s _ _ (T131.setTop (mkF m 16 #[.val (.ref a1), .val (.int (Int32.ofNat i)), .unset] []))
  refine own_st (fun _ z => XS.aloadN X131.here hx rfl (hb hby d13_16) rfl rfl z) ?_
  show OGo p e below s _ _ (T131.setTop (mkF m 17 #[.val (.ref a1), .val (.int (Int32.ofNat i)), .unset] [(.ref a1)]))
  obtain ⟨T132, X132, e132, st132⟩ := getF X131 hx hZ hown (host := "") (Or.inl (own_w hw 36 rfl)) Via.refl e131 F_value_a1 (g := (mkF m 17 #[.val (.ref a1), .val (.int (Int32.ofNat i)), .unset] [(.ref a1)])) rfl rfl (hb hby d13_17)
  refine own_st st132 ?_
  show OGo p e below s _ _ (T132.setTop (mkF m 20 #[.val (.ref a1), .val (.int (Int32.ofNat i)), .unset] [(.ref t1)]))
  refine own_st (fun _ z => XS.iloadN X132.here hx rfl (hb hby d13_20) rfl z) ?_
  show OGo p e below s _ _ (T132.setTop (mkF m 21 #[.val (.ref a1), .val (.int (Int32.ofNat i)), .unset] [(.int (Int32.ofNat i)), (.ref t1)]))
  obtain ⟨cl133, Ar133, Sz133, Hh133⟩ := id A_t1
  have hin133 := own_in (i := (Int32.ofNat i)) Sz133 (own_nat (by omega)).2.1 (by rw [(own_nat (by omega)).1]; exact hi)
  refine own_st (X132.baloadBytes hx (j := (Int32.ofNat i)) (v := (.int (own_lb (cf i)))) (by rw [e132]; exact Ar133.1) (State.isArrayOf_alike hZ.alike Ar133.2.1) Ar133.2.2 hin133 ((Hh133 _ (by rw [(own_nat (by omega)).1]; exact hi)).trans (congrArg some (by rw [(own_nat (by omega)).1]))) (g := (mkF m 21 #[.val (.ref a1), .val (.int (Int32.ofNat i)), .unset] [(.int (Int32.ofNat i)), (.ref t1)])) rfl rfl (hb hby d13_21)) ?_
  show OGo p e below s _ _ (T132.setTop (mkF m 22 #[.val (.ref a1), .val (.int (Int32.ofNat i)), .unset] [(.int (own_lb (cf i)))]))
  refine own_st (fun _ z => XS.sipush X132.here hx rfl (hb hby d13_22) z) ?_
  show OGo p e below s _ _ (T132.setTop (mkF m 25 #[.val (.ref a1), .val (.int (Int32.ofNat i)), .unset] [(.int (255 : Int32)), (.int (own_lb (cf i)))]))
  refine own_st (fun _ z => XS.iand X132.here hx rfl (hb hby d13_25) rfl z) ?_
  show OGo p e below s _ _ (T132.setTop (mkF m 26 #[.val (.ref a1), .val (.int (Int32.ofNat i)), .unset] [(.int ((own_lb (cf i)) &&& (255 : Int32)))]))
  rw [own_lb255 (cf i) (by have := hgd.1; omega) hgd.2.1]
  exact own_retI X132 hx hlk hret (hb hby d13_26) (by decide) (by decide) (⟨rfl, rfl, e132⟩)
theorem own_st4 {z0 z1 z2 z3 : Value} {s4 : Slot} {v : Int32} (h : One s4) : storeLocals #[.val z0, .val z1, .val z2, .val z3, s4] 4 (.int v) = some #[.val z0, .val z1, .val z2, .val z3, .val (.int v)] := by
  rcases h with rfl | ⟨w, rfl, hw⟩
  · rfl
  · cases w <;> first | rfl | (simp [Value.category] at hw)
theorem own_glt {c : Int32} (h : own_good c) (d : Int32) (hd : 256 ≤ d.toInt) : c < d := by rw [Int32.lt_iff_toInt_lt]; have := h.2.1; omega
theorem own_g32 {c : Int32} (h : own_good c) : ¬ c < (32 : Int32) := by rw [Int32.lt_iff_toInt_lt, show (32 : Int32).toInt = 32 from by decide]; have := h.1; omega
theorem own_radd {r u : Int32} (h0 : 0 ≤ r.toInt) (h1 : r.toInt ≤ 100) (hu : u = 1 ∨ u = 2) : (r + u).toInt = r.toInt + 1 ∨ (r + u).toInt = r.toInt + 2 := by
  have h := c_iadd r u
  have rr := rng32 (r + u)
  have e1 : (1 : Int32).toInt = 1 := by decide
  have e2 : (2 : Int32).toInt = 2 := by decide
  rcases hu with rfl | rfl <;> omega
theorem own_rnz {r : Int32} (h : 1 ≤ r.toInt) : ¬ r = (0 : Int32) := fun q => by rw [q, show (0 : Int32).toInt = 0 from by decide] at h; omega
theorem own_rle {r : Int32} (h : r.toInt ≤ 100) : ¬ (200 : Int32) < r := by rw [Int32.lt_iff_toInt_lt, show (200 : Int32).toInt = 200 from by decide]; omega
theorem own_byl {Z : State} {h : Heap} {a : Addr} {n : Nat} {cf : Nat → Int32} (F : OAr Z h a .byte n (fun j => .int (own_lb (cf j)))) : OBy Z h a n := own_by F (fun j _ => fits_nar_byte _)
theorem d9_0 : decode prog_3_method_1_code 0 = .ok (.aload_n 0, 1) := by decide +kernel
theorem d9_1 : decode prog_3_method_1_code 1 = .ok (.invokespecial 1, 3) := by decide +kernel
theorem d9_4 : decode prog_3_method_1_code 4 = .ok (.aload_n 1, 1) := by decide +kernel
theorem d9_5 : decode prog_3_method_1_code 5 = .ok (.ldc 7, 2) := by decide +kernel
theorem pd_25 : parseMethodDescriptor "(Ljava/lang/Object;Ljava/lang/String;)Ljava/lang/Object;" = some ⟨[(.object "java/lang/Object"), (.object "java/lang/String")], some (.object "java/lang/Object")⟩ := by decide +kernel
theorem d9_7 : decode prog_3_method_1_code 7 = .ok (.invokestatic 9, 3) := by decide +kernel
theorem d9_10 : decode prog_3_method_1_code 10 = .ok (.pop, 1) := by decide +kernel
theorem d9_11 : decode prog_3_method_1_code 11 = .ok (.iconst 0, 1) := by decide +kernel
theorem d9_12 : decode prog_3_method_1_code 12 = .ok (.istore_n 2, 1) := by decide +kernel
theorem d9_13 : decode prog_3_method_1_code 13 = .ok (.iconst 0, 1) := by decide +kernel
theorem d9_14 : decode prog_3_method_1_code 14 = .ok (.istore_n 3, 1) := by decide +kernel
theorem d9_15 : decode prog_3_method_1_code 15 = .ok (.iload_n 3, 1) := by decide +kernel
theorem d9_16 : decode prog_3_method_1_code 16 = .ok (.aload_n 1, 1) := by decide +kernel
theorem d9_17 : decode prog_3_method_1_code 17 = .ok (.invokevirtual 15, 3) := by decide +kernel
theorem d9_20 : decode prog_3_method_1_code 20 = .ok (.if_icmp .ge 160, 3) := by decide +kernel
theorem d9_180 : decode prog_3_method_1_code 180 = .ok (.iload_n 2, 1) := by decide +kernel
theorem d9_181 : decode prog_3_method_1_code 181 = .ok (.ifCond .ne 13, 3) := by decide +kernel
theorem d9_194 : decode prog_3_method_1_code 194 = .ok (.iload_n 2, 1) := by decide +kernel
theorem d9_195 : decode prog_3_method_1_code 195 = .ok (.sipush 200, 3) := by decide +kernel
theorem d9_198 : decode prog_3_method_1_code 198 = .ok (.if_icmp .le 30, 3) := by decide +kernel
theorem d9_228 : decode prog_3_method_1_code 228 = .ok (.aload_n 0, 1) := by decide +kernel
theorem d9_229 : decode prog_3_method_1_code 229 = .ok (.aload_n 1, 1) := by decide +kernel
theorem d9_230 : decode prog_3_method_1_code 230 = .ok (.putfield 76, 3) := by decide +kernel
theorem d9_233 : decode prog_3_method_1_code 233 = .ok (.aload_n 0, 1) := by decide +kernel
theorem d9_234 : decode prog_3_method_1_code 234 = .ok (.aload_n 0, 1) := by decide +kernel
theorem d9_235 : decode prog_3_method_1_code 235 = .ok (.ldc 79, 2) := by decide +kernel
theorem pd_26 : parseMethodDescriptor "(Ljava/lang/String;)Ljava/lang/String;" = some ⟨[(.object "java/lang/String")], some (.object "java/lang/String")⟩ := by decide +kernel
theorem d9_237 : decode prog_3_method_1_code 237 = .ok (.invokevirtual 81, 3) := by decide +kernel
theorem d9_240 : decode prog_3_method_1_code 240 = .ok (.putfield 85, 3) := by decide +kernel
theorem d9_243 : decode prog_3_method_1_code 243 = .ok (.aload_n 0, 1) := by decide +kernel
theorem d9_244 : decode prog_3_method_1_code 244 = .ok (.aload_n 0, 1) := by decide +kernel
theorem d9_245 : decode prog_3_method_1_code 245 = .ok (.ldc 88, 2) := by decide +kernel
theorem d9_247 : decode prog_3_method_1_code 247 = .ok (.invokevirtual 81, 3) := by decide +kernel
theorem d9_250 : decode prog_3_method_1_code 250 = .ok (.putfield 90, 3) := by decide +kernel
theorem d9_253 : decode prog_3_method_1_code 253 = .ok (.aload_n 0, 1) := by decide +kernel
theorem d9_254 : decode prog_3_method_1_code 254 = .ok (.aload_n 0, 1) := by decide +kernel
theorem d9_255 : decode prog_3_method_1_code 255 = .ok (.ldc 93, 2) := by decide +kernel
theorem d9_257 : decode prog_3_method_1_code 257 = .ok (.invokevirtual 81, 3) := by decide +kernel
theorem d9_260 : decode prog_3_method_1_code 260 = .ok (.putfield 95, 3) := by decide +kernel
theorem d9_263 : decode prog_3_method_1_code 263 = .ok (.aload_n 0, 1) := by decide +kernel
theorem d9_264 : decode prog_3_method_1_code 264 = .ok (.aload_n 0, 1) := by decide +kernel
theorem d9_265 : decode prog_3_method_1_code 265 = .ok (.ldc 98, 2) := by decide +kernel
theorem d9_267 : decode prog_3_method_1_code 267 = .ok (.invokevirtual 81, 3) := by decide +kernel
theorem d9_270 : decode prog_3_method_1_code 270 = .ok (.putfield 100, 3) := by decide +kernel
theorem d9_273 : decode prog_3_method_1_code 273 = .ok (.return_, 1) := by decide +kernel
theorem d9_23 : decode prog_3_method_1_code 23 = .ok (.aload_n 1, 1) := by decide +kernel
theorem d9_24 : decode prog_3_method_1_code 24 = .ok (.iload_n 3, 1) := by decide +kernel
theorem d9_25 : decode prog_3_method_1_code 25 = .ok (.invokevirtual 21, 3) := by decide +kernel
theorem d9_28 : decode prog_3_method_1_code 28 = .ok (.istore 4, 2) := by decide +kernel
theorem d9_30 : decode prog_3_method_1_code 30 = .ok (.iload 4, 2) := by decide +kernel
theorem d9_32 : decode prog_3_method_1_code 32 = .ok (.ldc 27, 2) := by decide +kernel
theorem d9_34 : decode prog_3_method_1_code 34 = .ok (.if_icmp .lt 37, 3) := by decide +kernel
theorem d9_71 : decode prog_3_method_1_code 71 = .ok (.iload 4, 2) := by decide +kernel
theorem d9_73 : decode prog_3_method_1_code 73 = .ok (.bipush 32, 2) := by decide +kernel
theorem d9_75 : decode prog_3_method_1_code 75 = .ok (.if_icmp .lt 10, 3) := by decide +kernel
theorem d9_78 : decode prog_3_method_1_code 78 = .ok (.iload 4, 2) := by decide +kernel
theorem d9_80 : decode prog_3_method_1_code 80 = .ok (.bipush 127, 2) := by decide +kernel
theorem d9_82 : decode prog_3_method_1_code 82 = .ok (.if_icmp .ne 35, 3) := by decide +kernel
theorem d9_117 : decode prog_3_method_1_code 117 = .ok (.iload 4, 2) := by decide +kernel
theorem d9_119 : decode prog_3_method_1_code 119 = .ok (.bipush 123, 2) := by decide +kernel
theorem d9_121 : decode prog_3_method_1_code 121 = .ok (.if_icmp .eq 10, 3) := by decide +kernel
theorem d9_124 : decode prog_3_method_1_code 124 = .ok (.iload 4, 2) := by decide +kernel
theorem d9_126 : decode prog_3_method_1_code 126 = .ok (.bipush 125, 2) := by decide +kernel
theorem d9_128 : decode prog_3_method_1_code 128 = .ok (.if_icmp .ne 30, 3) := by decide +kernel
theorem d9_158 : decode prog_3_method_1_code 158 = .ok (.iload_n 2, 1) := by decide +kernel
theorem d9_159 : decode prog_3_method_1_code 159 = .ok (.iload 4, 2) := by decide +kernel
theorem d9_161 : decode prog_3_method_1_code 161 = .ok (.invokestatic 64, 3) := by decide +kernel
theorem d9_164 : decode prog_3_method_1_code 164 = .ok (.iadd, 1) := by decide +kernel
theorem d9_165 : decode prog_3_method_1_code 165 = .ok (.istore_n 2, 1) := by decide +kernel
theorem d9_166 : decode prog_3_method_1_code 166 = .ok (.iload_n 3, 1) := by decide +kernel
theorem d9_167 : decode prog_3_method_1_code 167 = .ok (.aload_n 1, 1) := by decide +kernel
theorem d9_168 : decode prog_3_method_1_code 168 = .ok (.iload_n 3, 1) := by decide +kernel
theorem d9_169 : decode prog_3_method_1_code 169 = .ok (.invokevirtual 21, 3) := by decide +kernel
theorem d9_172 : decode prog_3_method_1_code 172 = .ok (.invokestatic 69, 3) := by decide +kernel
theorem d9_175 : decode prog_3_method_1_code 175 = .ok (.iadd, 1) := by decide +kernel
theorem d9_176 : decode prog_3_method_1_code 176 = .ok (.istore_n 3, 1) := by decide +kernel
theorem d9_177 : decode prog_3_method_1_code 177 = .ok (.goto (-162), 3) := by decide +kernel
theorem ef_9_RR (m : MethodId) (x0 : Addr) (x1 : Addr) : entryFrame m #[(.ref x0), (.ref x1)] 5 = mkF m 0 #[.val (.ref x0), .val (.ref x1), .unset, .unset, .unset] [] := by first | (simp [entryFrame, mkF, argsToLocals, Value.category]; done) | rfl
set_option maxRecDepth 65536 in
set_option maxHeartbeats 40000000 in
theorem k7_ (l : Launch) (Z : State) (a0 : Array Value) (hw : ∀ d ∈ tables_1, d.before a0 Z = true) (a1 : Addr) (a2 : Addr) (t2 : Addr) (n : Nat) (cf : Nat → Int32) (cs : Int32) (fm : Value) (h0 : Heap) (n0 : Nat) (Z0 : n0 ≤ h0.size) (old_a1 : n0 ≤ a1) (ne_a2_a1 : a2 ≠ a1) (ne_t2_a1 : t2 ≠ a1) (E_a1 : Exa Z h0 a1 "com/example/limpet/limpet/LockName") (F_value_a1 : Fld Z h0 a1 "com/example/limpet/limpet/LockName" "value" "Ljava/lang/String;" .null) (F_lockKey_a1 : Fld Z h0 a1 "com/example/limpet/limpet/LockName" "lockKey" "Ljava/lang/String;" .null) (F_fenceKey_a1 : Fld Z h0 a1 "com/example/limpet/limpet/LockName" "fenceKey" "Ljava/lang/String;" .null) (F_releasedChannel_a1 : Fld Z h0 a1 "com/example/limpet/limpet/LockName" "releasedChannel" "Ljava/lang/String;" .null) (F_waitersChannel_a1 : Fld Z h0 a1 "com/example/limpet/limpet/LockName" "waitersChannel" "Ljava/lang/String;" .null) (E_a2 : Exa Z h0 a2 "java/lang/String") (F_coder_a2 : Fld Z h0 a2 "java/lang/String" "coder" "B" (.int (0 : Int32))) (F_value_a2 : Fld Z h0 a2 "java/lang/String" "value" "[B" (.ref t2)) (A_t2 : OAr Z h0 t2 .byte n (fun j => .int (own_lb (cf j)))) (S_COMPACT_STRINGS : Sta Z h0 "java/lang/String" "COMPACT_STRINGS" "Z" (.int cs)) (S_SIOOBE_FORMATTER : Sta Z h0 "jdk/internal/util/Preconditions" "SIOOBE_FORMATTER" "Ljava/util/function/BiFunction;" fm) (hcs : ¬ cs = (0 : Int32)) (cat_fm : fm.category = 1) (ir_fm : fm.isRef = true) (h1n : 1 ≤ n) (hn : n ≤ 3) (hgd : ∀ j, j < n → own_good (cf j)) :
    OMetW l Z own_EL (⟨"com/example/limpet/limpet/LockName", "<init>", "(Ljava/lang/String;)V"⟩ : MethodName) prog_3_method_1_code 5 none [] ({ frames := 7, cells := 46, slots := 696, locals := 105 } : Room) #[(.ref a1), (.ref a2)] h0 (fun v h' L => v = none ∧ Fr n0 L ∧ Keep h0 h' [a1] ∧ Exa Z h' a1 "com/example/limpet/limpet/LockName" ∧ Fld Z h' a1 "com/example/limpet/limpet/LockName" "value" "Ljava/lang/String;" (.ref a2)) := by
  refine own_bodyW (plainFor_of_name pn_com_example_limpet_limpet_LockName) (fun m => ef_9_RR m a1 a2) ?_
  intro p e s m below meth c T0 hx hby hml hown hnm hret hlk hZ X0 e0 es hS CH
  have hk := Nat.le_refl h0.size
  have hEL := own_EW hw
  have hown : s.vm.findClass "com/example/limpet/limpet/LockName" = some m.cls := hown
  have hml : c.maxLocals = 5 := hml
  have N0 := Fr.nil n0
  have K0 := Keep.refl h0 [a1]
  show OGoW p e below s _ Z _ _ (T0.setTop (mkF m 0 #[.val (.ref a1), .val (.ref a2), .unset, .unset, .unset] []))
  refine own_stW (fun _ z => XS.aloadN X0.here hx rfl (hb hby d9_0) rfl rfl z) ?_
  show OGoW p e below s _ Z _ _ (T0.setTop (mkF m 1 #[.val (.ref a1), .val (.ref a2), .unset, .unset, .unset] [(.ref a1)]))
  obtain ⟨T134, X134, e134, st134⟩ := initO X0 hx hZ hown (own_w hw 44 rfl) (own_w hw 20 rfl) (own_w hw 21 rfl) e0 (g := (mkF m 1 #[.val (.ref a1), .val (.ref a2), .unset, .unset, .unset] [(.ref a1)])) rfl (by rw [hml]; rfl) rfl (hb hby d9_1) (by decide) (W := 0) (by show 2 * 0 + _ ≤ _; exact Nat.le_of_eq rfl) (by decide)
  refine own_stW st134 ?_
  show OGoW p e below s _ Z _ _ (T134.setTop (mkF m 4 #[.val (.ref a1), .val (.ref a2), .unset, .unset, .unset] []))
  refine own_stW (fun _ z => XS.aloadN X134.here hx rfl (hb hby d9_4) rfl rfl z) ?_
  show OGoW p e below s _ Z _ _ (T134.setTop (mkF m 5 #[.val (.ref a1), .val (.ref a2), .unset, .unset, .unset] [(.ref a2)]))
  obtain ⟨l0, T135, hp135, kc135, l1, kk135, X135, e135, Ex135, hS, hk, hZ, hown, E_l0, F_coder_l0, F_value_l0, V135, lx135, lt135, CH135, Lt135, sep135, st135⟩ := ldcCH X134 hx hZ hown (own_w hw 45 rfl) (own_wS hw) e134 hS hk hEL (by decide) CH.1 (vs := [.int (118 : Int32), .int (97 : Int32), .int (108 : Int32), .int (117 : Int32), .int (101 : Int32)]) (z := (5 : Int32)) ⟨by decide, by decide⟩ (by decide) (by decide) (g := (mkF m 5 #[.val (.ref a1), .val (.ref a2), .unset, .unset, .unset] [(.ref a2)])) rfl (hb hby d9_5) (n := 20) (by decide) (by decide) (by decide) (by decide)
  have Z0 := Nat.le_trans Z0 Ex135.1
  have CH := CH.trans CH135
  have K0 := K0.ext Ex135
  have E_a1 := E_a1.ext Ex135
  have F_value_a1 := F_value_a1.ext Ex135
  have F_lockKey_a1 := F_lockKey_a1.ext Ex135
  have F_fenceKey_a1 := F_fenceKey_a1.ext Ex135
  have F_releasedChannel_a1 := F_releasedChannel_a1.ext Ex135
  have F_waitersChannel_a1 := F_waitersChannel_a1.ext Ex135
  have E_a2 := E_a2.ext Ex135
  have F_coder_a2 := F_coder_a2.ext Ex135
  have F_value_a2 := F_value_a2.ext Ex135
  have A_t2 := A_t2.ext Ex135
  have S_COMPACT_STRINGS := S_COMPACT_STRINGS.ext Ex135
  have S_SIOOBE_FORMATTER := S_SIOOBE_FORMATTER.ext Ex135
  refine own_stW st135 ?_
  show OGoW p e below s _ Z _ _ (T135.setTop (mkF m 7 #[.val (.ref a1), .val (.ref a2), .unset, .unset, .unset] [(.ref l0), (.ref a2)]))
  obtain ⟨T136, X136, e136, st136⟩ := own_callSP X135 hx hZ (y := (⟨"java/util/Objects", "requireNonNull", "(Ljava/lang/Object;Ljava/lang/String;)Ljava/lang/Object;"⟩ : MethodName)) (W := 0) hown (own_w hw 48 rfl) (own_w hw 49 rfl) (own_w hw 50 rfl) (own_w hw 51 rfl) (by decide) (k2_ l Z a0 hw a2 l0 hp135) (by decide) (by decide) (g := (mkF m 7 #[.val (.ref a1), .val (.ref a2), .unset, .unset, .unset] [(.ref l0), (.ref a2)])) rfl (by rw [hml]; rfl) (argsL := [(.ref a2), (.ref l0)]) (rest := []) (lenOf pd_25 rfl) rfl (by show 2 * 0 + _ ≤ _; exact Nat.le_of_eq rfl) (hb hby d9_7) rfl e135 (by decide) (by decide)
  refine own_stW st136 ?_
  show OGoW p e below s _ Z _ _ (T136.setTop (mkF m 10 #[.val (.ref a1), .val (.ref a2), .unset, .unset, .unset] [(.ref a2)]))
  refine own_stW (fun _ z => XS.pop X136.here hx rfl (hb hby d9_10) rfl rfl z) ?_
  show OGoW p e below s _ Z _ _ (T136.setTop (mkF m 11 #[.val (.ref a1), .val (.ref a2), .unset, .unset, .unset] []))
  refine own_stW (fun _ z => XS.iconst X136.here hx rfl (hb hby d9_11) z) ?_
  show OGoW p e below s _ Z _ _ (T136.setTop (mkF m 12 #[.val (.ref a1), .val (.ref a2), .unset, .unset, .unset] [(.int (0 : Int32))]))
  refine own_stW (fun _ z => XS.istoreN X136.here hx rfl (hb hby d9_12) rfl (l' := #[.val (.ref a1), .val (.ref a2), .val (.int (0 : Int32)), .unset, .unset]) rfl z) ?_
  show OGoW p e below s _ Z _ _ (T136.setTop (mkF m 13 #[.val (.ref a1), .val (.ref a2), .val (.int (0 : Int32)), .unset, .unset] []))
  refine own_stW (fun _ z => XS.iconst X136.here hx rfl (hb hby d9_13) z) ?_
  show OGoW p e below s _ Z _ _ (T136.setTop (mkF m 14 #[.val (.ref a1), .val (.ref a2), .val (.int (0 : Int32)), .unset, .unset] [(.int (0 : Int32))]))
  refine own_stW (fun _ z => XS.istoreN X136.here hx rfl (hb hby d9_14) rfl (l' := #[.val (.ref a1), .val (.ref a2), .val (.int (0 : Int32)), .val (.int (0 : Int32)), .unset]) rfl z) ?_
  show OGoW p e below s _ Z _ _ (T136.setTop (mkF m 15 #[.val (.ref a1), .val (.ref a2), .val (.int (0 : Int32)), .val (.int (0 : Int32)), .unset] []))
  have B_t2 := own_byl A_t2
  have loop : ∀ (k i : Nat) (TL : State) (r : Int32) (s4 : Slot), i + k = n → (i : Int) ≤ r.toInt → r.toInt ≤ 2 * i → One s4 → Stand p l e ({ frames := 7, cells := 46, slots := 696, locals := 105 } : Room) (s.setVm T135.vm) m #[(.ref a1), (.ref a2)] below meth c TL [] 2 24 → TL.heap = hp135 → OGoW p e below s ({ frames := 7, cells := 46, slots := 696, locals := 105 } : Room) Z own_EL (fun v h' L => v = none ∧ Fr n0 L ∧ Keep h0 h' [a1] ∧ Exa Z h' a1 "com/example/limpet/limpet/LockName" ∧ Fld Z h' a1 "com/example/limpet/limpet/LockName" "value" "Ljava/lang/String;" (.ref a2)) (TL.setTop (mkF m 15 #[.val (.ref a1), .val (.ref a2), .val (.int r), .val (.int (Int32.ofNat i)), s4] [])) := by
    intro k
    induction k with
    | zero =>
      intro i TL r s4 hi hr1 hr2 hs4 XL eL
      obtain rfl : n = i := by omega
      show OGoW p e below s _ Z _ _ (TL.setTop (mkF m 15 #[.val (.ref a1), .val (.ref a2), .val (.int r), .val (.int (Int32.ofNat n)), s4] []))
      refine own_stW (fun _ z => XS.iloadN XL.here hx rfl (hb hby d9_15) rfl z) ?_
      show OGoW p e below s _ Z _ _ (TL.setTop (mkF m 16 #[.val (.ref a1), .val (.ref a2), .val (.int r), .val (.int (Int32.ofNat n)), s4] [(.int (Int32.ofNat n))]))
      refine own_stW (fun _ z => XS.aloadN XL.here hx rfl (hb hby d9_16) rfl rfl z) ?_
      show OGoW p e below s _ Z _ _ (TL.setTop (mkF m 17 #[.val (.ref a1), .val (.ref a2), .val (.int r), .val (.int (Int32.ofNat n)), s4] [(.ref a2), (.int (Int32.ofNat n))]))
      obtain ⟨T137, X137, e137, st137⟩ := own_callVP XL hx hZ (y := (⟨"java/lang/String", "length", "()I"⟩ : MethodName)) (z := (⟨"java/lang/String", "length", "()I"⟩ : MethodName)) (W := 1) hown (own_w hw 52 rfl) (own_w hw 53 rfl) (notFace_of_selects (args := #[]) (mvT hZ (own_w hw 55 rfl))) (own_w hw 55 rfl) (own_w hw 54 rfl) (own_w hw 56 rfl) (own_w hw 10 rfl) (by decide) (bl l Z a0 hw a2 t2 n cs hp135 E_a2 F_coder_a2 F_value_a2 B_t2 S_COMPACT_STRINGS hcs) (by decide) (by decide) E_a2 (g := (mkF m 17 #[.val (.ref a1), .val (.ref a2), .val (.int r), .val (.int (Int32.ofNat n)), s4] [(.ref a2), (.int (Int32.ofNat n))])) rfl (by rw [hml]; rfl) (argsL := []) (rest := [(.int (Int32.ofNat n))]) (lenOf pd_12 rfl) rfl (by show 2 * 0 + _ ≤ _; exact Nat.le_of_eq rfl) (hb hby d9_17) rfl eL (by decide) (by decide)
      refine own_stW st137 ?_
      show OGoW p e below s _ Z _ _ (T137.setTop (mkF m 20 #[.val (.ref a1), .val (.ref a2), .val (.int r), .val (.int (Int32.ofNat n)), s4] [(.int (Int32.ofNat n)), (.int (Int32.ofNat n))]))
      refine own_stW (fun _ z => XS.icmpYes X137.here hx rfl (pc0 := 20) (pc' := 180) rfl (hb hby d9_20) rfl (flt ((fun q => absurd ((own_lt (by omega) (by omega)).mp q) (Nat.lt_irrefl _)))).2.1 (by decide) (by decide) z) ?_
      show OGoW p e below s _ Z _ _ (T137.setTop (mkF m 180 #[.val (.ref a1), .val (.ref a2), .val (.int r), .val (.int (Int32.ofNat n)), s4] []))
      refine own_stW (fun _ z => XS.iloadN X137.here hx rfl (hb hby d9_180) rfl z) ?_
      show OGoW p e below s _ Z _ _ (T137.setTop (mkF m 181 #[.val (.ref a1), .val (.ref a2), .val (.int r), .val (.int (Int32.ofNat n)), s4] [(.int r)]))
      refine own_stW (fun _ z => XS.ifYes X137.here hx rfl (pc0 := 181) (pc' := 194) rfl (hb hby d9_181) rfl ((if0 _ _).trans (feq ((own_rnz (by omega)))).2) (by decide) (by decide) z) ?_
      show OGoW p e below s _ Z _ _ (T137.setTop (mkF m 194 #[.val (.ref a1), .val (.ref a2), .val (.int r), .val (.int (Int32.ofNat n)), s4] []))
      refine own_stW (fun _ z => XS.iloadN X137.here hx rfl (hb hby d9_194) rfl z) ?_
      show OGoW p e below s _ Z _ _ (T137.setTop (mkF m 195 #[.val (.ref a1), .val (.ref a2), .val (.int r), .val (.int (Int32.ofNat n)), s4] [(.int r)]))
      refine own_stW (fun _ z => XS.sipush X137.here hx rfl (hb hby d9_195) z) ?_
      show OGoW p e below s _ Z _ _ (T137.setTop (mkF m 198 #[.val (.ref a1), .val (.ref a2), .val (.int r), .val (.int (Int32.ofNat n)), s4] [(.int (200 : Int32)), (.int r)]))
      refine own_stW (fun _ z => XS.icmpYes X137.here hx rfl (pc0 := 198) (pc' := 228) rfl (hb hby d9_198) rfl (flt ((own_rle (by omega)))).2.2.2 (by decide) (by decide) z) ?_
      show OGoW p e below s _ Z _ _ (T137.setTop (mkF m 228 #[.val (.ref a1), .val (.ref a2), .val (.int r), .val (.int (Int32.ofNat n)), s4] []))
      refine own_stW (fun _ z => XS.aloadN X137.here hx rfl (hb hby d9_228) rfl rfl z) ?_
      show OGoW p e below s _ Z _ _ (T137.setTop (mkF m 229 #[.val (.ref a1), .val (.ref a2), .val (.int r), .val (.int (Int32.ofNat n)), s4] [(.ref a1)]))
      refine own_stW (fun _ z => XS.aloadN X137.here hx rfl (hb hby d9_229) rfl rfl z) ?_
      show OGoW p e below s _ Z _ _ (T137.setTop (mkF m 230 #[.val (.ref a1), .val (.ref a2), .val (.int r), .val (.int (Int32.ofNat n)), s4] [(.ref a2), (.ref a1)]))
      obtain ⟨T138, hp138, X138, e138, Ww138, st138⟩ := putF X137 hx hZ hown (host := "") (Or.inl (own_w hw 89 rfl)) Via.refl e137 F_value_a1 E_a1 (Or.inr ⟨(own_w hw 90 rfl), rfl, hnm⟩) (own_w hw 39 rfl) (ty := (.object "java/lang/String")) (by decide) rfl rfl (g := (mkF m 230 #[.val (.ref a1), .val (.ref a2), .val (.int r), .val (.int (Int32.ofNat n)), s4] [(.ref a2), (.ref a1)])) rfl rfl (hb hby d9_230)
      have Nf138 := Fr.snoc X138 N0 old_a1
      have Z0 := Nat.le_trans Z0 (Keep.of_wr Ww138).1
      have hk := Nat.le_trans hk (Keep.of_wr Ww138).1
      have CH := CH.trans (CHr.wr Ww138 (Safe.exa hZ.alike E_a1 (by decide) (by decide)) CH.1)
      have K0 := K0.wr Ww138 (Or.inl (List.mem_of_getElem? (i := 0) rfl))
      have E_a1 := E_a1.wr Ww138
      have F_value_a1 := F_value_a1.same Ww138
      have F_lockKey_a1 := F_lockKey_a1.other Ww138 (Or.inr (slot_ne (Or.inr (own_w hw 217 rfl)) (Or.inr (own_w hw 90 rfl)) (by decide) (t := (.object "java/lang/String")) (t' := (.object "java/lang/String")) (by decide) (by decide)))
      have F_fenceKey_a1 := F_fenceKey_a1.other Ww138 (Or.inr (slot_ne (Or.inr (own_w hw 220 rfl)) (Or.inr (own_w hw 90 rfl)) (by decide) (t := (.object "java/lang/String")) (t' := (.object "java/lang/String")) (by decide) (by decide)))
      have F_releasedChannel_a1 := F_releasedChannel_a1.other Ww138 (Or.inr (slot_ne (Or.inr (own_w hw 223 rfl)) (Or.inr (own_w hw 90 rfl)) (by decide) (t := (.object "java/lang/String")) (t' := (.object "java/lang/String")) (by decide) (by decide)))
      have F_waitersChannel_a1 := F_waitersChannel_a1.other Ww138 (Or.inr (slot_ne (Or.inr (own_w hw 226 rfl)) (Or.inr (own_w hw 90 rfl)) (by decide) (t := (.object "java/lang/String")) (t' := (.object "java/lang/String")) (by decide) (by decide)))
      have E_a2 := E_a2.wr Ww138
      have F_coder_a2 := F_coder_a2.other Ww138 (Or.inl ne_a2_a1)
      have F_value_a2 := F_value_a2.other Ww138 (Or.inl ne_a2_a1)
      have S_COMPACT_STRINGS := S_COMPACT_STRINGS.wr Ww138
      have S_SIOOBE_FORMATTER := S_SIOOBE_FORMATTER.wr Ww138
      have B_t2 := B_t2.other Ww138 ne_t2_a1
      refine own_stW st138 ?_
      show OGoW p e below s _ Z _ _ (T138.setTop (mkF m 233 #[.val (.ref a1), .val (.ref a2), .val (.int r), .val (.int (Int32.ofNat n)), s4] []))
      refine own_stW (fun _ z => XS.aloadN X138.here hx rfl (hb hby d9_233) rfl rfl z) ?_
      show OGoW p e below s _ Z _ _ (T138.setTop (mkF m 234 #[.val (.ref a1), .val (.ref a2), .val (.int r), .val (.int (Int32.ofNat n)), s4] [(.ref a1)]))
      refine own_stW (fun _ z => XS.aloadN X138.here hx rfl (hb hby d9_234) rfl rfl z) ?_
      show OGoW p e below s _ Z _ _ (T138.setTop (mkF m 235 #[.val (.ref a1), .val (.ref a2), .val (.int r), .val (.int (Int32.ofNat n)), s4] [(.ref a1), (.ref a1)]))
      obtain ⟨lk0, T139, hp139, kc139, lv0, kk139, X139, e139, Ex139, hS, hk, hZ, hown, E_lk0, F_coder_lk0, F_value_lk0, V139, lx139, lt139, CH139, Lt139, sep139, st139⟩ := ldcCH X138 hx hZ hown (own_w hw 91 rfl) (own_wS hw) e138 hS hk hEL (by decide) CH.1 (vs := [.int (108 : Int32), .int (111 : Int32), .int (99 : Int32), .int (107 : Int32)]) (z := (4 : Int32)) ⟨by decide, by decide⟩ (by decide) (by decide) (g := (mkF m 235 #[.val (.ref a1), .val (.ref a2), .val (.int r), .val (.int (Int32.ofNat n)), s4] [(.ref a1), (.ref a1)])) rfl (hb hby d9_235) (n := 16) (by decide) (by decide) (by decide) (by decide)
      have Z0 := Nat.le_trans Z0 Ex139.1
      have CH := CH.trans CH139
      have K0 := K0.ext Ex139
      have E_a1 := E_a1.ext Ex139
      have F_value_a1 := F_value_a1.ext Ex139
      have F_lockKey_a1 := F_lockKey_a1.ext Ex139
      have F_fenceKey_a1 := F_fenceKey_a1.ext Ex139
      have F_releasedChannel_a1 := F_releasedChannel_a1.ext Ex139
      have F_waitersChannel_a1 := F_waitersChannel_a1.ext Ex139
      have E_a2 := E_a2.ext Ex139
      have F_coder_a2 := F_coder_a2.ext Ex139
      have F_value_a2 := F_value_a2.ext Ex139
      have S_COMPACT_STRINGS := S_COMPACT_STRINGS.ext Ex139
      have S_SIOOBE_FORMATTER := S_SIOOBE_FORMATTER.ext Ex139
      have B_t2 := B_t2.ext Ex139
      refine own_stW st139 ?_
      show OGoW p e below s _ Z _ _ (T139.setTop (mkF m 237 #[.val (.ref a1), .val (.ref a2), .val (.int r), .val (.int (Int32.ofNat n)), s4] [(.ref lk0), (.ref a1), (.ref a1)]))
      have sp := sep139 a1 (Safe.exa hZ.alike E_a1 (by decide) (by decide))
      have ne_a1_lk0 := sp.1
      have ne_a1_lv0 := sp.2
      have B_lv0 : OBy Z hp139 lv0 4 := own_by_arv V139 (by decide)
      obtain ⟨_, T140, Lc140, X140, hQ140, hS, hZ, hown, CH140, st140⟩ := own_callRW X139 hx hZ hS hk hEL CH.1 (y := (⟨"com/example/limpet/limpet/LockName", "key", "(Ljava/lang/String;)Ljava/lang/String;"⟩ : MethodName)) (W := 1) hown (own_w hw 92 rfl) (own_w hw 93 rfl) (own_selfsel (own_ord (y := (⟨"com/example/limpet/limpet/LockName", "equals", "(Ljava/lang/Object;)Z"⟩ : MethodName)) (own_w hw 239 rfl)) (own_w hw 94 rfl) (own_w hw 93 rfl) (by decide)) (own_w hw 94 rfl) (own_w hw 95 rfl) (own_w hw 40 rfl) (by decide) (k1_ l Z a0 hw a1 lk0 a2 t2 n lv0 4 cs hp139 n0 Z0 E_a1 F_value_a1 E_a2 F_coder_a2 F_value_a2 B_t2 E_lk0 F_coder_lk0 F_value_lk0 B_lv0 S_COMPACT_STRINGS hcs hn (by decide)) (by decide) (by decide) (a := a1) E_a1 (g := (mkF m 237 #[.val (.ref a1), .val (.ref a2), .val (.int r), .val (.int (Int32.ofNat n)), s4] [(.ref lk0), (.ref a1), (.ref a1)])) rfl (by rw [hml]; rfl) (argsL := [(.ref lk0)]) (rest := [(.ref a1)]) (lenOf pd_26 rfl) rfl (by show 2 * 0 + _ ≤ _; exact Nat.le_of_eq rfl) (hb hby d9_237) rfl e139 (by decide) (by decide)
      have hk := Nat.le_refl T140.heap.size
      have CH := CH.trans CH140
      obtain ⟨kk0, rfl, Nq140, Kq140, fq140_kk0, q140_0⟩ := hQ140
      have ne_a1_kk0 : a1 ≠ kk0 := Nat.ne_of_lt (Nat.lt_of_lt_of_le E_a1.lt fq140_kk0)
      have ne_a2_kk0 : a2 ≠ kk0 := Nat.ne_of_lt (Nat.lt_of_lt_of_le E_a2.lt fq140_kk0)
      have ne_t2_kk0 : t2 ≠ kk0 := Nat.ne_of_lt (Nat.lt_of_lt_of_le B_t2.lt fq140_kk0)
      have ne_lk0_kk0 : lk0 ≠ kk0 := Nat.ne_of_lt (Nat.lt_of_lt_of_le E_lk0.lt fq140_kk0)
      have ne_lv0_kk0 : lv0 ≠ kk0 := Nat.ne_of_lt (Nat.lt_of_lt_of_le B_lv0.lt fq140_kk0)
      have old_kk0 : n0 ≤ kk0 := Nat.le_trans Z0 fq140_kk0
      have fr_kk0 : h0.size ≤ kk0 := Nat.le_trans K0.1 fq140_kk0
      have hpl_Kq140 : ∀ w ∈ ([] : List Addr), ∃ c : Cell, hp139[w]? = some c ∧ c.vm.isStatics = false := all0
      have Z0 := Nat.le_trans Z0 Kq140.1
      have K0 := K0.trans Kq140 all0
      have E_a1 := E_a1.keep Kq140
      have F_value_a1 := F_value_a1.keep Kq140 nin0
      have F_lockKey_a1 := F_lockKey_a1.keep Kq140 nin0
      have F_fenceKey_a1 := F_fenceKey_a1.keep Kq140 nin0
      have F_releasedChannel_a1 := F_releasedChannel_a1.keep Kq140 nin0
      have F_waitersChannel_a1 := F_waitersChannel_a1.keep Kq140 nin0
      have E_a2 := E_a2.keep Kq140
      have F_coder_a2 := F_coder_a2.keep Kq140 nin0
      have F_value_a2 := F_value_a2.keep Kq140 nin0
      have S_COMPACT_STRINGS := own_sta_keep S_COMPACT_STRINGS Kq140 hpl_Kq140
      have S_SIOOBE_FORMATTER := own_sta_keep S_SIOOBE_FORMATTER Kq140 hpl_Kq140
      have B_t2 := B_t2.keep Kq140 nin0
      have E_lk0 := E_lk0.keep Kq140
      have F_coder_lk0 := F_coder_lk0.keep Kq140 nin0
      have F_value_lk0 := F_value_lk0.keep Kq140 nin0
      have B_lv0 := B_lv0.keep Kq140 nin0
      have Nr140 := Fr.app Nf138 Nq140
      have E_kk0 := q140_0
      refine own_stW st140 ?_
      show OGoW p e below s _ Z _ _ (T140.setTop (mkF m 240 #[.val (.ref a1), .val (.ref a2), .val (.int r), .val (.int (Int32.ofNat n)), s4] [(.ref kk0), (.ref a1)]))
      obtain ⟨T141, hp141, X141, e141, Ww141, st141⟩ := putF X140 hx hZ hown (host := "") (Or.inl (own_w hw 216 rfl)) Via.refl rfl F_lockKey_a1 E_a1 (Or.inr ⟨(own_w hw 217 rfl), rfl, hnm⟩) (own_w hw 39 rfl) (ty := (.object "java/lang/String")) (by decide) rfl rfl (g := (mkF m 240 #[.val (.ref a1), .val (.ref a2), .val (.int r), .val (.int (Int32.ofNat n)), s4] [(.ref kk0), (.ref a1)])) rfl rfl (hb hby d9_240)
      have Nf141 := Fr.snoc X141 Nr140 old_a1
      have Z0 := Nat.le_trans Z0 (Keep.of_wr Ww141).1
      have hk := Nat.le_trans hk (Keep.of_wr Ww141).1
      have CH := CH.trans (CHr.wr Ww141 (Safe.exa hZ.alike E_a1 (by decide) (by decide)) CH.1)
      have K0 := K0.wr Ww141 (Or.inl (List.mem_of_getElem? (i := 0) rfl))
      have E_a1 := E_a1.wr Ww141
      have F_value_a1 := F_value_a1.other Ww141 (Or.inr (slot_ne (Or.inr (own_w hw 90 rfl)) (Or.inr (own_w hw 217 rfl)) (by decide) (t := (.object "java/lang/String")) (t' := (.object "java/lang/String")) (by decide) (by decide)))
      have F_lockKey_a1 := F_lockKey_a1.same Ww141
      have F_fenceKey_a1 := F_fenceKey_a1.other Ww141 (Or.inr (slot_ne (Or.inr (own_w hw 220 rfl)) (Or.inr (own_w hw 217 rfl)) (by decide) (t := (.object "java/lang/String")) (t' := (.object "java/lang/String")) (by decide) (by decide)))
      have F_releasedChannel_a1 := F_releasedChannel_a1.other Ww141 (Or.inr (slot_ne (Or.inr (own_w hw 223 rfl)) (Or.inr (own_w hw 217 rfl)) (by decide) (t := (.object "java/lang/String")) (t' := (.object "java/lang/String")) (by decide) (by decide)))
      have F_waitersChannel_a1 := F_waitersChannel_a1.other Ww141 (Or.inr (slot_ne (Or.inr (own_w hw 226 rfl)) (Or.inr (own_w hw 217 rfl)) (by decide) (t := (.object "java/lang/String")) (t' := (.object "java/lang/String")) (by decide) (by decide)))
      have E_a2 := E_a2.wr Ww141
      have F_coder_a2 := F_coder_a2.other Ww141 (Or.inl ne_a2_a1)
      have F_value_a2 := F_value_a2.other Ww141 (Or.inl ne_a2_a1)
      have S_COMPACT_STRINGS := S_COMPACT_STRINGS.wr Ww141
      have S_SIOOBE_FORMATTER := S_SIOOBE_FORMATTER.wr Ww141
      have B_t2 := B_t2.other Ww141 ne_t2_a1
      refine own_stW st141 ?_
      show OGoW p e below s _ Z _ _ (T141.setTop (mkF m 243 #[.val (.ref a1), .val (.ref a2), .val (.int r), .val (.int (Int32.ofNat n)), s4] []))
      refine own_stW (fun _ z => XS.aloadN X141.here hx rfl (hb hby d9_243) rfl rfl z) ?_
      show OGoW p e below s _ Z _ _ (T141.setTop (mkF m 244 #[.val (.ref a1), .val (.ref a2), .val (.int r), .val (.int (Int32.ofNat n)), s4] [(.ref a1)]))
      refine own_stW (fun _ z => XS.aloadN X141.here hx rfl (hb hby d9_244) rfl rfl z) ?_
      show OGoW p e below s _ Z _ _ (T141.setTop (mkF m 245 #[.val (.ref a1), .val (.ref a2), .val (.int r), .val (.int (Int32.ofNat n)), s4] [(.ref a1), (.ref a1)]))
      obtain ⟨lk1, T142, hp142, kc142, lv1, kk142, X142, e142, Ex142, hS, hk, hZ, hown, E_lk1, F_coder_lk1, F_value_lk1, V142, lx142, lt142, CH142, Lt142, sep142, st142⟩ := ldcCH X141 hx hZ hown (own_w hw 218 rfl) (own_wS hw) e141 hS hk hEL (by decide) CH.1 (vs := [.int (102 : Int32), .int (101 : Int32), .int (110 : Int32), .int (99 : Int32), .int (101 : Int32)]) (z := (5 : Int32)) ⟨by decide, by decide⟩ (by decide) (by decide) (g := (mkF m 245 #[.val (.ref a1), .val (.ref a2), .val (.int r), .val (.int (Int32.ofNat n)), s4] [(.ref a1), (.ref a1)])) rfl (hb hby d9_245) (n := 20) (by decide) (by decide) (by decide) (by decide)
      have Z0 := Nat.le_trans Z0 Ex142.1
      have CH := CH.trans CH142
      have K0 := K0.ext Ex142
      have E_a1 := E_a1.ext Ex142
      have F_value_a1 := F_value_a1.ext Ex142
      have F_fenceKey_a1 := F_fenceKey_a1.ext Ex142
      have F_releasedChannel_a1 := F_releasedChannel_a1.ext Ex142
      have F_waitersChannel_a1 := F_waitersChannel_a1.ext Ex142
      have E_a2 := E_a2.ext Ex142
      have F_coder_a2 := F_coder_a2.ext Ex142
      have F_value_a2 := F_value_a2.ext Ex142
      have S_COMPACT_STRINGS := S_COMPACT_STRINGS.ext Ex142
      have S_SIOOBE_FORMATTER := S_SIOOBE_FORMATTER.ext Ex142
      have B_t2 := B_t2.ext Ex142
      refine own_stW st142 ?_
      show OGoW p e below s _ Z _ _ (T142.setTop (mkF m 247 #[.val (.ref a1), .val (.ref a2), .val (.int r), .val (.int (Int32.ofNat n)), s4] [(.ref lk1), (.ref a1), (.ref a1)]))
      have sp := sep142 a1 (Safe.exa hZ.alike E_a1 (by decide) (by decide))
      have ne_a1_lk1 := sp.1
      have ne_a1_lv1 := sp.2
      have B_lv1 : OBy Z hp142 lv1 5 := own_by_arv V142 (by decide)
      obtain ⟨_, T143, Lc143, X143, hQ143, hS, hZ, hown, CH143, st143⟩ := own_callRW X142 hx hZ hS hk hEL CH.1 (y := (⟨"com/example/limpet/limpet/LockName", "key", "(Ljava/lang/String;)Ljava/lang/String;"⟩ : MethodName)) (W := 1) hown (own_w hw 92 rfl) (own_w hw 93 rfl) (own_selfsel (own_ord (y := (⟨"com/example/limpet/limpet/LockName", "equals", "(Ljava/lang/Object;)Z"⟩ : MethodName)) (own_w hw 239 rfl)) (own_w hw 94 rfl) (own_w hw 93 rfl) (by decide)) (own_w hw 94 rfl) (own_w hw 95 rfl) (own_w hw 40 rfl) (by decide) (k1_ l Z a0 hw a1 lk1 a2 t2 n lv1 5 cs hp142 n0 Z0 E_a1 F_value_a1 E_a2 F_coder_a2 F_value_a2 B_t2 E_lk1 F_coder_lk1 F_value_lk1 B_lv1 S_COMPACT_STRINGS hcs hn (by decide)) (by decide) (by decide) (a := a1) E_a1 (g := (mkF m 247 #[.val (.ref a1), .val (.ref a2), .val (.int r), .val (.int (Int32.ofNat n)), s4] [(.ref lk1), (.ref a1), (.ref a1)])) rfl (by rw [hml]; rfl) (argsL := [(.ref lk1)]) (rest := [(.ref a1)]) (lenOf pd_26 rfl) rfl (by show 2 * 0 + _ ≤ _; exact Nat.le_of_eq rfl) (hb hby d9_247) rfl e142 (by decide) (by decide)
      have hk := Nat.le_refl T143.heap.size
      have CH := CH.trans CH143
      obtain ⟨kk1, rfl, Nq143, Kq143, fq143_kk1, q143_0⟩ := hQ143
      have ne_a1_kk1 : a1 ≠ kk1 := Nat.ne_of_lt (Nat.lt_of_lt_of_le E_a1.lt fq143_kk1)
      have ne_a2_kk1 : a2 ≠ kk1 := Nat.ne_of_lt (Nat.lt_of_lt_of_le E_a2.lt fq143_kk1)
      have ne_t2_kk1 : t2 ≠ kk1 := Nat.ne_of_lt (Nat.lt_of_lt_of_le B_t2.lt fq143_kk1)
      have ne_lk1_kk1 : lk1 ≠ kk1 := Nat.ne_of_lt (Nat.lt_of_lt_of_le E_lk1.lt fq143_kk1)
      have ne_lv1_kk1 : lv1 ≠ kk1 := Nat.ne_of_lt (Nat.lt_of_lt_of_le B_lv1.lt fq143_kk1)
      have old_kk1 : n0 ≤ kk1 := Nat.le_trans Z0 fq143_kk1
      have fr_kk1 : h0.size ≤ kk1 := Nat.le_trans K0.1 fq143_kk1
      have hpl_Kq143 : ∀ w ∈ ([] : List Addr), ∃ c : Cell, hp142[w]? = some c ∧ c.vm.isStatics = false := all0
      have Z0 := Nat.le_trans Z0 Kq143.1
      have K0 := K0.trans Kq143 all0
      have E_a1 := E_a1.keep Kq143
      have F_value_a1 := F_value_a1.keep Kq143 nin0
      have F_fenceKey_a1 := F_fenceKey_a1.keep Kq143 nin0
      have F_releasedChannel_a1 := F_releasedChannel_a1.keep Kq143 nin0
      have F_waitersChannel_a1 := F_waitersChannel_a1.keep Kq143 nin0
      have E_a2 := E_a2.keep Kq143
      have F_coder_a2 := F_coder_a2.keep Kq143 nin0
      have F_value_a2 := F_value_a2.keep Kq143 nin0
      have S_COMPACT_STRINGS := own_sta_keep S_COMPACT_STRINGS Kq143 hpl_Kq143
      have S_SIOOBE_FORMATTER := own_sta_keep S_SIOOBE_FORMATTER Kq143 hpl_Kq143
      have B_t2 := B_t2.keep Kq143 nin0
      have E_lk1 := E_lk1.keep Kq143
      have F_coder_lk1 := F_coder_lk1.keep Kq143 nin0
      have F_value_lk1 := F_value_lk1.keep Kq143 nin0
      have B_lv1 := B_lv1.keep Kq143 nin0
      have Nr143 := Fr.app Nf141 Nq143
      have E_kk1 := q143_0
      refine own_stW st143 ?_
      show OGoW p e below s _ Z _ _ (T143.setTop (mkF m 250 #[.val (.ref a1), .val (.ref a2), .val (.int r), .val (.int (Int32.ofNat n)), s4] [(.ref kk1), (.ref a1)]))
      obtain ⟨T144, hp144, X144, e144, Ww144, st144⟩ := putF X143 hx hZ hown (host := "") (Or.inl (own_w hw 219 rfl)) Via.refl rfl F_fenceKey_a1 E_a1 (Or.inr ⟨(own_w hw 220 rfl), rfl, hnm⟩) (own_w hw 39 rfl) (ty := (.object "java/lang/String")) (by decide) rfl rfl (g := (mkF m 250 #[.val (.ref a1), .val (.ref a2), .val (.int r), .val (.int (Int32.ofNat n)), s4] [(.ref kk1), (.ref a1)])) rfl rfl (hb hby d9_250)
      have Nf144 := Fr.snoc X144 Nr143 old_a1
      have Z0 := Nat.le_trans Z0 (Keep.of_wr Ww144).1
      have hk := Nat.le_trans hk (Keep.of_wr Ww144).1
      have CH := CH.trans (CHr.wr Ww144 (Safe.exa hZ.alike E_a1 (by decide) (by decide)) CH.1)
      have K0 := K0.wr Ww144 (Or.inl (List.mem_of_getElem? (i := 0) rfl))
      have E_a1 := E_a1.wr Ww144
      have F_value_a1 := F_value_a1.other Ww144 (Or.inr (slot_ne (Or.inr (own_w hw 90 rfl)) (Or.inr (own_w hw 220 rfl)) (by decide) (t := (.object "java/lang/String")) (t' := (.object "java/lang/String")) (by decide) (by decide)))
      have F_fenceKey_a1 := F_fenceKey_a1.same Ww144
      have F_releasedChannel_a1 := F_releasedChannel_a1.other Ww144 (Or.inr (slot_ne (Or.inr (own_w hw 223 rfl)) (Or.inr (own_w hw 220 rfl)) (by decide) (t := (.object "java/lang/String")) (t' := (.object "java/lang/String")) (by decide) (by decide)))
      have F_waitersChannel_a1 := F_waitersChannel_a1.other Ww144 (Or.inr (slot_ne (Or.inr (own_w hw 226 rfl)) (Or.inr (own_w hw 220 rfl)) (by decide) (t := (.object "java/lang/String")) (t' := (.object "java/lang/String")) (by decide) (by decide)))
      have E_a2 := E_a2.wr Ww144
      have F_coder_a2 := F_coder_a2.other Ww144 (Or.inl ne_a2_a1)
      have F_value_a2 := F_value_a2.other Ww144 (Or.inl ne_a2_a1)
      have S_COMPACT_STRINGS := S_COMPACT_STRINGS.wr Ww144
      have S_SIOOBE_FORMATTER := S_SIOOBE_FORMATTER.wr Ww144
      have B_t2 := B_t2.other Ww144 ne_t2_a1
      refine own_stW st144 ?_
      show OGoW p e below s _ Z _ _ (T144.setTop (mkF m 253 #[.val (.ref a1), .val (.ref a2), .val (.int r), .val (.int (Int32.ofNat n)), s4] []))
      refine own_stW (fun _ z => XS.aloadN X144.here hx rfl (hb hby d9_253) rfl rfl z) ?_
      show OGoW p e below s _ Z _ _ (T144.setTop (mkF m 254 #[.val (.ref a1), .val (.ref a2), .val (.int r), .val (.int (Int32.ofNat n)), s4] [(.ref a1)]))
      refine own_stW (fun _ z => XS.aloadN X144.here hx rfl (hb hby d9_254) rfl rfl z) ?_
      show OGoW p e below s _ Z _ _ (T144.setTop (mkF m 255 #[.val (.ref a1), .val (.ref a2), .val (.int r), .val (.int (Int32.ofNat n)), s4] [(.ref a1), (.ref a1)]))
      obtain ⟨lk2, T145, hp145, kc145, lv2, kk145, X145, e145, Ex145, hS, hk, hZ, hown, E_lk2, F_coder_lk2, F_value_lk2, V145, lx145, lt145, CH145, Lt145, sep145, st145⟩ := ldcCH X144 hx hZ hown (own_w hw 221 rfl) (own_wS hw) e144 hS hk hEL (by decide) CH.1 (vs := [.int (114 : Int32), .int (101 : Int32), .int (108 : Int32), .int (101 : Int32), .int (97 : Int32), .int (115 : Int32), .int (101 : Int32), .int (100 : Int32)]) (z := (8 : Int32)) ⟨by decide, by decide⟩ (by decide) (by decide) (g := (mkF m 255 #[.val (.ref a1), .val (.ref a2), .val (.int r), .val (.int (Int32.ofNat n)), s4] [(.ref a1), (.ref a1)])) rfl (hb hby d9_255) (n := 32) (by decide) (by decide) (by decide) (by decide)
      have Z0 := Nat.le_trans Z0 Ex145.1
      have CH := CH.trans CH145
      have K0 := K0.ext Ex145
      have E_a1 := E_a1.ext Ex145
      have F_value_a1 := F_value_a1.ext Ex145
      have F_releasedChannel_a1 := F_releasedChannel_a1.ext Ex145
      have F_waitersChannel_a1 := F_waitersChannel_a1.ext Ex145
      have E_a2 := E_a2.ext Ex145
      have F_coder_a2 := F_coder_a2.ext Ex145
      have F_value_a2 := F_value_a2.ext Ex145
      have S_COMPACT_STRINGS := S_COMPACT_STRINGS.ext Ex145
      have S_SIOOBE_FORMATTER := S_SIOOBE_FORMATTER.ext Ex145
      have B_t2 := B_t2.ext Ex145
      refine own_stW st145 ?_
      show OGoW p e below s _ Z _ _ (T145.setTop (mkF m 257 #[.val (.ref a1), .val (.ref a2), .val (.int r), .val (.int (Int32.ofNat n)), s4] [(.ref lk2), (.ref a1), (.ref a1)]))
      have sp := sep145 a1 (Safe.exa hZ.alike E_a1 (by decide) (by decide))
      have ne_a1_lk2 := sp.1
      have ne_a1_lv2 := sp.2
      have B_lv2 : OBy Z hp145 lv2 8 := own_by_arv V145 (by decide)
      obtain ⟨_, T146, Lc146, X146, hQ146, hS, hZ, hown, CH146, st146⟩ := own_callRW X145 hx hZ hS hk hEL CH.1 (y := (⟨"com/example/limpet/limpet/LockName", "key", "(Ljava/lang/String;)Ljava/lang/String;"⟩ : MethodName)) (W := 1) hown (own_w hw 92 rfl) (own_w hw 93 rfl) (own_selfsel (own_ord (y := (⟨"com/example/limpet/limpet/LockName", "equals", "(Ljava/lang/Object;)Z"⟩ : MethodName)) (own_w hw 239 rfl)) (own_w hw 94 rfl) (own_w hw 93 rfl) (by decide)) (own_w hw 94 rfl) (own_w hw 95 rfl) (own_w hw 40 rfl) (by decide) (k1_ l Z a0 hw a1 lk2 a2 t2 n lv2 8 cs hp145 n0 Z0 E_a1 F_value_a1 E_a2 F_coder_a2 F_value_a2 B_t2 E_lk2 F_coder_lk2 F_value_lk2 B_lv2 S_COMPACT_STRINGS hcs hn (by decide)) (by decide) (by decide) (a := a1) E_a1 (g := (mkF m 257 #[.val (.ref a1), .val (.ref a2), .val (.int r), .val (.int (Int32.ofNat n)), s4] [(.ref lk2), (.ref a1), (.ref a1)])) rfl (by rw [hml]; rfl) (argsL := [(.ref lk2)]) (rest := [(.ref a1)]) (lenOf pd_26 rfl) rfl (by show 2 * 0 + _ ≤ _; exact Nat.le_of_eq rfl) (hb hby d9_257) rfl e145 (by decide) (by decide)
      have hk := Nat.le_refl T146.heap.size
      have CH := CH.trans CH146
      obtain ⟨kk2, rfl, Nq146, Kq146, fq146_kk2, q146_0⟩ := hQ146
      have ne_a1_kk2 : a1 ≠ kk2 := Nat.ne_of_lt (Nat.lt_of_lt_of_le E_a1.lt fq146_kk2)
      have ne_a2_kk2 : a2 ≠ kk2 := Nat.ne_of_lt (Nat.lt_of_lt_of_le E_a2.lt fq146_kk2)
      have ne_t2_kk2 : t2 ≠ kk2 := Nat.ne_of_lt (Nat.lt_of_lt_of_le B_t2.lt fq146_kk2)
      have ne_lk2_kk2 : lk2 ≠ kk2 := Nat.ne_of_lt (Nat.lt_of_lt_of_le E_lk2.lt fq146_kk2)
      have ne_lv2_kk2 : lv2 ≠ kk2 := Nat.ne_of_lt (Nat.lt_of_lt_of_le B_lv2.lt fq146_kk2)
      have old_kk2 : n0 ≤ kk2 := Nat.le_trans Z0 fq146_kk2
      have fr_kk2 : h0.size ≤ kk2 := Nat.le_trans K0.1 fq146_kk2
      have hpl_Kq146 : ∀ w ∈ ([] : List Addr), ∃ c : Cell, hp145[w]? = some c ∧ c.vm.isStatics = false := all0
      have Z0 := Nat.le_trans Z0 Kq146.1
      have K0 := K0.trans Kq146 all0
      have E_a1 := E_a1.keep Kq146
      have F_value_a1 := F_value_a1.keep Kq146 nin0
      have F_releasedChannel_a1 := F_releasedChannel_a1.keep Kq146 nin0
      have F_waitersChannel_a1 := F_waitersChannel_a1.keep Kq146 nin0
      have E_a2 := E_a2.keep Kq146
      have F_coder_a2 := F_coder_a2.keep Kq146 nin0
      have F_value_a2 := F_value_a2.keep Kq146 nin0
      have S_COMPACT_STRINGS := own_sta_keep S_COMPACT_STRINGS Kq146 hpl_Kq146
      have S_SIOOBE_FORMATTER := own_sta_keep S_SIOOBE_FORMATTER Kq146 hpl_Kq146
      have B_t2 := B_t2.keep Kq146 nin0
      have E_lk2 := E_lk2.keep Kq146
      have F_coder_lk2 := F_coder_lk2.keep Kq146 nin0
      have F_value_lk2 := F_value_lk2.keep Kq146 nin0
      have B_lv2 := B_lv2.keep Kq146 nin0
      have Nr146 := Fr.app Nf144 Nq146
      have E_kk2 := q146_0
      refine own_stW st146 ?_
      show OGoW p e below s _ Z _ _ (T146.setTop (mkF m 260 #[.val (.ref a1), .val (.ref a2), .val (.int r), .val (.int (Int32.ofNat n)), s4] [(.ref kk2), (.ref a1)]))
      obtain ⟨T147, hp147, X147, e147, Ww147, st147⟩ := putF X146 hx hZ hown (host := "") (Or.inl (own_w hw 222 rfl)) Via.refl rfl F_releasedChannel_a1 E_a1 (Or.inr ⟨(own_w hw 223 rfl), rfl, hnm⟩) (own_w hw 39 rfl) (ty := (.object "java/lang/String")) (by decide) rfl rfl (g := (mkF m 260 #[.val (.ref a1), .val (.ref a2), .val (.int r), .val (.int (Int32.ofNat n)), s4] [(.ref kk2), (.ref a1)])) rfl rfl (hb hby d9_260)
      have Nf147 := Fr.snoc X147 Nr146 old_a1
      have Z0 := Nat.le_trans Z0 (Keep.of_wr Ww147).1
      have hk := Nat.le_trans hk (Keep.of_wr Ww147).1
      have CH := CH.trans (CHr.wr Ww147 (Safe.exa hZ.alike E_a1 (by decide) (by decide)) CH.1)
      have K0 := K0.wr Ww147 (Or.inl (List.mem_of_getElem? (i := 0) rfl))
      have E_a1 := E_a1.wr Ww147
      have F_value_a1 := F_value_a1.other Ww147 (Or.inr (slot_ne (Or.inr (own_w hw 90 rfl)) (Or.inr (own_w hw 223 rfl)) (by decide) (t := (.object "java/lang/String")) (t' := (.object "java/lang/String")) (by decide) (by decide)))
      have F_releasedChannel_a1 := F_releasedChannel_a1.same Ww147
      have F_waitersChannel_a1 := F_waitersChannel_a1.other Ww147 (Or.inr (slot_ne (Or.inr (own_w hw 226 rfl)) (Or.inr (own_w hw 223 rfl)) (by decide) (t := (.object "java/lang/String")) (t' := (.object "java/lang/String")) (by decide) (by decide)))
      have E_a2 := E_a2.wr Ww147
      have F_coder_a2 := F_coder_a2.other Ww147 (Or.inl ne_a2_a1)
      have F_value_a2 := F_value_a2.other Ww147 (Or.inl ne_a2_a1)
      have S_COMPACT_STRINGS := S_COMPACT_STRINGS.wr Ww147
      have S_SIOOBE_FORMATTER := S_SIOOBE_FORMATTER.wr Ww147
      have B_t2 := B_t2.other Ww147 ne_t2_a1
      refine own_stW st147 ?_
      show OGoW p e below s _ Z _ _ (T147.setTop (mkF m 263 #[.val (.ref a1), .val (.ref a2), .val (.int r), .val (.int (Int32.ofNat n)), s4] []))
      refine own_stW (fun _ z => XS.aloadN X147.here hx rfl (hb hby d9_263) rfl rfl z) ?_
      show OGoW p e below s _ Z _ _ (T147.setTop (mkF m 264 #[.val (.ref a1), .val (.ref a2), .val (.int r), .val (.int (Int32.ofNat n)), s4] [(.ref a1)]))
      refine own_stW (fun _ z => XS.aloadN X147.here hx rfl (hb hby d9_264) rfl rfl z) ?_
      show OGoW p e below s _ Z _ _ (T147.setTop (mkF m 265 #[.val (.ref a1), .val (.ref a2), .val (.int r), .val (.int (Int32.ofNat n)), s4] [(.ref a1), (.ref a1)]))
      obtain ⟨lk3, T148, hp148, kc148, lv3, kk148, X148, e148, Ex148, hS, hk, hZ, hown, E_lk3, F_coder_lk3, F_value_lk3, V148, lx148, lt148, CH148, Lt148, sep148, st148⟩ := ldcCH X147 hx hZ hown (own_w hw 224 rfl) (own_wS hw) e147 hS hk hEL (by decide) CH.1 (vs := [.int (119 : Int32), .int (97 : Int32), .int (105 : Int32), .int (116 : Int32), .int (101 : Int32), .int (114 : Int32), .int (115 : Int32)]) (z := (7 : Int32)) ⟨by decide, by decide⟩ (by decide) (by decide) (g := (mkF m 265 #[.val (.ref a1), .val (.ref a2), .val (.int r), .val (.int (Int32.ofNat n)), s4] [(.ref a1), (.ref a1)])) rfl (hb hby d9_265) (n := 28) (by decide) (by decide) (by decide) (by decide)
      have Z0 := Nat.le_trans Z0 Ex148.1
      have CH := CH.trans CH148
      have K0 := K0.ext Ex148
      have E_a1 := E_a1.ext Ex148
      have F_value_a1 := F_value_a1.ext Ex148
      have F_waitersChannel_a1 := F_waitersChannel_a1.ext Ex148
      have E_a2 := E_a2.ext Ex148
      have F_coder_a2 := F_coder_a2.ext Ex148
      have F_value_a2 := F_value_a2.ext Ex148
      have S_COMPACT_STRINGS := S_COMPACT_STRINGS.ext Ex148
      have S_SIOOBE_FORMATTER := S_SIOOBE_FORMATTER.ext Ex148
      have B_t2 := B_t2.ext Ex148
      refine own_stW st148 ?_
      show OGoW p e below s _ Z _ _ (T148.setTop (mkF m 267 #[.val (.ref a1), .val (.ref a2), .val (.int r), .val (.int (Int32.ofNat n)), s4] [(.ref lk3), (.ref a1), (.ref a1)]))
      have sp := sep148 a1 (Safe.exa hZ.alike E_a1 (by decide) (by decide))
      have ne_a1_lk3 := sp.1
      have ne_a1_lv3 := sp.2
      have B_lv3 : OBy Z hp148 lv3 7 := own_by_arv V148 (by decide)
      obtain ⟨_, T149, Lc149, X149, hQ149, hS, hZ, hown, CH149, st149⟩ := own_callRW X148 hx hZ hS hk hEL CH.1 (y := (⟨"com/example/limpet/limpet/LockName", "key", "(Ljava/lang/String;)Ljava/lang/String;"⟩ : MethodName)) (W := 1) hown (own_w hw 92 rfl) (own_w hw 93 rfl) (own_selfsel (own_ord (y := (⟨"com/example/limpet/limpet/LockName", "equals", "(Ljava/lang/Object;)Z"⟩ : MethodName)) (own_w hw 239 rfl)) (own_w hw 94 rfl) (own_w hw 93 rfl) (by decide)) (own_w hw 94 rfl) (own_w hw 95 rfl) (own_w hw 40 rfl) (by decide) (k1_ l Z a0 hw a1 lk3 a2 t2 n lv3 7 cs hp148 n0 Z0 E_a1 F_value_a1 E_a2 F_coder_a2 F_value_a2 B_t2 E_lk3 F_coder_lk3 F_value_lk3 B_lv3 S_COMPACT_STRINGS hcs hn (by decide)) (by decide) (by decide) (a := a1) E_a1 (g := (mkF m 267 #[.val (.ref a1), .val (.ref a2), .val (.int r), .val (.int (Int32.ofNat n)), s4] [(.ref lk3), (.ref a1), (.ref a1)])) rfl (by rw [hml]; rfl) (argsL := [(.ref lk3)]) (rest := [(.ref a1)]) (lenOf pd_26 rfl) rfl (by show 2 * 0 + _ ≤ _; exact Nat.le_of_eq rfl) (hb hby d9_267) rfl e148 (by decide) (by decide)
      have hk := Nat.le_refl T149.heap.size
      have CH := CH.trans CH149
      obtain ⟨kk3, rfl, Nq149, Kq149, fq149_kk3, q149_0⟩ := hQ149
      have ne_a1_kk3 : a1 ≠ kk3 := Nat.ne_of_lt (Nat.lt_of_lt_of_le E_a1.lt fq149_kk3)
      have ne_a2_kk3 : a2 ≠ kk3 := Nat.ne_of_lt (Nat.lt_of_lt_of_le E_a2.lt fq149_kk3)
      have ne_t2_kk3 : t2 ≠ kk3 := Nat.ne_of_lt (Nat.lt_of_lt_of_le B_t2.lt fq149_kk3)
      have ne_lk3_kk3 : lk3 ≠ kk3 := Nat.ne_of_lt (Nat.lt_of_lt_of_le E_lk3.lt fq149_kk3)
      have ne_lv3_kk3 : lv3 ≠ kk3 := Nat.ne_of_lt (Nat.lt_of_lt_of_le B_lv3.lt fq149_kk3)
      have old_kk3 : n0 ≤ kk3 := Nat.le_trans Z0 fq149_kk3
      have fr_kk3 : h0.size ≤ kk3 := Nat.le_trans K0.1 fq149_kk3
      have hpl_Kq149 : ∀ w ∈ ([] : List Addr), ∃ c : Cell, hp148[w]? = some c ∧ c.vm.isStatics = false := all0
      have Z0 := Nat.le_trans Z0 Kq149.1
      have K0 := K0.trans Kq149 all0
      have E_a1 := E_a1.keep Kq149
      have F_value_a1 := F_value_a1.keep Kq149 nin0
      have F_waitersChannel_a1 := F_waitersChannel_a1.keep Kq149 nin0
      have E_a2 := E_a2.keep Kq149
      have F_coder_a2 := F_coder_a2.keep Kq149 nin0
      have F_value_a2 := F_value_a2.keep Kq149 nin0
      have S_COMPACT_STRINGS := own_sta_keep S_COMPACT_STRINGS Kq149 hpl_Kq149
      have S_SIOOBE_FORMATTER := own_sta_keep S_SIOOBE_FORMATTER Kq149 hpl_Kq149
      have B_t2 := B_t2.keep Kq149 nin0
      have E_lk3 := E_lk3.keep Kq149
      have F_coder_lk3 := F_coder_lk3.keep Kq149 nin0
      have F_value_lk3 := F_value_lk3.keep Kq149 nin0
      have B_lv3 := B_lv3.keep Kq149 nin0
      have Nr149 := Fr.app Nf147 Nq149
      have E_kk3 := q149_0
      refine own_stW st149 ?_
      show OGoW p e below s _ Z _ _ (T149.setTop (mkF m 270 #[.val (.ref a1), .val (.ref a2), .val (.int r), .val (.int (Int32.ofNat n)), s4] [(.ref kk3), (.ref a1)]))
      obtain ⟨T150, hp150, X150, e150, Ww150, st150⟩ := putF X149 hx hZ hown (host := "") (Or.inl (own_w hw 225 rfl)) Via.refl rfl F_waitersChannel_a1 E_a1 (Or.inr ⟨(own_w hw 226 rfl), rfl, hnm⟩) (own_w hw 39 rfl) (ty := (.object "java/lang/String")) (by decide) rfl rfl (g := (mkF m 270 #[.val (.ref a1), .val (.ref a2), .val (.int r), .val (.int (Int32.ofNat n)), s4] [(.ref kk3), (.ref a1)])) rfl rfl (hb hby d9_270)
      have Nf150 := Fr.snoc X150 Nr149 old_a1
      have Z0 := Nat.le_trans Z0 (Keep.of_wr Ww150).1
      have hk := Nat.le_trans hk (Keep.of_wr Ww150).1
      have CH := CH.trans (CHr.wr Ww150 (Safe.exa hZ.alike E_a1 (by decide) (by decide)) CH.1)
      have K0 := K0.wr Ww150 (Or.inl (List.mem_of_getElem? (i := 0) rfl))
      have E_a1 := E_a1.wr Ww150
      have F_value_a1 := F_value_a1.other Ww150 (Or.inr (slot_ne (Or.inr (own_w hw 90 rfl)) (Or.inr (own_w hw 226 rfl)) (by decide) (t := (.object "java/lang/String")) (t' := (.object "java/lang/String")) (by decide) (by decide)))
      have F_waitersChannel_a1 := F_waitersChannel_a1.same Ww150
      have E_a2 := E_a2.wr Ww150
      have F_coder_a2 := F_coder_a2.other Ww150 (Or.inl ne_a2_a1)
      have F_value_a2 := F_value_a2.other Ww150 (Or.inl ne_a2_a1)
      have S_COMPACT_STRINGS := S_COMPACT_STRINGS.wr Ww150
      have S_SIOOBE_FORMATTER := S_SIOOBE_FORMATTER.wr Ww150
      have B_t2 := B_t2.other Ww150 ne_t2_a1
      refine own_stW st150 ?_
      show OGoW p e below s _ Z _ _ (T150.setTop (mkF m 273 #[.val (.ref a1), .val (.ref a2), .val (.int r), .val (.int (Int32.ofNat n)), s4] []))
      exact own_retWV X150 hx hlk hret (hb hby d9_273) (by decide) (by decide) hS e150 es hk hZ hEL CH (⟨rfl, Nf150, (by rw [e150]; exact K0), (by rw [e150]; exact E_a1), (by rw [e150]; exact F_value_a1)⟩)
    | succ k ih =>
      intro i TL r s4 hi hr1 hr2 hs4 XL eL
      have gd := hgd i (by omega)
      show OGoW p e below s _ Z _ _ (TL.setTop (mkF m 15 #[.val (.ref a1), .val (.ref a2), .val (.int r), .val (.int (Int32.ofNat i)), s4] []))
      refine own_stW (fun _ z => XS.iloadN XL.here hx rfl (hb hby d9_15) rfl z) ?_
      show OGoW p e below s _ Z _ _ (TL.setTop (mkF m 16 #[.val (.ref a1), .val (.ref a2), .val (.int r), .val (.int (Int32.ofNat i)), s4] [(.int (Int32.ofNat i))]))
      refine own_stW (fun _ z => XS.aloadN XL.here hx rfl (hb hby d9_16) rfl rfl z) ?_
      show OGoW p e below s _ Z _ _ (TL.setTop (mkF m 17 #[.val (.ref a1), .val (.ref a2), .val (.int r), .val (.int (Int32.ofNat i)), s4] [(.ref a2), (.int (Int32.ofNat i))]))
      obtain ⟨T151, X151, e151, st151⟩ := own_callVP XL hx hZ (y := (⟨"java/lang/String", "length", "()I"⟩ : MethodName)) (z := (⟨"java/lang/String", "length", "()I"⟩ : MethodName)) (W := 1) hown (own_w hw 52 rfl) (own_w hw 53 rfl) (notFace_of_selects (args := #[]) (mvT hZ (own_w hw 55 rfl))) (own_w hw 55 rfl) (own_w hw 54 rfl) (own_w hw 56 rfl) (own_w hw 10 rfl) (by decide) (bl l Z a0 hw a2 t2 n cs hp135 E_a2 F_coder_a2 F_value_a2 B_t2 S_COMPACT_STRINGS hcs) (by decide) (by decide) E_a2 (g := (mkF m 17 #[.val (.ref a1), .val (.ref a2), .val (.int r), .val (.int (Int32.ofNat i)), s4] [(.ref a2), (.int (Int32.ofNat i))])) rfl (by rw [hml]; rfl) (argsL := []) (rest := [(.int (Int32.ofNat i))]) (lenOf pd_12 rfl) rfl (by show 2 * 0 + _ ≤ _; exact Nat.le_of_eq rfl) (hb hby d9_17) rfl eL (by decide) (by decide)
      refine own_stW st151 ?_
      show OGoW p e below s _ Z _ _ (T151.setTop (mkF m 20 #[.val (.ref a1), .val (.ref a2), .val (.int r), .val (.int (Int32.ofNat i)), s4] [(.int (Int32.ofNat n)), (.int (Int32.ofNat i))]))
      refine own_stW (fun _ z => XS.icmpNo X151.here hx rfl (hb hby d9_20) rfl (tlt (((own_lt (by omega) (by omega)).mpr (by omega)))).2.1 z) ?_
      show OGoW p e below s _ Z _ _ (T151.setTop (mkF m 23 #[.val (.ref a1), .val (.ref a2), .val (.int r), .val (.int (Int32.ofNat i)), s4] []))
      refine own_stW (fun _ z => XS.aloadN X151.here hx rfl (hb hby d9_23) rfl rfl z) ?_
      show OGoW p e below s _ Z _ _ (T151.setTop (mkF m 24 #[.val (.ref a1), .val (.ref a2), .val (.int r), .val (.int (Int32.ofNat i)), s4] [(.ref a2)]))
      refine own_stW (fun _ z => XS.iloadN X151.here hx rfl (hb hby d9_24) rfl z) ?_
      show OGoW p e below s _ Z _ _ (T151.setTop (mkF m 25 #[.val (.ref a1), .val (.ref a2), .val (.int r), .val (.int (Int32.ofNat i)), s4] [(.int (Int32.ofNat i)), (.ref a2)]))
      obtain ⟨T152, X152, e152, st152⟩ := own_callVP X151 hx hZ (y := (⟨"java/lang/String", "codePointAt", "(I)I"⟩ : MethodName)) (z := (⟨"java/lang/String", "codePointAt", "(I)I"⟩ : MethodName)) (W := 0) hown (own_w hw 62 rfl) (own_w hw 63 rfl) (notFace_of_selects (args := #[]) (mvT hZ (own_w hw 65 rfl))) (own_w hw 65 rfl) (own_w hw 64 rfl) (own_w hw 66 rfl) (own_w hw 10 rfl) (by decide) (k6_ l Z a0 hw a2 i t2 n cf cs fm hp135 E_a2 F_coder_a2 F_value_a2 A_t2 S_COMPACT_STRINGS S_SIOOBE_FORMATTER hcs cat_fm ir_fm (by omega) hn gd) (by decide) (by decide) E_a2 (g := (mkF m 25 #[.val (.ref a1), .val (.ref a2), .val (.int r), .val (.int (Int32.ofNat i)), s4] [(.int (Int32.ofNat i)), (.ref a2)])) rfl (by rw [hml]; rfl) (argsL := [(.int (Int32.ofNat i))]) (rest := []) (lenOf pd_8 rfl) rfl (by show 2 * 0 + _ ≤ _; exact Nat.le_of_eq rfl) (hb hby d9_25) rfl e151 (by decide) (by decide)
      refine own_stW st152 ?_
      show OGoW p e below s _ Z _ _ (T152.setTop (mkF m 28 #[.val (.ref a1), .val (.ref a2), .val (.int r), .val (.int (Int32.ofNat i)), s4] [(.int (cf i))]))
      refine own_stW (fun _ z => XS.istore X152.here hx rfl (hb hby d9_28) rfl (l' := #[.val (.ref a1), .val (.ref a2), .val (.int r), .val (.int (Int32.ofNat i)), .val (.int (cf i))]) (own_st4 hs4) z) ?_
      show OGoW p e below s _ Z _ _ (T152.setTop (mkF m 30 #[.val (.ref a1), .val (.ref a2), .val (.int r), .val (.int (Int32.ofNat i)), .val (.int (cf i))] []))
      refine own_stW (fun _ z => XS.iload X152.here hx rfl (hb hby d9_30) rfl z) ?_
      show OGoW p e below s _ Z _ _ (T152.setTop (mkF m 32 #[.val (.ref a1), .val (.ref a2), .val (.int r), .val (.int (Int32.ofNat i)), .val (.int (cf i))] [(.int (cf i))]))
      refine own_stW (X152.ldcInt hx hown (mvT hZ (own_w hw 80 rfl)) (g := (mkF m 32 #[.val (.ref a1), .val (.ref a2), .val (.int r), .val (.int (Int32.ofNat i)), .val (.int (cf i))] [(.int (cf i))])) rfl (hb hby d9_32)) ?_
      show OGoW p e below s _ Z _ _ (T152.setTop (mkF m 34 #[.val (.ref a1), .val (.ref a2), .val (.int r), .val (.int (Int32.ofNat i)), .val (.int (cf i))] [(.int (55296 : Int32)), (.int (cf i))]))
      refine own_stW (fun _ z => XS.icmpYes X152.here hx rfl (pc0 := 34) (pc' := 71) rfl (hb hby d9_34) rfl (tlt ((own_glt gd _ (by decide)))).1 (by decide) (by decide) z) ?_
      show OGoW p e below s _ Z _ _ (T152.setTop (mkF m 71 #[.val (.ref a1), .val (.ref a2), .val (.int r), .val (.int (Int32.ofNat i)), .val (.int (cf i))] []))
      refine own_stW (fun _ z => XS.iload X152.here hx rfl (hb hby d9_71) rfl z) ?_
      show OGoW p e below s _ Z _ _ (T152.setTop (mkF m 73 #[.val (.ref a1), .val (.ref a2), .val (.int r), .val (.int (Int32.ofNat i)), .val (.int (cf i))] [(.int (cf i))]))
      refine own_stW (fun _ z => XS.bipush X152.here hx rfl (hb hby d9_73) z) ?_
      show OGoW p e below s _ Z _ _ (T152.setTop (mkF m 75 #[.val (.ref a1), .val (.ref a2), .val (.int r), .val (.int (Int32.ofNat i)), .val (.int (cf i))] [(.int (32 : Int32)), (.int (cf i))]))
      refine own_stW (fun _ z => XS.icmpNo X152.here hx rfl (hb hby d9_75) rfl (flt ((own_g32 gd))).1 z) ?_
      show OGoW p e below s _ Z _ _ (T152.setTop (mkF m 78 #[.val (.ref a1), .val (.ref a2), .val (.int r), .val (.int (Int32.ofNat i)), .val (.int (cf i))] []))
      refine own_stW (fun _ z => XS.iload X152.here hx rfl (hb hby d9_78) rfl z) ?_
      show OGoW p e below s _ Z _ _ (T152.setTop (mkF m 80 #[.val (.ref a1), .val (.ref a2), .val (.int r), .val (.int (Int32.ofNat i)), .val (.int (cf i))] [(.int (cf i))]))
      refine own_stW (fun _ z => XS.bipush X152.here hx rfl (hb hby d9_80) z) ?_
      show OGoW p e below s _ Z _ _ (T152.setTop (mkF m 82 #[.val (.ref a1), .val (.ref a2), .val (.int r), .val (.int (Int32.ofNat i)), .val (.int (cf i))] [(.int (127 : Int32)), (.int (cf i))]))
      refine own_stW (fun _ z => XS.icmpYes X152.here hx rfl (pc0 := 82) (pc' := 117) rfl (hb hby d9_82) rfl (feq (gd.2.2.2.2)).2 (by decide) (by decide) z) ?_
      show OGoW p e below s _ Z _ _ (T152.setTop (mkF m 117 #[.val (.ref a1), .val (.ref a2), .val (.int r), .val (.int (Int32.ofNat i)), .val (.int (cf i))] []))
      refine own_stW (fun _ z => XS.iload X152.here hx rfl (hb hby d9_117) rfl z) ?_
      show OGoW p e below s _ Z _ _ (T152.setTop (mkF m 119 #[.val (.ref a1), .val (.ref a2), .val (.int r), .val (.int (Int32.ofNat i)), .val (.int (cf i))] [(.int (cf i))]))
      refine own_stW (fun _ z => XS.bipush X152.here hx rfl (hb hby d9_119) z) ?_
      show OGoW p e below s _ Z _ _ (T152.setTop (mkF m 121 #[.val (.ref a1), .val (.ref a2), .val (.int r), .val (.int (Int32.ofNat i)), .val (.int (cf i))] [(.int (123 : Int32)), (.int (cf i))]))
      refine own_stW (fun _ z => XS.icmpNo X152.here hx rfl (hb hby d9_121) rfl (feq (gd.2.2.1)).1 z) ?_
      show OGoW p e below s _ Z _ _ (T152.setTop (mkF m 124 #[.val (.ref a1), .val (.ref a2), .val (.int r), .val (.int (Int32.ofNat i)), .val (.int (cf i))] []))
      refine own_stW (fun _ z => XS.iload X152.here hx rfl (hb hby d9_124) rfl z) ?_
      show OGoW p e below s _ Z _ _ (T152.setTop (mkF m 126 #[.val (.ref a1), .val (.ref a2), .val (.int r), .val (.int (Int32.ofNat i)), .val (.int (cf i))] [(.int (cf i))]))
      refine own_stW (fun _ z => XS.bipush X152.here hx rfl (hb hby d9_126) z) ?_
      show OGoW p e below s _ Z _ _ (T152.setTop (mkF m 128 #[.val (.ref a1), .val (.ref a2), .val (.int r), .val (.int (Int32.ofNat i)), .val (.int (cf i))] [(.int (125 : Int32)), (.int (cf i))]))
      refine own_stW (fun _ z => XS.icmpYes X152.here hx rfl (pc0 := 128) (pc' := 158) rfl (hb hby d9_128) rfl (feq (gd.2.2.2.1)).2 (by decide) (by decide) z) ?_
      show OGoW p e below s _ Z _ _ (T152.setTop (mkF m 158 #[.val (.ref a1), .val (.ref a2), .val (.int r), .val (.int (Int32.ofNat i)), .val (.int (cf i))] []))
      refine own_stW (fun _ z => XS.iloadN X152.here hx rfl (hb hby d9_158) rfl z) ?_
      show OGoW p e below s _ Z _ _ (T152.setTop (mkF m 159 #[.val (.ref a1), .val (.ref a2), .val (.int r), .val (.int (Int32.ofNat i)), .val (.int (cf i))] [(.int r)]))
      refine own_stW (fun _ z => XS.iload X152.here hx rfl (hb hby d9_159) rfl z) ?_
      show OGoW p e below s _ Z _ _ (T152.setTop (mkF m 161 #[.val (.ref a1), .val (.ref a2), .val (.int r), .val (.int (Int32.ofNat i)), .val (.int (cf i))] [(.int (cf i)), (.int r)]))
      by_cases hu : cf i < (128 : Int32)
      · obtain ⟨T153, X153, e153, st153⟩ := own_callSP X152 hx hZ (y := (⟨"com/example/limpet/limpet/LockName", "utf8Length", "(I)I"⟩ : MethodName)) (W := 1) hown (own_w hw 81 rfl) (own_w hw 82 rfl) (own_w hw 40 rfl) (own_w hw 83 rfl) (by decide) (k3_ l Z a0 hw (cf i) hp135 hu) (by decide) (by decide) (g := (mkF m 161 #[.val (.ref a1), .val (.ref a2), .val (.int r), .val (.int (Int32.ofNat i)), .val (.int (cf i))] [(.int (cf i)), (.int r)])) rfl (by rw [hml]; rfl) (argsL := [(.int (cf i))]) (rest := [(.int r)]) (lenOf pd_8 rfl) rfl (by show 2 * 0 + _ ≤ _; exact Nat.le_of_eq rfl) (hb hby d9_161) rfl e152 (by decide) (by decide)
        refine own_stW st153 ?_
        show OGoW p e below s _ Z _ _ (T153.setTop (mkF m 164 #[.val (.ref a1), .val (.ref a2), .val (.int r), .val (.int (Int32.ofNat i)), .val (.int (cf i))] [(.int (1 : Int32)), (.int r)]))
        refine own_stW (fun _ z => XS.iadd X153.here hx rfl (hb hby d9_164) rfl z) ?_
        show OGoW p e below s _ Z _ _ (T153.setTop (mkF m 165 #[.val (.ref a1), .val (.ref a2), .val (.int r), .val (.int (Int32.ofNat i)), .val (.int (cf i))] [(.int (r + (1 : Int32)))]))
        refine own_stW (fun _ z => XS.istoreN X153.here hx rfl (hb hby d9_165) rfl (l' := #[.val (.ref a1), .val (.ref a2), .val (.int (r + (1 : Int32))), .val (.int (Int32.ofNat i)), .val (.int (cf i))]) rfl z) ?_
        show OGoW p e below s _ Z _ _ (T153.setTop (mkF m 166 #[.val (.ref a1), .val (.ref a2), .val (.int (r + (1 : Int32))), .val (.int (Int32.ofNat i)), .val (.int (cf i))] []))
        refine own_stW (fun _ z => XS.iloadN X153.here hx rfl (hb hby d9_166) rfl z) ?_
        show OGoW p e below s _ Z _ _ (T153.setTop (mkF m 167 #[.val (.ref a1), .val (.ref a2), .val (.int (r + (1 : Int32))), .val (.int (Int32.ofNat i)), .val (.int (cf i))] [(.int (Int32.ofNat i))]))
        refine own_stW (fun _ z => XS.aloadN X153.here hx rfl (hb hby d9_167) rfl rfl z) ?_
        show OGoW p e below s _ Z _ _ (T153.setTop (mkF m 168 #[.val (.ref a1), .val (.ref a2), .val (.int (r + (1 : Int32))), .val (.int (Int32.ofNat i)), .val (.int (cf i))] [(.ref a2), (.int (Int32.ofNat i))]))
        refine own_stW (fun _ z => XS.iloadN X153.here hx rfl (hb hby d9_168) rfl z) ?_
        show OGoW p e below s _ Z _ _ (T153.setTop (mkF m 169 #[.val (.ref a1), .val (.ref a2), .val (.int (r + (1 : Int32))), .val (.int (Int32.ofNat i)), .val (.int (cf i))] [(.int (Int32.ofNat i)), (.ref a2), (.int (Int32.ofNat i))]))
        obtain ⟨T155, X155, e155, st155⟩ := own_callVP X153 hx hZ (y := (⟨"java/lang/String", "codePointAt", "(I)I"⟩ : MethodName)) (z := (⟨"java/lang/String", "codePointAt", "(I)I"⟩ : MethodName)) (W := 1) hown (own_w hw 62 rfl) (own_w hw 63 rfl) (notFace_of_selects (args := #[]) (mvT hZ (own_w hw 65 rfl))) (own_w hw 65 rfl) (own_w hw 64 rfl) (own_w hw 66 rfl) (own_w hw 10 rfl) (by decide) (k6_ l Z a0 hw a2 i t2 n cf cs fm hp135 E_a2 F_coder_a2 F_value_a2 A_t2 S_COMPACT_STRINGS S_SIOOBE_FORMATTER hcs cat_fm ir_fm (by omega) hn gd) (by decide) (by decide) E_a2 (g := (mkF m 169 #[.val (.ref a1), .val (.ref a2), .val (.int (r + (1 : Int32))), .val (.int (Int32.ofNat i)), .val (.int (cf i))] [(.int (Int32.ofNat i)), (.ref a2), (.int (Int32.ofNat i))])) rfl (by rw [hml]; rfl) (argsL := [(.int (Int32.ofNat i))]) (rest := [(.int (Int32.ofNat i))]) (lenOf pd_8 rfl) rfl (by show 2 * 0 + _ ≤ _; exact Nat.le_of_eq rfl) (hb hby d9_169) rfl e153 (by decide) (by decide)
        refine own_stW st155 ?_
        show OGoW p e below s _ Z _ _ (T155.setTop (mkF m 172 #[.val (.ref a1), .val (.ref a2), .val (.int (r + (1 : Int32))), .val (.int (Int32.ofNat i)), .val (.int (cf i))] [(.int (cf i)), (.int (Int32.ofNat i))]))
        obtain ⟨T156, X156, e156, st156⟩ := own_callSP X155 hx hZ (y := (⟨"java/lang/Character", "charCount", "(I)I"⟩ : MethodName)) (W := 1) hown (own_w hw 84 rfl) (own_w hw 85 rfl) (own_w hw 86 rfl) (own_w hw 87 rfl) (by decide) (k5_ l Z a0 hw (cf i) hp135 (own_glt gd _ (by decide))) (by decide) (by decide) (g := (mkF m 172 #[.val (.ref a1), .val (.ref a2), .val (.int (r + (1 : Int32))), .val (.int (Int32.ofNat i)), .val (.int (cf i))] [(.int (cf i)), (.int (Int32.ofNat i))])) rfl (by rw [hml]; rfl) (argsL := [(.int (cf i))]) (rest := [(.int (Int32.ofNat i))]) (lenOf pd_8 rfl) rfl (by show 2 * 0 + _ ≤ _; exact Nat.le_of_eq rfl) (hb hby d9_172) rfl e155 (by decide) (by decide)
        refine own_stW st156 ?_
        show OGoW p e below s _ Z _ _ (T156.setTop (mkF m 175 #[.val (.ref a1), .val (.ref a2), .val (.int (r + (1 : Int32))), .val (.int (Int32.ofNat i)), .val (.int (cf i))] [(.int (1 : Int32)), (.int (Int32.ofNat i))]))
        refine own_stW (fun _ z => XS.iadd X156.here hx rfl (hb hby d9_175) rfl z) ?_
        show OGoW p e below s _ Z _ _ (T156.setTop (mkF m 176 #[.val (.ref a1), .val (.ref a2), .val (.int (r + (1 : Int32))), .val (.int (Int32.ofNat i)), .val (.int (cf i))] [(.int ((Int32.ofNat i) + (1 : Int32)))]))
        refine own_stW (fun _ z => XS.istoreN X156.here hx rfl (hb hby d9_176) rfl (l' := #[.val (.ref a1), .val (.ref a2), .val (.int (r + (1 : Int32))), .val (.int ((Int32.ofNat i) + (1 : Int32))), .val (.int (cf i))]) rfl z) ?_
        show OGoW p e below s _ Z _ _ (T156.setTop (mkF m 177 #[.val (.ref a1), .val (.ref a2), .val (.int (r + (1 : Int32))), .val (.int ((Int32.ofNat i) + (1 : Int32))), .val (.int (cf i))] []))
        refine own_stW (fun _ z => XS.goto X156.here hx rfl (pc0 := 177) (pc' := 15) rfl (hb hby d9_177) (by decide) (by decide) z) ?_
        show OGoW p e below s _ Z _ _ (T156.setTop (mkF m 15 #[.val (.ref a1), .val (.ref a2), .val (.int (r + (1 : Int32))), .val (.int ((Int32.ofNat i) + (1 : Int32))), .val (.int (cf i))] []))
        have hra := own_radd (r := r) (by omega) (by omega) (Or.inl rfl)
        rw [own_up]
        exact ih (i + 1) T156 _ _ (by omega) (by omega) (by omega) (One.val rfl) X156 e156
      · obtain ⟨T154, X154, e154, st154⟩ := own_callSP X152 hx hZ (y := (⟨"com/example/limpet/limpet/LockName", "utf8Length", "(I)I"⟩ : MethodName)) (W := 1) hown (own_w hw 81 rfl) (own_w hw 82 rfl) (own_w hw 40 rfl) (own_w hw 83 rfl) (by decide) (k4_ l Z a0 hw (cf i) hp135 hu (own_glt gd _ (by decide))) (by decide) (by decide) (g := (mkF m 161 #[.val (.ref a1), .val (.ref a2), .val (.int r), .val (.int (Int32.ofNat i)), .val (.int (cf i))] [(.int (cf i)), (.int r)])) rfl (by rw [hml]; rfl) (argsL := [(.int (cf i))]) (rest := [(.int r)]) (lenOf pd_8 rfl) rfl (by show 2 * 0 + _ ≤ _; exact Nat.le_of_eq rfl) (hb hby d9_161) rfl e152 (by decide) (by decide)
        refine own_stW st154 ?_
        show OGoW p e below s _ Z _ _ (T154.setTop (mkF m 164 #[.val (.ref a1), .val (.ref a2), .val (.int r), .val (.int (Int32.ofNat i)), .val (.int (cf i))] [(.int (2 : Int32)), (.int r)]))
        refine own_stW (fun _ z => XS.iadd X154.here hx rfl (hb hby d9_164) rfl z) ?_
        show OGoW p e below s _ Z _ _ (T154.setTop (mkF m 165 #[.val (.ref a1), .val (.ref a2), .val (.int r), .val (.int (Int32.ofNat i)), .val (.int (cf i))] [(.int (r + (2 : Int32)))]))
        refine own_stW (fun _ z => XS.istoreN X154.here hx rfl (hb hby d9_165) rfl (l' := #[.val (.ref a1), .val (.ref a2), .val (.int (r + (2 : Int32))), .val (.int (Int32.ofNat i)), .val (.int (cf i))]) rfl z) ?_
        show OGoW p e below s _ Z _ _ (T154.setTop (mkF m 166 #[.val (.ref a1), .val (.ref a2), .val (.int (r + (2 : Int32))), .val (.int (Int32.ofNat i)), .val (.int (cf i))] []))
        refine own_stW (fun _ z => XS.iloadN X154.here hx rfl (hb hby d9_166) rfl z) ?_
        show OGoW p e below s _ Z _ _ (T154.setTop (mkF m 167 #[.val (.ref a1), .val (.ref a2), .val (.int (r + (2 : Int32))), .val (.int (Int32.ofNat i)), .val (.int (cf i))] [(.int (Int32.ofNat i))]))
        refine own_stW (fun _ z => XS.aloadN X154.here hx rfl (hb hby d9_167) rfl rfl z) ?_
        show OGoW p e below s _ Z _ _ (T154.setTop (mkF m 168 #[.val (.ref a1), .val (.ref a2), .val (.int (r + (2 : Int32))), .val (.int (Int32.ofNat i)), .val (.int (cf i))] [(.ref a2), (.int (Int32.ofNat i))]))
        refine own_stW (fun _ z => XS.iloadN X154.here hx rfl (hb hby d9_168) rfl z) ?_
        show OGoW p e below s _ Z _ _ (T154.setTop (mkF m 169 #[.val (.ref a1), .val (.ref a2), .val (.int (r + (2 : Int32))), .val (.int (Int32.ofNat i)), .val (.int (cf i))] [(.int (Int32.ofNat i)), (.ref a2), (.int (Int32.ofNat i))]))
        obtain ⟨T157, X157, e157, st157⟩ := own_callVP X154 hx hZ (y := (⟨"java/lang/String", "codePointAt", "(I)I"⟩ : MethodName)) (z := (⟨"java/lang/String", "codePointAt", "(I)I"⟩ : MethodName)) (W := 1) hown (own_w hw 62 rfl) (own_w hw 63 rfl) (notFace_of_selects (args := #[]) (mvT hZ (own_w hw 65 rfl))) (own_w hw 65 rfl) (own_w hw 64 rfl) (own_w hw 66 rfl) (own_w hw 10 rfl) (by decide) (k6_ l Z a0 hw a2 i t2 n cf cs fm hp135 E_a2 F_coder_a2 F_value_a2 A_t2 S_COMPACT_STRINGS S_SIOOBE_FORMATTER hcs cat_fm ir_fm (by omega) hn gd) (by decide) (by decide) E_a2 (g := (mkF m 169 #[.val (.ref a1), .val (.ref a2), .val (.int (r + (2 : Int32))), .val (.int (Int32.ofNat i)), .val (.int (cf i))] [(.int (Int32.ofNat i)), (.ref a2), (.int (Int32.ofNat i))])) rfl (by rw [hml]; rfl) (argsL := [(.int (Int32.ofNat i))]) (rest := [(.int (Int32.ofNat i))]) (lenOf pd_8 rfl) rfl (by show 2 * 0 + _ ≤ _; exact Nat.le_of_eq rfl) (hb hby d9_169) rfl e154 (by decide) (by decide)
        refine own_stW st157 ?_
        show OGoW p e below s _ Z _ _ (T157.setTop (mkF m 172 #[.val (.ref a1), .val (.ref a2), .val (.int (r + (2 : Int32))), .val (.int (Int32.ofNat i)), .val (.int (cf i))] [(.int (cf i)), (.int (Int32.ofNat i))]))
        obtain ⟨T158, X158, e158, st158⟩ := own_callSP X157 hx hZ (y := (⟨"java/lang/Character", "charCount", "(I)I"⟩ : MethodName)) (W := 1) hown (own_w hw 84 rfl) (own_w hw 85 rfl) (own_w hw 86 rfl) (own_w hw 87 rfl) (by decide) (k5_ l Z a0 hw (cf i) hp135 (own_glt gd _ (by decide))) (by decide) (by decide) (g := (mkF m 172 #[.val (.ref a1), .val (.ref a2), .val (.int (r + (2 : Int32))), .val (.int (Int32.ofNat i)), .val (.int (cf i))] [(.int (cf i)), (.int (Int32.ofNat i))])) rfl (by rw [hml]; rfl) (argsL := [(.int (cf i))]) (rest := [(.int (Int32.ofNat i))]) (lenOf pd_8 rfl) rfl (by show 2 * 0 + _ ≤ _; exact Nat.le_of_eq rfl) (hb hby d9_172) rfl e157 (by decide) (by decide)
        refine own_stW st158 ?_
        show OGoW p e below s _ Z _ _ (T158.setTop (mkF m 175 #[.val (.ref a1), .val (.ref a2), .val (.int (r + (2 : Int32))), .val (.int (Int32.ofNat i)), .val (.int (cf i))] [(.int (1 : Int32)), (.int (Int32.ofNat i))]))
        refine own_stW (fun _ z => XS.iadd X158.here hx rfl (hb hby d9_175) rfl z) ?_
        show OGoW p e below s _ Z _ _ (T158.setTop (mkF m 176 #[.val (.ref a1), .val (.ref a2), .val (.int (r + (2 : Int32))), .val (.int (Int32.ofNat i)), .val (.int (cf i))] [(.int ((Int32.ofNat i) + (1 : Int32)))]))
        refine own_stW (fun _ z => XS.istoreN X158.here hx rfl (hb hby d9_176) rfl (l' := #[.val (.ref a1), .val (.ref a2), .val (.int (r + (2 : Int32))), .val (.int ((Int32.ofNat i) + (1 : Int32))), .val (.int (cf i))]) rfl z) ?_
        show OGoW p e below s _ Z _ _ (T158.setTop (mkF m 177 #[.val (.ref a1), .val (.ref a2), .val (.int (r + (2 : Int32))), .val (.int ((Int32.ofNat i) + (1 : Int32))), .val (.int (cf i))] []))
        refine own_stW (fun _ z => XS.goto X158.here hx rfl (pc0 := 177) (pc' := 15) rfl (hb hby d9_177) (by decide) (by decide) z) ?_
        show OGoW p e below s _ Z _ _ (T158.setTop (mkF m 15 #[.val (.ref a1), .val (.ref a2), .val (.int (r + (2 : Int32))), .val (.int ((Int32.ofNat i) + (1 : Int32))), .val (.int (cf i))] []))
        have hra := own_radd (r := r) (by omega) (by omega) (Or.inr rfl)
        rw [own_up]
        exact ih (i + 1) T158 _ _ (by omega) (by omega) (by omega) (One.val rfl) X158 e158
  exact loop n 0 _ _ _ (by omega) (by decide) (by decide) One.u X136 e136
def own_eqf (cf cg : Nat → Int32) (i : Nat) : Nat → Bool
  | 0 => true
  | k + 1 => decide (cf i = cg i) && own_eqf cf cg (i + 1) k
theorem own_lbinj {x y : Int32} (hx : own_good x) (hy : own_good y) (h : own_lb x = own_lb y) : x = y := by
  rw [← own_lb255 x (by have := hx.1; omega) hx.2.1, ← own_lb255 y (by have := hy.1; omega) hy.2.1, h]
theorem d45_0 : decode jdk_43_method_13_code 0 = .ok (.aload_n 0, 1) := by decide +kernel
theorem d45_1 : decode jdk_43_method_13_code 1 = .ok (.arraylength, 1) := by decide +kernel
theorem d45_2 : decode jdk_43_method_13_code 2 = .ok (.aload_n 1, 1) := by decide +kernel
theorem d45_3 : decode jdk_43_method_13_code 3 = .ok (.arraylength, 1) := by decide +kernel
theorem d45_4 : decode jdk_43_method_13_code 4 = .ok (.if_icmp .ne 30, 3) := by decide +kernel
theorem d45_34 : decode jdk_43_method_13_code 34 = .ok (.iconst 0, 1) := by decide +kernel
theorem d45_35 : decode jdk_43_method_13_code 35 = .ok (.ireturn, 1) := by decide +kernel
theorem pn_java_lang_StringLatin1 : plainName "java/lang/StringLatin1" = true := by first | (simp [plainName, overriddenIn]; done) | decide +kernel
theorem ef_45_RR (m : MethodId) (x0 : Addr) (x1 : Addr) : entryFrame m #[(.ref x0), (.ref x1)] 3 = mkF m 0 #[.val (.ref x0), .val (.ref x1), .unset] [] := by first | (simp [entryFrame, mkF, argsToLocals, Value.category]; done) | rfl
set_option maxRecDepth 65536 in
set_option maxHeartbeats 40000000 in
theorem e1_ (l : Launch) (Z : State) (a0 : Array Value) (hw : ∀ d ∈ tables_1, d.before a0 Z = true) (a1 : Addr) (a2 : Addr) (n : Nat) (m' : Nat) (cf : Nat → Int32) (cg : Nat → Int32) (h0 : Heap) (A_a1 : OAr Z h0 a1 .byte n (fun j => .int (own_lb (cf j)))) (A_a2 : OAr Z h0 a2 .byte m' (fun j => .int (own_lb (cg j)))) (hn : n ≤ 3) (hm : m' ≤ 3) (hdf : n ≠ m') :
    OPure l Z (⟨"java/lang/StringLatin1", "equals", "([B[B)Z"⟩ : MethodName) jdk_43_method_13_code 3 (some .boolean) [] ({ frames := 0, cells := 0, slots := 0, locals := 0 } : Room) #[(.ref a1), (.ref a2)] h0 (some (.int (0 : Int32))) := by
  refine own_body (plainFor_of_name pn_java_lang_StringLatin1) (fun m => ef_45_RR m a1 a2) ?_
  intro p e s m below meth c T0 hx hby hml hown hnm hret hlk hZ X0 e0
  have hown : s.vm.findClass "java/lang/StringLatin1" = some m.cls := hown
  have hml : c.maxLocals = 3 := hml
  show OGo p e below s _ _ (T0.setTop (mkF m 0 #[.val (.ref a1), .val (.ref a2), .unset] []))
  refine own_st (fun _ z => XS.aloadN X0.here hx rfl (hb hby d45_0) rfl rfl z) ?_
  show OGo p e below s _ _ (T0.setTop (mkF m 1 #[.val (.ref a1), .val (.ref a2), .unset] [(.ref a1)]))
  obtain ⟨cl159, Ar159, Sz159, -⟩ := id A_a1
  refine own_st (X0.arraylength hx (by rw [e0]; exact Ar159.1) (State.isArrayOf_alike hZ.alike Ar159.2.1) (g := (mkF m 1 #[.val (.ref a1), .val (.ref a2), .unset] [(.ref a1)])) rfl rfl (hb hby d45_1)) ?_
  rw [Sz159, own_len n]
  show OGo p e below s _ _ (T0.setTop (mkF m 2 #[.val (.ref a1), .val (.ref a2), .unset] [(.int (Int32.ofNat n))]))
  refine own_st (fun _ z => XS.aloadN X0.here hx rfl (hb hby d45_2) rfl rfl z) ?_
  show OGo p e below s _ _ (T0.setTop (mkF m 3 #[.val (.ref a1), .val (.ref a2), .unset] [(.ref a2), (.int (Int32.ofNat n))]))
  obtain ⟨cl160, Ar160, Sz160, -⟩ := id A_a2
  refine own_st (X0.arraylength hx (by rw [e0]; exact Ar160.1) (State.isArrayOf_alike hZ.alike Ar160.2.1) (g := (mkF m 3 #[.val (.ref a1), .val (.ref a2), .unset] [(.ref a2), (.int (Int32.ofNat n))])) rfl rfl (hb hby d45_3)) ?_
  rw [Sz160, own_len m']
  show OGo p e below s _ _ (T0.setTop (mkF m 4 #[.val (.ref a1), .val (.ref a2), .unset] [(.int (Int32.ofNat m')), (.int (Int32.ofNat n))]))
  refine own_st (fun _ z => XS.icmpYes X0.here hx rfl (pc0 := 4) (pc' := 34) rfl (hb hby d45_4) rfl (feq ((own_neqn hdf (by omega) (by omega)))).2 (by decide) (by decide) z) ?_
  show OGo p e below s _ _ (T0.setTop (mkF m 34 #[.val (.ref a1), .val (.ref a2), .unset] []))
  refine own_st (fun _ z => XS.iconst X0.here hx rfl (hb hby d45_34) z) ?_
  show OGo p e below s _ _ (T0.setTop (mkF m 35 #[.val (.ref a1), .val (.ref a2), .unset] [(.int (0 : Int32))]))
  exact own_retN X0 hx hlk (t := .boolean) hret (by simp) (hb hby d45_35) (by decide) (by decide) (⟨rfl, rfl, e0⟩)
theorem d45_7 : decode jdk_43_method_13_code 7 = .ok (.iconst 0, 1) := by decide +kernel
theorem d45_8 : decode jdk_43_method_13_code 8 = .ok (.istore_n 2, 1) := by decide +kernel
theorem d45_9 : decode jdk_43_method_13_code 9 = .ok (.iload_n 2, 1) := by decide +kernel
theorem d45_10 : decode jdk_43_method_13_code 10 = .ok (.aload_n 0, 1) := by decide +kernel
theorem d45_11 : decode jdk_43_method_13_code 11 = .ok (.arraylength, 1) := by decide +kernel
theorem d45_12 : decode jdk_43_method_13_code 12 = .ok (.if_icmp .ge 20, 3) := by decide +kernel
theorem d45_32 : decode jdk_43_method_13_code 32 = .ok (.iconst 1, 1) := by decide +kernel
theorem d45_33 : decode jdk_43_method_13_code 33 = .ok (.ireturn, 1) := by decide +kernel
theorem d45_15 : decode jdk_43_method_13_code 15 = .ok (.aload_n 0, 1) := by decide +kernel
theorem d45_16 : decode jdk_43_method_13_code 16 = .ok (.iload_n 2, 1) := by decide +kernel
theorem d45_17 : decode jdk_43_method_13_code 17 = .ok (.baload, 1) := by decide +kernel
theorem d45_18 : decode jdk_43_method_13_code 18 = .ok (.aload_n 1, 1) := by decide +kernel
theorem d45_19 : decode jdk_43_method_13_code 19 = .ok (.iload_n 2, 1) := by decide +kernel
theorem d45_20 : decode jdk_43_method_13_code 20 = .ok (.baload, 1) := by decide +kernel
theorem d45_21 : decode jdk_43_method_13_code 21 = .ok (.if_icmp .eq 5, 3) := by decide +kernel
theorem d45_26 : decode jdk_43_method_13_code 26 = .ok (.iinc 2 1, 3) := by decide +kernel
theorem d45_29 : decode jdk_43_method_13_code 29 = .ok (.goto (-20), 3) := by decide +kernel
theorem d45_24 : decode jdk_43_method_13_code 24 = .ok (.iconst 0, 1) := by decide +kernel
theorem d45_25 : decode jdk_43_method_13_code 25 = .ok (.ireturn, 1) := by decide +kernel
set_option maxRecDepth 65536 in
set_option maxHeartbeats 40000000 in
theorem e2_ (l : Launch) (Z : State) (a0 : Array Value) (hw : ∀ d ∈ tables_1, d.before a0 Z = true) (a1 : Addr) (a2 : Addr) (n : Nat) (cf : Nat → Int32) (cg : Nat → Int32) (r : Int32) (h0 : Heap) (A_a1 : OAr Z h0 a1 .byte n (fun j => .int (own_lb (cf j)))) (A_a2 : OAr Z h0 a2 .byte n (fun j => .int (own_lb (cg j)))) (hn : n ≤ 3) (hgf : ∀ j, j < n → own_good (cf j)) (hgg : ∀ j, j < n → own_good (cg j)) (hr : OB (own_eqf cf cg 0 n) = r) :
    OPure l Z (⟨"java/lang/StringLatin1", "equals", "([B[B)Z"⟩ : MethodName) jdk_43_method_13_code 3 (some .boolean) [] ({ frames := 0, cells := 0, slots := 0, locals := 0 } : Room) #[(.ref a1), (.ref a2)] h0 (some (.int r)) := by
  refine own_body (plainFor_of_name pn_java_lang_StringLatin1) (fun m => ef_45_RR m a1 a2) ?_
  intro p e s m below meth c T0 hx hby hml hown hnm hret hlk hZ X0 e0
  have hown : s.vm.findClass "java/lang/StringLatin1" = some m.cls := hown
  have hml : c.maxLocals = 3 := hml
  show OGo p e below s _ _ (T0.setTop (mkF m 0 #[.val (.ref a1), .val (.ref a2), .unset] []))
  refine own_st (fun _ z => XS.aloadN X0.here hx rfl (hb hby d45_0) rfl rfl z) ?_
  show OGo p e below s _ _ (T0.setTop (mkF m 1 #[.val (.ref a1), .val (.ref a2), .unset] [(.ref a1)]))
  obtain ⟨cl161, Ar161, Sz161, -⟩ := id A_a1
  refine own_st (X0.arraylength hx (by rw [e0]; exact Ar161.1) (State.isArrayOf_alike hZ.alike Ar161.2.1) (g := (mkF m 1 #[.val (.ref a1), .val (.ref a2), .unset] [(.ref a1)])) rfl rfl (hb hby d45_1)) ?_
  rw [Sz161, own_len n]
  show OGo p e below s _ _ (T0.setTop (mkF m 2 #[.val (.ref a1), .val (.ref a2), .unset] [(.int (Int32.ofNat n))]))
  refine own_st (fun _ z => XS.aloadN X0.here hx rfl (hb hby d45_2) rfl rfl z) ?_
  show OGo p e below s _ _ (T0.setTop (mkF m 3 #[.val (.ref a1), .val (.ref a2), .unset] [(.ref a2), (.int (Int32.ofNat n))]))
  obtain ⟨cl162, Ar162, Sz162, -⟩ := id A_a2
  refine own_st (X0.arraylength hx (by rw [e0]; exact Ar162.1) (State.isArrayOf_alike hZ.alike Ar162.2.1) (g := (mkF m 3 #[.val (.ref a1), .val (.ref a2), .unset] [(.ref a2), (.int (Int32.ofNat n))])) rfl rfl (hb hby d45_3)) ?_
  rw [Sz162, own_len n]
  show OGo p e below s _ _ (T0.setTop (mkF m 4 #[.val (.ref a1), .val (.ref a2), .unset] [(.int (Int32.ofNat n)), (.int (Int32.ofNat n))]))
  refine own_st (fun _ z => XS.icmpNo X0.here hx rfl (hb hby d45_4) rfl (teq (rfl)).2 z) ?_
  show OGo p e below s _ _ (T0.setTop (mkF m 7 #[.val (.ref a1), .val (.ref a2), .unset] []))
  refine own_st (fun _ z => XS.iconst X0.here hx rfl (hb hby d45_7) z) ?_
  show OGo p e below s _ _ (T0.setTop (mkF m 8 #[.val (.ref a1), .val (.ref a2), .unset] [(.int (0 : Int32))]))
  refine own_st (fun _ z => XS.istoreN X0.here hx rfl (hb hby d45_8) rfl (l' := #[.val (.ref a1), .val (.ref a2), .val (.int (0 : Int32))]) rfl z) ?_
  show OGo p e below s _ _ (T0.setTop (mkF m 9 #[.val (.ref a1), .val (.ref a2), .val (.int (0 : Int32))] []))
  have loop : ∀ (k i : Nat) (TL : State), i + k = n → Stand p l e ({ frames := 0, cells := 0, slots := 0, locals := 0 } : Room) s m #[(.ref a1), (.ref a2)] below meth c TL [] 0 0 → TL.heap = h0 → OB (own_eqf cf cg i k) = r → OGo p e below s ({ frames := 0, cells := 0, slots := 0, locals := 0 } : Room) (fun v' h' L => v' = some (.int r) ∧ L = [] ∧ h' = h0) (TL.setTop (mkF m 9 #[.val (.ref a1), .val (.ref a2), .val (.int (Int32.ofNat i))] [])) := by
    intro k
    induction k with
    | zero =>
      intro i TL hi XL eL hrr
      obtain rfl : n = i := by omega
      show OGo p e below s _ _ (TL.setTop (mkF m 9 #[.val (.ref a1), .val (.ref a2), .val (.int (Int32.ofNat n))] []))
      refine own_st (fun _ z => XS.iloadN XL.here hx rfl (hb hby d45_9) rfl z) ?_
      show OGo p e below s _ _ (TL.setTop (mkF m 10 #[.val (.ref a1), .val (.ref a2), .val (.int (Int32.ofNat n))] [(.int (Int32.ofNat n))]))
      refine own_st (fun _ z => XS.aloadN XL.here hx rfl (hb hby d45_10) rfl rfl z) ?_
      show OGo p e below s _ _ (TL.setTop (mkF m 11 #[.val (.ref a1), .val (.ref a2), .val (.int (Int32.ofNat n))] [(.ref a1), (.int (Int32.ofNat n))]))
      obtain ⟨cl163, Ar163, Sz163, -⟩ := id A_a1
      refine own_st (XL.arraylength hx (by rw [eL]; exact Ar163.1) (State.isArrayOf_alike hZ.alike Ar163.2.1) (g := (mkF m 11 #[.val (.ref a1), .val (.ref a2), .val (.int (Int32.ofNat n))] [(.ref a1), (.int (Int32.ofNat n))])) rfl rfl (hb hby d45_11)) ?_
      rw [Sz163, own_len n]
      show OGo p e below s _ _ (TL.setTop (mkF m 12 #[.val (.ref a1), .val (.ref a2), .val (.int (Int32.ofNat n))] [(.int (Int32.ofNat n)), (.int (Int32.ofNat n))]))
      refine own_st (fun _ z => XS.icmpYes XL.here hx rfl (pc0 := 12) (pc' := 32) rfl (hb hby d45_12) rfl (flt ((fun q => absurd ((own_lt (by omega) (by omega)).mp q) (Nat.lt_irrefl _)))).2.1 (by decide) (by decide) z) ?_
      show OGo p e below s _ _ (TL.setTop (mkF m 32 #[.val (.ref a1), .val (.ref a2), .val (.int (Int32.ofNat n))] []))
      refine own_st (fun _ z => XS.iconst XL.here hx rfl (hb hby d45_32) z) ?_
      show OGo p e below s _ _ (TL.setTop (mkF m 33 #[.val (.ref a1), .val (.ref a2), .val (.int (Int32.ofNat n))] [(.int (1 : Int32))]))
      exact own_retN XL hx hlk (t := .boolean) hret (by simp) (hb hby d45_33) (by decide) (by decide) (⟨(by rw [own_b1]; exact congrArg (fun z => some (Value.int z)) hrr), rfl, eL⟩)
    | succ k ih =>
      intro i TL hi XL eL hrr
      have hrr : OB (decide (cf i = cg i) && own_eqf cf cg (i + 1) k) = r := hrr
      show OGo p e below s _ _ (TL.setTop (mkF m 9 #[.val (.ref a1), .val (.ref a2), .val (.int (Int32.ofNat i))] []))
      refine own_st (fun _ z => XS.iloadN XL.here hx rfl (hb hby d45_9) rfl z) ?_
      show OGo p e below s _ _ (TL.setTop (mkF m 10 #[.val (.ref a1), .val (.ref a2), .val (.int (Int32.ofNat i))] [(.int (Int32.ofNat i))]))
      refine own_st (fun _ z => XS.aloadN XL.here hx rfl (hb hby d45_10) rfl rfl z) ?_
      show OGo p e below s _ _ (TL.setTop (mkF m 11 #[.val (.ref a1), .val (.ref a2), .val (.int (Int32.ofNat i))] [(.ref a1), (.int (Int32.ofNat i))]))
      obtain ⟨cl164, Ar164, Sz164, -⟩ := id A_a1
      refine own_st (XL.arraylength hx (by rw [eL]; exact Ar164.1) (State.isArrayOf_alike hZ.alike Ar164.2.1) (g := (mkF m 11 #[.val (.ref a1), .val (.ref a2), .val (.int (Int32.ofNat i))] [(.ref a1), (.int (Int32.ofNat i))])) rfl rfl (hb hby d45_11)) ?_
      rw [Sz164, own_len n]
      show OGo p e below s _ _ (TL.setTop (mkF m 12 #[.val (.ref a1), .val (.ref a2), .val (.int (Int32.ofNat i))] [(.int (Int32.ofNat n)), (.int (Int32.ofNat i))]))
      refine own_st (fun _ z => XS.icmpNo XL.here hx rfl (hb hby d45_12) rfl (tlt (((own_lt (by omega) (by omega)).mpr (by omega)))).2.1 z) ?_
      show OGo p e below s _ _ (TL.setTop (mkF m 15 #[.val (.ref a1), .val (.ref a2), .val (.int (Int32.ofNat i))] []))
      refine own_st (fun _ z => XS.aloadN XL.here hx rfl (hb hby d45_15) rfl rfl z) ?_
      show OGo p e below s _ _ (TL.setTop (mkF m 16 #[.val (.ref a1), .val (.ref a2), .val (.int (Int32.ofNat i))] [(.ref a1)]))
      refine own_st (fun _ z => XS.iloadN XL.here hx rfl (hb hby d45_16) rfl z) ?_
      show OGo p e below s _ _ (TL.setTop (mkF m 17 #[.val (.ref a1), .val (.ref a2), .val (.int (Int32.ofNat i))] [(.int (Int32.ofNat i)), (.ref a1)]))
      obtain ⟨cl165, Ar165, Sz165, Hh165⟩ := id A_a1
      have hin165 := own_in (i := (Int32.ofNat i)) Sz165 (own_nat (by omega)).2.1 (by rw [(own_nat (by omega)).1]; omega)
      refine own_st (XL.baloadBytes hx (j := (Int32.ofNat i)) (v := (.int (own_lb (cf i)))) (by rw [eL]; exact Ar165.1) (State.isArrayOf_alike hZ.alike Ar165.2.1) Ar165.2.2 hin165 ((Hh165 _ (by rw [(own_nat (by omega)).1]; omega)).trans (congrArg some (by rw [(own_nat (by omega)).1]))) (g := (mkF m 17 #[.val (.ref a1), .val (.ref a2), .val (.int (Int32.ofNat i))] [(.int (Int32.ofNat i)), (.ref a1)])) rfl rfl (hb hby d45_17)) ?_
      show OGo p e below s _ _ (TL.setTop (mkF m 18 #[.val (.ref a1), .val (.ref a2), .val (.int (Int32.ofNat i))] [(.int (own_lb (cf i)))]))
      refine own_st (fun _ z => XS.aloadN XL.here hx rfl (hb hby d45_18) rfl rfl z) ?_
      show OGo p e below s _ _ (TL.setTop (mkF m 19 #[.val (.ref a1), .val (.ref a2), .val (.int (Int32.ofNat i))] [(.ref a2), (.int (own_lb (cf i)))]))
      refine own_st (fun _ z => XS.iloadN XL.here hx rfl (hb hby d45_19) rfl z) ?_
      show OGo p e below s _ _ (TL.setTop (mkF m 20 #[.val (.ref a1), .val (.ref a2), .val (.int (Int32.ofNat i))] [(.int (Int32.ofNat i)), (.ref a2), (.int (own_lb (cf i)))]))
      obtain ⟨cl166, Ar166, Sz166, Hh166⟩ := id A_a2
      have hin166 := own_in (i := (Int32.ofNat i)) Sz166 (own_nat (by omega)).2.1 (by rw [(own_nat (by omega)).1]; omega)
      refine own_st (XL.baloadBytes hx (j := (Int32.ofNat i)) (v := (.int (own_lb (cg i)))) (by rw [eL]; exact Ar166.1) (State.isArrayOf_alike hZ.alike Ar166.2.1) Ar166.2.2 hin166 ((Hh166 _ (by rw [(own_nat (by omega)).1]; omega)).trans (congrArg some (by rw [(own_nat (by omega)).1]))) (g := (mkF m 20 #[.val (.ref a1), .val (.ref a2), .val (.int (Int32.ofNat i))] [(.int (Int32.ofNat i)), (.ref a2), (.int (own_lb (cf i)))])) rfl rfl (hb hby d45_20)) ?_
      show OGo p e below s _ _ (TL.setTop (mkF m 21 #[.val (.ref a1), .val (.ref a2), .val (.int (Int32.ofNat i))] [(.int (own_lb (cg i))), (.int (own_lb (cf i)))]))
      by_cases hq : cf i = cg i
      · refine own_st (fun _ z => XS.icmpYes XL.here hx rfl (pc0 := 21) (pc' := 26) rfl (hb hby d45_21) rfl (teq ((congrArg own_lb hq))).1 (by decide) (by decide) z) ?_
        show OGo p e below s _ _ (TL.setTop (mkF m 26 #[.val (.ref a1), .val (.ref a2), .val (.int (Int32.ofNat i))] []))
        refine own_st (fun _ z => XS.iinc XL.here hx rfl (hb hby d45_26) rfl (l' := #[.val (.ref a1), .val (.ref a2), .val (.int ((Int32.ofNat i) + (1 : Int32)))]) rfl z) ?_
        show OGo p e below s _ _ (TL.setTop (mkF m 29 #[.val (.ref a1), .val (.ref a2), .val (.int ((Int32.ofNat i) + (1 : Int32)))] []))
        refine own_st (fun _ z => XS.goto XL.here hx rfl (pc0 := 29) (pc' := 9) rfl (hb hby d45_29) (by decide) (by decide) z) ?_
        show OGo p e below s _ _ (TL.setTop (mkF m 9 #[.val (.ref a1), .val (.ref a2), .val (.int ((Int32.ofNat i) + (1 : Int32)))] []))
        rw [own_up]
        exact ih (i + 1) TL (by omega) XL eL (by rw [← hrr, decide_eq_true hq]; rfl)
      · refine own_st (fun _ z => XS.icmpNo XL.here hx rfl (hb hby d45_21) rfl (feq ((fun q => hq (own_lbinj (hgf i (by omega)) (hgg i (by omega)) q)))).1 z) ?_
        show OGo p e below s _ _ (TL.setTop (mkF m 24 #[.val (.ref a1), .val (.ref a2), .val (.int (Int32.ofNat i))] []))
        refine own_st (fun _ z => XS.iconst XL.here hx rfl (hb hby d45_24) z) ?_
        show OGo p e below s _ _ (TL.setTop (mkF m 25 #[.val (.ref a1), .val (.ref a2), .val (.int (Int32.ofNat i))] [(.int (0 : Int32))]))
        exact own_retN XL hx hlk (t := .boolean) hret (by simp) (hb hby d45_25) (by decide) (by decide) (⟨(by rw [own_b0, ← hrr, decide_eq_false hq]; rfl), rfl, eL⟩)
  exact loop n 0 _ (by omega) X0 e0 hr
theorem d44_0 : decode jdk_42_method_66_code 0 = .ok (.aload_n 0, 1) := by decide +kernel
theorem d44_1 : decode jdk_42_method_66_code 1 = .ok (.aload_n 1, 1) := by decide +kernel
theorem d44_2 : decode jdk_42_method_66_code 2 = .ok (.if_acmp .ne 5, 3) := by decide +kernel
theorem d44_5 : decode jdk_42_method_66_code 5 = .ok (.iconst 1, 1) := by decide +kernel
theorem d44_6 : decode jdk_42_method_66_code 6 = .ok (.ireturn, 1) := by decide +kernel
theorem ef_44_RR (m : MethodId) (x0 : Addr) (x1 : Addr) : entryFrame m #[(.ref x0), (.ref x1)] 3 = mkF m 0 #[.val (.ref x0), .val (.ref x1), .unset] [] := by first | (simp [entryFrame, mkF, argsToLocals, Value.category]; done) | rfl
set_option maxRecDepth 65536 in
set_option maxHeartbeats 40000000 in
theorem e3_ (l : Launch) (Z : State) (a0 : Array Value) (hw : ∀ d ∈ tables_1, d.before a0 Z = true) (a1 : Addr) (a2 : Addr) (h0 : Heap) (hab : a1 = a2) :
    OPure l Z (⟨"java/lang/String", "equals", "(Ljava/lang/Object;)Z"⟩ : MethodName) jdk_42_method_66_code 3 (some .boolean) [] ({ frames := 0, cells := 0, slots := 0, locals := 0 } : Room) #[(.ref a1), (.ref a2)] h0 (some (.int (1 : Int32))) := by
  refine own_body (plainFor_of_name pn_java_lang_String) (fun m => ef_44_RR m a1 a2) ?_
  intro p e s m below meth c T0 hx hby hml hown hnm hret hlk hZ X0 e0
  have hown : s.vm.findClass "java/lang/String" = some m.cls := hown
  have hml : c.maxLocals = 3 := hml
  show OGo p e below s _ _ (T0.setTop (mkF m 0 #[.val (.ref a1), .val (.ref a2), .unset] []))
  refine own_st (fun _ z => XS.aloadN X0.here hx rfl (hb hby d44_0) rfl rfl z) ?_
  show OGo p e below s _ _ (T0.setTop (mkF m 1 #[.val (.ref a1), .val (.ref a2), .unset] [(.ref a1)]))
  refine own_st (fun _ z => XS.aloadN X0.here hx rfl (hb hby d44_1) rfl rfl z) ?_
  show OGo p e below s _ _ (T0.setTop (mkF m 2 #[.val (.ref a1), .val (.ref a2), .unset] [(.ref a2), (.ref a1)]))
  refine own_st (fun _ z => Jvm.RoadKit.acmp (g := (mkF m 2 #[.val (.ref a1), .val (.ref a2), .unset] [(.ref a2), (.ref a1)])) X0 hx rfl rfl rfl (pc0 := 2) (pc' := 5) (same := true) rfl (hb hby d44_2) rfl (decide_eq_true (congrArg Value.ref hab)) (by decide) (by decide) z) ?_
  show OGo p e below s _ _ (T0.setTop (mkF m 5 #[.val (.ref a1), .val (.ref a2), .unset] []))
  refine own_st (fun _ z => XS.iconst X0.here hx rfl (hb hby d44_5) z) ?_
  show OGo p e below s _ _ (T0.setTop (mkF m 6 #[.val (.ref a1), .val (.ref a2), .unset] [(.int (1 : Int32))]))
  exact own_retN X0 hx hlk (t := .boolean) hret (by simp) (hb hby d44_6) (by decide) (by decide) (⟨rfl, rfl, e0⟩)
theorem d44_7 : decode jdk_42_method_66_code 7 = .ok (.aload_n 1, 1) := by decide +kernel
theorem d44_8 : decode jdk_42_method_66_code 8 = .ok (.instanceof 10, 3) := by decide +kernel
theorem d44_11 : decode jdk_42_method_66_code 11 = .ok (.ifCond .eq 43, 3) := by decide +kernel
theorem d44_14 : decode jdk_42_method_66_code 14 = .ok (.aload_n 1, 1) := by decide +kernel
theorem d44_15 : decode jdk_42_method_66_code 15 = .ok (.checkcast 10, 3) := by decide +kernel
theorem d44_18 : decode jdk_42_method_66_code 18 = .ok (.astore_n 2, 1) := by decide +kernel
theorem d44_19 : decode jdk_42_method_66_code 19 = .ok (.getstatic 38, 3) := by decide +kernel
theorem d44_22 : decode jdk_42_method_66_code 22 = .ok (.ifCond .eq 14, 3) := by decide +kernel
theorem d44_25 : decode jdk_42_method_66_code 25 = .ok (.aload_n 0, 1) := by decide +kernel
theorem d44_26 : decode jdk_42_method_66_code 26 = .ok (.getfield 15, 3) := by decide +kernel
theorem d44_29 : decode jdk_42_method_66_code 29 = .ok (.aload_n 2, 1) := by decide +kernel
theorem d44_30 : decode jdk_42_method_66_code 30 = .ok (.getfield 15, 3) := by decide +kernel
theorem d44_33 : decode jdk_42_method_66_code 33 = .ok (.if_icmp .ne 21, 3) := by decide +kernel
theorem d44_36 : decode jdk_42_method_66_code 36 = .ok (.aload_n 0, 1) := by decide +kernel
theorem d44_37 : decode jdk_42_method_66_code 37 = .ok (.getfield 9, 3) := by decide +kernel
theorem d44_40 : decode jdk_42_method_66_code 40 = .ok (.aload_n 2, 1) := by decide +kernel
theorem d44_41 : decode jdk_42_method_66_code 41 = .ok (.getfield 9, 3) := by decide +kernel
theorem d44_44 : decode jdk_42_method_66_code 44 = .ok (.invokestatic 541, 3) := by decide +kernel
theorem pd_27 : parseMethodDescriptor "([B[B)Z" = some ⟨[(.array .byte), (.array .byte)], some .boolean⟩ := by decide +kernel
theorem d44_47 : decode jdk_42_method_66_code 47 = .ok (.ifCond .eq 7, 3) := by decide +kernel
theorem d44_54 : decode jdk_42_method_66_code 54 = .ok (.iconst 0, 1) := by decide +kernel
theorem d44_55 : decode jdk_42_method_66_code 55 = .ok (.ireturn, 1) := by decide +kernel
set_option maxRecDepth 65536 in
set_option maxHeartbeats 40000000 in
theorem e4_N (l : Launch) (Z : State) (a0 : Array Value) (hw : ∀ d ∈ tables_1, d.before a0 Z = true) (a1 : Addr) (a2 : Addr) (t1 : Addr) (n : Nat) (cf : Nat → Int32) (t2 : Addr) (m' : Nat) (cg : Nat → Int32) (cs : Int32) (h0 : Heap) (ne_a1_a2 : a1 ≠ a2) (E_a1 : Exa Z h0 a1 "java/lang/String") (F_coder_a1 : Fld Z h0 a1 "java/lang/String" "coder" "B" (.int (0 : Int32))) (F_value_a1 : Fld Z h0 a1 "java/lang/String" "value" "[B" (.ref t1)) (A_t1 : OAr Z h0 t1 .byte n (fun j => .int (own_lb (cf j)))) (E_a2 : Exa Z h0 a2 "java/lang/String") (F_coder_a2 : Fld Z h0 a2 "java/lang/String" "coder" "B" (.int (0 : Int32))) (F_value_a2 : Fld Z h0 a2 "java/lang/String" "value" "[B" (.ref t2)) (A_t2 : OAr Z h0 t2 .byte m' (fun j => .int (own_lb (cg j)))) (S_COMPACT_STRINGS : Sta Z h0 "java/lang/String" "COMPACT_STRINGS" "Z" (.int cs)) (hcs : ¬ cs = (0 : Int32)) (hn : n ≤ 3) (hm : m' ≤ 3) (hdf : n ≠ m') :
    OPure l Z (⟨"java/lang/String", "equals", "(Ljava/lang/Object;)Z"⟩ : MethodName) jdk_42_method_66_code 3 (some .boolean) [] ({ frames := 1, cells := 0, slots := 0, locals := 14 } : Room) #[(.ref a1), (.ref a2)] h0 (some (.int (0 : Int32))) := by
  refine own_body (plainFor_of_name pn_java_lang_String) (fun m => ef_44_RR m a1 a2) ?_
  intro p e s m below meth c T0 hx hby hml hown hnm hret hlk hZ X0 e0
  have hown : s.vm.findClass "java/lang/String" = some m.cls := hown
  have hml : c.maxLocals = 3 := hml
  show OGo p e below s _ _ (T0.setTop (mkF m 0 #[.val (.ref a1), .val (.ref a2), .unset] []))
  refine own_st (fun _ z => XS.aloadN X0.here hx rfl (hb hby d44_0) rfl rfl z) ?_
  show OGo p e below s _ _ (T0.setTop (mkF m 1 #[.val (.ref a1), .val (.ref a2), .unset] [(.ref a1)]))
  refine own_st (fun _ z => XS.aloadN X0.here hx rfl (hb hby d44_1) rfl rfl z) ?_
  show OGo p e below s _ _ (T0.setTop (mkF m 2 #[.val (.ref a1), .val (.ref a2), .unset] [(.ref a2), (.ref a1)]))
  refine own_st (fun _ z => Jvm.RoadKit.acmp (g := (mkF m 2 #[.val (.ref a1), .val (.ref a2), .unset] [(.ref a2), (.ref a1)])) X0 hx rfl rfl rfl (pc0 := 2) (pc' := 7) (same := false) rfl (hb hby d44_2) rfl (decide_eq_false fun q => ne_a1_a2 (Value.ref.inj q)) (by decide) (by decide) z) ?_
  show OGo p e below s _ _ (T0.setTop (mkF m 7 #[.val (.ref a1), .val (.ref a2), .unset] []))
  refine own_st (fun _ z => XS.aloadN X0.here hx rfl (hb hby d44_7) rfl rfl z) ?_
  show OGo p e below s _ _ (T0.setTop (mkF m 8 #[.val (.ref a1), .val (.ref a2), .unset] [(.ref a2)]))
  obtain ⟨T167, X167, e167, st167⟩ := instY X0 hx hZ hown (own_w hw 248 rfl) e0 (Ins.self E_a2) (g := (mkF m 8 #[.val (.ref a1), .val (.ref a2), .unset] [(.ref a2)])) rfl rfl (hb hby d44_8)
  refine own_st st167 ?_
  show OGo p e below s _ _ (T167.setTop (mkF m 11 #[.val (.ref a1), .val (.ref a2), .unset] [(.int (1 : Int32))]))
  refine own_st (fun _ z => XS.ifNo X167.here hx rfl (hb hby d44_11) rfl ((if0 _ _).trans (feq ((by decide : ¬ (1 : Int32) = (0 : Int32)))).1) z) ?_
  show OGo p e below s _ _ (T167.setTop (mkF m 14 #[.val (.ref a1), .val (.ref a2), .unset] []))
  refine own_st (fun _ z => XS.aloadN X167.here hx rfl (hb hby d44_14) rfl rfl z) ?_
  show OGo p e below s _ _ (T167.setTop (mkF m 15 #[.val (.ref a1), .val (.ref a2), .unset] [(.ref a2)]))
  obtain ⟨T168, X168, e168, st168⟩ := castY X167 hx hZ hown (own_w hw 248 rfl) e167 (Ins.self E_a2) (g := (mkF m 15 #[.val (.ref a1), .val (.ref a2), .unset] [(.ref a2)])) rfl rfl (hb hby d44_15)
  refine own_st st168 ?_
  show OGo p e below s _ _ (T168.setTop (mkF m 18 #[.val (.ref a1), .val (.ref a2), .unset] [(.ref a2)]))
  refine own_st (fun _ z => XS.astoreN X168.here hx rfl (hb hby d44_18) rfl rfl (l' := #[.val (.ref a1), .val (.ref a2), .val (.ref a2)]) rfl z) ?_
  show OGo p e below s _ _ (T168.setTop (mkF m 19 #[.val (.ref a1), .val (.ref a2), .val (.ref a2)] []))
  obtain ⟨T169, X169, e169, st169⟩ := getS2 X168 hx hZ hown (host := "") (Or.inl (own_w hw 22 rfl)) Via.refl e168 S_COMPACT_STRINGS (g := (mkF m 19 #[.val (.ref a1), .val (.ref a2), .val (.ref a2)] [])) rfl (hb hby d44_19)
  refine own_st st169 ?_
  show OGo p e below s _ _ (T169.setTop (mkF m 22 #[.val (.ref a1), .val (.ref a2), .val (.ref a2)] [(.int cs)]))
  refine own_st (fun _ z => XS.ifNo X169.here hx rfl (hb hby d44_22) rfl ((if0 _ _).trans (feq (hcs)).1) z) ?_
  show OGo p e below s _ _ (T169.setTop (mkF m 25 #[.val (.ref a1), .val (.ref a2), .val (.ref a2)] []))
  refine own_st (fun _ z => XS.aloadN X169.here hx rfl (hb hby d44_25) rfl rfl z) ?_
  show OGo p e below s _ _ (T169.setTop (mkF m 26 #[.val (.ref a1), .val (.ref a2), .val (.ref a2)] [(.ref a1)]))
  obtain ⟨T170, X170, e170, st170⟩ := getF X169 hx hZ hown (host := "") (Or.inl (own_w hw 34 rfl)) Via.refl e169 F_coder_a1 (g := (mkF m 26 #[.val (.ref a1), .val (.ref a2), .val (.ref a2)] [(.ref a1)])) rfl rfl (hb hby d44_26)
  refine own_st st170 ?_
  show OGo p e below s _ _ (T170.setTop (mkF m 29 #[.val (.ref a1), .val (.ref a2), .val (.ref a2)] [(.int (0 : Int32))]))
  refine own_st (fun _ z => XS.aloadN X170.here hx rfl (hb hby d44_29) rfl rfl z) ?_
  show OGo p e below s _ _ (T170.setTop (mkF m 30 #[.val (.ref a1), .val (.ref a2), .val (.ref a2)] [(.ref a2), (.int (0 : Int32))]))
  obtain ⟨T171, X171, e171, st171⟩ := getF X170 hx hZ hown (host := "") (Or.inl (own_w hw 34 rfl)) Via.refl e170 F_coder_a2 (g := (mkF m 30 #[.val (.ref a1), .val (.ref a2), .val (.ref a2)] [(.ref a2), (.int (0 : Int32))])) rfl rfl (hb hby d44_30)
  refine own_st st171 ?_
  show OGo p e below s _ _ (T171.setTop (mkF m 33 #[.val (.ref a1), .val (.ref a2), .val (.ref a2)] [(.int (0 : Int32)), (.int (0 : Int32))]))
  refine own_st (fun _ z => XS.icmpNo X171.here hx rfl (hb hby d44_33) rfl (teq ((by decide : (0 : Int32) = (0 : Int32)))).2 z) ?_
  show OGo p e below s _ _ (T171.setTop (mkF m 36 #[.val (.ref a1), .val (.ref a2), .val (.ref a2)] []))
  refine own_st (fun _ z => XS.aloadN X171.here hx rfl (hb hby d44_36) rfl rfl z) ?_
  show OGo p e below s _ _ (T171.setTop (mkF m 37 #[.val (.ref a1), .val (.ref a2), .val (.ref a2)] [(.ref a1)]))
  obtain ⟨T172, X172, e172, st172⟩ := getF X171 hx hZ hown (host := "") (Or.inl (own_w hw 36 rfl)) Via.refl e171 F_value_a1 (g := (mkF m 37 #[.val (.ref a1), .val (.ref a2), .val (.ref a2)] [(.ref a1)])) rfl rfl (hb hby d44_37)
  refine own_st st172 ?_
  show OGo p e below s _ _ (T172.setTop (mkF m 40 #[.val (.ref a1), .val (.ref a2), .val (.ref a2)] [(.ref t1)]))
  refine own_st (fun _ z => XS.aloadN X172.here hx rfl (hb hby d44_40) rfl rfl z) ?_
  show OGo p e below s _ _ (T172.setTop (mkF m 41 #[.val (.ref a1), .val (.ref a2), .val (.ref a2)] [(.ref a2), (.ref t1)]))
  obtain ⟨T173, X173, e173, st173⟩ := getF X172 hx hZ hown (host := "") (Or.inl (own_w hw 36 rfl)) Via.refl e172 F_value_a2 (g := (mkF m 41 #[.val (.ref a1), .val (.ref a2), .val (.ref a2)] [(.ref a2), (.ref t1)])) rfl rfl (hb hby d44_41)
  refine own_st st173 ?_
  show OGo p e below s _ _ (T173.setTop (mkF m 44 #[.val (.ref a1), .val (.ref a2), .val (.ref a2)] [(.ref t2), (.ref t1)]))
  obtain ⟨T174, X174, e174, st174⟩ := own_callSP X173 hx hZ (y := (⟨"java/lang/StringLatin1", "equals", "([B[B)Z"⟩ : MethodName)) (W := 0) hown (own_w hw 249 rfl) (own_w hw 250 rfl) (own_w hw 251 rfl) (own_w hw 252 rfl) (by decide) (e1_ l Z a0 hw t1 t2 n m' cf cg h0 A_t1 A_t2 hn hm hdf) (by decide) (by decide) (g := (mkF m 44 #[.val (.ref a1), .val (.ref a2), .val (.ref a2)] [(.ref t2), (.ref t1)])) rfl (by rw [hml]; rfl) (argsL := [(.ref t1), (.ref t2)]) (rest := []) (lenOf pd_27 rfl) rfl (by show 2 * 0 + _ ≤ _; exact Nat.le_of_eq rfl) (hb hby d44_44) rfl e173 (by decide) (by decide)
  refine own_st st174 ?_
  show OGo p e below s _ _ (T174.setTop (mkF m 47 #[.val (.ref a1), .val (.ref a2), .val (.ref a2)] [(.int (0 : Int32))]))
  refine own_st (fun _ z => XS.ifYes X174.here hx rfl (pc0 := 47) (pc' := 54) rfl (hb hby d44_47) rfl ((if0 _ _).trans (teq ((by decide : (0 : Int32) = (0 : Int32)))).1) (by decide) (by decide) z) ?_
  show OGo p e below s _ _ (T174.setTop (mkF m 54 #[.val (.ref a1), .val (.ref a2), .val (.ref a2)] []))
  refine own_st (fun _ z => XS.iconst X174.here hx rfl (hb hby d44_54) z) ?_
  show OGo p e below s _ _ (T174.setTop (mkF m 55 #[.val (.ref a1), .val (.ref a2), .val (.ref a2)] [(.int (0 : Int32))]))
  exact own_retN X174 hx hlk (t := .boolean) hret (by simp) (hb hby d44_55) (by decide) (by decide) (⟨rfl, rfl, e174⟩)
theorem d44_50 : decode jdk_42_method_66_code 50 = .ok (.iconst 1, 1) := by decide +kernel
theorem d44_51 : decode jdk_42_method_66_code 51 = .ok (.goto 4, 3) := by decide +kernel
set_option maxRecDepth 65536 in
set_option maxHeartbeats 40000000 in
theorem e4_1 (l : Launch) (Z : State) (a0 : Array Value) (hw : ∀ d ∈ tables_1, d.before a0 Z = true) (a1 : Addr) (a2 : Addr) (t1 : Addr) (n : Nat) (cf : Nat → Int32) (t2 : Addr) (cg : Nat → Int32) (cs : Int32) (h0 : Heap) (ne_a1_a2 : a1 ≠ a2) (E_a1 : Exa Z h0 a1 "java/lang/String") (F_coder_a1 : Fld Z h0 a1 "java/lang/String" "coder" "B" (.int (0 : Int32))) (F_value_a1 : Fld Z h0 a1 "java/lang/String" "value" "[B" (.ref t1)) (A_t1 : OAr Z h0 t1 .byte n (fun j => .int (own_lb (cf j)))) (E_a2 : Exa Z h0 a2 "java/lang/String") (F_coder_a2 : Fld Z h0 a2 "java/lang/String" "coder" "B" (.int (0 : Int32))) (F_value_a2 : Fld Z h0 a2 "java/lang/String" "value" "[B" (.ref t2)) (A_t2 : OAr Z h0 t2 .byte n (fun j => .int (own_lb (cg j)))) (S_COMPACT_STRINGS : Sta Z h0 "java/lang/String" "COMPACT_STRINGS" "Z" (.int cs)) (hcs : ¬ cs = (0 : Int32)) (hn : n ≤ 3) (hgf : ∀ j, j < n → own_good (cf j)) (hgg : ∀ j, j < n → own_good (cg j)) (hr : OB (own_eqf cf cg 0 n) = (1 : Int32)) :
    OPure l Z (⟨"java/lang/String", "equals", "(Ljava/lang/Object;)Z"⟩ : MethodName) jdk_42_method_66_code 3 (some .boolean) [] ({ frames := 1, cells := 0, slots := 0, locals := 14 } : Room) #[(.ref a1), (.ref a2)] h0 (some (.int (1 : Int32))) := by
  refine own_body (plainFor_of_name pn_java_lang_String) (fun m => ef_44_RR m a1 a2) ?_
  intro p e s m below meth c T0 hx hby hml hown hnm hret hlk hZ X0 e0
  have hown : s.vm.findClass "java/lang/String" = some m.cls := hown
  have hml : c.maxLocals = 3 := hml
  show OGo p e below s _ _ (T0.setTop (mkF m 0 #[.val (.ref a1), .val (.ref a2), .unset] []))
  refine own_st (fun _ z => XS.aloadN X0.here hx rfl (hb hby d44_0) rfl rfl z) ?_
  show OGo p e below s _ _ (T0.setTop (mkF m 1 #[.val (.ref a1), .val (.ref a2), .unset] [(.ref a1)]))
  refine own_st (fun _ z => XS.aloadN X0.here hx rfl (hb hby d44_1) rfl rfl z) ?_
  show OGo p e below s _ _ (T0.setTop (mkF m 2 #[.val (.ref a1), .val (.ref a2), .unset] [(.ref a2), (.ref a1)]))
  refine own_st (fun _ z => Jvm.RoadKit.acmp (g := (mkF m 2 #[.val (.ref a1), .val (.ref a2), .unset] [(.ref a2), (.ref a1)])) X0 hx rfl rfl rfl (pc0 := 2) (pc' := 7) (same := false) rfl (hb hby d44_2) rfl (decide_eq_false fun q => ne_a1_a2 (Value.ref.inj q)) (by decide) (by decide) z) ?_
  show OGo p e below s _ _ (T0.setTop (mkF m 7 #[.val (.ref a1), .val (.ref a2), .unset] []))
  refine own_st (fun _ z => XS.aloadN X0.here hx rfl (hb hby d44_7) rfl rfl z) ?_
  show OGo p e below s _ _ (T0.setTop (mkF m 8 #[.val (.ref a1), .val (.ref a2), .unset] [(.ref a2)]))
  obtain ⟨T175, X175, e175, st175⟩ := instY X0 hx hZ hown (own_w hw 248 rfl) e0 (Ins.self E_a2) (g := (mkF m 8 #[.val (.ref a1), .val (.ref a2), .unset] [(.ref a2)])) rfl rfl (hb hby d44_8)
  refine own_st st175 ?_
  show OGo p e below s _ _ (T175.setTop (mkF m 11 #[.val (.ref a1), .val (.ref a2), .unset] [(.int (1 : Int32))]))
  refine own_st (fun _ z => XS.ifNo X175.here hx rfl (hb hby d44_11) rfl ((if0 _ _).trans (feq ((by decide : ¬ (1 : Int32) = (0 : Int32)))).1) z) ?_
  show OGo p e below s _ _ (T175.setTop (mkF m 14 #[.val (.ref a1), .val (.ref a2), .unset] []))
  refine own_st (fun _ z => XS.aloadN X175.here hx rfl (hb hby d44_14) rfl rfl z) ?_
  show OGo p e below s _ _ (T175.setTop (mkF m 15 #[.val (.ref a1), .val (.ref a2), .unset] [(.ref a2)]))
  obtain ⟨T176, X176, e176, st176⟩ := castY X175 hx hZ hown (own_w hw 248 rfl) e175 (Ins.self E_a2) (g := (mkF m 15 #[.val (.ref a1), .val (.ref a2), .unset] [(.ref a2)])) rfl rfl (hb hby d44_15)
  refine own_st st176 ?_
  show OGo p e below s _ _ (T176.setTop (mkF m 18 #[.val (.ref a1), .val (.ref a2), .unset] [(.ref a2)]))
  refine own_st (fun _ z => XS.astoreN X176.here hx rfl (hb hby d44_18) rfl rfl (l' := #[.val (.ref a1), .val (.ref a2), .val (.ref a2)]) rfl z) ?_
  show OGo p e below s _ _ (T176.setTop (mkF m 19 #[.val (.ref a1), .val (.ref a2), .val (.ref a2)] []))
  obtain ⟨T177, X177, e177, st177⟩ := getS2 X176 hx hZ hown (host := "") (Or.inl (own_w hw 22 rfl)) Via.refl e176 S_COMPACT_STRINGS (g := (mkF m 19 #[.val (.ref a1), .val (.ref a2), .val (.ref a2)] [])) rfl (hb hby d44_19)
  refine own_st st177 ?_
  show OGo p e below s _ _ (T177.setTop (mkF m 22 #[.val (.ref a1), .val (.ref a2), .val (.ref a2)] [(.int cs)]))
  refine own_st (fun _ z => XS.ifNo X177.here hx rfl (hb hby d44_22) rfl ((if0 _ _).trans (feq (hcs)).1) z) ?_
  show OGo p e below s _ _ (T177.setTop (mkF m 25 #[.val (.ref a1), .val (.ref a2), .val (.ref a2)] []))
  refine own_st (fun _ z => XS.aloadN X177.here hx rfl (hb hby d44_25) rfl rfl z) ?_
  show OGo p e below s _ _ (T177.setTop (mkF m 26 #[.val (.ref a1), .val (.ref a2), .val (.ref a2)] [(.ref a1)]))
  obtain ⟨T178, X178, e178, st178⟩ := getF X177 hx hZ hown (host := "") (Or.inl (own_w hw 34 rfl)) Via.refl e177 F_coder_a1 (g := (mkF m 26 #[.val (.ref a1), .val (.ref a2), .val (.ref a2)] [(.ref a1)])) rfl rfl (hb hby d44_26)
  refine own_st st178 ?_
  show OGo p e below s _ _ (T178.setTop (mkF m 29 #[.val (.ref a1), .val (.ref a2), .val (.ref a2)] [(.int (0 : Int32))]))
  refine own_st (fun _ z => XS.aloadN X178.here hx rfl (hb hby d44_29) rfl rfl z) ?_
  show OGo p e below s _ _ (T178.setTop (mkF m 30 #[.val (.ref a1), .val (.ref a2), .val (.ref a2)] [(.ref a2), (.int (0 : Int32))]))
  obtain ⟨T179, X179, e179, st179⟩ := getF X178 hx hZ hown (host := "") (Or.inl (own_w hw 34 rfl)) Via.refl e178 F_coder_a2 (g := (mkF m 30 #[.val (.ref a1), .val (.ref a2), .val (.ref a2)] [(.ref a2), (.int (0 : Int32))])) rfl rfl (hb hby d44_30)
  refine own_st st179 ?_
  show OGo p e below s _ _ (T179.setTop (mkF m 33 #[.val (.ref a1), .val (.ref a2), .val (.ref a2)] [(.int (0 : Int32)), (.int (0 : Int32))]))
  refine own_st (fun _ z => XS.icmpNo X179.here hx rfl (hb hby d44_33) rfl (teq ((by decide : (0 : Int32) = (0 : Int32)))).2 z) ?_
  show OGo p e below s _ _ (T179.setTop (mkF m 36 #[.val (.ref a1), .val (.ref a2), .val (.ref a2)] []))
  refine own_st (fun _ z => XS.aloadN X179.here hx rfl (hb hby d44_36) rfl rfl z) ?_
  show OGo p e below s _ _ (T179.setTop (mkF m 37 #[.val (.ref a1), .val (.ref a2), .val (.ref a2)] [(.ref a1)]))
  obtain ⟨T180, X180, e180, st180⟩ := getF X179 hx hZ hown (host := "") (Or.inl (own_w hw 36 rfl)) Via.refl e179 F_value_a1 (g := (mkF m 37 #[.val (.ref a1), .val (.ref a2), .val (.ref a2)] [(.ref a1)])) rfl rfl (hb hby d44_37)
  refine own_st st180 ?_
  show OGo p e below s _ _ (T180.setTop (mkF m 40 #[.val (.ref a1), .val (.ref a2), .val (.ref a2)] [(.ref t1)]))
  refine own_st (fun _ z => XS.aloadN X180.here hx rfl (hb hby d44_40) rfl rfl z) ?_
  show OGo p e below s _ _ (T180.setTop (mkF m 41 #[.val (.ref a1), .val (.ref a2), .val (.ref a2)] [(.ref a2), (.ref t1)]))
  obtain ⟨T181, X181, e181, st181⟩ := getF X180 hx hZ hown (host := "") (Or.inl (own_w hw 36 rfl)) Via.refl e180 F_value_a2 (g := (mkF m 41 #[.val (.ref a1), .val (.ref a2), .val (.ref a2)] [(.ref a2), (.ref t1)])) rfl rfl (hb hby d44_41)
  refine own_st st181 ?_
  show OGo p e below s _ _ (T181.setTop (mkF m 44 #[.val (.ref a1), .val (.ref a2), .val (.ref a2)] [(.ref t2), (.ref t1)]))
  obtain ⟨T182, X182, e182, st182⟩ := own_callSP X181 hx hZ (y := (⟨"java/lang/StringLatin1", "equals", "([B[B)Z"⟩ : MethodName)) (W := 0) hown (own_w hw 249 rfl) (own_w hw 250 rfl) (own_w hw 251 rfl) (own_w hw 252 rfl) (by decide) (e2_ l Z a0 hw t1 t2 n cf cg (1 : Int32) h0 A_t1 A_t2 hn hgf hgg hr) (by decide) (by decide) (g := (mkF m 44 #[.val (.ref a1), .val (.ref a2), .val (.ref a2)] [(.ref t2), (.ref t1)])) rfl (by rw [hml]; rfl) (argsL := [(.ref t1), (.ref t2)]) (rest := []) (lenOf pd_27 rfl) rfl (by show 2 * 0 + _ ≤ _; exact Nat.le_of_eq rfl) (hb hby d44_44) rfl e181 (by decide) (by decide)
  refine own_st st182 ?_
  show OGo p e below s _ _ (T182.setTop (mkF m 47 #[.val (.ref a1), .val (.ref a2), .val (.ref a2)] [(.int (1 : Int32))]))
  refine own_st (fun _ z => XS.ifNo X182.here hx rfl (hb hby d44_47) rfl ((if0 _ _).trans (feq ((by decide : ¬ (1 : Int32) = (0 : Int32)))).1) z) ?_
  show OGo p e below s _ _ (T182.setTop (mkF m 50 #[.val (.ref a1), .val (.ref a2), .val (.ref a2)] []))
  refine own_st (fun _ z => XS.iconst X182.here hx rfl (hb hby d44_50) z) ?_
  show OGo p e below s _ _ (T182.setTop (mkF m 51 #[.val (.ref a1), .val (.ref a2), .val (.ref a2)] [(.int (1 : Int32))]))
  refine own_st (fun _ z => XS.goto X182.here hx rfl (pc0 := 51) (pc' := 55) rfl (hb hby d44_51) (by decide) (by decide) z) ?_
  show OGo p e below s _ _ (T182.setTop (mkF m 55 #[.val (.ref a1), .val (.ref a2), .val (.ref a2)] [(.int (1 : Int32))]))
  exact own_retN X182 hx hlk (t := .boolean) hret (by simp) (hb hby d44_55) (by decide) (by decide) (⟨rfl, rfl, e182⟩)

set_option maxRecDepth 65536 in
set_option maxHeartbeats 40000000 in
theorem e4_0 (l : Launch) (Z : State) (a0 : Array Value) (hw : ∀ d ∈ tables_1, d.before a0 Z = true) (a1 : Addr) (a2 : Addr) (t1 : Addr) (n : Nat) (cf : Nat → Int32) (t2 : Addr) (cg : Nat → Int32) (cs : Int32) (h0 : Heap) (ne_a1_a2 : a1 ≠ a2) (E_a1 : Exa Z h0 a1 "java/lang/String") (F_coder_a1 : Fld Z h0 a1 "java/lang/String" "coder" "B" (.int (0 : Int32))) (F_value_a1 : Fld Z h0 a1 "java/lang/String" "value" "[B" (.ref t1)) (A_t1 : OAr Z h0 t1 .byte n (fun j => .int (own_lb (cf j)))) (E_a2 : Exa Z h0 a2 "java/lang/String") (F_coder_a2 : Fld Z h0 a2 "java/lang/String" "coder" "B" (.int (0 : Int32))) (F_value_a2 : Fld Z h0 a2 "java/lang/String" "value" "[B" (.ref t2)) (A_t2 : OAr Z h0 t2 .byte n (fun j => .int (own_lb (cg j)))) (S_COMPACT_STRINGS : Sta Z h0 "java/lang/String" "COMPACT_STRINGS" "Z" (.int cs)) (hcs : ¬ cs = (0 : Int32)) (hn : n ≤ 3) (hgf : ∀ j, j < n → own_good (cf j)) (hgg : ∀ j, j < n → own_good (cg j)) (hr : OB (own_eqf cf cg 0 n) = (0 : Int32)) :
    OPure l Z (⟨"java/lang/String", "equals", "(Ljava/lang/Object;)Z"⟩ : MethodName) jdk_42_method_66_code 3 (some .boolean) [] ({ frames := 1, cells := 0, slots := 0, locals := 14 } : Room) #[(.ref a1), (.ref a2)] h0 (some (.int (0 : Int32))) := by
  refine own_body (plainFor_of_name pn_java_lang_String) (fun m => ef_44_RR m a1 a2) ?_
  intro p e s m below meth c T0 hx hby hml hown hnm hret hlk hZ X0 e0
  have hown : s.vm.findClass "java/lang/String" = some m.cls := hown
  have hml : c.maxLocals = 3 := hml
  show OGo p e below s _ _ (T0.setTop (mkF m 0 #[.val (.ref a1), .val (.ref a2), .unset] []))
  refine own_st (fun _ z => XS.aloadN X0.here hx rfl (hb hby d44_0) rfl rfl z) ?_
  show OGo p e below s _ _ (T0.setTop (mkF m 1 #[.val (.ref a1), .val (.ref a2), .unset] [(.ref a1)]))
  refine own_st (fun _ z => XS.aloadN X0.here hx rfl (hb hby d44_1) rfl rfl z) ?_
  show OGo p e below s _ _ (T0.setTop (mkF m 2 #[.val (.ref a1), .val (.ref a2), .unset] [(.ref a2), (.ref a1)]))
  refine own_st (fun _ z => Jvm.RoadKit.acmp (g := (mkF m 2 #[.val (.ref a1), .val (.ref a2), .unset] [(.ref a2), (.ref a1)])) X0 hx rfl rfl rfl (pc0 := 2) (pc' := 7) (same := false) rfl (hb hby d44_2) rfl (decide_eq_false fun q => ne_a1_a2 (Value.ref.inj q)) (by decide) (by decide) z) ?_
  show OGo p e below s _ _ (T0.setTop (mkF m 7 #[.val (.ref a1), .val (.ref a2), .unset] []))
  refine own_st (fun _ z => XS.aloadN X0.here hx rfl (hb hby d44_7) rfl rfl z) ?_
  show OGo p e below s _ _ (T0.setTop (mkF m 8 #[.val (.ref a1), .val (.ref a2), .unset] [(.ref a2)]))
  obtain ⟨T183, X183, e183, st183⟩ := instY X0 hx hZ hown (own_w hw 248 rfl) e0 (Ins.self E_a2) (g := (mkF m 8 #[.val (.ref a1), .val (.ref a2), .unset] [(.ref a2)])) rfl rfl (hb hby d44_8)
  refine own_st st183 ?_
  show OGo p e below s _ _ (T183.setTop (mkF m 11 #[.val (.ref a1), .val (.ref a2), .unset] [(.int (1 : Int32))]))
  refine own_st (fun _ z => XS.ifNo X183.here hx rfl (hb hby d44_11) rfl ((if0 _ _).trans (feq ((by decide : ¬ (1 : Int32) = (0 : Int32)))).1) z) ?_
  show OGo p e below s _ _ (T183.setTop (mkF m 14 #[.val (.ref a1), .val (.ref a2), .unset] []))
  refine own_st (fun _ z => XS.aloadN X183.here hx rfl (hb hby d44_14) rfl rfl z) ?_
  show OGo p e below s _ _ (T183.setTop (mkF m 15 #[.val (.ref a1), .val (.ref a2), .unset] [(.ref a2)]))
  obtain ⟨T184, X184, e184, st184⟩ := castY X183 hx hZ hown (own_w hw 248 rfl) e183 (Ins.self E_a2) (g := (mkF m 15 #[.val (.ref a1), .val (.ref a2), .unset] [(.ref a2)])) rfl rfl (hb hby d44_15)
  refine own_st st184 ?_
  show OGo p e below s _ _ (T184.setTop (mkF m 18 #[.val (.ref a1), .val (.ref a2), .unset] [(.ref a2)]))
  refine own_st (fun _ z => XS.astoreN X184.here hx rfl (hb hby d44_18) rfl rfl (l' := #[.val (.ref a1), .val (.ref a2), .val (.ref a2)]) rfl z) ?_
  show OGo p e below s _ _ (T184.setTop (mkF m 19 #[.val (.ref a1), .val (.ref a2), .val (.ref a2)] []))
  obtain ⟨T185, X185, e185, st185⟩ := getS2 X184 hx hZ hown (host := "") (Or.inl (own_w hw 22 rfl)) Via.refl e184 S_COMPACT_STRINGS (g := (mkF m 19 #[.val (.ref a1), .val (.ref a2), .val (.ref a2)] [])) rfl (hb hby d44_19)
  refine own_st st185 ?_
  show OGo p e below s _ _ (T185.setTop (mkF m 22 #[.val (.ref a1), .val (.ref a2), .val (.ref a2)] [(.int cs)]))
  refine own_st (fun _ z => XS.ifNo X185.here hx rfl (hb hby d44_22) rfl ((if0 _ _).trans (feq (hcs)).1) z) ?_
  show OGo p e below s _ _ (T185.setTop (mkF m 25 #[.val (.ref a1), .val (.ref a2), .val (.ref a2)] []))
  refine own_st (fun _ z => XS.aloadN X185.here hx rfl (hb hby d44_25) rfl rfl z) ?_
  show OGo p e below s _ _ (T185.setTop (mkF m 26 #[.val (.ref a1), .val (.ref a2), .val (.ref a2)] [(.ref a1)]))
  obtain ⟨T186, X186, e186, st186⟩ := getF X185 hx hZ hown (host := "") (Or.inl (own_w hw 34 rfl)) Via.refl e185 F_coder_a1 (g := (mkF m 26 #[.val (.ref a1), .val (.ref a2), .val (.ref a2)] [(.ref a1)])) rfl rfl (hb hby d44_26)
  refine own_st st186 ?_
  show OGo p e below s _ _ (T186.setTop (mkF m 29 #[.val (.ref a1), .val (.ref a2), .val (.ref a2)] [(.int (0 : Int32))]))
  refine own_st (fun _ z => XS.aloadN X186.here hx rfl (hb hby d44_29) rfl rfl z) ?_
  show OGo p e below s _ _ (T186.setTop (mkF m 30 #[.val (.ref a1), .val (.ref a2), .val (.ref a2)] [(.ref a2), (.int (0 : Int32))]))
  obtain ⟨T187, X187, e187, st187⟩ := getF X186 hx hZ hown (host := "") (Or.inl (own_w hw 34 rfl)) Via.refl e186 F_coder_a2 (g := (mkF m 30 #[.val (.ref a1), .val (.ref a2), .val (.ref a2)] [(.ref a2), (.int (0 : Int32))])) rfl rfl (hb hby d44_30)
  refine own_st st187 ?_
  show OGo p e below s _ _ (T187.setTop (mkF m 33 #[.val (.ref a1), .val (.ref a2), .val (.ref a2)] [(.int (0 : Int32)), (.int (0 : Int32))]))
  refine own_st (fun _ z => XS.icmpNo X187.here hx rfl (hb hby d44_33) rfl (teq ((by decide : (0 : Int32) = (0 : Int32)))).2 z) ?_
  show OGo p e below s _ _ (T187.setTop (mkF m 36 #[.val (.ref a1), .val (.ref a2), .val (.ref a2)] []))
  refine own_st (fun _ z => XS.aloadN X187.here hx rfl (hb hby d44_36) rfl rfl z) ?_
  show OGo p e below s _ _ (T187.setTop (mkF m 37 #[.val (.ref a1), .val (.ref a2), .val (.ref a2)] [(.ref a1)]))
  obtain ⟨T188, X188, e188, st188⟩ := getF X187 hx hZ hown (host := "") (Or.inl (own_w hw 36 rfl)) Via.refl e187 F_value_a1 (g := (mkF m 37 #[.val (.ref a1), .val (.ref a2), .val (.ref a2)] [(.ref a1)])) rfl rfl (hb hby d44_37)
  refine own_st st188 ?_
  show OGo p e below s _ _ (T188.setTop (mkF m 40 #[.val (.ref a1), .val (.ref a2), .val (.ref a2)] [(.ref t1)]))
  refine own_st (fun _ z => XS.aloadN X188.here hx rfl (hb hby d44_40) rfl rfl z) ?_
  show OGo p e below s _ _ (T188.setTop (mkF m 41 #[.val (.ref a1), .val (.ref a2), .val (.ref a2)] [(.ref a2), (.ref t1)]))
  obtain ⟨T189, X189, e189, st189⟩ := getF X188 hx hZ hown (host := "") (Or.inl (own_w hw 36 rfl)) Via.refl e188 F_value_a2 (g := (mkF m 41 #[.val (.ref a1), .val (.ref a2), .val (.ref a2)] [(.ref a2), (.ref t1)])) rfl rfl (hb hby d44_41)
  refine own_st st189 ?_
  show OGo p e below s _ _ (T189.setTop (mkF m 44 #[.val (.ref a1), .val (.ref a2), .val (.ref a2)] [(.ref t2), (.ref t1)]))
  obtain ⟨T190, X190, e190, st190⟩ := own_callSP X189 hx hZ (y := (⟨"java/lang/StringLatin1", "equals", "([B[B)Z"⟩ : MethodName)) (W := 0) hown (own_w hw 249 rfl) (own_w hw 250 rfl) (own_w hw 251 rfl) (own_w hw 252 rfl) (by decide) (e2_ l Z a0 hw t1 t2 n cf cg (0 : Int32) h0 A_t1 A_t2 hn hgf hgg hr) (by decide) (by decide) (g := (mkF m 44 #[.val (.ref a1), .val (.ref a2), .val (.ref a2)] [(.ref t2), (.ref t1)])) rfl (by rw [hml]; rfl) (argsL := [(.ref t1), (.ref t2)]) (rest := []) (lenOf pd_27 rfl) rfl (by show 2 * 0 + _ ≤ _; exact Nat.le_of_eq rfl) (hb hby d44_44) rfl e189 (by decide) (by decide)
  refine own_st st190 ?_
  show OGo p e below s _ _ (T190.setTop (mkF m 47 #[.val (.ref a1), .val (.ref a2), .val (.ref a2)] [(.int (0 : Int32))]))
  refine own_st (fun _ z => XS.ifYes X190.here hx rfl (pc0 := 47) (pc' := 54) rfl (hb hby d44_47) rfl ((if0 _ _).trans (teq ((by decide : (0 : Int32) = (0 : Int32)))).1) (by decide) (by decide) z) ?_
  show OGo p e below s _ _ (T190.setTop (mkF m 54 #[.val (.ref a1), .val (.ref a2), .val (.ref a2)] []))
  refine own_st (fun _ z => XS.iconst X190.here hx rfl (hb hby d44_54) z) ?_
  show OGo p e below s _ _ (T190.setTop (mkF m 55 #[.val (.ref a1), .val (.ref a2), .val (.ref a2)] [(.int (0 : Int32))]))
  exact own_retN X190 hx hlk (t := .boolean) hret (by simp) (hb hby d44_55) (by decide) (by decide) (⟨rfl, rfl, e190⟩)
theorem d43_0 : decode prog_3_method_7_code 0 = .ok (.aload_n 1, 1) := by decide +kernel
theorem d43_1 : decode prog_3_method_7_code 1 = .ok (.instanceof 65, 3) := by decide +kernel
theorem d43_4 : decode prog_3_method_7_code 4 = .ok (.ifCond .eq 26, 3) := by decide +kernel
theorem d43_7 : decode prog_3_method_7_code 7 = .ok (.aload_n 1, 1) := by decide +kernel
theorem d43_8 : decode prog_3_method_7_code 8 = .ok (.checkcast 65, 3) := by decide +kernel
theorem d43_11 : decode prog_3_method_7_code 11 = .ok (.astore_n 2, 1) := by decide +kernel
theorem d43_12 : decode prog_3_method_7_code 12 = .ok (.aload_n 2, 1) := by decide +kernel
theorem d43_13 : decode prog_3_method_7_code 13 = .ok (.getfield 76, 3) := by decide +kernel
theorem d43_16 : decode prog_3_method_7_code 16 = .ok (.aload_n 0, 1) := by decide +kernel
theorem d43_17 : decode prog_3_method_7_code 17 = .ok (.getfield 76, 3) := by decide +kernel
theorem d43_20 : decode prog_3_method_7_code 20 = .ok (.invokevirtual 103, 3) := by decide +kernel
theorem pd_28 : parseMethodDescriptor "(Ljava/lang/Object;)Z" = some ⟨[(.object "java/lang/Object")], some .boolean⟩ := by decide +kernel
theorem d43_23 : decode prog_3_method_7_code 23 = .ok (.ifCond .eq 7, 3) := by decide +kernel
theorem d43_30 : decode prog_3_method_7_code 30 = .ok (.iconst 0, 1) := by decide +kernel
theorem d43_31 : decode prog_3_method_7_code 31 = .ok (.ireturn, 1) := by decide +kernel
theorem ef_43_RR (m : MethodId) (x0 : Addr) (x1 : Addr) : entryFrame m #[(.ref x0), (.ref x1)] 3 = mkF m 0 #[.val (.ref x0), .val (.ref x1), .unset] [] := by first | (simp [entryFrame, mkF, argsToLocals, Value.category]; done) | rfl
set_option maxRecDepth 65536 in
set_option maxHeartbeats 40000000 in
theorem e5_N (l : Launch) (Z : State) (a0 : Array Value) (hw : ∀ d ∈ tables_1, d.before a0 Z = true) (a1 : Addr) (a2 : Addr) (s1 : Addr) (s2 : Addr) (t1 : Addr) (n : Nat) (cf : Nat → Int32) (t2 : Addr) (m' : Nat) (cg : Nat → Int32) (cs : Int32) (h0 : Heap) (ne_s1_s2 : s1 ≠ s2) (E_a1 : Exa Z h0 a1 "com/example/limpet/limpet/LockName") (F_value_a1 : Fld Z h0 a1 "com/example/limpet/limpet/LockName" "value" "Ljava/lang/String;" (.ref s2)) (E_a2 : Exa Z h0 a2 "com/example/limpet/limpet/LockName") (F_value_a2 : Fld Z h0 a2 "com/example/limpet/limpet/LockName" "value" "Ljava/lang/String;" (.ref s1)) (E_s1 : Exa Z h0 s1 "java/lang/String") (F_coder_s1 : Fld Z h0 s1 "java/lang/String" "coder" "B" (.int (0 : Int32))) (F_value_s1 : Fld Z h0 s1 "java/lang/String" "value" "[B" (.ref t1)) (A_t1 : OAr Z h0 t1 .byte n (fun j => .int (own_lb (cf j)))) (E_s2 : Exa Z h0 s2 "java/lang/String") (F_coder_s2 : Fld Z h0 s2 "java/lang/String" "coder" "B" (.int (0 : Int32))) (F_value_s2 : Fld Z h0 s2 "java/lang/String" "value" "[B" (.ref t2)) (A_t2 : OAr Z h0 t2 .byte m' (fun j => .int (own_lb (cg j)))) (S_COMPACT_STRINGS : Sta Z h0 "java/lang/String" "COMPACT_STRINGS" "Z" (.int cs)) (hcs : ¬ cs = (0 : Int32)) (hn : n ≤ 3) (hm : m' ≤ 3) (hdf : n ≠ m') :
    OPure l Z (⟨"com/example/limpet/limpet/LockName", "equals", "(Ljava/lang/Object;)Z"⟩ : MethodName) prog_3_method_7_code 3 (some .boolean) [] ({ frames := 2, cells := 0, slots := 0, locals := 28 } : Room) #[(.ref a1), (.ref a2)] h0 (some (.int (0 : Int32))) := by
  refine own_body (plainFor_of_name pn_com_example_limpet_limpet_LockName) (fun m => ef_43_RR m a1 a2) ?_
  intro p e s m below meth c T0 hx hby hml hown hnm hret hlk hZ X0 e0
  have hown : s.vm.findClass "com/example/limpet/limpet/LockName" = some m.cls := hown
  have hml : c.maxLocals = 3 := hml
  show OGo p e below s _ _ (T0.setTop (mkF m 0 #[.val (.ref a1), .val (.ref a2), .unset] []))
  refine own_st (fun _ z => XS.aloadN X0.here hx rfl (hb hby d43_0) rfl rfl z) ?_
  show OGo p e below s _ _ (T0.setTop (mkF m 1 #[.val (.ref a1), .val (.ref a2), .unset] [(.ref a2)]))
  obtain ⟨T191, X191, e191, st191⟩ := instY X0 hx hZ hown (own_w hw 241 rfl) e0 (Ins.self E_a2) (g := (mkF m 1 #[.val (.ref a1), .val (.ref a2), .unset] [(.ref a2)])) rfl rfl (hb hby d43_1)
  refine own_st st191 ?_
  show OGo p e below s _ _ (T191.setTop (mkF m 4 #[.val (.ref a1), .val (.ref a2), .unset] [(.int (1 : Int32))]))
  refine own_st (fun _ z => XS.ifNo X191.here hx rfl (hb hby d43_4) rfl ((if0 _ _).trans (feq ((by decide : ¬ (1 : Int32) = (0 : Int32)))).1) z) ?_
  show OGo p e below s _ _ (T191.setTop (mkF m 7 #[.val (.ref a1), .val (.ref a2), .unset] []))
  refine own_st (fun _ z => XS.aloadN X191.here hx rfl (hb hby d43_7) rfl rfl z) ?_
  show OGo p e below s _ _ (T191.setTop (mkF m 8 #[.val (.ref a1), .val (.ref a2), .unset] [(.ref a2)]))
  obtain ⟨T192, X192, e192, st192⟩ := castY X191 hx hZ hown (own_w hw 241 rfl) e191 (Ins.self E_a2) (g := (mkF m 8 #[.val (.ref a1), .val (.ref a2), .unset] [(.ref a2)])) rfl rfl (hb hby d43_8)
  refine own_st st192 ?_
  show OGo p e below s _ _ (T192.setTop (mkF m 11 #[.val (.ref a1), .val (.ref a2), .unset] [(.ref a2)]))
  refine own_st (fun _ z => XS.astoreN X192.here hx rfl (hb hby d43_11) rfl rfl (l' := #[.val (.ref a1), .val (.ref a2), .val (.ref a2)]) rfl z) ?_
  show OGo p e below s _ _ (T192.setTop (mkF m 12 #[.val (.ref a1), .val (.ref a2), .val (.ref a2)] []))
  refine own_st (fun _ z => XS.aloadN X192.here hx rfl (hb hby d43_12) rfl rfl z) ?_
  show OGo p e below s _ _ (T192.setTop (mkF m 13 #[.val (.ref a1), .val (.ref a2), .val (.ref a2)] [(.ref a2)]))
  obtain ⟨T193, X193, e193, st193⟩ := getF X192 hx hZ hown (host := "") (Or.inl (own_w hw 89 rfl)) Via.refl e192 F_value_a2 (g := (mkF m 13 #[.val (.ref a1), .val (.ref a2), .val (.ref a2)] [(.ref a2)])) rfl rfl (hb hby d43_13)
  refine own_st st193 ?_
  show OGo p e below s _ _ (T193.setTop (mkF m 16 #[.val (.ref a1), .val (.ref a2), .val (.ref a2)] [(.ref s1)]))
  refine own_st (fun _ z => XS.aloadN X193.here hx rfl (hb hby d43_16) rfl rfl z) ?_
  show OGo p e below s _ _ (T193.setTop (mkF m 17 #[.val (.ref a1), .val (.ref a2), .val (.ref a2)] [(.ref a1), (.ref s1)]))
  obtain ⟨T194, X194, e194, st194⟩ := getF X193 hx hZ hown (host := "") (Or.inl (own_w hw 89 rfl)) Via.refl e193 F_value_a1 (g := (mkF m 17 #[.val (.ref a1), .val (.ref a2), .val (.ref a2)] [(.ref a1), (.ref s1)])) rfl rfl (hb hby d43_17)
  refine own_st st194 ?_
  show OGo p e below s _ _ (T194.setTop (mkF m 20 #[.val (.ref a1), .val (.ref a2), .val (.ref a2)] [(.ref s2), (.ref s1)]))
  obtain ⟨T195, X195, e195, st195⟩ := own_callVP X194 hx hZ (y := (⟨"java/lang/String", "equals", "(Ljava/lang/Object;)Z"⟩ : MethodName)) (z := (⟨"java/lang/String", "equals", "(Ljava/lang/Object;)Z"⟩ : MethodName)) (W := 0) hown (own_w hw 243 rfl) (own_w hw 244 rfl) (notFace_of_selects (args := #[]) (mvT hZ (own_w hw 246 rfl))) (own_w hw 246 rfl) (own_w hw 245 rfl) (own_w hw 247 rfl) (own_w hw 10 rfl) (by decide) (e4_N l Z a0 hw s1 s2 t1 n cf t2 m' cg cs h0 ne_s1_s2 E_s1 F_coder_s1 F_value_s1 A_t1 E_s2 F_coder_s2 F_value_s2 A_t2 S_COMPACT_STRINGS hcs hn hm hdf) (by decide) (by decide) E_s1 (g := (mkF m 20 #[.val (.ref a1), .val (.ref a2), .val (.ref a2)] [(.ref s2), (.ref s1)])) rfl (by rw [hml]; rfl) (argsL := [(.ref s2)]) (rest := []) (lenOf pd_28 rfl) rfl (by show 2 * 0 + _ ≤ _; exact Nat.le_of_eq rfl) (hb hby d43_20) rfl e194 (by decide) (by decide)
  refine own_st st195 ?_
  show OGo p e below s _ _ (T195.setTop (mkF m 23 #[.val (.ref a1), .val (.ref a2), .val (.ref a2)] [(.int (0 : Int32))]))
  refine own_st (fun _ z => XS.ifYes X195.here hx rfl (pc0 := 23) (pc' := 30) rfl (hb hby d43_23) rfl ((if0 _ _).trans (teq ((by decide : (0 : Int32) = (0 : Int32)))).1) (by decide) (by decide) z) ?_
  show OGo p e below s _ _ (T195.setTop (mkF m 30 #[.val (.ref a1), .val (.ref a2), .val (.ref a2)] []))
  refine own_st (fun _ z => XS.iconst X195.here hx rfl (hb hby d43_30) z) ?_
  show OGo p e below s _ _ (T195.setTop (mkF m 31 #[.val (.ref a1), .val (.ref a2), .val (.ref a2)] [(.int (0 : Int32))]))
  exact own_retN X195 hx hlk (t := .boolean) hret (by simp) (hb hby d43_31) (by decide) (by decide) (⟨rfl, rfl, e195⟩)
theorem d43_26 : decode prog_3_method_7_code 26 = .ok (.iconst 1, 1) := by decide +kernel
theorem d43_27 : decode prog_3_method_7_code 27 = .ok (.goto 4, 3) := by decide +kernel
set_option maxRecDepth 65536 in
set_option maxHeartbeats 40000000 in
theorem e5_1 (l : Launch) (Z : State) (a0 : Array Value) (hw : ∀ d ∈ tables_1, d.before a0 Z = true) (a1 : Addr) (a2 : Addr) (s1 : Addr) (s2 : Addr) (t1 : Addr) (n : Nat) (cf : Nat → Int32) (t2 : Addr) (cg : Nat → Int32) (cs : Int32) (h0 : Heap) (ne_s1_s2 : s1 ≠ s2) (E_a1 : Exa Z h0 a1 "com/example/limpet/limpet/LockName") (F_value_a1 : Fld Z h0 a1 "com/example/limpet/limpet/LockName" "value" "Ljava/lang/String;" (.ref s2)) (E_a2 : Exa Z h0 a2 "com/example/limpet/limpet/LockName") (F_value_a2 : Fld Z h0 a2 "com/example/limpet/limpet/LockName" "value" "Ljava/lang/String;" (.ref s1)) (E_s1 : Exa Z h0 s1 "java/lang/String") (F_coder_s1 : Fld Z h0 s1 "java/lang/String" "coder" "B" (.int (0 : Int32))) (F_value_s1 : Fld Z h0 s1 "java/lang/String" "value" "[B" (.ref t1)) (A_t1 : OAr Z h0 t1 .byte n (fun j => .int (own_lb (cf j)))) (E_s2 : Exa Z h0 s2 "java/lang/String") (F_coder_s2 : Fld Z h0 s2 "java/lang/String" "coder" "B" (.int (0 : Int32))) (F_value_s2 : Fld Z h0 s2 "java/lang/String" "value" "[B" (.ref t2)) (A_t2 : OAr Z h0 t2 .byte n (fun j => .int (own_lb (cg j)))) (S_COMPACT_STRINGS : Sta Z h0 "java/lang/String" "COMPACT_STRINGS" "Z" (.int cs)) (hcs : ¬ cs = (0 : Int32)) (hn : n ≤ 3) (hgf : ∀ j, j < n → own_good (cf j)) (hgg : ∀ j, j < n → own_good (cg j)) (hr : OB (own_eqf cf cg 0 n) = (1 : Int32)) :
    OPure l Z (⟨"com/example/limpet/limpet/LockName", "equals", "(Ljava/lang/Object;)Z"⟩ : MethodName) prog_3_method_7_code 3 (some .boolean) [] ({ frames := 2, cells := 0, slots := 0, locals := 28 } : Room) #[(.ref a1), (.ref a2)] h0 (some (.int (1 : Int32))) := by
  refine own_body (plainFor_of_name pn_com_example_limpet_limpet_LockName) (fun m => ef_43_RR m a1 a2) ?_
  intro p e s m below meth c T0 hx hby hml hown hnm hret hlk hZ X0 e0
  have hown : s.vm.findClass "com/example/limpet/limpet/LockName" = some m.cls := hown
  have hml : c.maxLocals = 3 := hml
  show OGo p e below s _ _ (T0.setTop (mkF m 0 #[.val (.ref a1), .val (.ref a2), .unset] []))
  refine own_st (fun _ z => XS.aloadN X0.here hx rfl (hb hby d43_0) rfl rfl z) ?_
  show OGo p e below s _ _ (T0.setTop (mkF m 1 #[.val (.ref a1), .val (.ref a2), .unset] [(.ref a2)]))
  obtain ⟨T196, X196, e196, st196⟩ := instY X0 hx hZ hown (own_w hw 241 rfl) e0 (Ins.self E_a2) (g := (mkF m 1 #[.val (.ref a1), .val (.ref a2), .unset] [(.ref a2)])) rfl rfl (hb hby d43_1)
  refine own_st st196 ?_
  show OGo p e below s _ _ (T196.setTop (mkF m 4 #[.val (.ref a1), .val (.ref a2), .unset] [(.int (1 : Int32))]))
  refine own_st (fun _ z => XS.ifNo X196.here hx rfl (hb hby d43_4) rfl ((if0 _ _).trans (feq ((by decide : ¬ (1 : Int32) = (0 : Int32)))).1) z) ?_
  show OGo p e below s _ _ (T196.setTop (mkF m 7 #[.val (.ref a1), .val (.ref a2), .unset] []))
  refine own_st (fun _ z => XS.aloadN X196.here hx rfl (hb hby d43_7) rfl rfl z) ?_
  show OGo p e below s _ _ (T196.setTop (mkF m 8 #[.val (.ref a1), .val (.ref a2), .unset] [(.ref a2)]))
  obtain ⟨T197, X197, e197, st197⟩ := castY X196 hx hZ hown (own_w hw 241 rfl) e196 (Ins.self E_a2) (g := (mkF m 8 #[.val (.ref a1), .val (.ref a2), .unset] [(.ref a2)])) rfl rfl (hb hby d43_8)
  refine own_st st197 ?_
  show OGo p e below s _ _ (T197.setTop (mkF m 11 #[.val (.ref a1), .val (.ref a2), .unset] [(.ref a2)]))
  refine own_st (fun _ z => XS.astoreN X197.here hx rfl (hb hby d43_11) rfl rfl (l' := #[.val (.ref a1), .val (.ref a2), .val (.ref a2)]) rfl z) ?_
  show OGo p e below s _ _ (T197.setTop (mkF m 12 #[.val (.ref a1), .val (.ref a2), .val (.ref a2)] []))
  refine own_st (fun _ z => XS.aloadN X197.here hx rfl (hb hby d43_12) rfl rfl z) ?_
  show OGo p e below s _ _ (T197.setTop (mkF m 13 #[.val (.ref a1), .val (.ref a2), .val (.ref a2)] [(.ref a2)]))
  obtain ⟨T198, X198, e198, st198⟩ := getF X197 hx hZ hown (host := "") (Or.inl (own_w hw 89 rfl)) Via.refl e197 F_value_a2 (g := (mkF m 13 #[.val (.ref a1), .val (.ref a2), .val (.ref a2)] [(.ref a2)])) rfl rfl (hb hby d43_13)
  refine own_st st198 ?_
  show OGo p e below s _ _ (T198.setTop (mkF m 16 #[.val (.ref a1), .val (.ref a2), .val (.ref a2)] [(.ref s1)]))
  refine own_st (fun _ z => XS.aloadN X198.here hx rfl (hb hby d43_16) rfl rfl z) ?_
  show OGo p e below s _ _ (T198.setTop (mkF m 17 #[.val (.ref a1), .val (.ref a2), .val (.ref a2)] [(.ref a1), (.ref s1)]))
  obtain ⟨T199, X199, e199, st199⟩ := getF X198 hx hZ hown (host := "") (Or.inl (own_w hw 89 rfl)) Via.refl e198 F_value_a1 (g := (mkF m 17 #[.val (.ref a1), .val (.ref a2), .val (.ref a2)] [(.ref a1), (.ref s1)])) rfl rfl (hb hby d43_17)
  refine own_st st199 ?_
  show OGo p e below s _ _ (T199.setTop (mkF m 20 #[.val (.ref a1), .val (.ref a2), .val (.ref a2)] [(.ref s2), (.ref s1)]))
  obtain ⟨T200, X200, e200, st200⟩ := own_callVP X199 hx hZ (y := (⟨"java/lang/String", "equals", "(Ljava/lang/Object;)Z"⟩ : MethodName)) (z := (⟨"java/lang/String", "equals", "(Ljava/lang/Object;)Z"⟩ : MethodName)) (W := 0) hown (own_w hw 243 rfl) (own_w hw 244 rfl) (notFace_of_selects (args := #[]) (mvT hZ (own_w hw 246 rfl))) (own_w hw 246 rfl) (own_w hw 245 rfl) (own_w hw 247 rfl) (own_w hw 10 rfl) (by decide) (e4_1 l Z a0 hw s1 s2 t1 n cf t2 cg cs h0 ne_s1_s2 E_s1 F_coder_s1 F_value_s1 A_t1 E_s2 F_coder_s2 F_value_s2 A_t2 S_COMPACT_STRINGS hcs hn hgf hgg hr) (by decide) (by decide) E_s1 (g := (mkF m 20 #[.val (.ref a1), .val (.ref a2), .val (.ref a2)] [(.ref s2), (.ref s1)])) rfl (by rw [hml]; rfl) (argsL := [(.ref s2)]) (rest := []) (lenOf pd_28 rfl) rfl (by show 2 * 0 + _ ≤ _; exact Nat.le_of_eq rfl) (hb hby d43_20) rfl e199 (by decide) (by decide)
  refine own_st st200 ?_
  show OGo p e below s _ _ (T200.setTop (mkF m 23 #[.val (.ref a1), .val (.ref a2), .val (.ref a2)] [(.int (1 : Int32))]))
  refine own_st (fun _ z => XS.ifNo X200.here hx rfl (hb hby d43_23) rfl ((if0 _ _).trans (feq ((by decide : ¬ (1 : Int32) = (0 : Int32)))).1) z) ?_
  show OGo p e below s _ _ (T200.setTop (mkF m 26 #[.val (.ref a1), .val (.ref a2), .val (.ref a2)] []))
  refine own_st (fun _ z => XS.iconst X200.here hx rfl (hb hby d43_26) z) ?_
  show OGo p e below s _ _ (T200.setTop (mkF m 27 #[.val (.ref a1), .val (.ref a2), .val (.ref a2)] [(.int (1 : Int32))]))
  refine own_st (fun _ z => XS.goto X200.here hx rfl (pc0 := 27) (pc' := 31) rfl (hb hby d43_27) (by decide) (by decide) z) ?_
  show OGo p e below s _ _ (T200.setTop (mkF m 31 #[.val (.ref a1), .val (.ref a2), .val (.ref a2)] [(.int (1 : Int32))]))
  exact own_retN X200 hx hlk (t := .boolean) hret (by simp) (hb hby d43_31) (by decide) (by decide) (⟨rfl, rfl, e200⟩)

set_option maxRecDepth 65536 in
set_option maxHeartbeats 40000000 in
theorem e5_0 (l : Launch) (Z : State) (a0 : Array Value) (hw : ∀ d ∈ tables_1, d.before a0 Z = true) (a1 : Addr) (a2 : Addr) (s1 : Addr) (s2 : Addr) (t1 : Addr) (n : Nat) (cf : Nat → Int32) (t2 : Addr) (cg : Nat → Int32) (cs : Int32) (h0 : Heap) (ne_s1_s2 : s1 ≠ s2) (E_a1 : Exa Z h0 a1 "com/example/limpet/limpet/LockName") (F_value_a1 : Fld Z h0 a1 "com/example/limpet/limpet/LockName" "value" "Ljava/lang/String;" (.ref s2)) (E_a2 : Exa Z h0 a2 "com/example/limpet/limpet/LockName") (F_value_a2 : Fld Z h0 a2 "com/example/limpet/limpet/LockName" "value" "Ljava/lang/String;" (.ref s1)) (E_s1 : Exa Z h0 s1 "java/lang/String") (F_coder_s1 : Fld Z h0 s1 "java/lang/String" "coder" "B" (.int (0 : Int32))) (F_value_s1 : Fld Z h0 s1 "java/lang/String" "value" "[B" (.ref t1)) (A_t1 : OAr Z h0 t1 .byte n (fun j => .int (own_lb (cf j)))) (E_s2 : Exa Z h0 s2 "java/lang/String") (F_coder_s2 : Fld Z h0 s2 "java/lang/String" "coder" "B" (.int (0 : Int32))) (F_value_s2 : Fld Z h0 s2 "java/lang/String" "value" "[B" (.ref t2)) (A_t2 : OAr Z h0 t2 .byte n (fun j => .int (own_lb (cg j)))) (S_COMPACT_STRINGS : Sta Z h0 "java/lang/String" "COMPACT_STRINGS" "Z" (.int cs)) (hcs : ¬ cs = (0 : Int32)) (hn : n ≤ 3) (hgf : ∀ j, j < n → own_good (cf j)) (hgg : ∀ j, j < n → own_good (cg j)) (hr : OB (own_eqf cf cg 0 n) = (0 : Int32)) :
    OPure l Z (⟨"com/example/limpet/limpet/LockName", "equals", "(Ljava/lang/Object;)Z"⟩ : MethodName) prog_3_method_7_code 3 (some .boolean) [] ({ frames := 2, cells := 0, slots := 0, locals := 28 } : Room) #[(.ref a1), (.ref a2)] h0 (some (.int (0 : Int32))) := by
  refine own_body (plainFor_of_name pn_com_example_limpet_limpet_LockName) (fun m => ef_43_RR m a1 a2) ?_
  intro p e s m below meth c T0 hx hby hml hown hnm hret hlk hZ X0 e0
  have hown : s.vm.findClass "com/example/limpet/limpet/LockName" = some m.cls := hown
  have hml : c.maxLocals = 3 := hml
  show OGo p e below s _ _ (T0.setTop (mkF m 0 #[.val (.ref a1), .val (.ref a2), .unset] []))
  refine own_st (fun _ z => XS.aloadN X0.here hx rfl (hb hby d43_0) rfl rfl z) ?_
  show OGo p e below s _ _ (T0.setTop (mkF m 1 #[.val (.ref a1), .val (.ref a2), .unset] [(.ref a2)]))
  obtain ⟨T201, X201, e201, st201⟩ := instY X0 hx hZ hown (own_w hw 241 rfl) e0 (Ins.self E_a2) (g := (mkF m 1 #[.val (.ref a1), .val (.ref a2), .unset] [(.ref a2)])) rfl rfl (hb hby d43_1)
  refine own_st st201 ?_
  show OGo p e below s _ _ (T201.setTop (mkF m 4 #[.val (.ref a1), .val (.ref a2), .unset] [(.int (1 : Int32))]))
  refine own_st (fun _ z => XS.ifNo X201.here hx rfl (hb hby d43_4) rfl ((if0 _ _).trans (feq ((by decide : ¬ (1 : Int32) = (0 : Int32)))).1) z) ?_
  show OGo p e below s _ _ (T201.setTop (mkF m 7 #[.val (.ref a1), .val (.ref a2), .unset] []))
  refine own_st (fun _ z => XS.aloadN X201.here hx rfl (hb hby d43_7) rfl rfl z) ?_
  show OGo p e below s _ _ (T201.setTop (mkF m 8 #[.val (.ref a1), .val (.ref a2), .unset] [(.ref a2)]))
  obtain ⟨T202, X202, e202, st202⟩ := castY X201 hx hZ hown (own_w hw 241 rfl) e201 (Ins.self E_a2) (g := (mkF m 8 #[.val (.ref a1), .val (.ref a2), .unset] [(.ref a2)])) rfl rfl (hb hby d43_8)
  refine own_st st202 ?_
  show OGo p e below s _ _ (T202.setTop (mkF m 11 #[.val (.ref a1), .val (.ref a2), .unset] [(.ref a2)]))
  refine own_st (fun _ z => XS.astoreN X202.here hx rfl (hb hby d43_11) rfl rfl (l' := #[.val (.ref a1), .val (.ref a2), .val (.ref a2)]) rfl z) ?_
  show OGo p e below s _ _ (T202.setTop (mkF m 12 #[.val (.ref a1), .val (.ref a2), .val (.ref a2)] []))
  refine own_st (fun _ z => XS.aloadN X202.here hx rfl (hb hby d43_12) rfl rfl z) ?_
  show OGo p e below s _ _ (T202.setTop (mkF m 13 #[.val (.ref a1), .val (.ref a2), .val (.ref a2)] [(.ref a2)]))
  obtain ⟨T203, X203, e203, st203⟩ := getF X202 hx hZ hown (host := "") (Or.inl (own_w hw 89 rfl)) Via.refl e202 F_value_a2 (g := (mkF m 13 #[.val (.ref a1), .val (.ref a2), .val (.ref a2)] [(.ref a2)])) rfl rfl (hb hby d43_13)
  refine own_st st203 ?_
  show OGo p e below s _ _ (T203.setTop (mkF m 16 #[.val (.ref a1), .val (.ref a2), .val (.ref a2)] [(.ref s1)]))
  refine own_st (fun _ z => XS.aloadN X203.here hx rfl (hb hby d43_16) rfl rfl z) ?_
  show OGo p e below s _ _ (T203.setTop (mkF m 17 #[.val (.ref a1), .val (.ref a2), .val (.ref a2)] [(.ref a1), (.ref s1)]))
  obtain ⟨T204, X204, e204, st204⟩ := getF X203 hx hZ hown (host := "") (Or.inl (own_w hw 89 rfl)) Via.refl e203 F_value_a1 (g := (mkF m 17 #[.val (.ref a1), .val (.ref a2), .val (.ref a2)] [(.ref a1), (.ref s1)])) rfl rfl (hb hby d43_17)
  refine own_st st204 ?_
  show OGo p e below s _ _ (T204.setTop (mkF m 20 #[.val (.ref a1), .val (.ref a2), .val (.ref a2)] [(.ref s2), (.ref s1)]))
  obtain ⟨T205, X205, e205, st205⟩ := own_callVP X204 hx hZ (y := (⟨"java/lang/String", "equals", "(Ljava/lang/Object;)Z"⟩ : MethodName)) (z := (⟨"java/lang/String", "equals", "(Ljava/lang/Object;)Z"⟩ : MethodName)) (W := 0) hown (own_w hw 243 rfl) (own_w hw 244 rfl) (notFace_of_selects (args := #[]) (mvT hZ (own_w hw 246 rfl))) (own_w hw 246 rfl) (own_w hw 245 rfl) (own_w hw 247 rfl) (own_w hw 10 rfl) (by decide) (e4_0 l Z a0 hw s1 s2 t1 n cf t2 cg cs h0 ne_s1_s2 E_s1 F_coder_s1 F_value_s1 A_t1 E_s2 F_coder_s2 F_value_s2 A_t2 S_COMPACT_STRINGS hcs hn hgf hgg hr) (by decide) (by decide) E_s1 (g := (mkF m 20 #[.val (.ref a1), .val (.ref a2), .val (.ref a2)] [(.ref s2), (.ref s1)])) rfl (by rw [hml]; rfl) (argsL := [(.ref s2)]) (rest := []) (lenOf pd_28 rfl) rfl (by show 2 * 0 + _ ≤ _; exact Nat.le_of_eq rfl) (hb hby d43_20) rfl e204 (by decide) (by decide)
  refine own_st st205 ?_
  show OGo p e below s _ _ (T205.setTop (mkF m 23 #[.val (.ref a1), .val (.ref a2), .val (.ref a2)] [(.int (0 : Int32))]))
  refine own_st (fun _ z => XS.ifYes X205.here hx rfl (pc0 := 23) (pc' := 30) rfl (hb hby d43_23) rfl ((if0 _ _).trans (teq ((by decide : (0 : Int32) = (0 : Int32)))).1) (by decide) (by decide) z) ?_
  show OGo p e below s _ _ (T205.setTop (mkF m 30 #[.val (.ref a1), .val (.ref a2), .val (.ref a2)] []))
  refine own_st (fun _ z => XS.iconst X205.here hx rfl (hb hby d43_30) z) ?_
  show OGo p e below s _ _ (T205.setTop (mkF m 31 #[.val (.ref a1), .val (.ref a2), .val (.ref a2)] [(.int (0 : Int32))]))
  exact own_retN X205 hx hlk (t := .boolean) hret (by simp) (hb hby d43_31) (by decide) (by decide) (⟨rfl, rfl, e205⟩)

set_option maxRecDepth 65536 in
set_option maxHeartbeats 40000000 in
theorem e6_ (l : Launch) (Z : State) (a0 : Array Value) (hw : ∀ d ∈ tables_1, d.before a0 Z = true) (a1 : Addr) (a2 : Addr) (s1 : Addr) (h0 : Heap) (E_a1 : Exa Z h0 a1 "com/example/limpet/limpet/LockName") (F_value_a1 : Fld Z h0 a1 "com/example/limpet/limpet/LockName" "value" "Ljava/lang/String;" (.ref s1)) (E_a2 : Exa Z h0 a2 "com/example/limpet/limpet/LockName") (F_value_a2 : Fld Z h0 a2 "com/example/limpet/limpet/LockName" "value" "Ljava/lang/String;" (.ref s1)) (E_s1 : Exa Z h0 s1 "java/lang/String") :
    OPure l Z (⟨"com/example/limpet/limpet/LockName", "equals", "(Ljava/lang/Object;)Z"⟩ : MethodName) prog_3_method_7_code 3 (some .boolean) [] ({ frames := 1, cells := 0, slots := 0, locals := 14 } : Room) #[(.ref a1), (.ref a2)] h0 (some (.int (1 : Int32))) := by
  refine own_body (plainFor_of_name pn_com_example_limpet_limpet_LockName) (fun m => ef_43_RR m a1 a2) ?_
  intro p e s m below meth c T0 hx hby hml hown hnm hret hlk hZ X0 e0
  have hown : s.vm.findClass "com/example/limpet/limpet/LockName" = some m.cls := hown
  have hml : c.maxLocals = 3 := hml
  show OGo p e below s _ _ (T0.setTop (mkF m 0 #[.val (.ref a1), .val (.ref a2), .unset] []))
  refine own_st (fun _ z => XS.aloadN X0.here hx rfl (hb hby d43_0) rfl rfl z) ?_
  show OGo p e below s _ _ (T0.setTop (mkF m 1 #[.val (.ref a1), .val (.ref a2), .unset] [(.ref a2)]))
  obtain ⟨T206, X206, e206, st206⟩ := instY X0 hx hZ hown (own_w hw 241 rfl) e0 (Ins.self E_a2) (g := (mkF m 1 #[.val (.ref a1), .val (.ref a2), .unset] [(.ref a2)])) rfl rfl (hb hby d43_1)
  refine own_st st206 ?_
  show OGo p e below s _ _ (T206.setTop (mkF m 4 #[.val (.ref a1), .val (.ref a2), .unset] [(.int (1 : Int32))]))
  refine own_st (fun _ z => XS.ifNo X206.here hx rfl (hb hby d43_4) rfl ((if0 _ _).trans (feq ((by decide : ¬ (1 : Int32) = (0 : Int32)))).1) z) ?_
  show OGo p e below s _ _ (T206.setTop (mkF m 7 #[.val (.ref a1), .val (.ref a2), .unset] []))
  refine own_st (fun _ z => XS.aloadN X206.here hx rfl (hb hby d43_7) rfl rfl z) ?_
  show OGo p e below s _ _ (T206.setTop (mkF m 8 #[.val (.ref a1), .val (.ref a2), .unset] [(.ref a2)]))
  obtain ⟨T207, X207, e207, st207⟩ := castY X206 hx hZ hown (own_w hw 241 rfl) e206 (Ins.self E_a2) (g := (mkF m 8 #[.val (.ref a1), .val (.ref a2), .unset] [(.ref a2)])) rfl rfl (hb hby d43_8)
  refine own_st st207 ?_
  show OGo p e below s _ _ (T207.setTop (mkF m 11 #[.val (.ref a1), .val (.ref a2), .unset] [(.ref a2)]))
  refine own_st (fun _ z => XS.astoreN X207.here hx rfl (hb hby d43_11) rfl rfl (l' := #[.val (.ref a1), .val (.ref a2), .val (.ref a2)]) rfl z) ?_
  show OGo p e below s _ _ (T207.setTop (mkF m 12 #[.val (.ref a1), .val (.ref a2), .val (.ref a2)] []))
  refine own_st (fun _ z => XS.aloadN X207.here hx rfl (hb hby d43_12) rfl rfl z) ?_
  show OGo p e below s _ _ (T207.setTop (mkF m 13 #[.val (.ref a1), .val (.ref a2), .val (.ref a2)] [(.ref a2)]))
  obtain ⟨T208, X208, e208, st208⟩ := getF X207 hx hZ hown (host := "") (Or.inl (own_w hw 89 rfl)) Via.refl e207 F_value_a2 (g := (mkF m 13 #[.val (.ref a1), .val (.ref a2), .val (.ref a2)] [(.ref a2)])) rfl rfl (hb hby d43_13)
  refine own_st st208 ?_
  show OGo p e below s _ _ (T208.setTop (mkF m 16 #[.val (.ref a1), .val (.ref a2), .val (.ref a2)] [(.ref s1)]))
  refine own_st (fun _ z => XS.aloadN X208.here hx rfl (hb hby d43_16) rfl rfl z) ?_
  show OGo p e below s _ _ (T208.setTop (mkF m 17 #[.val (.ref a1), .val (.ref a2), .val (.ref a2)] [(.ref a1), (.ref s1)]))
  obtain ⟨T209, X209, e209, st209⟩ := getF X208 hx hZ hown (host := "") (Or.inl (own_w hw 89 rfl)) Via.refl e208 F_value_a1 (g := (mkF m 17 #[.val (.ref a1), .val (.ref a2), .val (.ref a2)] [(.ref a1), (.ref s1)])) rfl rfl (hb hby d43_17)
  refine own_st st209 ?_
  show OGo p e below s _ _ (T209.setTop (mkF m 20 #[.val (.ref a1), .val (.ref a2), .val (.ref a2)] [(.ref s1), (.ref s1)]))
  obtain ⟨T210, X210, e210, st210⟩ := own_callVP X209 hx hZ (y := (⟨"java/lang/String", "equals", "(Ljava/lang/Object;)Z"⟩ : MethodName)) (z := (⟨"java/lang/String", "equals", "(Ljava/lang/Object;)Z"⟩ : MethodName)) (W := 0) hown (own_w hw 243 rfl) (own_w hw 244 rfl) (notFace_of_selects (args := #[]) (mvT hZ (own_w hw 246 rfl))) (own_w hw 246 rfl) (own_w hw 245 rfl) (own_w hw 247 rfl) (own_w hw 10 rfl) (by decide) (e3_ l Z a0 hw s1 s1 h0 rfl) (by decide) (by decide) E_s1 (g := (mkF m 20 #[.val (.ref a1), .val (.ref a2), .val (.ref a2)] [(.ref s1), (.ref s1)])) rfl (by rw [hml]; rfl) (argsL := [(.ref s1)]) (rest := []) (lenOf pd_28 rfl) rfl (by show 2 * 0 + _ ≤ _; exact Nat.le_of_eq rfl) (hb hby d43_20) rfl e209 (by decide) (by decide)
  refine own_st st210 ?_
  show OGo p e below s _ _ (T210.setTop (mkF m 23 #[.val (.ref a1), .val (.ref a2), .val (.ref a2)] [(.int (1 : Int32))]))
  refine own_st (fun _ z => XS.ifNo X210.here hx rfl (hb hby d43_23) rfl ((if0 _ _).trans (feq ((by decide : ¬ (1 : Int32) = (0 : Int32)))).1) z) ?_
  show OGo p e below s _ _ (T210.setTop (mkF m 26 #[.val (.ref a1), .val (.ref a2), .val (.ref a2)] []))
  refine own_st (fun _ z => XS.iconst X210.here hx rfl (hb hby d43_26) z) ?_
  show OGo p e below s _ _ (T210.setTop (mkF m 27 #[.val (.ref a1), .val (.ref a2), .val (.ref a2)] [(.int (1 : Int32))]))
  refine own_st (fun _ z => XS.goto X210.here hx rfl (pc0 := 27) (pc' := 31) rfl (hb hby d43_27) (by decide) (by decide) z) ?_
  show OGo p e below s _ _ (T210.setTop (mkF m 31 #[.val (.ref a1), .val (.ref a2), .val (.ref a2)] [(.int (1 : Int32))]))
  exact own_retN X210 hx hlk (t := .boolean) hret (by simp) (hb hby d43_31) (by decide) (by decide) (⟨rfl, rfl, e210⟩)

set_option maxRecDepth 65536 in
set_option maxHeartbeats 40000000 in
theorem e7_ (l : Launch) (Z : State) (a0 : Array Value) (hw : ∀ d ∈ tables_1, d.before a0 Z = true) (a1 : Addr) (a2 : Addr) (h0 : Heap) (E_a2 : Exa Z h0 a2 "java/lang/String") :
    OPure l Z (⟨"com/example/limpet/limpet/LockName", "equals", "(Ljava/lang/Object;)Z"⟩ : MethodName) prog_3_method_7_code 3 (some .boolean) [] ({ frames := 0, cells := 0, slots := 0, locals := 0 } : Room) #[(.ref a1), (.ref a2)] h0 (some (.int (0 : Int32))) := by
  refine own_body (plainFor_of_name pn_com_example_limpet_limpet_LockName) (fun m => ef_43_RR m a1 a2) ?_
  intro p e s m below meth c T0 hx hby hml hown hnm hret hlk hZ X0 e0
  have hown : s.vm.findClass "com/example/limpet/limpet/LockName" = some m.cls := hown
  have hml : c.maxLocals = 3 := hml
  show OGo p e below s _ _ (T0.setTop (mkF m 0 #[.val (.ref a1), .val (.ref a2), .unset] []))
  refine own_st (fun _ z => XS.aloadN X0.here hx rfl (hb hby d43_0) rfl rfl z) ?_
  show OGo p e below s _ _ (T0.setTop (mkF m 1 #[.val (.ref a1), .val (.ref a2), .unset] [(.ref a2)]))
  obtain ⟨T211, X211, e211, st211⟩ := instNo X0 hx hZ hown (own_w hw 241 rfl) e0 E_a2 (own_no (own_w hw 253 rfl) (own_w hw 254 rfl) (own_w hw 39 rfl) (by decide) (by decide)) (g := (mkF m 1 #[.val (.ref a1), .val (.ref a2), .unset] [(.ref a2)])) rfl rfl (hb hby d43_1)
  refine own_st st211 ?_
  show OGo p e below s _ _ (T211.setTop (mkF m 4 #[.val (.ref a1), .val (.ref a2), .unset] [(.int (0 : Int32))]))
  refine own_st (fun _ z => XS.ifYes X211.here hx rfl (pc0 := 4) (pc' := 30) rfl (hb hby d43_4) rfl ((if0 _ _).trans (teq ((by decide : (0 : Int32) = (0 : Int32)))).1) (by decide) (by decide) z) ?_
  show OGo p e below s _ _ (T211.setTop (mkF m 30 #[.val (.ref a1), .val (.ref a2), .unset] []))
  refine own_st (fun _ z => XS.iconst X211.here hx rfl (hb hby d43_30) z) ?_
  show OGo p e below s _ _ (T211.setTop (mkF m 31 #[.val (.ref a1), .val (.ref a2), .unset] [(.int (0 : Int32))]))
  exact own_retN X211 hx hlk (t := .boolean) hret (by simp) (hb hby d43_31) (by decide) (by decide) (⟨rfl, rfl, e211⟩)
theorem ef_43_R0 (m : MethodId) (x0 : Addr) : entryFrame m #[(.ref x0), .null] 3 = mkF m 0 #[.val (.ref x0), .val .null, .unset] [] := by first | (simp [entryFrame, mkF, argsToLocals, Value.category]; done) | rfl
set_option maxRecDepth 65536 in
set_option maxHeartbeats 40000000 in
theorem e8_ (l : Launch) (Z : State) (a0 : Array Value) (hw : ∀ d ∈ tables_1, d.before a0 Z = true) (a1 : Addr) (h0 : Heap) :
    OPure l Z (⟨"com/example/limpet/limpet/LockName", "equals", "(Ljava/lang/Object;)Z"⟩ : MethodName) prog_3_method_7_code 3 (some .boolean) [] ({ frames := 0, cells := 0, slots := 0, locals := 0 } : Room) #[(.ref a1), .null] h0 (some (.int (0 : Int32))) := by
  refine own_body (plainFor_of_name pn_com_example_limpet_limpet_LockName) (fun m => ef_43_R0 m a1) ?_
  intro p e s m below meth c T0 hx hby hml hown hnm hret hlk hZ X0 e0
  have hown : s.vm.findClass "com/example/limpet/limpet/LockName" = some m.cls := hown
  have hml : c.maxLocals = 3 := hml
  show OGo p e below s _ _ (T0.setTop (mkF m 0 #[.val (.ref a1), .val .null, .unset] []))
  refine own_st (fun _ z => XS.aloadN X0.here hx rfl (hb hby d43_0) rfl rfl z) ?_
  show OGo p e below s _ _ (T0.setTop (mkF m 1 #[.val (.ref a1), .val .null, .unset] [.null]))
  refine own_st (X0.instanceofNull hx (g := (mkF m 1 #[.val (.ref a1), .val .null, .unset] [.null])) rfl rfl (hb hby d43_1)) ?_
  show OGo p e below s _ _ (T0.setTop (mkF m 4 #[.val (.ref a1), .val .null, .unset] [(.int (0 : Int32))]))
  refine own_st (fun _ z => XS.ifYes X0.here hx rfl (pc0 := 4) (pc' := 30) rfl (hb hby d43_4) rfl ((if0 _ _).trans (teq ((by decide : (0 : Int32) = (0 : Int32)))).1) (by decide) (by decide) z) ?_
  show OGo p e below s _ _ (T0.setTop (mkF m 30 #[.val (.ref a1), .val .null, .unset] []))
  refine own_st (fun _ z => XS.iconst X0.here hx rfl (hb hby d43_30) z) ?_
  show OGo p e below s _ _ (T0.setTop (mkF m 31 #[.val (.ref a1), .val .null, .unset] [(.int (0 : Int32))]))
  exact own_retN X0 hx hlk (t := .boolean) hret (by simp) (hb hby d43_31) (by decide) (by decide) (⟨rfl, rfl, e0⟩)
def own_chc (c : Int32) : Int32 := if c < (32 : Int32) then nar .char (c + (32 : Int32)).toUInt32.toUInt16.toUInt32.toInt32 else if c = (123 : Int32) then nar .char (c - (1 : Int32)).toUInt32.toUInt16.toUInt32.toInt32 else if c = (125 : Int32) then nar .char (c - (1 : Int32)).toUInt32.toUInt16.toUInt32.toInt32 else if c = (127 : Int32) then nar .char (c - (1 : Int32)).toUInt32.toUInt16.toUInt32.toInt32 else nar .char c.toUInt32.toUInt16.toUInt32.toInt32
theorem own_ne32 {c : Int32} (n : Int) (d : Int32) (hd : d.toInt = n) (h : c.toInt ≠ n) : ¬ c = d := fun q => by rw [q, hd] at h; exact h rfl
theorem own_chg (c : Int32) (h0 : 0 ≤ c.toInt) (h1 : c.toInt ≤ 255) : own_good (own_chc c) := by
  have r := rng32 c
  have e32 : (32 : Int32).toInt = 32 := by decide
  have e1 : (1 : Int32).toInt = 1 := by decide
  have d123 : (123 : Int32).toInt = 123 := by decide
  have d125 : (125 : Int32).toInt = 125 := by decide
  have d127 : (127 : Int32).toInt = 127 := by decide
  have ka : (c + (32 : Int32)).toInt = c.toInt + 32 := by have h := c_iadd c 32; have r2 := rng32 (c + (32 : Int32)); omega
  have ks : (c - (1 : Int32)).toInt = c.toInt - 1 := by have h := c_isub c 1; have r2 := rng32 (c - (1 : Int32)); omega
  unfold own_chc
  split
  · rename_i h
    rw [Int32.lt_iff_toInt_lt, e32] at h
    rw [own_nci _ (by omega) (by omega)]
    exact ⟨by omega, by omega, own_ne32 _ _ d123 (by omega), own_ne32 _ _ d125 (by omega), own_ne32 _ _ d127 (by omega)⟩
  · rename_i h
    rw [Int32.lt_iff_toInt_lt, e32] at h
    split
    · rename_i q
      subst q
      rw [own_nci _ (by omega) (by omega)]
      exact ⟨by omega, by omega, own_ne32 _ _ d123 (by omega), own_ne32 _ _ d125 (by omega), own_ne32 _ _ d127 (by omega)⟩
    · rename_i q1
      split
      · rename_i q
        subst q
        rw [own_nci _ (by omega) (by omega)]
        exact ⟨by omega, by omega, own_ne32 _ _ d123 (by omega), own_ne32 _ _ d125 (by omega), own_ne32 _ _ d127 (by omega)⟩
      · rename_i q2
        split
        · rename_i q
          subst q
          rw [own_nci _ (by omega) (by omega)]
          exact ⟨by omega, by omega, own_ne32 _ _ d123 (by omega), own_ne32 _ _ d125 (by omega), own_ne32 _ _ d127 (by omega)⟩
        · rename_i q3
          rw [own_nci _ (by omega) (by omega)]
          exact ⟨by omega, by omega, q1, q2, q3⟩
theorem own_che (q : Int32) : ∃ c, own_chc (q &&& (255 : Int32)) = c ∧ own_good c := ⟨_, rfl, by have h := c_mask q (255 : Int32) 8 (by decide) (by decide); exact own_chg _ (by omega) (by omega)⟩
theorem own_m3 (x : Int32) : ∃ y : Nat, (1 : Int32) + ((x &&& (2147483647 : Int32)) % (3 : Int32)) = Int32.ofNat y ∧ (y = 1 ∨ y = 2 ∨ y = 3) := by
  have h := c_mask x (2147483647 : Int32) 31 (by decide) (by decide)
  have h2 := (c_irem (x &&& (2147483647 : Int32)) (3 : Int32) 3 (by decide)).1 (by omega)
  have h3 := c_iadd (1 : Int32) ((x &&& (2147483647 : Int32)) % (3 : Int32))
  have e1 : (1 : Int32).toInt = 1 := by decide
  have e2 : (2 : Int32).toInt = 2 := by decide
  have e3 : (3 : Int32).toInt = 3 := by decide
  generalize hz : (1 : Int32) + ((x &&& (2147483647 : Int32)) % (3 : Int32)) = z at *
  generalize hy : (x &&& (2147483647 : Int32)) % (3 : Int32) = y at *
  have rz := rng32 z
  have : z.toInt = 1 ∨ z.toInt = 2 ∨ z.toInt = 3 := by omega
  rcases this with q | q | q
  · exact ⟨1, Int32.toInt_inj.mp (q.trans e1.symm), Or.inl rfl⟩
  · exact ⟨2, Int32.toInt_inj.mp (q.trans e2.symm), Or.inr (Or.inl rfl)⟩
  · exact ⟨3, Int32.toInt_inj.mp (q.trans e3.symm), Or.inr (Or.inr rfl)⟩
theorem own_ltn {n k : Nat} (h : n < k) (hk : k < 2 ^ 30) : Int32.ofNat n < Int32.ofNat k := (own_lt (by omega) (by omega)).mpr h
theorem own_nltn {n k : Nat} (h : ¬ n < k) (hn : n < 2 ^ 30) (hk : k < 2 ^ 30) : ¬ Int32.ofNat n < Int32.ofNat k := fun q => h ((own_lt (by omega) (by omega)).mp q)
def own_c3 (x y z : Int32) : Nat → Int32 := fun j => if j = 0 then x else if j = 1 then y else z
theorem own_c3g {x y z : Int32} (hx : own_good x) (hy : own_good y) (hz : own_good z) (n : Nat) : ∀ j, j < n → own_good (own_c3 x y z j) := fun j _ => by
  unfold own_c3; split
  · exact hx
  · split
    · exact hy
    · exact hz
theorem own_g255 {c : Int32} (h : own_good c) : ¬ (255 : Int32) < c := by rw [Int32.lt_iff_toInt_lt, show (255 : Int32).toInt = 255 from by decide]; have := h.2.1; omega
theorem own_c3l {x y z : Int32} (hx : own_good x) (hy : own_good y) (hz : own_good z) (n : Nat) : ∀ j, j < n → ¬ (255 : Int32) < own_c3 x y z j := fun j hj => own_g255 (own_c3g hx hy hz n j hj)
theorem pn_com_example_limpet_limpet_LockNameEqualsPinLaw : plainName "com/example/limpet/limpet/LockNameEqualsPinLaw" = true := by first | (simp [plainName, overriddenIn]; done) | decide +kernel
theorem ef_1_I (m : MethodId) (x0 : Int32) : entryFrame m #[(.int x0)] 2 = mkF m 0 #[.val (.int x0), .unset] [] := by first | (simp [entryFrame, mkF, argsToLocals, Value.category]; done) | rfl
theorem d1_0 : decode method_3_code 0 = .ok (.iload_n 0, 1) := by decide +kernel
theorem d1_1 : decode method_3_code 1 = .ok (.sipush 255, 3) := by decide +kernel
theorem d1_4 : decode method_3_code 4 = .ok (.iand, 1) := by decide +kernel
theorem d1_5 : decode method_3_code 5 = .ok (.istore_n 1, 1) := by decide +kernel
theorem d1_6 : decode method_3_code 6 = .ok (.iload_n 1, 1) := by decide +kernel
theorem d1_7 : decode method_3_code 7 = .ok (.bipush 32, 2) := by decide +kernel
theorem d1_9 : decode method_3_code 9 = .ok (.if_icmp .ge 11, 3) := by decide +kernel
theorem d1_12 : decode method_3_code 12 = .ok (.iload_n 1, 1) := by decide +kernel
theorem d1_13 : decode method_3_code 13 = .ok (.bipush 32, 2) := by decide +kernel
theorem d1_15 : decode method_3_code 15 = .ok (.iadd, 1) := by decide +kernel
theorem d1_16 : decode method_3_code 16 = .ok (.istore_n 1, 1) := by decide +kernel
theorem d1_17 : decode method_3_code 17 = .ok (.goto 25, 3) := by decide +kernel
theorem d1_42 : decode method_3_code 42 = .ok (.iload_n 1, 1) := by decide +kernel
theorem d1_43 : decode method_3_code 43 = .ok (.i2c, 1) := by decide +kernel
theorem d1_44 : decode method_3_code 44 = .ok (.ireturn, 1) := by decide +kernel
theorem d1_20 : decode method_3_code 20 = .ok (.iload_n 1, 1) := by decide +kernel
theorem d1_21 : decode method_3_code 21 = .ok (.bipush 123, 2) := by decide +kernel
theorem d1_23 : decode method_3_code 23 = .ok (.if_icmp .eq 15, 3) := by decide +kernel
theorem d1_38 : decode method_3_code 38 = .ok (.iload_n 1, 1) := by decide +kernel
theorem d1_39 : decode method_3_code 39 = .ok (.iconst 1, 1) := by decide +kernel
theorem d1_40 : decode method_3_code 40 = .ok (.isub, 1) := by decide +kernel
theorem d1_41 : decode method_3_code 41 = .ok (.istore_n 1, 1) := by decide +kernel
theorem d1_26 : decode method_3_code 26 = .ok (.iload_n 1, 1) := by decide +kernel
theorem d1_27 : decode method_3_code 27 = .ok (.bipush 125, 2) := by decide +kernel
theorem d1_29 : decode method_3_code 29 = .ok (.if_icmp .eq 9, 3) := by decide +kernel
theorem d1_32 : decode method_3_code 32 = .ok (.iload_n 1, 1) := by decide +kernel
theorem d1_33 : decode method_3_code 33 = .ok (.bipush 127, 2) := by decide +kernel
theorem d1_35 : decode method_3_code 35 = .ok (.if_icmp .ne 7, 3) := by decide +kernel
set_option maxRecDepth 65536 in
set_option maxHeartbeats 40000000 in
theorem rch (l : Launch) (Z : State) (a0 : Array Value) (hw : ∀ d ∈ tables_1, d.before a0 Z = true) (q1 : Int32) (r : Int32) (h0 : Heap) (hr : own_chc (q1 &&& (255 : Int32)) = r) :
    OPure l Z (⟨"com/example/limpet/limpet/LockNameEqualsPinLaw", "ch", "(I)C"⟩ : MethodName) method_3_code 2 (some .char) [] ({ frames := 0, cells := 0, slots := 0, locals := 0 } : Room) #[(.int q1)] h0 (some (.int r)) := by
  refine own_body (plainFor_of_name pn_com_example_limpet_limpet_LockNameEqualsPinLaw) (fun m => ef_1_I m q1) ?_
  intro p e s m below meth c T0 hx hby hml hown hnm hret hlk hZ X0 e0
  have hown : s.vm.findClass "com/example/limpet/limpet/LockNameEqualsPinLaw" = some m.cls := hown
  have hml : c.maxLocals = 2 := hml
  show OGo p e below s _ _ (T0.setTop (mkF m 0 #[.val (.int q1), .unset] []))
  refine own_st (fun _ z => XS.iloadN X0.here hx rfl (hb hby d1_0) rfl z) ?_
  show OGo p e below s _ _ (T0.setTop (mkF m 1 #[.val (.int q1), .unset] [(.int q1)]))
  refine own_st (fun _ z => XS.sipush X0.here hx rfl (hb hby d1_1) z) ?_
  show OGo p e below s _ _ (T0.setTop (mkF m 4 #[.val (.int q1), .unset] [(.int (255 : Int32)), (.int q1)]))
  refine own_st (fun _ z => XS.iand X0.here hx rfl (hb hby d1_4) rfl z) ?_
  show OGo p e below s _ _ (T0.setTop (mkF m 5 #[.val (.int q1), .unset] [(.int (q1 &&& (255 : Int32)))]))
  refine own_st (fun _ z => XS.istoreN X0.here hx rfl (hb hby d1_5) rfl (l' := #[.val (.int q1), .val (.int (q1 &&& (255 : Int32)))]) rfl z) ?_
  show OGo p e below s _ _ (T0.setTop (mkF m 6 #[.val (.int q1), .val (.int (q1 &&& (255 : Int32)))] []))
  refine own_st (fun _ z => XS.iloadN X0.here hx rfl (hb hby d1_6) rfl z) ?_
  show OGo p e below s _ _ (T0.setTop (mkF m 7 #[.val (.int q1), .val (.int (q1 &&& (255 : Int32)))] [(.int (q1 &&& (255 : Int32)))]))
  refine own_st (fun _ z => XS.bipush X0.here hx rfl (hb hby d1_7) z) ?_
  show OGo p e below s _ _ (T0.setTop (mkF m 9 #[.val (.int q1), .val (.int (q1 &&& (255 : Int32)))] [(.int (32 : Int32)), (.int (q1 &&& (255 : Int32)))]))
  by_cases hc9 : (q1 &&& (255 : Int32)) < (32 : Int32)
  · refine own_st (fun _ z => XS.icmpNo X0.here hx rfl (hb hby d1_9) rfl (tlt (hc9)).2.1 z) ?_
    show OGo p e below s _ _ (T0.setTop (mkF m 12 #[.val (.int q1), .val (.int (q1 &&& (255 : Int32)))] []))
    refine own_st (fun _ z => XS.iloadN X0.here hx rfl (hb hby d1_12) rfl z) ?_
    show OGo p e below s _ _ (T0.setTop (mkF m 13 #[.val (.int q1), .val (.int (q1 &&& (255 : Int32)))] [(.int (q1 &&& (255 : Int32)))]))
    refine own_st (fun _ z => XS.bipush X0.here hx rfl (hb hby d1_13) z) ?_
    show OGo p e below s _ _ (T0.setTop (mkF m 15 #[.val (.int q1), .val (.int (q1 &&& (255 : Int32)))] [(.int (32 : Int32)), (.int (q1 &&& (255 : Int32)))]))
    refine own_st (fun _ z => XS.iadd X0.here hx rfl (hb hby d1_15) rfl z) ?_
    show OGo p e below s _ _ (T0.setTop (mkF m 16 #[.val (.int q1), .val (.int (q1 &&& (255 : Int32)))] [(.int ((q1 &&& (255 : Int32)) + (32 : Int32)))]))
    refine own_st (fun _ z => XS.istoreN X0.here hx rfl (hb hby d1_16) rfl (l' := #[.val (.int q1), .val (.int ((q1 &&& (255 : Int32)) + (32 : Int32)))]) rfl z) ?_
    show OGo p e below s _ _ (T0.setTop (mkF m 17 #[.val (.int q1), .val (.int ((q1 &&& (255 : Int32)) + (32 : Int32)))] []))
    refine own_st (fun _ z => XS.goto X0.here hx rfl (pc0 := 17) (pc' := 42) rfl (hb hby d1_17) (by decide) (by decide) z) ?_
    show OGo p e below s _ _ (T0.setTop (mkF m 42 #[.val (.int q1), .val (.int ((q1 &&& (255 : Int32)) + (32 : Int32)))] []))
    refine own_st (fun _ z => XS.iloadN X0.here hx rfl (hb hby d1_42) rfl z) ?_
    show OGo p e below s _ _ (T0.setTop (mkF m 43 #[.val (.int q1), .val (.int ((q1 &&& (255 : Int32)) + (32 : Int32)))] [(.int ((q1 &&& (255 : Int32)) + (32 : Int32)))]))
    refine own_st (fun _ z => XS.i2c X0.here hx rfl (hb hby d1_43) rfl z) ?_
    show OGo p e below s _ _ (T0.setTop (mkF m 44 #[.val (.int q1), .val (.int ((q1 &&& (255 : Int32)) + (32 : Int32)))] [(.int ((q1 &&& (255 : Int32)) + (32 : Int32)).toUInt32.toUInt16.toUInt32.toInt32)]))
    exact own_retN X0 hx hlk (t := .char) hret (by simp) (hb hby d1_44) (by decide) (by decide) (⟨by rw [← hr]; simp [own_chc, hc9], rfl, e0⟩)
  · refine own_st (fun _ z => XS.icmpYes X0.here hx rfl (pc0 := 9) (pc' := 20) rfl (hb hby d1_9) rfl (flt (hc9)).2.1 (by decide) (by decide) z) ?_
    show OGo p e below s _ _ (T0.setTop (mkF m 20 #[.val (.int q1), .val (.int (q1 &&& (255 : Int32)))] []))
    refine own_st (fun _ z => XS.iloadN X0.here hx rfl (hb hby d1_20) rfl z) ?_
    show OGo p e below s _ _ (T0.setTop (mkF m 21 #[.val (.int q1), .val (.int (q1 &&& (255 : Int32)))] [(.int (q1 &&& (255 : Int32)))]))
    refine own_st (fun _ z => XS.bipush X0.here hx rfl (hb hby d1_21) z) ?_
    show OGo p e below s _ _ (T0.setTop (mkF m 23 #[.val (.int q1), .val (.int (q1 &&& (255 : Int32)))] [(.int (123 : Int32)), (.int (q1 &&& (255 : Int32)))]))
    by_cases hc23 : (q1 &&& (255 : Int32)) = (123 : Int32)
    · refine own_st (fun _ z => XS.icmpYes X0.here hx rfl (pc0 := 23) (pc' := 38) rfl (hb hby d1_23) rfl (teq (hc23)).1 (by decide) (by decide) z) ?_
      show OGo p e below s _ _ (T0.setTop (mkF m 38 #[.val (.int q1), .val (.int (q1 &&& (255 : Int32)))] []))
      refine own_st (fun _ z => XS.iloadN X0.here hx rfl (hb hby d1_38) rfl z) ?_
      show OGo p e below s _ _ (T0.setTop (mkF m 39 #[.val (.int q1), .val (.int (q1 &&& (255 : Int32)))] [(.int (q1 &&& (255 : Int32)))]))
      refine own_st (fun _ z => XS.iconst X0.here hx rfl (hb hby d1_39) z) ?_
      show OGo p e below s _ _ (T0.setTop (mkF m 40 #[.val (.int q1), .val (.int (q1 &&& (255 : Int32)))] [(.int (1 : Int32)), (.int (q1 &&& (255 : Int32)))]))
      refine own_st (fun _ z => XS.isub X0.here hx rfl (hb hby d1_40) rfl z) ?_
      show OGo p e below s _ _ (T0.setTop (mkF m 41 #[.val (.int q1), .val (.int (q1 &&& (255 : Int32)))] [(.int ((q1 &&& (255 : Int32)) - (1 : Int32)))]))
      refine own_st (fun _ z => XS.istoreN X0.here hx rfl (hb hby d1_41) rfl (l' := #[.val (.int q1), .val (.int ((q1 &&& (255 : Int32)) - (1 : Int32)))]) rfl z) ?_
      show OGo p e below s _ _ (T0.setTop (mkF m 42 #[.val (.int q1), .val (.int ((q1 &&& (255 : Int32)) - (1 : Int32)))] []))
      refine own_st (fun _ z => XS.iloadN X0.here hx rfl (hb hby d1_42) rfl z) ?_
      show OGo p e below s _ _ (T0.setTop (mkF m 43 #[.val (.int q1), .val (.int ((q1 &&& (255 : Int32)) - (1 : Int32)))] [(.int ((q1 &&& (255 : Int32)) - (1 : Int32)))]))
      refine own_st (fun _ z => XS.i2c X0.here hx rfl (hb hby d1_43) rfl z) ?_
      show OGo p e below s _ _ (T0.setTop (mkF m 44 #[.val (.int q1), .val (.int ((q1 &&& (255 : Int32)) - (1 : Int32)))] [(.int ((q1 &&& (255 : Int32)) - (1 : Int32)).toUInt32.toUInt16.toUInt32.toInt32)]))
      exact own_retN X0 hx hlk (t := .char) hret (by simp) (hb hby d1_44) (by decide) (by decide) (⟨by rw [← hr]; simp [own_chc, hc9, hc23], rfl, e0⟩)
    · refine own_st (fun _ z => XS.icmpNo X0.here hx rfl (hb hby d1_23) rfl (feq (hc23)).1 z) ?_
      show OGo p e below s _ _ (T0.setTop (mkF m 26 #[.val (.int q1), .val (.int (q1 &&& (255 : Int32)))] []))
      refine own_st (fun _ z => XS.iloadN X0.here hx rfl (hb hby d1_26) rfl z) ?_
      show OGo p e below s _ _ (T0.setTop (mkF m 27 #[.val (.int q1), .val (.int (q1 &&& (255 : Int32)))] [(.int (q1 &&& (255 : Int32)))]))
      refine own_st (fun _ z => XS.bipush X0.here hx rfl (hb hby d1_27) z) ?_
      show OGo p e below s _ _ (T0.setTop (mkF m 29 #[.val (.int q1), .val (.int (q1 &&& (255 : Int32)))] [(.int (125 : Int32)), (.int (q1 &&& (255 : Int32)))]))
      by_cases hc29 : (q1 &&& (255 : Int32)) = (125 : Int32)
      · refine own_st (fun _ z => XS.icmpYes X0.here hx rfl (pc0 := 29) (pc' := 38) rfl (hb hby d1_29) rfl (teq (hc29)).1 (by decide) (by decide) z) ?_
        show OGo p e below s _ _ (T0.setTop (mkF m 38 #[.val (.int q1), .val (.int (q1 &&& (255 : Int32)))] []))
        refine own_st (fun _ z => XS.iloadN X0.here hx rfl (hb hby d1_38) rfl z) ?_
        show OGo p e below s _ _ (T0.setTop (mkF m 39 #[.val (.int q1), .val (.int (q1 &&& (255 : Int32)))] [(.int (q1 &&& (255 : Int32)))]))
        refine own_st (fun _ z => XS.iconst X0.here hx rfl (hb hby d1_39) z) ?_
        show OGo p e below s _ _ (T0.setTop (mkF m 40 #[.val (.int q1), .val (.int (q1 &&& (255 : Int32)))] [(.int (1 : Int32)), (.int (q1 &&& (255 : Int32)))]))
        refine own_st (fun _ z => XS.isub X0.here hx rfl (hb hby d1_40) rfl z) ?_
        show OGo p e below s _ _ (T0.setTop (mkF m 41 #[.val (.int q1), .val (.int (q1 &&& (255 : Int32)))] [(.int ((q1 &&& (255 : Int32)) - (1 : Int32)))]))
        refine own_st (fun _ z => XS.istoreN X0.here hx rfl (hb hby d1_41) rfl (l' := #[.val (.int q1), .val (.int ((q1 &&& (255 : Int32)) - (1 : Int32)))]) rfl z) ?_
        show OGo p e below s _ _ (T0.setTop (mkF m 42 #[.val (.int q1), .val (.int ((q1 &&& (255 : Int32)) - (1 : Int32)))] []))
        refine own_st (fun _ z => XS.iloadN X0.here hx rfl (hb hby d1_42) rfl z) ?_
        show OGo p e below s _ _ (T0.setTop (mkF m 43 #[.val (.int q1), .val (.int ((q1 &&& (255 : Int32)) - (1 : Int32)))] [(.int ((q1 &&& (255 : Int32)) - (1 : Int32)))]))
        refine own_st (fun _ z => XS.i2c X0.here hx rfl (hb hby d1_43) rfl z) ?_
        show OGo p e below s _ _ (T0.setTop (mkF m 44 #[.val (.int q1), .val (.int ((q1 &&& (255 : Int32)) - (1 : Int32)))] [(.int ((q1 &&& (255 : Int32)) - (1 : Int32)).toUInt32.toUInt16.toUInt32.toInt32)]))
        exact own_retN X0 hx hlk (t := .char) hret (by simp) (hb hby d1_44) (by decide) (by decide) (⟨by rw [← hr]; simp [own_chc, hc9, hc23, hc29], rfl, e0⟩)
      · refine own_st (fun _ z => XS.icmpNo X0.here hx rfl (hb hby d1_29) rfl (feq (hc29)).1 z) ?_
        show OGo p e below s _ _ (T0.setTop (mkF m 32 #[.val (.int q1), .val (.int (q1 &&& (255 : Int32)))] []))
        refine own_st (fun _ z => XS.iloadN X0.here hx rfl (hb hby d1_32) rfl z) ?_
        show OGo p e below s _ _ (T0.setTop (mkF m 33 #[.val (.int q1), .val (.int (q1 &&& (255 : Int32)))] [(.int (q1 &&& (255 : Int32)))]))
        refine own_st (fun _ z => XS.bipush X0.here hx rfl (hb hby d1_33) z) ?_
        show OGo p e below s _ _ (T0.setTop (mkF m 35 #[.val (.int q1), .val (.int (q1 &&& (255 : Int32)))] [(.int (127 : Int32)), (.int (q1 &&& (255 : Int32)))]))
        by_cases hc35 : (q1 &&& (255 : Int32)) = (127 : Int32)
        · refine own_st (fun _ z => XS.icmpNo X0.here hx rfl (hb hby d1_35) rfl (teq (hc35)).2 z) ?_
          show OGo p e below s _ _ (T0.setTop (mkF m 38 #[.val (.int q1), .val (.int (q1 &&& (255 : Int32)))] []))
          refine own_st (fun _ z => XS.iloadN X0.here hx rfl (hb hby d1_38) rfl z) ?_
          show OGo p e below s _ _ (T0.setTop (mkF m 39 #[.val (.int q1), .val (.int (q1 &&& (255 : Int32)))] [(.int (q1 &&& (255 : Int32)))]))
          refine own_st (fun _ z => XS.iconst X0.here hx rfl (hb hby d1_39) z) ?_
          show OGo p e below s _ _ (T0.setTop (mkF m 40 #[.val (.int q1), .val (.int (q1 &&& (255 : Int32)))] [(.int (1 : Int32)), (.int (q1 &&& (255 : Int32)))]))
          refine own_st (fun _ z => XS.isub X0.here hx rfl (hb hby d1_40) rfl z) ?_
          show OGo p e below s _ _ (T0.setTop (mkF m 41 #[.val (.int q1), .val (.int (q1 &&& (255 : Int32)))] [(.int ((q1 &&& (255 : Int32)) - (1 : Int32)))]))
          refine own_st (fun _ z => XS.istoreN X0.here hx rfl (hb hby d1_41) rfl (l' := #[.val (.int q1), .val (.int ((q1 &&& (255 : Int32)) - (1 : Int32)))]) rfl z) ?_
          show OGo p e below s _ _ (T0.setTop (mkF m 42 #[.val (.int q1), .val (.int ((q1 &&& (255 : Int32)) - (1 : Int32)))] []))
          refine own_st (fun _ z => XS.iloadN X0.here hx rfl (hb hby d1_42) rfl z) ?_
          show OGo p e below s _ _ (T0.setTop (mkF m 43 #[.val (.int q1), .val (.int ((q1 &&& (255 : Int32)) - (1 : Int32)))] [(.int ((q1 &&& (255 : Int32)) - (1 : Int32)))]))
          refine own_st (fun _ z => XS.i2c X0.here hx rfl (hb hby d1_43) rfl z) ?_
          show OGo p e below s _ _ (T0.setTop (mkF m 44 #[.val (.int q1), .val (.int ((q1 &&& (255 : Int32)) - (1 : Int32)))] [(.int ((q1 &&& (255 : Int32)) - (1 : Int32)).toUInt32.toUInt16.toUInt32.toInt32)]))
          exact own_retN X0 hx hlk (t := .char) hret (by simp) (hb hby d1_44) (by decide) (by decide) (⟨by rw [← hr]; simp [own_chc, hc9, hc23, hc29, hc35], rfl, e0⟩)
        · refine own_st (fun _ z => XS.icmpYes X0.here hx rfl (pc0 := 35) (pc' := 42) rfl (hb hby d1_35) rfl (feq (hc35)).2 (by decide) (by decide) z) ?_
          show OGo p e below s _ _ (T0.setTop (mkF m 42 #[.val (.int q1), .val (.int (q1 &&& (255 : Int32)))] []))
          refine own_st (fun _ z => XS.iloadN X0.here hx rfl (hb hby d1_42) rfl z) ?_
          show OGo p e below s _ _ (T0.setTop (mkF m 43 #[.val (.int q1), .val (.int (q1 &&& (255 : Int32)))] [(.int (q1 &&& (255 : Int32)))]))
          refine own_st (fun _ z => XS.i2c X0.here hx rfl (hb hby d1_43) rfl z) ?_
          show OGo p e below s _ _ (T0.setTop (mkF m 44 #[.val (.int q1), .val (.int (q1 &&& (255 : Int32)))] [(.int (q1 &&& (255 : Int32)).toUInt32.toUInt16.toUInt32.toInt32)]))
          exact own_retN X0 hx hlk (t := .char) hret (by simp) (hb hby d1_44) (by decide) (by decide) (⟨by rw [← hr]; simp [own_chc, hc9, hc23, hc29, hc35], rfl, e0⟩)
theorem d2_0 : decode method_4_code 0 = .ok (.iload_n 3, 1) := by decide +kernel
theorem d2_1 : decode method_4_code 1 = .ok (.iconst 1, 1) := by decide +kernel
theorem d2_2 : decode method_4_code 2 = .ok (.if_icmp .ne 18, 3) := by decide +kernel
theorem d2_5 : decode method_4_code 5 = .ok (.new 27, 3) := by decide +kernel
theorem d2_8 : decode method_4_code 8 = .ok (.dup, 1) := by decide +kernel
theorem d2_9 : decode method_4_code 9 = .ok (.iconst 1, 1) := by decide +kernel
theorem d2_10 : decode method_4_code 10 = .ok (.newarray .char, 2) := by decide +kernel
theorem d2_12 : decode method_4_code 12 = .ok (.dup, 1) := by decide +kernel
theorem d2_13 : decode method_4_code 13 = .ok (.iconst 0, 1) := by decide +kernel
theorem d2_14 : decode method_4_code 14 = .ok (.iload_n 0, 1) := by decide +kernel
theorem d2_15 : decode method_4_code 15 = .ok (.castore, 1) := by decide +kernel
theorem d2_16 : decode method_4_code 16 = .ok (.invokespecial 29, 3) := by decide +kernel
theorem pd_29 : parseMethodDescriptor "([C)V" = some ⟨[(.array .char)], none⟩ := by decide +kernel
theorem d2_19 : decode method_4_code 19 = .ok (.areturn, 1) := by decide +kernel
theorem d2_20 : decode method_4_code 20 = .ok (.iload_n 3, 1) := by decide +kernel
theorem d2_21 : decode method_4_code 21 = .ok (.iconst 2, 1) := by decide +kernel
theorem d2_22 : decode method_4_code 22 = .ok (.if_icmp .ne 22, 3) := by decide +kernel
theorem d2_25 : decode method_4_code 25 = .ok (.new 27, 3) := by decide +kernel
theorem d2_28 : decode method_4_code 28 = .ok (.dup, 1) := by decide +kernel
theorem d2_29 : decode method_4_code 29 = .ok (.iconst 2, 1) := by decide +kernel
theorem d2_30 : decode method_4_code 30 = .ok (.newarray .char, 2) := by decide +kernel
theorem d2_32 : decode method_4_code 32 = .ok (.dup, 1) := by decide +kernel
theorem d2_33 : decode method_4_code 33 = .ok (.iconst 0, 1) := by decide +kernel
theorem d2_34 : decode method_4_code 34 = .ok (.iload_n 0, 1) := by decide +kernel
theorem d2_35 : decode method_4_code 35 = .ok (.castore, 1) := by decide +kernel
theorem d2_36 : decode method_4_code 36 = .ok (.dup, 1) := by decide +kernel
theorem d2_37 : decode method_4_code 37 = .ok (.iconst 1, 1) := by decide +kernel
theorem d2_38 : decode method_4_code 38 = .ok (.iload_n 1, 1) := by decide +kernel
theorem d2_39 : decode method_4_code 39 = .ok (.castore, 1) := by decide +kernel
theorem d2_40 : decode method_4_code 40 = .ok (.invokespecial 29, 3) := by decide +kernel
theorem d2_43 : decode method_4_code 43 = .ok (.areturn, 1) := by decide +kernel
theorem d2_44 : decode method_4_code 44 = .ok (.new 27, 3) := by decide +kernel
theorem d2_47 : decode method_4_code 47 = .ok (.dup, 1) := by decide +kernel
theorem d2_48 : decode method_4_code 48 = .ok (.iconst 3, 1) := by decide +kernel
theorem d2_49 : decode method_4_code 49 = .ok (.newarray .char, 2) := by decide +kernel
theorem d2_51 : decode method_4_code 51 = .ok (.dup, 1) := by decide +kernel
theorem d2_52 : decode method_4_code 52 = .ok (.iconst 0, 1) := by decide +kernel
theorem d2_53 : decode method_4_code 53 = .ok (.iload_n 0, 1) := by decide +kernel
theorem d2_54 : decode method_4_code 54 = .ok (.castore, 1) := by decide +kernel
theorem d2_55 : decode method_4_code 55 = .ok (.dup, 1) := by decide +kernel
theorem d2_56 : decode method_4_code 56 = .ok (.iconst 1, 1) := by decide +kernel
theorem d2_57 : decode method_4_code 57 = .ok (.iload_n 1, 1) := by decide +kernel
theorem d2_58 : decode method_4_code 58 = .ok (.castore, 1) := by decide +kernel
theorem d2_59 : decode method_4_code 59 = .ok (.dup, 1) := by decide +kernel
theorem d2_60 : decode method_4_code 60 = .ok (.iconst 2, 1) := by decide +kernel
theorem d2_61 : decode method_4_code 61 = .ok (.iload_n 2, 1) := by decide +kernel
theorem d2_62 : decode method_4_code 62 = .ok (.castore, 1) := by decide +kernel
theorem d2_63 : decode method_4_code 63 = .ok (.invokespecial 29, 3) := by decide +kernel
theorem d2_66 : decode method_4_code 66 = .ok (.areturn, 1) := by decide +kernel
theorem ef_2_IIII (m : MethodId) (x0 : Int32) (x1 : Int32) (x2 : Int32) (x3 : Int32) : entryFrame m #[(.int x0), (.int x1), (.int x2), (.int x3)] 4 = mkF m 0 #[.val (.int x0), .val (.int x1), .val (.int x2), .val (.int x3)] [] := by first | (simp [entryFrame, mkF, argsToLocals, Value.category]; done) | rfl
set_option maxRecDepth 65536 in
set_option maxHeartbeats 40000000 in
theorem rmk (l : Launch) (Z : State) (a0 : Array Value) (hw : ∀ d ∈ tables_1, d.before a0 Z = true) (q1 : Int32) (q2 : Int32) (q3 : Int32) (n : Nat) (cs : Int32) (h0 : Heap) (n0 : Nat) (Z0 : n0 ≤ h0.size) (S_COMPACT_STRINGS : Sta Z h0 "java/lang/String" "COMPACT_STRINGS" "Z" (.int cs)) (hcs : ¬ cs = (0 : Int32)) (hn : n = 1 ∨ n = 2 ∨ n = 3) (g_q1 : own_good q1) (g_q2 : own_good q2) (g_q3 : own_good q3) :
    OMet l Z (⟨"com/example/limpet/limpet/LockNameEqualsPinLaw", "mk", "(CCCI)Ljava/lang/String;"⟩ : MethodName) method_4_code 4 (some (.object "java/lang/String")) [] ({ frames := 4, cells := 3, slots := 10, locals := 66 } : Room) #[(.int q1), (.int q2), (.int q3), (.int (Int32.ofNat n))] h0 (fun v h' L => ∃ b1 t1 : Addr, v = some (.ref b1) ∧ Fr n0 L ∧ Keep h0 h' [] ∧ h0.size ≤ b1 ∧ h0.size ≤ t1 ∧ b1 ≠ t1 ∧ Exa Z h' b1 "java/lang/String" ∧ Fld Z h' b1 "java/lang/String" "coder" "B" (.int (0 : Int32)) ∧ Fld Z h' b1 "java/lang/String" "value" "[B" (.ref t1) ∧ OAr Z h' t1 .byte n (fun j => .int (own_lb ((own_c3 q1 q2 q3) j)))) := by
  refine own_body (plainFor_of_name pn_com_example_limpet_limpet_LockNameEqualsPinLaw) (fun m => ef_2_IIII m q1 q2 q3 (Int32.ofNat n)) ?_
  intro p e s m below meth c T0 hx hby hml hown hnm hret hlk hZ X0 e0
  have hown : s.vm.findClass "com/example/limpet/limpet/LockNameEqualsPinLaw" = some m.cls := hown
  have hml : c.maxLocals = 4 := hml
  have N0 := Fr.nil n0
  have K0 := Keep.refl h0 []
  show OGo p e below s _ _ (T0.setTop (mkF m 0 #[.val (.int q1), .val (.int q2), .val (.int q3), .val (.int (Int32.ofNat n))] []))
  rcases hn with hn1 | hn2 | hn3
  · refine own_st (fun _ z => XS.iloadN X0.here hx rfl (hb hby d2_0) rfl z) ?_
    show OGo p e below s _ _ (T0.setTop (mkF m 1 #[.val (.int q1), .val (.int q2), .val (.int q3), .val (.int (Int32.ofNat n))] [(.int (Int32.ofNat n))]))
    refine own_st (fun _ z => XS.iconst X0.here hx rfl (hb hby d2_1) z) ?_
    show OGo p e below s _ _ (T0.setTop (mkF m 2 #[.val (.int q1), .val (.int q2), .val (.int q3), .val (.int (Int32.ofNat n))] [(.int (1 : Int32)), (.int (Int32.ofNat n))]))
    refine own_st (fun _ z => XS.icmpNo X0.here hx rfl (hb hby d2_2) rfl (teq ((by rw [hn1]; decide))).2 z) ?_
    show OGo p e below s _ _ (T0.setTop (mkF m 5 #[.val (.int q1), .val (.int q2), .val (.int q3), .val (.int (Int32.ofNat n))] []))
    obtain ⟨T213, hp213, X213, e213, Ex213, Aa213, Dd213, -, st213⟩ := newO X0 hx hZ hown (own_w hw 8 rfl) (own_w hw 9 rfl) (own_w hw 10 rfl) e0 (g := (mkF m 5 #[.val (.int q1), .val (.int q2), .val (.int q3), .val (.int (Int32.ofNat n))] [])) rfl (hb hby d2_5) (by decide) (by decide)
    obtain ⟨b1, gs213⟩ : ∃ z, z = h0.size := ⟨_, rfl⟩
    rw [← gs213] at Aa213 Dd213 st213
    have old_b1 : n0 ≤ b1 := Nat.le_trans Z0 (Nat.le_of_eq gs213.symm)
    have fr_b1 : h0.size ≤ b1 := Nat.le_trans K0.1 (Nat.le_of_eq gs213.symm)
    have K0 := K0.ext Ex213
    have Z0 := Nat.le_trans Z0 Ex213.1
    have S_COMPACT_STRINGS := S_COMPACT_STRINGS.ext Ex213
    have E_b1 := Aa213
    have F_coder_b1 : Fld Z hp213 b1 "java/lang/String" "coder" "B" (.int (0 : Int32)) := Dd213 (Or.inr (own_w hw 35 rfl)) (ty := .byte) (by decide)
    have F_value_b1 : Fld Z hp213 b1 "java/lang/String" "value" "[B" .null := Dd213 (Or.inr (own_w hw 37 rfl)) (ty := (.array .byte)) (by decide)
    refine own_st st213 ?_
    show OGo p e below s _ _ (T213.setTop (mkF m 8 #[.val (.int q1), .val (.int q2), .val (.int q3), .val (.int (Int32.ofNat n))] [(.ref b1)]))
    refine own_st (fun _ z => XS.dup X213.here hx rfl (hb hby d2_8) rfl rfl z) ?_
    show OGo p e below s _ _ (T213.setTop (mkF m 9 #[.val (.int q1), .val (.int q2), .val (.int q3), .val (.int (Int32.ofNat n))] [(.ref b1), (.ref b1)]))
    refine own_st (fun _ z => XS.iconst X213.here hx rfl (hb hby d2_9) z) ?_
    show OGo p e below s _ _ (T213.setTop (mkF m 10 #[.val (.int q1), .val (.int q2), .val (.int q3), .val (.int (Int32.ofNat n))] [(.int (1 : Int32)), (.ref b1), (.ref b1)]))
    obtain ⟨T214, hp214, kk214, X214, e214, Ex214, Aa214, st214⟩ := newP X213 hx hZ (own_w hw 11 rfl) e213 (g := (mkF m 10 #[.val (.int q1), .val (.int q2), .val (.int q3), .val (.int (Int32.ofNat n))] [(.int (1 : Int32)), (.ref b1), (.ref b1)])) rfl (hb hby d2_10) rfl (by decide) (cap := 1) (by decide) (by decide) (by decide) (by decide)
    obtain ⟨ax, gs214⟩ : ∃ z, z = hp213.size := ⟨_, rfl⟩
    rw [← gs214] at Aa214 st214
    have ne_b1_ax : b1 ≠ ax := Nat.ne_of_lt (Nat.lt_of_lt_of_le E_b1.lt (Nat.le_of_eq gs214.symm))
    have old_ax : n0 ≤ ax := Nat.le_trans Z0 (Nat.le_of_eq gs214.symm)
    have fr_ax : h0.size ≤ ax := Nat.le_trans K0.1 (Nat.le_of_eq gs214.symm)
    have K0 := K0.ext Ex214
    have Z0 := Nat.le_trans Z0 Ex214.1
    have S_COMPACT_STRINGS := S_COMPACT_STRINGS.ext Ex214
    have E_b1 := E_b1.ext Ex214
    have F_coder_b1 := F_coder_b1.ext Ex214
    have F_value_b1 := F_value_b1.ext Ex214
    have A_ax := OAr.new Aa214
    refine own_st st214 ?_
    show OGo p e below s _ _ (T214.setTop (mkF m 12 #[.val (.int q1), .val (.int q2), .val (.int q3), .val (.int (Int32.ofNat n))] [(.ref ax), (.ref b1), (.ref b1)]))
    refine own_st (fun _ z => XS.dup X214.here hx rfl (hb hby d2_12) rfl rfl z) ?_
    show OGo p e below s _ _ (T214.setTop (mkF m 13 #[.val (.int q1), .val (.int q2), .val (.int q3), .val (.int (Int32.ofNat n))] [(.ref ax), (.ref ax), (.ref b1), (.ref b1)]))
    refine own_st (fun _ z => XS.iconst X214.here hx rfl (hb hby d2_13) z) ?_
    show OGo p e below s _ _ (T214.setTop (mkF m 14 #[.val (.int q1), .val (.int q2), .val (.int q3), .val (.int (Int32.ofNat n))] [(.int (0 : Int32)), (.ref ax), (.ref ax), (.ref b1), (.ref b1)]))
    refine own_st (fun _ z => XS.iloadN X214.here hx rfl (hb hby d2_14) rfl z) ?_
    show OGo p e below s _ _ (T214.setTop (mkF m 15 #[.val (.int q1), .val (.int q2), .val (.int q3), .val (.int (Int32.ofNat n))] [(.int q1), (.int (0 : Int32)), (.ref ax), (.ref ax), (.ref b1), (.ref b1)]))
    obtain ⟨cl215, Ar215, Sz215, Hh215⟩ := id A_ax
    obtain ⟨T215, hp215, X215, e215, Ww215, st215⟩ := stC X214 hx hZ e214 Ar215 (j := (0 : Int32)) (own_in Sz215 (by decide) (by decide)) (g := (mkF m 15 #[.val (.int q1), .val (.int q2), .val (.int q3), .val (.int (Int32.ofNat n))] [(.int q1), (.int (0 : Int32)), (.ref ax), (.ref ax), (.ref b1), (.ref b1)])) rfl rfl (hb hby d2_15)
    have Nf215 := Fr.snoc X215 N0 old_ax
    have Z0 := Nat.le_trans Z0 (Keep.of_wr Ww215).1
    have K0 := K0.wr Ww215 (Or.inr fr_ax)
    have S_COMPACT_STRINGS := S_COMPACT_STRINGS.wr Ww215
    have E_b1 := E_b1.wr Ww215
    have F_coder_b1 := F_coder_b1.other Ww215 (Or.inl ne_b1_ax)
    have F_value_b1 := F_value_b1.other Ww215 (Or.inl ne_b1_ax)
    have A_ax := OAr.set Ar215 Sz215 Hh215 Ww215
    refine own_st st215 ?_
    show OGo p e below s _ _ (T215.setTop (mkF m 16 #[.val (.int q1), .val (.int q2), .val (.int q3), .val (.int (Int32.ofNat n))] [(.ref ax), (.ref b1), (.ref b1)]))
    have A_ax : OAr Z hp215 ax .char n (fun j => .int (own_c3 q1 q2 q3 j)) := by
      rw [hn1]
      exact A_ax.cong (fun j hj => by
        have : j = 0 := by have : j < 1 := hj; omega
        rcases this with rfl
        · exact congrArg Value.int (own_nc q1 (by have := g_q1.1; omega) (by have := g_q1.2.1; omega)))
    obtain ⟨_, T216, Lc216, X216, hQ216, st216⟩ := own_callI X215 hx hZ (y := (⟨"java/lang/String", "<init>", "([C)V"⟩ : MethodName)) (W := 1) rfl hown (own_w hw 12 rfl) (own_w hw 13 rfl) (own_w hw 14 rfl) (own_w hw 10 rfl) (by decide) (sc5 l Z a0 hw b1 ax n (own_c3 q1 q2 q3) cs hp215 n0 Z0 old_b1 (Ne.symm ne_b1_ax) E_b1 F_coder_b1 F_value_b1 A_ax S_COMPACT_STRINGS (by omega) (by omega) (own_c3l g_q1 g_q2 g_q3 n) hcs) (by decide) (by decide) (a := b1) (g := (mkF m 16 #[.val (.int q1), .val (.int q2), .val (.int q3), .val (.int (Int32.ofNat n))] [(.ref ax), (.ref b1), (.ref b1)])) rfl (by rw [hml]; rfl) (argsL := [(.ref ax)]) (rest := [(.ref b1)]) (lenOf pd_29 rfl) rfl (by show 2 * 0 + _ ≤ _; exact Nat.le_of_eq rfl) (hb hby d2_16) rfl e215 (by decide) (by decide)
    obtain ⟨t1, rfl, Nq216, Kq216, fq216_t1, q216_0, q216_1, q216_2, q216_3⟩ := hQ216
    have ne_b1_t1 : b1 ≠ t1 := Nat.ne_of_lt (Nat.lt_of_lt_of_le E_b1.lt fq216_t1)
    have ne_ax_t1 : ax ≠ t1 := Nat.ne_of_lt (Nat.lt_of_lt_of_le A_ax.lt fq216_t1)
    have old_t1 : n0 ≤ t1 := Nat.le_trans Z0 fq216_t1
    have fr_t1 : h0.size ≤ t1 := Nat.le_trans K0.1 fq216_t1
    have hpl_Kq216 : ∀ w ∈ [b1], ∃ c : Cell, hp215[w]? = some c ∧ c.vm.isStatics = false := (allS (own_pl_exa E_b1) all0)
    have Z0 := Nat.le_trans Z0 Kq216.1
    have K0 := K0.trans Kq216 (allS (Or.inr fr_b1) all0)
    have S_COMPACT_STRINGS := own_sta_keep S_COMPACT_STRINGS Kq216 hpl_Kq216
    have A_ax := A_ax.keep Kq216 (ninS (Ne.symm ne_b1_ax) nin0)
    have Nr216 := Fr.app Nf215 Nq216
    have E_b1 := q216_0
    have F_coder_b1 := q216_1
    have F_value_b1 := q216_2
    have A_t1 := q216_3
    refine own_st st216 ?_
    show OGo p e below s _ _ (T216.setTop (mkF m 19 #[.val (.int q1), .val (.int q2), .val (.int q3), .val (.int (Int32.ofNat n))] [(.ref b1)]))
    exact own_retA X216 hx hlk hret rfl rfl (hb hby d2_19) (by decide) (by decide) (⟨b1, t1, rfl, Nr216, K0, fr_b1, fr_t1, (ne_b1_t1), E_b1, F_coder_b1, F_value_b1, A_t1⟩)
  · refine own_st (fun _ z => XS.iloadN X0.here hx rfl (hb hby d2_0) rfl z) ?_
    show OGo p e below s _ _ (T0.setTop (mkF m 1 #[.val (.int q1), .val (.int q2), .val (.int q3), .val (.int (Int32.ofNat n))] [(.int (Int32.ofNat n))]))
    refine own_st (fun _ z => XS.iconst X0.here hx rfl (hb hby d2_1) z) ?_
    show OGo p e below s _ _ (T0.setTop (mkF m 2 #[.val (.int q1), .val (.int q2), .val (.int q3), .val (.int (Int32.ofNat n))] [(.int (1 : Int32)), (.int (Int32.ofNat n))]))
    refine own_st (fun _ z => XS.icmpYes X0.here hx rfl (pc0 := 2) (pc' := 20) rfl (hb hby d2_2) rfl (feq ((by rw [hn2]; decide))).2 (by decide) (by decide) z) ?_
    show OGo p e below s _ _ (T0.setTop (mkF m 20 #[.val (.int q1), .val (.int q2), .val (.int q3), .val (.int (Int32.ofNat n))] []))
    refine own_st (fun _ z => XS.iloadN X0.here hx rfl (hb hby d2_20) rfl z) ?_
    show OGo p e below s _ _ (T0.setTop (mkF m 21 #[.val (.int q1), .val (.int q2), .val (.int q3), .val (.int (Int32.ofNat n))] [(.int (Int32.ofNat n))]))
    refine own_st (fun _ z => XS.iconst X0.here hx rfl (hb hby d2_21) z) ?_
    show OGo p e below s _ _ (T0.setTop (mkF m 22 #[.val (.int q1), .val (.int q2), .val (.int q3), .val (.int (Int32.ofNat n))] [(.int (2 : Int32)), (.int (Int32.ofNat n))]))
    refine own_st (fun _ z => XS.icmpNo X0.here hx rfl (hb hby d2_22) rfl (teq ((by rw [hn2]; decide))).2 z) ?_
    show OGo p e below s _ _ (T0.setTop (mkF m 25 #[.val (.int q1), .val (.int q2), .val (.int q3), .val (.int (Int32.ofNat n))] []))
    obtain ⟨T217, hp217, X217, e217, Ex217, Aa217, Dd217, -, st217⟩ := newO X0 hx hZ hown (own_w hw 8 rfl) (own_w hw 9 rfl) (own_w hw 10 rfl) e0 (g := (mkF m 25 #[.val (.int q1), .val (.int q2), .val (.int q3), .val (.int (Int32.ofNat n))] [])) rfl (hb hby d2_25) (by decide) (by decide)
    obtain ⟨b1, gs217⟩ : ∃ z, z = h0.size := ⟨_, rfl⟩
    rw [← gs217] at Aa217 Dd217 st217
    have old_b1 : n0 ≤ b1 := Nat.le_trans Z0 (Nat.le_of_eq gs217.symm)
    have fr_b1 : h0.size ≤ b1 := Nat.le_trans K0.1 (Nat.le_of_eq gs217.symm)
    have K0 := K0.ext Ex217
    have Z0 := Nat.le_trans Z0 Ex217.1
    have S_COMPACT_STRINGS := S_COMPACT_STRINGS.ext Ex217
    have E_b1 := Aa217
    have F_coder_b1 : Fld Z hp217 b1 "java/lang/String" "coder" "B" (.int (0 : Int32)) := Dd217 (Or.inr (own_w hw 35 rfl)) (ty := .byte) (by decide)
    have F_value_b1 : Fld Z hp217 b1 "java/lang/String" "value" "[B" .null := Dd217 (Or.inr (own_w hw 37 rfl)) (ty := (.array .byte)) (by decide)
    refine own_st st217 ?_
    show OGo p e below s _ _ (T217.setTop (mkF m 28 #[.val (.int q1), .val (.int q2), .val (.int q3), .val (.int (Int32.ofNat n))] [(.ref b1)]))
    refine own_st (fun _ z => XS.dup X217.here hx rfl (hb hby d2_28) rfl rfl z) ?_
    show OGo p e below s _ _ (T217.setTop (mkF m 29 #[.val (.int q1), .val (.int q2), .val (.int q3), .val (.int (Int32.ofNat n))] [(.ref b1), (.ref b1)]))
    refine own_st (fun _ z => XS.iconst X217.here hx rfl (hb hby d2_29) z) ?_
    show OGo p e below s _ _ (T217.setTop (mkF m 30 #[.val (.int q1), .val (.int q2), .val (.int q3), .val (.int (Int32.ofNat n))] [(.int (2 : Int32)), (.ref b1), (.ref b1)]))
    obtain ⟨T218, hp218, kk218, X218, e218, Ex218, Aa218, st218⟩ := newP X217 hx hZ (own_w hw 11 rfl) e217 (g := (mkF m 30 #[.val (.int q1), .val (.int q2), .val (.int q3), .val (.int (Int32.ofNat n))] [(.int (2 : Int32)), (.ref b1), (.ref b1)])) rfl (hb hby d2_30) rfl (by decide) (cap := 2) (by decide) (by decide) (by decide) (by decide)
    obtain ⟨ax, gs218⟩ : ∃ z, z = hp217.size := ⟨_, rfl⟩
    rw [← gs218] at Aa218 st218
    have ne_b1_ax : b1 ≠ ax := Nat.ne_of_lt (Nat.lt_of_lt_of_le E_b1.lt (Nat.le_of_eq gs218.symm))
    have old_ax : n0 ≤ ax := Nat.le_trans Z0 (Nat.le_of_eq gs218.symm)
    have fr_ax : h0.size ≤ ax := Nat.le_trans K0.1 (Nat.le_of_eq gs218.symm)
    have K0 := K0.ext Ex218
    have Z0 := Nat.le_trans Z0 Ex218.1
    have S_COMPACT_STRINGS := S_COMPACT_STRINGS.ext Ex218
    have E_b1 := E_b1.ext Ex218
    have F_coder_b1 := F_coder_b1.ext Ex218
    have F_value_b1 := F_value_b1.ext Ex218
    have A_ax := OAr.new Aa218
    refine own_st st218 ?_
    show OGo p e below s _ _ (T218.setTop (mkF m 32 #[.val (.int q1), .val (.int q2), .val (.int q3), .val (.int (Int32.ofNat n))] [(.ref ax), (.ref b1), (.ref b1)]))
    refine own_st (fun _ z => XS.dup X218.here hx rfl (hb hby d2_32) rfl rfl z) ?_
    show OGo p e below s _ _ (T218.setTop (mkF m 33 #[.val (.int q1), .val (.int q2), .val (.int q3), .val (.int (Int32.ofNat n))] [(.ref ax), (.ref ax), (.ref b1), (.ref b1)]))
    refine own_st (fun _ z => XS.iconst X218.here hx rfl (hb hby d2_33) z) ?_
    show OGo p e below s _ _ (T218.setTop (mkF m 34 #[.val (.int q1), .val (.int q2), .val (.int q3), .val (.int (Int32.ofNat n))] [(.int (0 : Int32)), (.ref ax), (.ref ax), (.ref b1), (.ref b1)]))
    refine own_st (fun _ z => XS.iloadN X218.here hx rfl (hb hby d2_34) rfl z) ?_
    show OGo p e below s _ _ (T218.setTop (mkF m 35 #[.val (.int q1), .val (.int q2), .val (.int q3), .val (.int (Int32.ofNat n))] [(.int q1), (.int (0 : Int32)), (.ref ax), (.ref ax), (.ref b1), (.ref b1)]))
    obtain ⟨cl219, Ar219, Sz219, Hh219⟩ := id A_ax
    obtain ⟨T219, hp219, X219, e219, Ww219, st219⟩ := stC X218 hx hZ e218 Ar219 (j := (0 : Int32)) (own_in Sz219 (by decide) (by decide)) (g := (mkF m 35 #[.val (.int q1), .val (.int q2), .val (.int q3), .val (.int (Int32.ofNat n))] [(.int q1), (.int (0 : Int32)), (.ref ax), (.ref ax), (.ref b1), (.ref b1)])) rfl rfl (hb hby d2_35)
    have Nf219 := Fr.snoc X219 N0 old_ax
    have Z0 := Nat.le_trans Z0 (Keep.of_wr Ww219).1
    have K0 := K0.wr Ww219 (Or.inr fr_ax)
    have S_COMPACT_STRINGS := S_COMPACT_STRINGS.wr Ww219
    have E_b1 := E_b1.wr Ww219
    have F_coder_b1 := F_coder_b1.other Ww219 (Or.inl ne_b1_ax)
    have F_value_b1 := F_value_b1.other Ww219 (Or.inl ne_b1_ax)
    have A_ax := OAr.set Ar219 Sz219 Hh219 Ww219
    refine own_st st219 ?_
    show OGo p e below s _ _ (T219.setTop (mkF m 36 #[.val (.int q1), .val (.int q2), .val (.int q3), .val (.int (Int32.ofNat n))] [(.ref ax), (.ref b1), (.ref b1)]))
    refine own_st (fun _ z => XS.dup X219.here hx rfl (hb hby d2_36) rfl rfl z) ?_
    show OGo p e below s _ _ (T219.setTop (mkF m 37 #[.val (.int q1), .val (.int q2), .val (.int q3), .val (.int (Int32.ofNat n))] [(.ref ax), (.ref ax), (.ref b1), (.ref b1)]))
    refine own_st (fun _ z => XS.iconst X219.here hx rfl (hb hby d2_37) z) ?_
    show OGo p e below s _ _ (T219.setTop (mkF m 38 #[.val (.int q1), .val (.int q2), .val (.int q3), .val (.int (Int32.ofNat n))] [(.int (1 : Int32)), (.ref ax), (.ref ax), (.ref b1), (.ref b1)]))
    refine own_st (fun _ z => XS.iloadN X219.here hx rfl (hb hby d2_38) rfl z) ?_
    show OGo p e below s _ _ (T219.setTop (mkF m 39 #[.val (.int q1), .val (.int q2), .val (.int q3), .val (.int (Int32.ofNat n))] [(.int q2), (.int (1 : Int32)), (.ref ax), (.ref ax), (.ref b1), (.ref b1)]))
    obtain ⟨cl220, Ar220, Sz220, Hh220⟩ := id A_ax
    obtain ⟨T220, hp220, X220, e220, Ww220, st220⟩ := stC X219 hx hZ e219 Ar220 (j := (1 : Int32)) (own_in Sz220 (by decide) (by decide)) (g := (mkF m 39 #[.val (.int q1), .val (.int q2), .val (.int q3), .val (.int (Int32.ofNat n))] [(.int q2), (.int (1 : Int32)), (.ref ax), (.ref ax), (.ref b1), (.ref b1)])) rfl rfl (hb hby d2_39)
    have Nf220 := Fr.snoc X220 Nf219 old_ax
    have Z0 := Nat.le_trans Z0 (Keep.of_wr Ww220).1
    have K0 := K0.wr Ww220 (Or.inr fr_ax)
    have S_COMPACT_STRINGS := S_COMPACT_STRINGS.wr Ww220
    have E_b1 := E_b1.wr Ww220
    have F_coder_b1 := F_coder_b1.other Ww220 (Or.inl ne_b1_ax)
    have F_value_b1 := F_value_b1.other Ww220 (Or.inl ne_b1_ax)
    have A_ax := OAr.set Ar220 Sz220 Hh220 Ww220
    refine own_st st220 ?_
    show OGo p e below s _ _ (T220.setTop (mkF m 40 #[.val (.int q1), .val (.int q2), .val (.int q3), .val (.int (Int32.ofNat n))] [(.ref ax), (.ref b1), (.ref b1)]))
    have A_ax : OAr Z hp220 ax .char n (fun j => .int (own_c3 q1 q2 q3 j)) := by
      rw [hn2]
      exact A_ax.cong (fun j hj => by
        have : j = 0 ∨ j = 1 := by have : j < 2 := hj; omega
        rcases this with rfl | rfl
        · exact congrArg Value.int (own_nc q1 (by have := g_q1.1; omega) (by have := g_q1.2.1; omega))
        · exact congrArg Value.int (own_nc q2 (by have := g_q2.1; omega) (by have := g_q2.2.1; omega)))
    obtain ⟨_, T221, Lc221, X221, hQ221, st221⟩ := own_callI X220 hx hZ (y := (⟨"java/lang/String", "<init>", "([C)V"⟩ : MethodName)) (W := 1) rfl hown (own_w hw 12 rfl) (own_w hw 13 rfl) (own_w hw 14 rfl) (own_w hw 10 rfl) (by decide) (sc5 l Z a0 hw b1 ax n (own_c3 q1 q2 q3) cs hp220 n0 Z0 old_b1 (Ne.symm ne_b1_ax) E_b1 F_coder_b1 F_value_b1 A_ax S_COMPACT_STRINGS (by omega) (by omega) (own_c3l g_q1 g_q2 g_q3 n) hcs) (by decide) (by decide) (a := b1) (g := (mkF m 40 #[.val (.int q1), .val (.int q2), .val (.int q3), .val (.int (Int32.ofNat n))] [(.ref ax), (.ref b1), (.ref b1)])) rfl (by rw [hml]; rfl) (argsL := [(.ref ax)]) (rest := [(.ref b1)]) (lenOf pd_29 rfl) rfl (by show 2 * 0 + _ ≤ _; exact Nat.le_of_eq rfl) (hb hby d2_40) rfl e220 (by decide) (by decide)
    obtain ⟨t1, rfl, Nq221, Kq221, fq221_t1, q221_0, q221_1, q221_2, q221_3⟩ := hQ221
    have ne_b1_t1 : b1 ≠ t1 := Nat.ne_of_lt (Nat.lt_of_lt_of_le E_b1.lt fq221_t1)
    have ne_ax_t1 : ax ≠ t1 := Nat.ne_of_lt (Nat.lt_of_lt_of_le A_ax.lt fq221_t1)
    have old_t1 : n0 ≤ t1 := Nat.le_trans Z0 fq221_t1
    have fr_t1 : h0.size ≤ t1 := Nat.le_trans K0.1 fq221_t1
    have hpl_Kq221 : ∀ w ∈ [b1], ∃ c : Cell, hp220[w]? = some c ∧ c.vm.isStatics = false := (allS (own_pl_exa E_b1) all0)
    have Z0 := Nat.le_trans Z0 Kq221.1
    have K0 := K0.trans Kq221 (allS (Or.inr fr_b1) all0)
    have S_COMPACT_STRINGS := own_sta_keep S_COMPACT_STRINGS Kq221 hpl_Kq221
    have A_ax := A_ax.keep Kq221 (ninS (Ne.symm ne_b1_ax) nin0)
    have Nr221 := Fr.app Nf220 Nq221
    have E_b1 := q221_0
    have F_coder_b1 := q221_1
    have F_value_b1 := q221_2
    have A_t1 := q221_3
    refine own_st st221 ?_
    show OGo p e below s _ _ (T221.setTop (mkF m 43 #[.val (.int q1), .val (.int q2), .val (.int q3), .val (.int (Int32.ofNat n))] [(.ref b1)]))
    exact own_retA X221 hx hlk hret rfl rfl (hb hby d2_43) (by decide) (by decide) (⟨b1, t1, rfl, Nr221, K0, fr_b1, fr_t1, (ne_b1_t1), E_b1, F_coder_b1, F_value_b1, A_t1⟩)
  · refine own_st (fun _ z => XS.iloadN X0.here hx rfl (hb hby d2_0) rfl z) ?_
    show OGo p e below s _ _ (T0.setTop (mkF m 1 #[.val (.int q1), .val (.int q2), .val (.int q3), .val (.int (Int32.ofNat n))] [(.int (Int32.ofNat n))]))
    refine own_st (fun _ z => XS.iconst X0.here hx rfl (hb hby d2_1) z) ?_
    show OGo p e below s _ _ (T0.setTop (mkF m 2 #[.val (.int q1), .val (.int q2), .val (.int q3), .val (.int (Int32.ofNat n))] [(.int (1 : Int32)), (.int (Int32.ofNat n))]))
    refine own_st (fun _ z => XS.icmpYes X0.here hx rfl (pc0 := 2) (pc' := 20) rfl (hb hby d2_2) rfl (feq ((by rw [hn3]; decide))).2 (by decide) (by decide) z) ?_
    show OGo p e below s _ _ (T0.setTop (mkF m 20 #[.val (.int q1), .val (.int q2), .val (.int q3), .val (.int (Int32.ofNat n))] []))
    refine own_st (fun _ z => XS.iloadN X0.here hx rfl (hb hby d2_20) rfl z) ?_
    show OGo p e below s _ _ (T0.setTop (mkF m 21 #[.val (.int q1), .val (.int q2), .val (.int q3), .val (.int (Int32.ofNat n))] [(.int (Int32.ofNat n))]))
    refine own_st (fun _ z => XS.iconst X0.here hx rfl (hb hby d2_21) z) ?_
    show OGo p e below s _ _ (T0.setTop (mkF m 22 #[.val (.int q1), .val (.int q2), .val (.int q3), .val (.int (Int32.ofNat n))] [(.int (2 : Int32)), (.int (Int32.ofNat n))]))
    refine own_st (fun _ z => XS.icmpYes X0.here hx rfl (pc0 := 22) (pc' := 44) rfl (hb hby d2_22) rfl (feq ((by rw [hn3]; decide))).2 (by decide) (by decide) z) ?_
    show OGo p e below s _ _ (T0.setTop (mkF m 44 #[.val (.int q1), .val (.int q2), .val (.int q3), .val (.int (Int32.ofNat n))] []))
    obtain ⟨T222, hp222, X222, e222, Ex222, Aa222, Dd222, -, st222⟩ := newO X0 hx hZ hown (own_w hw 8 rfl) (own_w hw 9 rfl) (own_w hw 10 rfl) e0 (g := (mkF m 44 #[.val (.int q1), .val (.int q2), .val (.int q3), .val (.int (Int32.ofNat n))] [])) rfl (hb hby d2_44) (by decide) (by decide)
    obtain ⟨b1, gs222⟩ : ∃ z, z = h0.size := ⟨_, rfl⟩
    rw [← gs222] at Aa222 Dd222 st222
    have old_b1 : n0 ≤ b1 := Nat.le_trans Z0 (Nat.le_of_eq gs222.symm)
    have fr_b1 : h0.size ≤ b1 := Nat.le_trans K0.1 (Nat.le_of_eq gs222.symm)
    have K0 := K0.ext Ex222
    have Z0 := Nat.le_trans Z0 Ex222.1
    have S_COMPACT_STRINGS := S_COMPACT_STRINGS.ext Ex222
    have E_b1 := Aa222
    have F_coder_b1 : Fld Z hp222 b1 "java/lang/String" "coder" "B" (.int (0 : Int32)) := Dd222 (Or.inr (own_w hw 35 rfl)) (ty := .byte) (by decide)
    have F_value_b1 : Fld Z hp222 b1 "java/lang/String" "value" "[B" .null := Dd222 (Or.inr (own_w hw 37 rfl)) (ty := (.array .byte)) (by decide)
    refine own_st st222 ?_
    show OGo p e below s _ _ (T222.setTop (mkF m 47 #[.val (.int q1), .val (.int q2), .val (.int q3), .val (.int (Int32.ofNat n))] [(.ref b1)]))
    refine own_st (fun _ z => XS.dup X222.here hx rfl (hb hby d2_47) rfl rfl z) ?_
    show OGo p e below s _ _ (T222.setTop (mkF m 48 #[.val (.int q1), .val (.int q2), .val (.int q3), .val (.int (Int32.ofNat n))] [(.ref b1), (.ref b1)]))
    refine own_st (fun _ z => XS.iconst X222.here hx rfl (hb hby d2_48) z) ?_
    show OGo p e below s _ _ (T222.setTop (mkF m 49 #[.val (.int q1), .val (.int q2), .val (.int q3), .val (.int (Int32.ofNat n))] [(.int (3 : Int32)), (.ref b1), (.ref b1)]))
    obtain ⟨T223, hp223, kk223, X223, e223, Ex223, Aa223, st223⟩ := newP X222 hx hZ (own_w hw 11 rfl) e222 (g := (mkF m 49 #[.val (.int q1), .val (.int q2), .val (.int q3), .val (.int (Int32.ofNat n))] [(.int (3 : Int32)), (.ref b1), (.ref b1)])) rfl (hb hby d2_49) rfl (by decide) (cap := 3) (by decide) (by decide) (by decide) (by decide)
    obtain ⟨ax, gs223⟩ : ∃ z, z = hp222.size := ⟨_, rfl⟩
    rw [← gs223] at Aa223 st223
    have ne_b1_ax : b1 ≠ ax := Nat.ne_of_lt (Nat.lt_of_lt_of_le E_b1.lt (Nat.le_of_eq gs223.symm))
    have old_ax : n0 ≤ ax := Nat.le_trans Z0 (Nat.le_of_eq gs223.symm)
    have fr_ax : h0.size ≤ ax := Nat.le_trans K0.1 (Nat.le_of_eq gs223.symm)
    have K0 := K0.ext Ex223
    have Z0 := Nat.le_trans Z0 Ex223.1
    have S_COMPACT_STRINGS := S_COMPACT_STRINGS.ext Ex223
    have E_b1 := E_b1.ext Ex223
    have F_coder_b1 := F_coder_b1.ext Ex223
    have F_value_b1 := F_value_b1.ext Ex223
    have A_ax := OAr.new Aa223
    refine own_st st223 ?_
    show OGo p e below s _ _ (T223.setTop (mkF m 51 #[.val (.int q1), .val (.int q2), .val (.int q3), .val (.int (Int32.ofNat n))] [(.ref ax), (.ref b1), (.ref b1)]))
    refine own_st (fun _ z => XS.dup X223.here hx rfl (hb hby d2_51) rfl rfl z) ?_
    show OGo p e below s _ _ (T223.setTop (mkF m 52 #[.val (.int q1), .val (.int q2), .val (.int q3), .val (.int (Int32.ofNat n))] [(.ref ax), (.ref ax), (.ref b1), (.ref b1)]))
    refine own_st (fun _ z => XS.iconst X223.here hx rfl (hb hby d2_52) z) ?_
    show OGo p e below s _ _ (T223.setTop (mkF m 53 #[.val (.int q1), .val (.int q2), .val (.int q3), .val (.int (Int32.ofNat n))] [(.int (0 : Int32)), (.ref ax), (.ref ax), (.ref b1), (.ref b1)]))
    refine own_st (fun _ z => XS.iloadN X223.here hx rfl (hb hby d2_53) rfl z) ?_
    show OGo p e below s _ _ (T223.setTop (mkF m 54 #[.val (.int q1), .val (.int q2), .val (.int q3), .val (.int (Int32.ofNat n))] [(.int q1), (.int (0 : Int32)), (.ref ax), (.ref ax), (.ref b1), (.ref b1)]))
    obtain ⟨cl224, Ar224, Sz224, Hh224⟩ := id A_ax
    obtain ⟨T224, hp224, X224, e224, Ww224, st224⟩ := stC X223 hx hZ e223 Ar224 (j := (0 : Int32)) (own_in Sz224 (by decide) (by decide)) (g := (mkF m 54 #[.val (.int q1), .val (.int q2), .val (.int q3), .val (.int (Int32.ofNat n))] [(.int q1), (.int (0 : Int32)), (.ref ax), (.ref ax), (.ref b1), (.ref b1)])) rfl rfl (hb hby d2_54)
    have Nf224 := Fr.snoc X224 N0 old_ax
    have Z0 := Nat.le_trans Z0 (Keep.of_wr Ww224).1
    have K0 := K0.wr Ww224 (Or.inr fr_ax)
    have S_COMPACT_STRINGS := S_COMPACT_STRINGS.wr Ww224
    have E_b1 := E_b1.wr Ww224
    have F_coder_b1 := F_coder_b1.other Ww224 (Or.inl ne_b1_ax)
    have F_value_b1 := F_value_b1.other Ww224 (Or.inl ne_b1_ax)
    have A_ax := OAr.set Ar224 Sz224 Hh224 Ww224
    refine own_st st224 ?_
    show OGo p e below s _ _ (T224.setTop (mkF m 55 #[.val (.int q1), .val (.int q2), .val (.int q3), .val (.int (Int32.ofNat n))] [(.ref ax), (.ref b1), (.ref b1)]))
    refine own_st (fun _ z => XS.dup X224.here hx rfl (hb hby d2_55) rfl rfl z) ?_
    show OGo p e below s _ _ (T224.setTop (mkF m 56 #[.val (.int q1), .val (.int q2), .val (.int q3), .val (.int (Int32.ofNat n))] [(.ref ax), (.ref ax), (.ref b1), (.ref b1)]))
    refine own_st (fun _ z => XS.iconst X224.here hx rfl (hb hby d2_56) z) ?_
    show OGo p e below s _ _ (T224.setTop (mkF m 57 #[.val (.int q1), .val (.int q2), .val (.int q3), .val (.int (Int32.ofNat n))] [(.int (1 : Int32)), (.ref ax), (.ref ax), (.ref b1), (.ref b1)]))
    refine own_st (fun _ z => XS.iloadN X224.here hx rfl (hb hby d2_57) rfl z) ?_
    show OGo p e below s _ _ (T224.setTop (mkF m 58 #[.val (.int q1), .val (.int q2), .val (.int q3), .val (.int (Int32.ofNat n))] [(.int q2), (.int (1 : Int32)), (.ref ax), (.ref ax), (.ref b1), (.ref b1)]))
    obtain ⟨cl225, Ar225, Sz225, Hh225⟩ := id A_ax
    obtain ⟨T225, hp225, X225, e225, Ww225, st225⟩ := stC X224 hx hZ e224 Ar225 (j := (1 : Int32)) (own_in Sz225 (by decide) (by decide)) (g := (mkF m 58 #[.val (.int q1), .val (.int q2), .val (.int q3), .val (.int (Int32.ofNat n))] [(.int q2), (.int (1 : Int32)), (.ref ax), (.ref ax), (.ref b1), (.ref b1)])) rfl rfl (hb hby d2_58)
    have Nf225 := Fr.snoc X225 Nf224 old_ax
    have Z0 := Nat.le_trans Z0 (Keep.of_wr Ww225).1
    have K0 := K0.wr Ww225 (Or.inr fr_ax)
    have S_COMPACT_STRINGS := S_COMPACT_STRINGS.wr Ww225
    have E_b1 := E_b1.wr Ww225
    have F_coder_b1 := F_coder_b1.other Ww225 (Or.inl ne_b1_ax)
    have F_value_b1 := F_value_b1.other Ww225 (Or.inl ne_b1_ax)
    have A_ax := OAr.set Ar225 Sz225 Hh225 Ww225
    refine own_st st225 ?_
    show OGo p e below s _ _ (T225.setTop (mkF m 59 #[.val (.int q1), .val (.int q2), .val (.int q3), .val (.int (Int32.ofNat n))] [(.ref ax), (.ref b1), (.ref b1)]))
    refine own_st (fun _ z => XS.dup X225.here hx rfl (hb hby d2_59) rfl rfl z) ?_
    show OGo p e below s _ _ (T225.setTop (mkF m 60 #[.val (.int q1), .val (.int q2), .val (.int q3), .val (.int (Int32.ofNat n))] [(.ref ax), (.ref ax), (.ref b1), (.ref b1)]))
    refine own_st (fun _ z => XS.iconst X225.here hx rfl (hb hby d2_60) z) ?_
    show OGo p e below s _ _ (T225.setTop (mkF m 61 #[.val (.int q1), .val (.int q2), .val (.int q3), .val (.int (Int32.ofNat n))] [(.int (2 : Int32)), (.ref ax), (.ref ax), (.ref b1), (.ref b1)]))
    refine own_st (fun _ z => XS.iloadN X225.here hx rfl (hb hby d2_61) rfl z) ?_
    show OGo p e below s _ _ (T225.setTop (mkF m 62 #[.val (.int q1), .val (.int q2), .val (.int q3), .val (.int (Int32.ofNat n))] [(.int q3), (.int (2 : Int32)), (.ref ax), (.ref ax), (.ref b1), (.ref b1)]))
    obtain ⟨cl226, Ar226, Sz226, Hh226⟩ := id A_ax
    obtain ⟨T226, hp226, X226, e226, Ww226, st226⟩ := stC X225 hx hZ e225 Ar226 (j := (2 : Int32)) (own_in Sz226 (by decide) (by decide)) (g := (mkF m 62 #[.val (.int q1), .val (.int q2), .val (.int q3), .val (.int (Int32.ofNat n))] [(.int q3), (.int (2 : Int32)), (.ref ax), (.ref ax), (.ref b1), (.ref b1)])) rfl rfl (hb hby d2_62)
    have Nf226 := Fr.snoc X226 Nf225 old_ax
    have Z0 := Nat.le_trans Z0 (Keep.of_wr Ww226).1
    have K0 := K0.wr Ww226 (Or.inr fr_ax)
    have S_COMPACT_STRINGS := S_COMPACT_STRINGS.wr Ww226
    have E_b1 := E_b1.wr Ww226
    have F_coder_b1 := F_coder_b1.other Ww226 (Or.inl ne_b1_ax)
    have F_value_b1 := F_value_b1.other Ww226 (Or.inl ne_b1_ax)
    have A_ax := OAr.set Ar226 Sz226 Hh226 Ww226
    refine own_st st226 ?_
    show OGo p e below s _ _ (T226.setTop (mkF m 63 #[.val (.int q1), .val (.int q2), .val (.int q3), .val (.int (Int32.ofNat n))] [(.ref ax), (.ref b1), (.ref b1)]))
    have A_ax : OAr Z hp226 ax .char n (fun j => .int (own_c3 q1 q2 q3 j)) := by
      rw [hn3]
      exact A_ax.cong (fun j hj => by
        have : j = 0 ∨ j = 1 ∨ j = 2 := by have : j < 3 := hj; omega
        rcases this with rfl | rfl | rfl
        · exact congrArg Value.int (own_nc q1 (by have := g_q1.1; omega) (by have := g_q1.2.1; omega))
        · exact congrArg Value.int (own_nc q2 (by have := g_q2.1; omega) (by have := g_q2.2.1; omega))
        · exact congrArg Value.int (own_nc q3 (by have := g_q3.1; omega) (by have := g_q3.2.1; omega)))
    obtain ⟨_, T227, Lc227, X227, hQ227, st227⟩ := own_callI X226 hx hZ (y := (⟨"java/lang/String", "<init>", "([C)V"⟩ : MethodName)) (W := 1) rfl hown (own_w hw 12 rfl) (own_w hw 13 rfl) (own_w hw 14 rfl) (own_w hw 10 rfl) (by decide) (sc5 l Z a0 hw b1 ax n (own_c3 q1 q2 q3) cs hp226 n0 Z0 old_b1 (Ne.symm ne_b1_ax) E_b1 F_coder_b1 F_value_b1 A_ax S_COMPACT_STRINGS (by omega) (by omega) (own_c3l g_q1 g_q2 g_q3 n) hcs) (by decide) (by decide) (a := b1) (g := (mkF m 63 #[.val (.int q1), .val (.int q2), .val (.int q3), .val (.int (Int32.ofNat n))] [(.ref ax), (.ref b1), (.ref b1)])) rfl (by rw [hml]; rfl) (argsL := [(.ref ax)]) (rest := [(.ref b1)]) (lenOf pd_29 rfl) rfl (by show 2 * 0 + _ ≤ _; exact Nat.le_of_eq rfl) (hb hby d2_63) rfl e226 (by decide) (by decide)
    obtain ⟨t1, rfl, Nq227, Kq227, fq227_t1, q227_0, q227_1, q227_2, q227_3⟩ := hQ227
    have ne_b1_t1 : b1 ≠ t1 := Nat.ne_of_lt (Nat.lt_of_lt_of_le E_b1.lt fq227_t1)
    have ne_ax_t1 : ax ≠ t1 := Nat.ne_of_lt (Nat.lt_of_lt_of_le A_ax.lt fq227_t1)
    have old_t1 : n0 ≤ t1 := Nat.le_trans Z0 fq227_t1
    have fr_t1 : h0.size ≤ t1 := Nat.le_trans K0.1 fq227_t1
    have hpl_Kq227 : ∀ w ∈ [b1], ∃ c : Cell, hp226[w]? = some c ∧ c.vm.isStatics = false := (allS (own_pl_exa E_b1) all0)
    have Z0 := Nat.le_trans Z0 Kq227.1
    have K0 := K0.trans Kq227 (allS (Or.inr fr_b1) all0)
    have S_COMPACT_STRINGS := own_sta_keep S_COMPACT_STRINGS Kq227 hpl_Kq227
    have A_ax := A_ax.keep Kq227 (ninS (Ne.symm ne_b1_ax) nin0)
    have Nr227 := Fr.app Nf226 Nq227
    have E_b1 := q227_0
    have F_coder_b1 := q227_1
    have F_value_b1 := q227_2
    have A_t1 := q227_3
    refine own_st st227 ?_
    show OGo p e below s _ _ (T227.setTop (mkF m 66 #[.val (.int q1), .val (.int q2), .val (.int q3), .val (.int (Int32.ofNat n))] [(.ref b1)]))
    exact own_retA X227 hx hlk hret rfl rfl (hb hby d2_66) (by decide) (by decide) (⟨b1, t1, rfl, Nr227, K0, fr_b1, fr_t1, (ne_b1_t1), E_b1, F_coder_b1, F_value_b1, A_t1⟩)
theorem ef_0_IIII (m : MethodId) (x0 : Int32) (x1 : Int32) (x2 : Int32) (x3 : Int32) : entryFrame m #[(.int x0), (.int x1), (.int x2), (.int x3)] maxLocals = mkF m 0 #[.val (.int x0), .val (.int x1), .val (.int x2), .val (.int x3), .unset, .unset, .unset, .unset, .unset, .unset, .unset, .unset, .unset, .unset, .unset, .unset, .unset, .unset, .unset] [] := by first | (simp [entryFrame, mkF, argsToLocals, Value.category, maxLocals]; done) | rfl
theorem pd_30 : parseMethodDescriptor "(I)C" = some ⟨[.int], some .char⟩ := by decide +kernel
theorem pd_31 : parseMethodDescriptor "(CCCI)Ljava/lang/String;" = some ⟨[.char, .char, .char, .int], some (.object "java/lang/String")⟩ := by decide +kernel
set_option maxRecDepth 65536 in
set_option maxHeartbeats 40000000 in
theorem rm0 (l : Launch) (Z : State) (a0 : Array Value) (hw : ∀ d ∈ tables_1, d.before a0 Z = true) (ws : List Jvm.Cond) (q1 : Int32) (q2 : Int32) (q3 : Int32) (q4 : Int32) (cs : Int32) (fm : Value) (h0 : Heap) (n0 : Nat) (Z0 : n0 ≤ h0.size) (S_COMPACT_STRINGS : Sta Z h0 "java/lang/String" "COMPACT_STRINGS" "Z" (.int cs)) (S_SIOOBE_FORMATTER : Sta Z h0 "jdk/internal/util/Preconditions" "SIOOBE_FORMATTER" "Ljava/util/function/BiFunction;" fm) (hcs : ¬ cs = (0 : Int32)) (cat_fm : fm.category = 1) (ir_fm : fm.isRef = true) :
    OMetW l Z own_EL x code maxLocals ret ws room_1 #[(.int q1), (.int q2), (.int q3), (.int q4)] h0 (OLawQ n0) := by
  refine own_bodyW (plainFor_of_name pn_com_example_limpet_limpet_LockNameEqualsPinLaw) (fun m => ef_0_IIII m q1 q2 q3 q4) ?_
  intro p e s m below meth c T0 hx hby hml hown hnm hret hlk hZ X0 e0 es hS CH
  have hk := Nat.le_refl h0.size
  have hEL := own_EW hw
  have hown : s.vm.findClass "com/example/limpet/limpet/LockNameEqualsPinLaw" = some m.cls := hown
  have hml : c.maxLocals = 19 := hml
  show OGoW p e below s _ Z _ _ (T0.setTop (mkF m 0 #[.val (.int q1), .val (.int q2), .val (.int q3), .val (.int q4), .unset, .unset, .unset, .unset, .unset, .unset, .unset, .unset, .unset, .unset, .unset, .unset, .unset, .unset, .unset] []))
  have N0 := Fr.nil n0
  refine own_stW (fun _ z => XS.iloadN X0.here hx rfl (hb hby at_0) rfl z) ?_
  show OGoW p e below s _ Z _ _ (T0.setTop (mkF m 1 #[.val (.int q1), .val (.int q2), .val (.int q3), .val (.int q4), .unset, .unset, .unset, .unset, .unset, .unset, .unset, .unset, .unset, .unset, .unset, .unset, .unset, .unset, .unset] [(.int q1)]))
  obtain ⟨ca, e_ca, g_ca⟩ := own_che q1
  obtain ⟨T228, X228, e228, st228⟩ := own_callSP X0 hx hZ (y := (⟨"com/example/limpet/limpet/LockNameEqualsPinLaw", "ch", "(I)C"⟩ : MethodName)) (W := 0) hown (own_w hw 0 rfl) (own_w hw 1 rfl) (own_w hw 2 rfl) (own_w hw 3 rfl) (by decide) (rch l Z a0 hw q1 ca h0 e_ca) (by decide) (by decide) (g := (mkF m 1 #[.val (.int q1), .val (.int q2), .val (.int q3), .val (.int q4), .unset, .unset, .unset, .unset, .unset, .unset, .unset, .unset, .unset, .unset, .unset, .unset, .unset, .unset, .unset] [(.int q1)])) rfl (by rw [hml]; rfl) (argsL := [(.int q1)]) (rest := []) (lenOf pd_30 rfl) rfl (by show 2 * 0 + _ ≤ _; exact Nat.le_of_eq rfl) (hb hby at_1) rfl e0 (by decide) (by decide)
  refine own_stW st228 ?_
  show OGoW p e below s _ Z _ _ (T228.setTop (mkF m 4 #[.val (.int q1), .val (.int q2), .val (.int q3), .val (.int q4), .unset, .unset, .unset, .unset, .unset, .unset, .unset, .unset, .unset, .unset, .unset, .unset, .unset, .unset, .unset] [(.int ca)]))
  refine own_stW (fun _ z => XS.istore X228.here hx rfl (hb hby at_4) rfl (l' := #[.val (.int q1), .val (.int q2), .val (.int q3), .val (.int q4), .val (.int ca), .unset, .unset, .unset, .unset, .unset, .unset, .unset, .unset, .unset, .unset, .unset, .unset, .unset, .unset]) rfl z) ?_
  show OGoW p e below s _ Z _ _ (T228.setTop (mkF m 6 #[.val (.int q1), .val (.int q2), .val (.int q3), .val (.int q4), .val (.int ca), .unset, .unset, .unset, .unset, .unset, .unset, .unset, .unset, .unset, .unset, .unset, .unset, .unset, .unset] []))
  refine own_stW (fun _ z => XS.iloadN X228.here hx rfl (hb hby at_6) rfl z) ?_
  show OGoW p e below s _ Z _ _ (T228.setTop (mkF m 7 #[.val (.int q1), .val (.int q2), .val (.int q3), .val (.int q4), .val (.int ca), .unset, .unset, .unset, .unset, .unset, .unset, .unset, .unset, .unset, .unset, .unset, .unset, .unset, .unset] [(.int q1)]))
  refine own_stW (fun _ z => XS.bipush X228.here hx rfl (hb hby at_7) z) ?_
  show OGoW p e below s _ Z _ _ (T228.setTop (mkF m 9 #[.val (.int q1), .val (.int q2), .val (.int q3), .val (.int q4), .val (.int ca), .unset, .unset, .unset, .unset, .unset, .unset, .unset, .unset, .unset, .unset, .unset, .unset, .unset, .unset] [(.int (8 : Int32)), (.int q1)]))
  refine own_stW (fun _ z => XS.iushr X228.here hx rfl (hb hby at_9) rfl z) ?_
  show OGoW p e below s _ Z _ _ (T228.setTop (mkF m 10 #[.val (.int q1), .val (.int q2), .val (.int q3), .val (.int q4), .val (.int ca), .unset, .unset, .unset, .unset, .unset, .unset, .unset, .unset, .unset, .unset, .unset, .unset, .unset, .unset] [(.int ((q1.toUInt32 >>> ((8 : Int32) &&& 31).toUInt32).toInt32))]))
  obtain ⟨cb, e_cb, g_cb⟩ := own_che ((q1.toUInt32 >>> ((8 : Int32) &&& 31).toUInt32).toInt32)
  obtain ⟨T229, X229, e229, st229⟩ := own_callSP X228 hx hZ (y := (⟨"com/example/limpet/limpet/LockNameEqualsPinLaw", "ch", "(I)C"⟩ : MethodName)) (W := 0) hown (own_w hw 0 rfl) (own_w hw 1 rfl) (own_w hw 2 rfl) (own_w hw 3 rfl) (by decide) (rch l Z a0 hw ((q1.toUInt32 >>> ((8 : Int32) &&& 31).toUInt32).toInt32) cb h0 e_cb) (by decide) (by decide) (g := (mkF m 10 #[.val (.int q1), .val (.int q2), .val (.int q3), .val (.int q4), .val (.int ca), .unset, .unset, .unset, .unset, .unset, .unset, .unset, .unset, .unset, .unset, .unset, .unset, .unset, .unset] [(.int ((q1.toUInt32 >>> ((8 : Int32) &&& 31).toUInt32).toInt32))])) rfl (by rw [hml]; rfl) (argsL := [(.int ((q1.toUInt32 >>> ((8 : Int32) &&& 31).toUInt32).toInt32))]) (rest := []) (lenOf pd_30 rfl) rfl (by show 2 * 0 + _ ≤ _; exact Nat.le_of_eq rfl) (hb hby at_10) rfl e228 (by decide) (by decide)
  refine own_stW st229 ?_
  show OGoW p e below s _ Z _ _ (T229.setTop (mkF m 13 #[.val (.int q1), .val (.int q2), .val (.int q3), .val (.int q4), .val (.int ca), .unset, .unset, .unset, .unset, .unset, .unset, .unset, .unset, .unset, .unset, .unset, .unset, .unset, .unset] [(.int cb)]))
  refine own_stW (fun _ z => XS.istore X229.here hx rfl (hb hby at_13) rfl (l' := #[.val (.int q1), .val (.int q2), .val (.int q3), .val (.int q4), .val (.int ca), .val (.int cb), .unset, .unset, .unset, .unset, .unset, .unset, .unset, .unset, .unset, .unset, .unset, .unset, .unset]) rfl z) ?_
  show OGoW p e below s _ Z _ _ (T229.setTop (mkF m 15 #[.val (.int q1), .val (.int q2), .val (.int q3), .val (.int q4), .val (.int ca), .val (.int cb), .unset, .unset, .unset, .unset, .unset, .unset, .unset, .unset, .unset, .unset, .unset, .unset, .unset] []))
  refine own_stW (fun _ z => XS.iloadN X229.here hx rfl (hb hby at_15) rfl z) ?_
  show OGoW p e below s _ Z _ _ (T229.setTop (mkF m 16 #[.val (.int q1), .val (.int q2), .val (.int q3), .val (.int q4), .val (.int ca), .val (.int cb), .unset, .unset, .unset, .unset, .unset, .unset, .unset, .unset, .unset, .unset, .unset, .unset, .unset] [(.int q1)]))
  refine own_stW (fun _ z => XS.bipush X229.here hx rfl (hb hby at_16) z) ?_
  show OGoW p e below s _ Z _ _ (T229.setTop (mkF m 18 #[.val (.int q1), .val (.int q2), .val (.int q3), .val (.int q4), .val (.int ca), .val (.int cb), .unset, .unset, .unset, .unset, .unset, .unset, .unset, .unset, .unset, .unset, .unset, .unset, .unset] [(.int (16 : Int32)), (.int q1)]))
  refine own_stW (fun _ z => XS.iushr X229.here hx rfl (hb hby at_18) rfl z) ?_
  show OGoW p e below s _ Z _ _ (T229.setTop (mkF m 19 #[.val (.int q1), .val (.int q2), .val (.int q3), .val (.int q4), .val (.int ca), .val (.int cb), .unset, .unset, .unset, .unset, .unset, .unset, .unset, .unset, .unset, .unset, .unset, .unset, .unset] [(.int ((q1.toUInt32 >>> ((16 : Int32) &&& 31).toUInt32).toInt32))]))
  obtain ⟨cc, e_cc, g_cc⟩ := own_che ((q1.toUInt32 >>> ((16 : Int32) &&& 31).toUInt32).toInt32)
  obtain ⟨T230, X230, e230, st230⟩ := own_callSP X229 hx hZ (y := (⟨"com/example/limpet/limpet/LockNameEqualsPinLaw", "ch", "(I)C"⟩ : MethodName)) (W := 0) hown (own_w hw 0 rfl) (own_w hw 1 rfl) (own_w hw 2 rfl) (own_w hw 3 rfl) (by decide) (rch l Z a0 hw ((q1.toUInt32 >>> ((16 : Int32) &&& 31).toUInt32).toInt32) cc h0 e_cc) (by decide) (by decide) (g := (mkF m 19 #[.val (.int q1), .val (.int q2), .val (.int q3), .val (.int q4), .val (.int ca), .val (.int cb), .unset, .unset, .unset, .unset, .unset, .unset, .unset, .unset, .unset, .unset, .unset, .unset, .unset] [(.int ((q1.toUInt32 >>> ((16 : Int32) &&& 31).toUInt32).toInt32))])) rfl (by rw [hml]; rfl) (argsL := [(.int ((q1.toUInt32 >>> ((16 : Int32) &&& 31).toUInt32).toInt32))]) (rest := []) (lenOf pd_30 rfl) rfl (by show 2 * 0 + _ ≤ _; exact Nat.le_of_eq rfl) (hb hby at_19) rfl e229 (by decide) (by decide)
  refine own_stW st230 ?_
  show OGoW p e below s _ Z _ _ (T230.setTop (mkF m 22 #[.val (.int q1), .val (.int q2), .val (.int q3), .val (.int q4), .val (.int ca), .val (.int cb), .unset, .unset, .unset, .unset, .unset, .unset, .unset, .unset, .unset, .unset, .unset, .unset, .unset] [(.int cc)]))
  refine own_stW (fun _ z => XS.istore X230.here hx rfl (hb hby at_22) rfl (l' := #[.val (.int q1), .val (.int q2), .val (.int q3), .val (.int q4), .val (.int ca), .val (.int cb), .val (.int cc), .unset, .unset, .unset, .unset, .unset, .unset, .unset, .unset, .unset, .unset, .unset, .unset]) rfl z) ?_
  show OGoW p e below s _ Z _ _ (T230.setTop (mkF m 24 #[.val (.int q1), .val (.int q2), .val (.int q3), .val (.int q4), .val (.int ca), .val (.int cb), .val (.int cc), .unset, .unset, .unset, .unset, .unset, .unset, .unset, .unset, .unset, .unset, .unset, .unset] []))
  refine own_stW (fun _ z => XS.iloadN X230.here hx rfl (hb hby at_24) rfl z) ?_
  show OGoW p e below s _ Z _ _ (T230.setTop (mkF m 25 #[.val (.int q1), .val (.int q2), .val (.int q3), .val (.int q4), .val (.int ca), .val (.int cb), .val (.int cc), .unset, .unset, .unset, .unset, .unset, .unset, .unset, .unset, .unset, .unset, .unset, .unset] [(.int q4)]))
  refine own_stW (fun _ z => XS.iconst X230.here hx rfl (hb hby at_25) z) ?_
  show OGoW p e below s _ Z _ _ (T230.setTop (mkF m 26 #[.val (.int q1), .val (.int q2), .val (.int q3), .val (.int q4), .val (.int ca), .val (.int cb), .val (.int cc), .unset, .unset, .unset, .unset, .unset, .unset, .unset, .unset, .unset, .unset, .unset, .unset] [(.int (1 : Int32)), (.int q4)]))
  refine own_stW (fun _ z => XS.iand X230.here hx rfl (hb hby at_26) rfl z) ?_
  show OGoW p e below s _ Z _ _ (T230.setTop (mkF m 27 #[.val (.int q1), .val (.int q2), .val (.int q3), .val (.int q4), .val (.int ca), .val (.int cb), .val (.int cc), .unset, .unset, .unset, .unset, .unset, .unset, .unset, .unset, .unset, .unset, .unset, .unset] [(.int (q4 &&& (1 : Int32)))]))
  have J39 : ∀ (TJ39 : State) (da : Int32), Stand p l e room_1 (s.setVm s.vm) m #[(.int q1), (.int q2), (.int q3), (.int q4)] below meth c TJ39 [] 0 0 → TJ39.heap = h0 → (own_good da) → OGoW p e below s room_1 Z own_EL (OLawQ n0) (TJ39.setTop (mkF m 39 #[.val (.int q1), .val (.int q2), .val (.int q3), .val (.int q4), .val (.int ca), .val (.int cb), .val (.int cc), .unset, .unset, .unset, .unset, .unset, .unset, .unset, .unset, .unset, .unset, .unset, .unset] [(.int da)])) := by
    intro TJ39 da XJ39 eJ39 g_da
    show OGoW p e below s _ Z _ _ (TJ39.setTop (mkF m 39 #[.val (.int q1), .val (.int q2), .val (.int q3), .val (.int q4), .val (.int ca), .val (.int cb), .val (.int cc), .unset, .unset, .unset, .unset, .unset, .unset, .unset, .unset, .unset, .unset, .unset, .unset] [(.int da)]))
    refine own_stW (fun _ z => XS.istore XJ39.here hx rfl (hb hby at_39) rfl (l' := #[.val (.int q1), .val (.int q2), .val (.int q3), .val (.int q4), .val (.int ca), .val (.int cb), .val (.int cc), .val (.int da), .unset, .unset, .unset, .unset, .unset, .unset, .unset, .unset, .unset, .unset, .unset]) rfl z) ?_
    show OGoW p e below s _ Z _ _ (TJ39.setTop (mkF m 41 #[.val (.int q1), .val (.int q2), .val (.int q3), .val (.int q4), .val (.int ca), .val (.int cb), .val (.int cc), .val (.int da), .unset, .unset, .unset, .unset, .unset, .unset, .unset, .unset, .unset, .unset, .unset] []))
    refine own_stW (fun _ z => XS.iloadN XJ39.here hx rfl (hb hby at_41) rfl z) ?_
    show OGoW p e below s _ Z _ _ (TJ39.setTop (mkF m 42 #[.val (.int q1), .val (.int q2), .val (.int q3), .val (.int q4), .val (.int ca), .val (.int cb), .val (.int cc), .val (.int da), .unset, .unset, .unset, .unset, .unset, .unset, .unset, .unset, .unset, .unset, .unset] [(.int q4)]))
    refine own_stW (fun _ z => XS.iconst XJ39.here hx rfl (hb hby at_42) z) ?_
    show OGoW p e below s _ Z _ _ (TJ39.setTop (mkF m 43 #[.val (.int q1), .val (.int q2), .val (.int q3), .val (.int q4), .val (.int ca), .val (.int cb), .val (.int cc), .val (.int da), .unset, .unset, .unset, .unset, .unset, .unset, .unset, .unset, .unset, .unset, .unset] [(.int (2 : Int32)), (.int q4)]))
    refine own_stW (fun _ z => XS.iand XJ39.here hx rfl (hb hby at_43) rfl z) ?_
    show OGoW p e below s _ Z _ _ (TJ39.setTop (mkF m 44 #[.val (.int q1), .val (.int q2), .val (.int q3), .val (.int q4), .val (.int ca), .val (.int cb), .val (.int cc), .val (.int da), .unset, .unset, .unset, .unset, .unset, .unset, .unset, .unset, .unset, .unset, .unset] [(.int (q4 &&& (2 : Int32)))]))
    have J59 : ∀ (TJ59 : State) (db : Int32), Stand p l e room_1 (s.setVm s.vm) m #[(.int q1), (.int q2), (.int q3), (.int q4)] below meth c TJ59 [] 0 0 → TJ59.heap = h0 → (own_good db) → OGoW p e below s room_1 Z own_EL (OLawQ n0) (TJ59.setTop (mkF m 59 #[.val (.int q1), .val (.int q2), .val (.int q3), .val (.int q4), .val (.int ca), .val (.int cb), .val (.int cc), .val (.int da), .unset, .unset, .unset, .unset, .unset, .unset, .unset, .unset, .unset, .unset, .unset] [(.int db)])) := by
      intro TJ59 db XJ59 eJ59 g_db
      show OGoW p e below s _ Z _ _ (TJ59.setTop (mkF m 59 #[.val (.int q1), .val (.int q2), .val (.int q3), .val (.int q4), .val (.int ca), .val (.int cb), .val (.int cc), .val (.int da), .unset, .unset, .unset, .unset, .unset, .unset, .unset, .unset, .unset, .unset, .unset] [(.int db)]))
      refine own_stW (fun _ z => XS.istore XJ59.here hx rfl (hb hby at_59) rfl (l' := #[.val (.int q1), .val (.int q2), .val (.int q3), .val (.int q4), .val (.int ca), .val (.int cb), .val (.int cc), .val (.int da), .val (.int db), .unset, .unset, .unset, .unset, .unset, .unset, .unset, .unset, .unset, .unset]) rfl z) ?_
      show OGoW p e below s _ Z _ _ (TJ59.setTop (mkF m 61 #[.val (.int q1), .val (.int q2), .val (.int q3), .val (.int q4), .val (.int ca), .val (.int cb), .val (.int cc), .val (.int da), .val (.int db), .unset, .unset, .unset, .unset, .unset, .unset, .unset, .unset, .unset, .unset] []))
      refine own_stW (fun _ z => XS.iloadN XJ59.here hx rfl (hb hby at_61) rfl z) ?_
      show OGoW p e below s _ Z _ _ (TJ59.setTop (mkF m 62 #[.val (.int q1), .val (.int q2), .val (.int q3), .val (.int q4), .val (.int ca), .val (.int cb), .val (.int cc), .val (.int da), .val (.int db), .unset, .unset, .unset, .unset, .unset, .unset, .unset, .unset, .unset, .unset] [(.int q4)]))
      refine own_stW (fun _ z => XS.iconst XJ59.here hx rfl (hb hby at_62) z) ?_
      show OGoW p e below s _ Z _ _ (TJ59.setTop (mkF m 63 #[.val (.int q1), .val (.int q2), .val (.int q3), .val (.int q4), .val (.int ca), .val (.int cb), .val (.int cc), .val (.int da), .val (.int db), .unset, .unset, .unset, .unset, .unset, .unset, .unset, .unset, .unset, .unset] [(.int (4 : Int32)), (.int q4)]))
      refine own_stW (fun _ z => XS.iand XJ59.here hx rfl (hb hby at_63) rfl z) ?_
      show OGoW p e below s _ Z _ _ (TJ59.setTop (mkF m 64 #[.val (.int q1), .val (.int q2), .val (.int q3), .val (.int q4), .val (.int ca), .val (.int cb), .val (.int cc), .val (.int da), .val (.int db), .unset, .unset, .unset, .unset, .unset, .unset, .unset, .unset, .unset, .unset] [(.int (q4 &&& (4 : Int32)))]))
      have J79 : ∀ (TJ79 : State) (dc : Int32), Stand p l e room_1 (s.setVm s.vm) m #[(.int q1), (.int q2), (.int q3), (.int q4)] below meth c TJ79 [] 0 0 → TJ79.heap = h0 → (own_good dc) → OGoW p e below s room_1 Z own_EL (OLawQ n0) (TJ79.setTop (mkF m 79 #[.val (.int q1), .val (.int q2), .val (.int q3), .val (.int q4), .val (.int ca), .val (.int cb), .val (.int cc), .val (.int da), .val (.int db), .unset, .unset, .unset, .unset, .unset, .unset, .unset, .unset, .unset, .unset] [(.int dc)])) := by
        intro TJ79 dc XJ79 eJ79 g_dc
        show OGoW p e below s _ Z _ _ (TJ79.setTop (mkF m 79 #[.val (.int q1), .val (.int q2), .val (.int q3), .val (.int q4), .val (.int ca), .val (.int cb), .val (.int cc), .val (.int da), .val (.int db), .unset, .unset, .unset, .unset, .unset, .unset, .unset, .unset, .unset, .unset] [(.int dc)]))
        refine own_stW (fun _ z => XS.istore XJ79.here hx rfl (hb hby at_79) rfl (l' := #[.val (.int q1), .val (.int q2), .val (.int q3), .val (.int q4), .val (.int ca), .val (.int cb), .val (.int cc), .val (.int da), .val (.int db), .val (.int dc), .unset, .unset, .unset, .unset, .unset, .unset, .unset, .unset, .unset]) rfl z) ?_
        show OGoW p e below s _ Z _ _ (TJ79.setTop (mkF m 81 #[.val (.int q1), .val (.int q2), .val (.int q3), .val (.int q4), .val (.int ca), .val (.int cb), .val (.int cc), .val (.int da), .val (.int db), .val (.int dc), .unset, .unset, .unset, .unset, .unset, .unset, .unset, .unset, .unset] []))
        refine own_stW (fun _ z => XS.iconst XJ79.here hx rfl (hb hby at_81) z) ?_
        show OGoW p e below s _ Z _ _ (TJ79.setTop (mkF m 82 #[.val (.int q1), .val (.int q2), .val (.int q3), .val (.int q4), .val (.int ca), .val (.int cb), .val (.int cc), .val (.int da), .val (.int db), .val (.int dc), .unset, .unset, .unset, .unset, .unset, .unset, .unset, .unset, .unset] [(.int (1 : Int32))]))
        refine own_stW (fun _ z => XS.iloadN XJ79.here hx rfl (hb hby at_82) rfl z) ?_
        show OGoW p e below s _ Z _ _ (TJ79.setTop (mkF m 83 #[.val (.int q1), .val (.int q2), .val (.int q3), .val (.int q4), .val (.int ca), .val (.int cb), .val (.int cc), .val (.int da), .val (.int db), .val (.int dc), .unset, .unset, .unset, .unset, .unset, .unset, .unset, .unset, .unset] [(.int q3), (.int (1 : Int32))]))
        refine own_stW (XJ79.ldcInt hx hown (mvT hZ (own_w hw 4 rfl)) (g := (mkF m 83 #[.val (.int q1), .val (.int q2), .val (.int q3), .val (.int q4), .val (.int ca), .val (.int cb), .val (.int cc), .val (.int da), .val (.int db), .val (.int dc), .unset, .unset, .unset, .unset, .unset, .unset, .unset, .unset, .unset] [(.int q3), (.int (1 : Int32))])) rfl (hb hby at_83)) ?_
        show OGoW p e below s _ Z _ _ (TJ79.setTop (mkF m 85 #[.val (.int q1), .val (.int q2), .val (.int q3), .val (.int q4), .val (.int ca), .val (.int cb), .val (.int cc), .val (.int da), .val (.int db), .val (.int dc), .unset, .unset, .unset, .unset, .unset, .unset, .unset, .unset, .unset] [(.int (2147483647 : Int32)), (.int q3), (.int (1 : Int32))]))
        refine own_stW (fun _ z => XS.iand XJ79.here hx rfl (hb hby at_85) rfl z) ?_
        show OGoW p e below s _ Z _ _ (TJ79.setTop (mkF m 86 #[.val (.int q1), .val (.int q2), .val (.int q3), .val (.int q4), .val (.int ca), .val (.int cb), .val (.int cc), .val (.int da), .val (.int db), .val (.int dc), .unset, .unset, .unset, .unset, .unset, .unset, .unset, .unset, .unset] [(.int (q3 &&& (2147483647 : Int32))), (.int (1 : Int32))]))
        refine own_stW (fun _ z => XS.iconst XJ79.here hx rfl (hb hby at_86) z) ?_
        show OGoW p e below s _ Z _ _ (TJ79.setTop (mkF m 87 #[.val (.int q1), .val (.int q2), .val (.int q3), .val (.int q4), .val (.int ca), .val (.int cb), .val (.int cc), .val (.int da), .val (.int db), .val (.int dc), .unset, .unset, .unset, .unset, .unset, .unset, .unset, .unset, .unset] [(.int (3 : Int32)), (.int (q3 &&& (2147483647 : Int32))), (.int (1 : Int32))]))
        refine own_stW (fun _ z => iremM XJ79 hx rfl (hb hby at_87) rfl (by decide) z) ?_
        show OGoW p e below s _ Z _ _ (TJ79.setTop (mkF m 88 #[.val (.int q1), .val (.int q2), .val (.int q3), .val (.int q4), .val (.int ca), .val (.int cb), .val (.int cc), .val (.int da), .val (.int db), .val (.int dc), .unset, .unset, .unset, .unset, .unset, .unset, .unset, .unset, .unset] [(.int ((q3 &&& (2147483647 : Int32)) % (3 : Int32))), (.int (1 : Int32))]))
        refine own_stW (fun _ z => XS.iadd XJ79.here hx rfl (hb hby at_88) rfl z) ?_
        show OGoW p e below s _ Z _ _ (TJ79.setTop (mkF m 89 #[.val (.int q1), .val (.int q2), .val (.int q3), .val (.int q4), .val (.int ca), .val (.int cb), .val (.int cc), .val (.int da), .val (.int db), .val (.int dc), .unset, .unset, .unset, .unset, .unset, .unset, .unset, .unset, .unset] [(.int ((1 : Int32) + ((q3 &&& (2147483647 : Int32)) % (3 : Int32))))]))
        obtain ⟨n, e_la, h_la⟩ := own_m3 q3
        rw [e_la]
        refine own_stW (fun _ z => XS.istore XJ79.here hx rfl (hb hby at_89) rfl (l' := #[.val (.int q1), .val (.int q2), .val (.int q3), .val (.int q4), .val (.int ca), .val (.int cb), .val (.int cc), .val (.int da), .val (.int db), .val (.int dc), .val (.int (Int32.ofNat n)), .unset, .unset, .unset, .unset, .unset, .unset, .unset, .unset]) rfl z) ?_
        show OGoW p e below s _ Z _ _ (TJ79.setTop (mkF m 91 #[.val (.int q1), .val (.int q2), .val (.int q3), .val (.int q4), .val (.int ca), .val (.int cb), .val (.int cc), .val (.int da), .val (.int db), .val (.int dc), .val (.int (Int32.ofNat n)), .unset, .unset, .unset, .unset, .unset, .unset, .unset, .unset] []))
        refine own_stW (fun _ z => XS.iloadN XJ79.here hx rfl (hb hby at_91) rfl z) ?_
        show OGoW p e below s _ Z _ _ (TJ79.setTop (mkF m 92 #[.val (.int q1), .val (.int q2), .val (.int q3), .val (.int q4), .val (.int ca), .val (.int cb), .val (.int cc), .val (.int da), .val (.int db), .val (.int dc), .val (.int (Int32.ofNat n)), .unset, .unset, .unset, .unset, .unset, .unset, .unset, .unset] [(.int q4)]))
        refine own_stW (fun _ z => XS.bipush XJ79.here hx rfl (hb hby at_92) z) ?_
        show OGoW p e below s _ Z _ _ (TJ79.setTop (mkF m 94 #[.val (.int q1), .val (.int q2), .val (.int q3), .val (.int q4), .val (.int ca), .val (.int cb), .val (.int cc), .val (.int da), .val (.int db), .val (.int dc), .val (.int (Int32.ofNat n)), .unset, .unset, .unset, .unset, .unset, .unset, .unset, .unset] [(.int (8 : Int32)), (.int q4)]))
        refine own_stW (fun _ z => XS.iand XJ79.here hx rfl (hb hby at_94) rfl z) ?_
        show OGoW p e below s _ Z _ _ (TJ79.setTop (mkF m 95 #[.val (.int q1), .val (.int q2), .val (.int q3), .val (.int q4), .val (.int ca), .val (.int cb), .val (.int cc), .val (.int da), .val (.int db), .val (.int dc), .val (.int (Int32.ofNat n)), .unset, .unset, .unset, .unset, .unset, .unset, .unset, .unset] [(.int (q4 &&& (8 : Int32)))]))
        have J113 : ∀ (TJ113 : State) (mm : Nat), Stand p l e room_1 (s.setVm s.vm) m #[(.int q1), (.int q2), (.int q3), (.int q4)] below meth c TJ113 [] 0 0 → TJ113.heap = h0 → (mm = 1 ∨ mm = 2 ∨ mm = 3) → OGoW p e below s room_1 Z own_EL (OLawQ n0) (TJ113.setTop (mkF m 113 #[.val (.int q1), .val (.int q2), .val (.int q3), .val (.int q4), .val (.int ca), .val (.int cb), .val (.int cc), .val (.int da), .val (.int db), .val (.int dc), .val (.int (Int32.ofNat n)), .unset, .unset, .unset, .unset, .unset, .unset, .unset, .unset] [(.int (Int32.ofNat mm))])) := by
          intro TJ113 mm XJ113 eJ113 h_lb
          show OGoW p e below s _ Z _ _ (TJ113.setTop (mkF m 113 #[.val (.int q1), .val (.int q2), .val (.int q3), .val (.int q4), .val (.int ca), .val (.int cb), .val (.int cc), .val (.int da), .val (.int db), .val (.int dc), .val (.int (Int32.ofNat n)), .unset, .unset, .unset, .unset, .unset, .unset, .unset, .unset] [(.int (Int32.ofNat mm))]))
          refine own_stW (fun _ z => XS.istore XJ113.here hx rfl (hb hby at_113) rfl (l' := #[.val (.int q1), .val (.int q2), .val (.int q3), .val (.int q4), .val (.int ca), .val (.int cb), .val (.int cc), .val (.int da), .val (.int db), .val (.int dc), .val (.int (Int32.ofNat n)), .val (.int (Int32.ofNat mm)), .unset, .unset, .unset, .unset, .unset, .unset, .unset]) rfl z) ?_
          show OGoW p e below s _ Z _ _ (TJ113.setTop (mkF m 115 #[.val (.int q1), .val (.int q2), .val (.int q3), .val (.int q4), .val (.int ca), .val (.int cb), .val (.int cc), .val (.int da), .val (.int db), .val (.int dc), .val (.int (Int32.ofNat n)), .val (.int (Int32.ofNat mm)), .unset, .unset, .unset, .unset, .unset, .unset, .unset] []))
          refine own_stW (fun _ z => XS.iload XJ113.here hx rfl (hb hby at_115) rfl z) ?_
          show OGoW p e below s _ Z _ _ (TJ113.setTop (mkF m 117 #[.val (.int q1), .val (.int q2), .val (.int q3), .val (.int q4), .val (.int ca), .val (.int cb), .val (.int cc), .val (.int da), .val (.int db), .val (.int dc), .val (.int (Int32.ofNat n)), .val (.int (Int32.ofNat mm)), .unset, .unset, .unset, .unset, .unset, .unset, .unset] [(.int ca)]))
          refine own_stW (fun _ z => XS.iload XJ113.here hx rfl (hb hby at_117) rfl z) ?_
          show OGoW p e below s _ Z _ _ (TJ113.setTop (mkF m 119 #[.val (.int q1), .val (.int q2), .val (.int q3), .val (.int q4), .val (.int ca), .val (.int cb), .val (.int cc), .val (.int da), .val (.int db), .val (.int dc), .val (.int (Int32.ofNat n)), .val (.int (Int32.ofNat mm)), .unset, .unset, .unset, .unset, .unset, .unset, .unset] [(.int cb), (.int ca)]))
          refine own_stW (fun _ z => XS.iload XJ113.here hx rfl (hb hby at_119) rfl z) ?_
          show OGoW p e below s _ Z _ _ (TJ113.setTop (mkF m 121 #[.val (.int q1), .val (.int q2), .val (.int q3), .val (.int q4), .val (.int ca), .val (.int cb), .val (.int cc), .val (.int da), .val (.int db), .val (.int dc), .val (.int (Int32.ofNat n)), .val (.int (Int32.ofNat mm)), .unset, .unset, .unset, .unset, .unset, .unset, .unset] [(.int cc), (.int cb), (.int ca)]))
          refine own_stW (fun _ z => XS.iload XJ113.here hx rfl (hb hby at_121) rfl z) ?_
          show OGoW p e below s _ Z _ _ (TJ113.setTop (mkF m 123 #[.val (.int q1), .val (.int q2), .val (.int q3), .val (.int q4), .val (.int ca), .val (.int cb), .val (.int cc), .val (.int da), .val (.int db), .val (.int dc), .val (.int (Int32.ofNat n)), .val (.int (Int32.ofNat mm)), .unset, .unset, .unset, .unset, .unset, .unset, .unset] [(.int (Int32.ofNat n)), (.int cc), (.int cb), (.int ca)]))
          obtain ⟨_, T231, Lc231, X231, hQ231, st231⟩ := own_callS XJ113 hx hZ (y := (⟨"com/example/limpet/limpet/LockNameEqualsPinLaw", "mk", "(CCCI)Ljava/lang/String;"⟩ : MethodName)) (W := 0) hown (own_w hw 5 rfl) (own_w hw 6 rfl) (own_w hw 2 rfl) (own_w hw 7 rfl) (by decide) (rmk l Z a0 hw ca cb cc n cs h0 n0 Z0 S_COMPACT_STRINGS hcs h_la g_ca g_cb g_cc) (by decide) (by decide) (g := (mkF m 123 #[.val (.int q1), .val (.int q2), .val (.int q3), .val (.int q4), .val (.int ca), .val (.int cb), .val (.int cc), .val (.int da), .val (.int db), .val (.int dc), .val (.int (Int32.ofNat n)), .val (.int (Int32.ofNat mm)), .unset, .unset, .unset, .unset, .unset, .unset, .unset] [(.int (Int32.ofNat n)), (.int cc), (.int cb), (.int ca)])) rfl (by rw [hml]; rfl) (argsL := [(.int ca), (.int cb), (.int cc), (.int (Int32.ofNat n))]) (rest := []) (lenOf pd_31 rfl) rfl (by show 2 * 0 + _ ≤ _; exact Nat.le_of_eq rfl) (hb hby at_123) rfl eJ113 (by decide) (by decide)
          obtain ⟨sx, tx, rfl, Nq231, Kq231, fq231_sx, fq231_tx, nq231_sx_tx, q231_0, q231_1, q231_2, q231_3⟩ := hQ231
          have old_sx : n0 ≤ sx := Nat.le_trans Z0 fq231_sx
          have old_tx : n0 ≤ tx := Nat.le_trans Z0 fq231_tx
          have SFn_sx := own_safe_fresh (EL := own_EL) Kq231 all0 CH.1 fq231_sx
          have SFn_tx := own_safe_fresh (EL := own_EL) Kq231 all0 CH.1 fq231_tx
          have hpl_Kq231 : ∀ w ∈ ([] : List Addr), ∃ c : Cell, h0[w]? = some c ∧ c.vm.isStatics = false := all0
          have Z0 := Nat.le_trans Z0 Kq231.1
          have hk := Nat.le_trans hk Kq231.1
          have CH := CH.trans (CHr.keep Kq231 all0 CH.1)
          have S_COMPACT_STRINGS := own_sta_keep S_COMPACT_STRINGS Kq231 hpl_Kq231
          have S_SIOOBE_FORMATTER := own_sta_keep S_SIOOBE_FORMATTER Kq231 hpl_Kq231
          have Nr231 := Fr.app N0 Nq231
          have E_sx := q231_0
          have F_coder_sx := q231_1
          have F_value_sx := q231_2
          have A_tx := q231_3
          refine own_stW st231 ?_
          show OGoW p e below s _ Z _ _ (T231.setTop (mkF m 126 #[.val (.int q1), .val (.int q2), .val (.int q3), .val (.int q4), .val (.int ca), .val (.int cb), .val (.int cc), .val (.int da), .val (.int db), .val (.int dc), .val (.int (Int32.ofNat n)), .val (.int (Int32.ofNat mm)), .unset, .unset, .unset, .unset, .unset, .unset, .unset] [(.ref sx)]))
          refine own_stW (fun _ z => XS.astore X231.here hx rfl (hb hby at_126) rfl rfl (l' := #[.val (.int q1), .val (.int q2), .val (.int q3), .val (.int q4), .val (.int ca), .val (.int cb), .val (.int cc), .val (.int da), .val (.int db), .val (.int dc), .val (.int (Int32.ofNat n)), .val (.int (Int32.ofNat mm)), .val (.ref sx), .unset, .unset, .unset, .unset, .unset, .unset]) rfl z) ?_
          show OGoW p e below s _ Z _ _ (T231.setTop (mkF m 128 #[.val (.int q1), .val (.int q2), .val (.int q3), .val (.int q4), .val (.int ca), .val (.int cb), .val (.int cc), .val (.int da), .val (.int db), .val (.int dc), .val (.int (Int32.ofNat n)), .val (.int (Int32.ofNat mm)), .val (.ref sx), .unset, .unset, .unset, .unset, .unset, .unset] []))
          refine own_stW (fun _ z => XS.iload X231.here hx rfl (hb hby at_128) rfl z) ?_
          show OGoW p e below s _ Z _ _ (T231.setTop (mkF m 130 #[.val (.int q1), .val (.int q2), .val (.int q3), .val (.int q4), .val (.int ca), .val (.int cb), .val (.int cc), .val (.int da), .val (.int db), .val (.int dc), .val (.int (Int32.ofNat n)), .val (.int (Int32.ofNat mm)), .val (.ref sx), .unset, .unset, .unset, .unset, .unset, .unset] [(.int da)]))
          refine own_stW (fun _ z => XS.iload X231.here hx rfl (hb hby at_130) rfl z) ?_
          show OGoW p e below s _ Z _ _ (T231.setTop (mkF m 132 #[.val (.int q1), .val (.int q2), .val (.int q3), .val (.int q4), .val (.int ca), .val (.int cb), .val (.int cc), .val (.int da), .val (.int db), .val (.int dc), .val (.int (Int32.ofNat n)), .val (.int (Int32.ofNat mm)), .val (.ref sx), .unset, .unset, .unset, .unset, .unset, .unset] [(.int db), (.int da)]))
          refine own_stW (fun _ z => XS.iload X231.here hx rfl (hb hby at_132) rfl z) ?_
          show OGoW p e below s _ Z _ _ (T231.setTop (mkF m 134 #[.val (.int q1), .val (.int q2), .val (.int q3), .val (.int q4), .val (.int ca), .val (.int cb), .val (.int cc), .val (.int da), .val (.int db), .val (.int dc), .val (.int (Int32.ofNat n)), .val (.int (Int32.ofNat mm)), .val (.ref sx), .unset, .unset, .unset, .unset, .unset, .unset] [(.int dc), (.int db), (.int da)]))
          refine own_stW (fun _ z => XS.iload X231.here hx rfl (hb hby at_134) rfl z) ?_
          show OGoW p e below s _ Z _ _ (T231.setTop (mkF m 136 #[.val (.int q1), .val (.int q2), .val (.int q3), .val (.int q4), .val (.int ca), .val (.int cb), .val (.int cc), .val (.int da), .val (.int db), .val (.int dc), .val (.int (Int32.ofNat n)), .val (.int (Int32.ofNat mm)), .val (.ref sx), .unset, .unset, .unset, .unset, .unset, .unset] [(.int (Int32.ofNat mm)), (.int dc), (.int db), (.int da)]))
          obtain ⟨_, T232, Lc232, X232, hQ232, st232⟩ := own_callS X231 hx hZ (y := (⟨"com/example/limpet/limpet/LockNameEqualsPinLaw", "mk", "(CCCI)Ljava/lang/String;"⟩ : MethodName)) (W := 0) hown (own_w hw 5 rfl) (own_w hw 6 rfl) (own_w hw 2 rfl) (own_w hw 7 rfl) (by decide) (rmk l Z a0 hw da db dc mm cs T231.heap n0 Z0 S_COMPACT_STRINGS hcs h_lb g_da g_db g_dc) (by decide) (by decide) (g := (mkF m 136 #[.val (.int q1), .val (.int q2), .val (.int q3), .val (.int q4), .val (.int ca), .val (.int cb), .val (.int cc), .val (.int da), .val (.int db), .val (.int dc), .val (.int (Int32.ofNat n)), .val (.int (Int32.ofNat mm)), .val (.ref sx), .unset, .unset, .unset, .unset, .unset, .unset] [(.int (Int32.ofNat mm)), (.int dc), (.int db), (.int da)])) rfl (by rw [hml]; rfl) (argsL := [(.int da), (.int db), (.int dc), (.int (Int32.ofNat mm))]) (rest := []) (lenOf pd_31 rfl) rfl (by show 2 * 0 + _ ≤ _; exact Nat.le_of_eq rfl) (hb hby at_136) rfl rfl (by decide) (by decide)
          obtain ⟨sy, ty, rfl, Nq232, Kq232, fq232_sy, fq232_ty, nq232_sy_ty, q232_0, q232_1, q232_2, q232_3⟩ := hQ232
          have ne_sx_sy : sx ≠ sy := Nat.ne_of_lt (Nat.lt_of_lt_of_le E_sx.lt fq232_sy)
          have ne_tx_sy : tx ≠ sy := Nat.ne_of_lt (Nat.lt_of_lt_of_le A_tx.lt fq232_sy)
          have old_sy : n0 ≤ sy := Nat.le_trans Z0 fq232_sy
          have ne_sx_ty : sx ≠ ty := Nat.ne_of_lt (Nat.lt_of_lt_of_le E_sx.lt fq232_ty)
          have ne_tx_ty : tx ≠ ty := Nat.ne_of_lt (Nat.lt_of_lt_of_le A_tx.lt fq232_ty)
          have old_ty : n0 ≤ ty := Nat.le_trans Z0 fq232_ty
          have SFn_sy := own_safe_fresh (EL := own_EL) Kq232 all0 CH.1 fq232_sy
          have SFn_ty := own_safe_fresh (EL := own_EL) Kq232 all0 CH.1 fq232_ty
          have hpl_Kq232 : ∀ w ∈ ([] : List Addr), ∃ c : Cell, T231.heap[w]? = some c ∧ c.vm.isStatics = false := all0
          have Z0 := Nat.le_trans Z0 Kq232.1
          have hk := Nat.le_trans hk Kq232.1
          have CH := CH.trans (CHr.keep Kq232 all0 CH.1)
          have S_COMPACT_STRINGS := own_sta_keep S_COMPACT_STRINGS Kq232 hpl_Kq232
          have S_SIOOBE_FORMATTER := own_sta_keep S_SIOOBE_FORMATTER Kq232 hpl_Kq232
          have E_sx := E_sx.keep Kq232
          have F_coder_sx := F_coder_sx.keep Kq232 nin0
          have F_value_sx := F_value_sx.keep Kq232 nin0
          have A_tx := A_tx.keep Kq232 nin0
          have Nr232 := Fr.app Nr231 Nq232
          have E_sy := q232_0
          have F_coder_sy := q232_1
          have F_value_sy := q232_2
          have A_ty := q232_3
          refine own_stW st232 ?_
          show OGoW p e below s _ Z _ _ (T232.setTop (mkF m 139 #[.val (.int q1), .val (.int q2), .val (.int q3), .val (.int q4), .val (.int ca), .val (.int cb), .val (.int cc), .val (.int da), .val (.int db), .val (.int dc), .val (.int (Int32.ofNat n)), .val (.int (Int32.ofNat mm)), .val (.ref sx), .unset, .unset, .unset, .unset, .unset, .unset] [(.ref sy)]))
          refine own_stW (fun _ z => XS.astore X232.here hx rfl (hb hby at_139) rfl rfl (l' := #[.val (.int q1), .val (.int q2), .val (.int q3), .val (.int q4), .val (.int ca), .val (.int cb), .val (.int cc), .val (.int da), .val (.int db), .val (.int dc), .val (.int (Int32.ofNat n)), .val (.int (Int32.ofNat mm)), .val (.ref sx), .val (.ref sy), .unset, .unset, .unset, .unset, .unset]) rfl z) ?_
          show OGoW p e below s _ Z _ _ (T232.setTop (mkF m 141 #[.val (.int q1), .val (.int q2), .val (.int q3), .val (.int q4), .val (.int ca), .val (.int cb), .val (.int cc), .val (.int da), .val (.int db), .val (.int dc), .val (.int (Int32.ofNat n)), .val (.int (Int32.ofNat mm)), .val (.ref sx), .val (.ref sy), .unset, .unset, .unset, .unset, .unset] []))
          obtain ⟨T233, hp233, X233, e233, Ex233, Aa233, Dd233, -, st233⟩ := newO X232 hx hZ hown (own_w hw 38 rfl) (own_w hw 39 rfl) (own_w hw 40 rfl) rfl (g := (mkF m 141 #[.val (.int q1), .val (.int q2), .val (.int q3), .val (.int q4), .val (.int ca), .val (.int cb), .val (.int cc), .val (.int da), .val (.int db), .val (.int dc), .val (.int (Int32.ofNat n)), .val (.int (Int32.ofNat mm)), .val (.ref sx), .val (.ref sy), .unset, .unset, .unset, .unset, .unset] [])) rfl (hb hby at_141) (by decide) (by decide)
          obtain ⟨xo, gs233⟩ : ∃ z, z = T232.heap.size := ⟨_, rfl⟩
          rw [← gs233] at Aa233 Dd233 st233
          have ne_sx_xo : sx ≠ xo := Nat.ne_of_lt (Nat.lt_of_lt_of_le E_sx.lt (Nat.le_of_eq gs233.symm))
          have ne_tx_xo : tx ≠ xo := Nat.ne_of_lt (Nat.lt_of_lt_of_le A_tx.lt (Nat.le_of_eq gs233.symm))
          have ne_sy_xo : sy ≠ xo := Nat.ne_of_lt (Nat.lt_of_lt_of_le E_sy.lt (Nat.le_of_eq gs233.symm))
          have ne_ty_xo : ty ≠ xo := Nat.ne_of_lt (Nat.lt_of_lt_of_le A_ty.lt (Nat.le_of_eq gs233.symm))
          have old_xo : n0 ≤ xo := Nat.le_trans Z0 (Nat.le_of_eq gs233.symm)
          have Z0 := Nat.le_trans Z0 Ex233.1
          have hk := Nat.le_trans hk Ex233.1
          have CH := CH.trans (CHr.ext Ex233 CH.1)
          have S_COMPACT_STRINGS := S_COMPACT_STRINGS.ext Ex233
          have S_SIOOBE_FORMATTER := S_SIOOBE_FORMATTER.ext Ex233
          have E_sx := E_sx.ext Ex233
          have F_coder_sx := F_coder_sx.ext Ex233
          have F_value_sx := F_value_sx.ext Ex233
          have A_tx := A_tx.ext Ex233
          have E_sy := E_sy.ext Ex233
          have F_coder_sy := F_coder_sy.ext Ex233
          have F_value_sy := F_value_sy.ext Ex233
          have A_ty := A_ty.ext Ex233
          have E_xo := Aa233
          have F_value_xo : Fld Z hp233 xo "com/example/limpet/limpet/LockName" "value" "Ljava/lang/String;" .null := Dd233 (Or.inr (own_w hw 90 rfl)) (ty := (.object "java/lang/String")) (by decide)
          have F_lockKey_xo : Fld Z hp233 xo "com/example/limpet/limpet/LockName" "lockKey" "Ljava/lang/String;" .null := Dd233 (Or.inr (own_w hw 217 rfl)) (ty := (.object "java/lang/String")) (by decide)
          have F_fenceKey_xo : Fld Z hp233 xo "com/example/limpet/limpet/LockName" "fenceKey" "Ljava/lang/String;" .null := Dd233 (Or.inr (own_w hw 220 rfl)) (ty := (.object "java/lang/String")) (by decide)
          have F_releasedChannel_xo : Fld Z hp233 xo "com/example/limpet/limpet/LockName" "releasedChannel" "Ljava/lang/String;" .null := Dd233 (Or.inr (own_w hw 223 rfl)) (ty := (.object "java/lang/String")) (by decide)
          have F_waitersChannel_xo : Fld Z hp233 xo "com/example/limpet/limpet/LockName" "waitersChannel" "Ljava/lang/String;" .null := Dd233 (Or.inr (own_w hw 226 rfl)) (ty := (.object "java/lang/String")) (by decide)
          refine own_stW st233 ?_
          show OGoW p e below s _ Z _ _ (T233.setTop (mkF m 144 #[.val (.int q1), .val (.int q2), .val (.int q3), .val (.int q4), .val (.int ca), .val (.int cb), .val (.int cc), .val (.int da), .val (.int db), .val (.int dc), .val (.int (Int32.ofNat n)), .val (.int (Int32.ofNat mm)), .val (.ref sx), .val (.ref sy), .unset, .unset, .unset, .unset, .unset] [(.ref xo)]))
          refine own_stW (fun _ z => XS.dup X233.here hx rfl (hb hby at_144) rfl rfl z) ?_
          show OGoW p e below s _ Z _ _ (T233.setTop (mkF m 145 #[.val (.int q1), .val (.int q2), .val (.int q3), .val (.int q4), .val (.int ca), .val (.int cb), .val (.int cc), .val (.int da), .val (.int db), .val (.int dc), .val (.int (Int32.ofNat n)), .val (.int (Int32.ofNat mm)), .val (.ref sx), .val (.ref sy), .unset, .unset, .unset, .unset, .unset] [(.ref xo), (.ref xo)]))
          refine own_stW (fun _ z => XS.aload X233.here hx rfl (hb hby at_145) rfl rfl z) ?_
          show OGoW p e below s _ Z _ _ (T233.setTop (mkF m 147 #[.val (.int q1), .val (.int q2), .val (.int q3), .val (.int q4), .val (.int ca), .val (.int cb), .val (.int cc), .val (.int da), .val (.int db), .val (.int dc), .val (.int (Int32.ofNat n)), .val (.int (Int32.ofNat mm)), .val (.ref sx), .val (.ref sy), .unset, .unset, .unset, .unset, .unset] [(.ref sx), (.ref xo), (.ref xo)]))
          obtain ⟨_, T234, Lc234, X234, hQ234, hS, hZ, hown, CH234, st234⟩ := own_callIW X233 hx hZ hS hk hEL CH.1 (y := (⟨"com/example/limpet/limpet/LockName", "<init>", "(Ljava/lang/String;)V"⟩ : MethodName)) (W := 1) rfl hown (own_w hw 41 rfl) (own_w hw 42 rfl) (own_w hw 43 rfl) (own_w hw 40 rfl) (by decide) (k7_ l Z a0 hw xo sx tx n (own_c3 ca cb cc) cs fm hp233 n0 Z0 old_xo ne_sx_xo ne_tx_xo E_xo F_value_xo F_lockKey_xo F_fenceKey_xo F_releasedChannel_xo F_waitersChannel_xo E_sx F_coder_sx F_value_sx A_tx S_COMPACT_STRINGS S_SIOOBE_FORMATTER hcs cat_fm ir_fm (by omega) (by omega) (own_c3g g_ca g_cb g_cc n)) (by decide) (by decide) (a := xo) (g := (mkF m 147 #[.val (.int q1), .val (.int q2), .val (.int q3), .val (.int q4), .val (.int ca), .val (.int cb), .val (.int cc), .val (.int da), .val (.int db), .val (.int dc), .val (.int (Int32.ofNat n)), .val (.int (Int32.ofNat mm)), .val (.ref sx), .val (.ref sy), .unset, .unset, .unset, .unset, .unset] [(.ref sx), (.ref xo), (.ref xo)])) rfl (by rw [hml]; rfl) (argsL := [(.ref sx)]) (rest := [(.ref xo)]) (lenOf pd_10 rfl) rfl (by show 2 * 0 + _ ≤ _; exact Nat.le_of_eq rfl) (hb hby at_147) rfl e233 (by decide) (by decide)
          have hk := Nat.le_refl T234.heap.size
          have CH := CH.trans CH234
          obtain ⟨rfl, Nq234, Kq234, q234_0, q234_1⟩ := hQ234
          have hpl_Kq234 : ∀ w ∈ [xo], ∃ c : Cell, hp233[w]? = some c ∧ c.vm.isStatics = false := (allS (own_pl_exa E_xo) all0)
          have Z0 := Nat.le_trans Z0 Kq234.1
          have S_COMPACT_STRINGS := own_sta_keep S_COMPACT_STRINGS Kq234 hpl_Kq234
          have S_SIOOBE_FORMATTER := own_sta_keep S_SIOOBE_FORMATTER Kq234 hpl_Kq234
          have E_sx := E_sx.keep Kq234
          have F_coder_sx := F_coder_sx.keep Kq234 (ninS ne_sx_xo nin0)
          have F_value_sx := F_value_sx.keep Kq234 (ninS ne_sx_xo nin0)
          have A_tx := A_tx.keep Kq234 (ninS ne_tx_xo nin0)
          have E_sy := E_sy.keep Kq234
          have F_coder_sy := F_coder_sy.keep Kq234 (ninS ne_sy_xo nin0)
          have F_value_sy := F_value_sy.keep Kq234 (ninS ne_sy_xo nin0)
          have A_ty := A_ty.keep Kq234 (ninS ne_ty_xo nin0)
          have Nr234 := Fr.app Nr232 Nq234
          have E_xo := q234_0
          have F_value_xo := q234_1
          refine own_stW st234 ?_
          show OGoW p e below s _ Z _ _ (T234.setTop (mkF m 150 #[.val (.int q1), .val (.int q2), .val (.int q3), .val (.int q4), .val (.int ca), .val (.int cb), .val (.int cc), .val (.int da), .val (.int db), .val (.int dc), .val (.int (Int32.ofNat n)), .val (.int (Int32.ofNat mm)), .val (.ref sx), .val (.ref sy), .unset, .unset, .unset, .unset, .unset] [(.ref xo)]))
          refine own_stW (fun _ z => XS.astore X234.here hx rfl (hb hby at_150) rfl rfl (l' := #[.val (.int q1), .val (.int q2), .val (.int q3), .val (.int q4), .val (.int ca), .val (.int cb), .val (.int cc), .val (.int da), .val (.int db), .val (.int dc), .val (.int (Int32.ofNat n)), .val (.int (Int32.ofNat mm)), .val (.ref sx), .val (.ref sy), .val (.ref xo), .unset, .unset, .unset, .unset]) rfl z) ?_
          show OGoW p e below s _ Z _ _ (T234.setTop (mkF m 152 #[.val (.int q1), .val (.int q2), .val (.int q3), .val (.int q4), .val (.int ca), .val (.int cb), .val (.int cc), .val (.int da), .val (.int db), .val (.int dc), .val (.int (Int32.ofNat n)), .val (.int (Int32.ofNat mm)), .val (.ref sx), .val (.ref sy), .val (.ref xo), .unset, .unset, .unset, .unset] []))
          obtain ⟨T235, hp235, X235, e235, Ex235, Aa235, Dd235, -, st235⟩ := newO X234 hx hZ hown (own_w hw 38 rfl) (own_w hw 39 rfl) (own_w hw 40 rfl) rfl (g := (mkF m 152 #[.val (.int q1), .val (.int q2), .val (.int q3), .val (.int q4), .val (.int ca), .val (.int cb), .val (.int cc), .val (.int da), .val (.int db), .val (.int dc), .val (.int (Int32.ofNat n)), .val (.int (Int32.ofNat mm)), .val (.ref sx), .val (.ref sy), .val (.ref xo), .unset, .unset, .unset, .unset] [])) rfl (hb hby at_152) (by decide) (by decide)
          obtain ⟨yo, gs235⟩ : ∃ z, z = T234.heap.size := ⟨_, rfl⟩
          rw [← gs235] at Aa235 Dd235 st235
          have ne_sx_yo : sx ≠ yo := Nat.ne_of_lt (Nat.lt_of_lt_of_le E_sx.lt (Nat.le_of_eq gs235.symm))
          have ne_tx_yo : tx ≠ yo := Nat.ne_of_lt (Nat.lt_of_lt_of_le A_tx.lt (Nat.le_of_eq gs235.symm))
          have ne_sy_yo : sy ≠ yo := Nat.ne_of_lt (Nat.lt_of_lt_of_le E_sy.lt (Nat.le_of_eq gs235.symm))
          have ne_ty_yo : ty ≠ yo := Nat.ne_of_lt (Nat.lt_of_lt_of_le A_ty.lt (Nat.le_of_eq gs235.symm))
          have ne_xo_yo : xo ≠ yo := Nat.ne_of_lt (Nat.lt_of_lt_of_le E_xo.lt (Nat.le_of_eq gs235.symm))
          have old_yo : n0 ≤ yo := Nat.le_trans Z0 (Nat.le_of_eq gs235.symm)
          have Z0 := Nat.le_trans Z0 Ex235.1
          have hk := Nat.le_trans hk Ex235.1
          have CH := CH.trans (CHr.ext Ex235 CH.1)
          have S_COMPACT_STRINGS := S_COMPACT_STRINGS.ext Ex235
          have S_SIOOBE_FORMATTER := S_SIOOBE_FORMATTER.ext Ex235
          have E_sx := E_sx.ext Ex235
          have F_coder_sx := F_coder_sx.ext Ex235
          have F_value_sx := F_value_sx.ext Ex235
          have A_tx := A_tx.ext Ex235
          have E_sy := E_sy.ext Ex235
          have F_coder_sy := F_coder_sy.ext Ex235
          have F_value_sy := F_value_sy.ext Ex235
          have A_ty := A_ty.ext Ex235
          have E_xo := E_xo.ext Ex235
          have F_value_xo := F_value_xo.ext Ex235
          have E_yo := Aa235
          have F_value_yo : Fld Z hp235 yo "com/example/limpet/limpet/LockName" "value" "Ljava/lang/String;" .null := Dd235 (Or.inr (own_w hw 90 rfl)) (ty := (.object "java/lang/String")) (by decide)
          have F_lockKey_yo : Fld Z hp235 yo "com/example/limpet/limpet/LockName" "lockKey" "Ljava/lang/String;" .null := Dd235 (Or.inr (own_w hw 217 rfl)) (ty := (.object "java/lang/String")) (by decide)
          have F_fenceKey_yo : Fld Z hp235 yo "com/example/limpet/limpet/LockName" "fenceKey" "Ljava/lang/String;" .null := Dd235 (Or.inr (own_w hw 220 rfl)) (ty := (.object "java/lang/String")) (by decide)
          have F_releasedChannel_yo : Fld Z hp235 yo "com/example/limpet/limpet/LockName" "releasedChannel" "Ljava/lang/String;" .null := Dd235 (Or.inr (own_w hw 223 rfl)) (ty := (.object "java/lang/String")) (by decide)
          have F_waitersChannel_yo : Fld Z hp235 yo "com/example/limpet/limpet/LockName" "waitersChannel" "Ljava/lang/String;" .null := Dd235 (Or.inr (own_w hw 226 rfl)) (ty := (.object "java/lang/String")) (by decide)
          refine own_stW st235 ?_
          show OGoW p e below s _ Z _ _ (T235.setTop (mkF m 155 #[.val (.int q1), .val (.int q2), .val (.int q3), .val (.int q4), .val (.int ca), .val (.int cb), .val (.int cc), .val (.int da), .val (.int db), .val (.int dc), .val (.int (Int32.ofNat n)), .val (.int (Int32.ofNat mm)), .val (.ref sx), .val (.ref sy), .val (.ref xo), .unset, .unset, .unset, .unset] [(.ref yo)]))
          refine own_stW (fun _ z => XS.dup X235.here hx rfl (hb hby at_155) rfl rfl z) ?_
          show OGoW p e below s _ Z _ _ (T235.setTop (mkF m 156 #[.val (.int q1), .val (.int q2), .val (.int q3), .val (.int q4), .val (.int ca), .val (.int cb), .val (.int cc), .val (.int da), .val (.int db), .val (.int dc), .val (.int (Int32.ofNat n)), .val (.int (Int32.ofNat mm)), .val (.ref sx), .val (.ref sy), .val (.ref xo), .unset, .unset, .unset, .unset] [(.ref yo), (.ref yo)]))
          refine own_stW (fun _ z => XS.aload X235.here hx rfl (hb hby at_156) rfl rfl z) ?_
          show OGoW p e below s _ Z _ _ (T235.setTop (mkF m 158 #[.val (.int q1), .val (.int q2), .val (.int q3), .val (.int q4), .val (.int ca), .val (.int cb), .val (.int cc), .val (.int da), .val (.int db), .val (.int dc), .val (.int (Int32.ofNat n)), .val (.int (Int32.ofNat mm)), .val (.ref sx), .val (.ref sy), .val (.ref xo), .unset, .unset, .unset, .unset] [(.ref sy), (.ref yo), (.ref yo)]))
          obtain ⟨_, T236, Lc236, X236, hQ236, hS, hZ, hown, CH236, st236⟩ := own_callIW X235 hx hZ hS hk hEL CH.1 (y := (⟨"com/example/limpet/limpet/LockName", "<init>", "(Ljava/lang/String;)V"⟩ : MethodName)) (W := 1) rfl hown (own_w hw 41 rfl) (own_w hw 42 rfl) (own_w hw 43 rfl) (own_w hw 40 rfl) (by decide) (k7_ l Z a0 hw yo sy ty mm (own_c3 da db dc) cs fm hp235 n0 Z0 old_yo ne_sy_yo ne_ty_yo E_yo F_value_yo F_lockKey_yo F_fenceKey_yo F_releasedChannel_yo F_waitersChannel_yo E_sy F_coder_sy F_value_sy A_ty S_COMPACT_STRINGS S_SIOOBE_FORMATTER hcs cat_fm ir_fm (by omega) (by omega) (own_c3g g_da g_db g_dc mm)) (by decide) (by decide) (a := yo) (g := (mkF m 158 #[.val (.int q1), .val (.int q2), .val (.int q3), .val (.int q4), .val (.int ca), .val (.int cb), .val (.int cc), .val (.int da), .val (.int db), .val (.int dc), .val (.int (Int32.ofNat n)), .val (.int (Int32.ofNat mm)), .val (.ref sx), .val (.ref sy), .val (.ref xo), .unset, .unset, .unset, .unset] [(.ref sy), (.ref yo), (.ref yo)])) rfl (by rw [hml]; rfl) (argsL := [(.ref sy)]) (rest := [(.ref yo)]) (lenOf pd_10 rfl) rfl (by show 2 * 0 + _ ≤ _; exact Nat.le_of_eq rfl) (hb hby at_158) rfl e235 (by decide) (by decide)
          have hk := Nat.le_refl T236.heap.size
          have CH := CH.trans CH236
          obtain ⟨rfl, Nq236, Kq236, q236_0, q236_1⟩ := hQ236
          have hpl_Kq236 : ∀ w ∈ [yo], ∃ c : Cell, hp235[w]? = some c ∧ c.vm.isStatics = false := (allS (own_pl_exa E_yo) all0)
          have Z0 := Nat.le_trans Z0 Kq236.1
          have S_COMPACT_STRINGS := own_sta_keep S_COMPACT_STRINGS Kq236 hpl_Kq236
          have S_SIOOBE_FORMATTER := own_sta_keep S_SIOOBE_FORMATTER Kq236 hpl_Kq236
          have E_sx := E_sx.keep Kq236
          have F_coder_sx := F_coder_sx.keep Kq236 (ninS ne_sx_yo nin0)
          have F_value_sx := F_value_sx.keep Kq236 (ninS ne_sx_yo nin0)
          have A_tx := A_tx.keep Kq236 (ninS ne_tx_yo nin0)
          have E_sy := E_sy.keep Kq236
          have F_coder_sy := F_coder_sy.keep Kq236 (ninS ne_sy_yo nin0)
          have F_value_sy := F_value_sy.keep Kq236 (ninS ne_sy_yo nin0)
          have A_ty := A_ty.keep Kq236 (ninS ne_ty_yo nin0)
          have E_xo := E_xo.keep Kq236
          have F_value_xo := F_value_xo.keep Kq236 (ninS ne_xo_yo nin0)
          have Nr236 := Fr.app Nr234 Nq236
          have E_yo := q236_0
          have F_value_yo := q236_1
          refine own_stW st236 ?_
          show OGoW p e below s _ Z _ _ (T236.setTop (mkF m 161 #[.val (.int q1), .val (.int q2), .val (.int q3), .val (.int q4), .val (.int ca), .val (.int cb), .val (.int cc), .val (.int da), .val (.int db), .val (.int dc), .val (.int (Int32.ofNat n)), .val (.int (Int32.ofNat mm)), .val (.ref sx), .val (.ref sy), .val (.ref xo), .unset, .unset, .unset, .unset] [(.ref yo)]))
          refine own_stW (fun _ z => XS.astore X236.here hx rfl (hb hby at_161) rfl rfl (l' := #[.val (.int q1), .val (.int q2), .val (.int q3), .val (.int q4), .val (.int ca), .val (.int cb), .val (.int cc), .val (.int da), .val (.int db), .val (.int dc), .val (.int (Int32.ofNat n)), .val (.int (Int32.ofNat mm)), .val (.ref sx), .val (.ref sy), .val (.ref xo), .val (.ref yo), .unset, .unset, .unset]) rfl z) ?_
          show OGoW p e below s _ Z _ _ (T236.setTop (mkF m 163 #[.val (.int q1), .val (.int q2), .val (.int q3), .val (.int q4), .val (.int ca), .val (.int cb), .val (.int cc), .val (.int da), .val (.int db), .val (.int dc), .val (.int (Int32.ofNat n)), .val (.int (Int32.ofNat mm)), .val (.ref sx), .val (.ref sy), .val (.ref xo), .val (.ref yo), .unset, .unset, .unset] []))
          refine own_stW (fun _ z => XS.iload X236.here hx rfl (hb hby at_163) rfl z) ?_
          show OGoW p e below s _ Z _ _ (T236.setTop (mkF m 165 #[.val (.int q1), .val (.int q2), .val (.int q3), .val (.int q4), .val (.int ca), .val (.int cb), .val (.int cc), .val (.int da), .val (.int db), .val (.int dc), .val (.int (Int32.ofNat n)), .val (.int (Int32.ofNat mm)), .val (.ref sx), .val (.ref sy), .val (.ref xo), .val (.ref yo), .unset, .unset, .unset] [(.int (Int32.ofNat n))]))
          refine own_stW (fun _ z => XS.iload X236.here hx rfl (hb hby at_165) rfl z) ?_
          show OGoW p e below s _ Z _ _ (T236.setTop (mkF m 167 #[.val (.int q1), .val (.int q2), .val (.int q3), .val (.int q4), .val (.int ca), .val (.int cb), .val (.int cc), .val (.int da), .val (.int db), .val (.int dc), .val (.int (Int32.ofNat n)), .val (.int (Int32.ofNat mm)), .val (.ref sx), .val (.ref sy), .val (.ref xo), .val (.ref yo), .unset, .unset, .unset] [(.int (Int32.ofNat mm)), (.int (Int32.ofNat n))]))
          by_cases hdf : n = mm
          · subst hdf
            show OGoW p e below s _ Z _ _ (T236.setTop (mkF m 167 #[.val (.int q1), .val (.int q2), .val (.int q3), .val (.int q4), .val (.int ca), .val (.int cb), .val (.int cc), .val (.int da), .val (.int db), .val (.int dc), .val (.int (Int32.ofNat n)), .val (.int (Int32.ofNat n)), .val (.ref sx), .val (.ref sy), .val (.ref xo), .val (.ref yo), .unset, .unset, .unset] [(.int (Int32.ofNat n)), (.int (Int32.ofNat n))]))
            refine own_stW (fun _ z => XS.icmpNo X236.here hx rfl (hb hby at_167) rfl (teq (rfl)).2 z) ?_
            show OGoW p e below s _ Z _ _ (T236.setTop (mkF m 170 #[.val (.int q1), .val (.int q2), .val (.int q3), .val (.int q4), .val (.int ca), .val (.int cb), .val (.int cc), .val (.int da), .val (.int db), .val (.int dc), .val (.int (Int32.ofNat n)), .val (.int (Int32.ofNat n)), .val (.ref sx), .val (.ref sy), .val (.ref xo), .val (.ref yo), .unset, .unset, .unset] []))
            refine own_stW (fun _ z => XS.iload X236.here hx rfl (hb hby at_170) rfl z) ?_
            show OGoW p e below s _ Z _ _ (T236.setTop (mkF m 172 #[.val (.int q1), .val (.int q2), .val (.int q3), .val (.int q4), .val (.int ca), .val (.int cb), .val (.int cc), .val (.int da), .val (.int db), .val (.int dc), .val (.int (Int32.ofNat n)), .val (.int (Int32.ofNat n)), .val (.ref sx), .val (.ref sy), .val (.ref xo), .val (.ref yo), .unset, .unset, .unset] [(.int ca)]))
            refine own_stW (fun _ z => XS.iload X236.here hx rfl (hb hby at_172) rfl z) ?_
            show OGoW p e below s _ Z _ _ (T236.setTop (mkF m 174 #[.val (.int q1), .val (.int q2), .val (.int q3), .val (.int q4), .val (.int ca), .val (.int cb), .val (.int cc), .val (.int da), .val (.int db), .val (.int dc), .val (.int (Int32.ofNat n)), .val (.int (Int32.ofNat n)), .val (.ref sx), .val (.ref sy), .val (.ref xo), .val (.ref yo), .unset, .unset, .unset] [(.int da), (.int ca)]))
            by_cases y0 : ca = da
            · refine own_stW (fun _ z => XS.icmpNo X236.here hx rfl (hb hby at_174) rfl (teq (y0)).2 z) ?_
              show OGoW p e below s _ Z _ _ (T236.setTop (mkF m 177 #[.val (.int q1), .val (.int q2), .val (.int q3), .val (.int q4), .val (.int ca), .val (.int cb), .val (.int cc), .val (.int da), .val (.int db), .val (.int dc), .val (.int (Int32.ofNat n)), .val (.int (Int32.ofNat n)), .val (.ref sx), .val (.ref sy), .val (.ref xo), .val (.ref yo), .unset, .unset, .unset] []))
              refine own_stW (fun _ z => XS.iload X236.here hx rfl (hb hby at_177) rfl z) ?_
              show OGoW p e below s _ Z _ _ (T236.setTop (mkF m 179 #[.val (.int q1), .val (.int q2), .val (.int q3), .val (.int q4), .val (.int ca), .val (.int cb), .val (.int cc), .val (.int da), .val (.int db), .val (.int dc), .val (.int (Int32.ofNat n)), .val (.int (Int32.ofNat n)), .val (.ref sx), .val (.ref sy), .val (.ref xo), .val (.ref yo), .unset, .unset, .unset] [(.int (Int32.ofNat n))]))
              refine own_stW (fun _ z => XS.iconst X236.here hx rfl (hb hby at_179) z) ?_
              show OGoW p e below s _ Z _ _ (T236.setTop (mkF m 180 #[.val (.int q1), .val (.int q2), .val (.int q3), .val (.int q4), .val (.int ca), .val (.int cb), .val (.int cc), .val (.int da), .val (.int db), .val (.int dc), .val (.int (Int32.ofNat n)), .val (.int (Int32.ofNat n)), .val (.ref sx), .val (.ref sy), .val (.ref xo), .val (.ref yo), .unset, .unset, .unset] [(.int (2 : Int32)), (.int (Int32.ofNat n))]))
              by_cases h2 : n < 2
              · refine own_stW (fun _ z => XS.icmpYes X236.here hx rfl (pc0 := 180) (pc' := 190) rfl (hb hby at_180) rfl (tlt ((own_ltn (k := 2) h2 (by decide)))).1 (by decide) (by decide) z) ?_
                show OGoW p e below s _ Z _ _ (T236.setTop (mkF m 190 #[.val (.int q1), .val (.int q2), .val (.int q3), .val (.int q4), .val (.int ca), .val (.int cb), .val (.int cc), .val (.int da), .val (.int db), .val (.int dc), .val (.int (Int32.ofNat n)), .val (.int (Int32.ofNat n)), .val (.ref sx), .val (.ref sy), .val (.ref xo), .val (.ref yo), .unset, .unset, .unset] []))
                refine own_stW (fun _ z => XS.iload X236.here hx rfl (hb hby at_190) rfl z) ?_
                show OGoW p e below s _ Z _ _ (T236.setTop (mkF m 192 #[.val (.int q1), .val (.int q2), .val (.int q3), .val (.int q4), .val (.int ca), .val (.int cb), .val (.int cc), .val (.int da), .val (.int db), .val (.int dc), .val (.int (Int32.ofNat n)), .val (.int (Int32.ofNat n)), .val (.ref sx), .val (.ref sy), .val (.ref xo), .val (.ref yo), .unset, .unset, .unset] [(.int (Int32.ofNat n))]))
                refine own_stW (fun _ z => XS.iconst X236.here hx rfl (hb hby at_192) z) ?_
                show OGoW p e below s _ Z _ _ (T236.setTop (mkF m 193 #[.val (.int q1), .val (.int q2), .val (.int q3), .val (.int q4), .val (.int ca), .val (.int cb), .val (.int cc), .val (.int da), .val (.int db), .val (.int dc), .val (.int (Int32.ofNat n)), .val (.int (Int32.ofNat n)), .val (.ref sx), .val (.ref sy), .val (.ref xo), .val (.ref yo), .unset, .unset, .unset] [(.int (3 : Int32)), (.int (Int32.ofNat n))]))
                refine own_stW (fun _ z => XS.icmpYes X236.here hx rfl (pc0 := 193) (pc' := 203) rfl (hb hby at_193) rfl (tlt ((own_ltn (k := 3) (by omega) (by decide)))).1 (by decide) (by decide) z) ?_
                show OGoW p e below s _ Z _ _ (T236.setTop (mkF m 203 #[.val (.int q1), .val (.int q2), .val (.int q3), .val (.int q4), .val (.int ca), .val (.int cb), .val (.int cc), .val (.int da), .val (.int db), .val (.int dc), .val (.int (Int32.ofNat n)), .val (.int (Int32.ofNat n)), .val (.ref sx), .val (.ref sy), .val (.ref xo), .val (.ref yo), .unset, .unset, .unset] []))
                refine own_stW (fun _ z => XS.iconst X236.here hx rfl (hb hby at_203) z) ?_
                show OGoW p e below s _ Z _ _ (T236.setTop (mkF m 204 #[.val (.int q1), .val (.int q2), .val (.int q3), .val (.int q4), .val (.int ca), .val (.int cb), .val (.int cc), .val (.int da), .val (.int db), .val (.int dc), .val (.int (Int32.ofNat n)), .val (.int (Int32.ofNat n)), .val (.ref sx), .val (.ref sy), .val (.ref xo), .val (.ref yo), .unset, .unset, .unset] [(.int (1 : Int32))]))
                refine own_stW (fun _ z => XS.goto X236.here hx rfl (pc0 := 204) (pc' := 208) rfl (hb hby at_204) (by decide) (by decide) z) ?_
                show OGoW p e below s _ Z _ _ (T236.setTop (mkF m 208 #[.val (.int q1), .val (.int q2), .val (.int q3), .val (.int q4), .val (.int ca), .val (.int cb), .val (.int cc), .val (.int da), .val (.int db), .val (.int dc), .val (.int (Int32.ofNat n)), .val (.int (Int32.ofNat n)), .val (.ref sx), .val (.ref sy), .val (.ref xo), .val (.ref yo), .unset, .unset, .unset] [(.int (1 : Int32))]))
                refine own_stW (fun _ z => XS.istore X236.here hx rfl (hb hby at_208) rfl (l' := #[.val (.int q1), .val (.int q2), .val (.int q3), .val (.int q4), .val (.int ca), .val (.int cb), .val (.int cc), .val (.int da), .val (.int db), .val (.int dc), .val (.int (Int32.ofNat n)), .val (.int (Int32.ofNat n)), .val (.ref sx), .val (.ref sy), .val (.ref xo), .val (.ref yo), .val (.int (1 : Int32)), .unset, .unset]) rfl z) ?_
                show OGoW p e below s _ Z _ _ (T236.setTop (mkF m 210 #[.val (.int q1), .val (.int q2), .val (.int q3), .val (.int q4), .val (.int ca), .val (.int cb), .val (.int cc), .val (.int da), .val (.int db), .val (.int dc), .val (.int (Int32.ofNat n)), .val (.int (Int32.ofNat n)), .val (.ref sx), .val (.ref sy), .val (.ref xo), .val (.ref yo), .val (.int (1 : Int32)), .unset, .unset] []))
                refine own_stW (fun _ z => XS.aload X236.here hx rfl (hb hby at_210) rfl rfl z) ?_
                show OGoW p e below s _ Z _ _ (T236.setTop (mkF m 212 #[.val (.int q1), .val (.int q2), .val (.int q3), .val (.int q4), .val (.int ca), .val (.int cb), .val (.int cc), .val (.int da), .val (.int db), .val (.int dc), .val (.int (Int32.ofNat n)), .val (.int (Int32.ofNat n)), .val (.ref sx), .val (.ref sy), .val (.ref xo), .val (.ref yo), .val (.int (1 : Int32)), .unset, .unset] [(.ref sx)]))
                refine own_stW (fun _ z => XS.astore X236.here hx rfl (hb hby at_212) rfl rfl (l' := #[.val (.int q1), .val (.int q2), .val (.int q3), .val (.int q4), .val (.int ca), .val (.int cb), .val (.int cc), .val (.int da), .val (.int db), .val (.int dc), .val (.int (Int32.ofNat n)), .val (.int (Int32.ofNat n)), .val (.ref sx), .val (.ref sy), .val (.ref xo), .val (.ref yo), .val (.int (1 : Int32)), .val (.ref sx), .unset]) rfl z) ?_
                show OGoW p e below s _ Z _ _ (T236.setTop (mkF m 214 #[.val (.int q1), .val (.int q2), .val (.int q3), .val (.int q4), .val (.int ca), .val (.int cb), .val (.int cc), .val (.int da), .val (.int db), .val (.int dc), .val (.int (Int32.ofNat n)), .val (.int (Int32.ofNat n)), .val (.ref sx), .val (.ref sy), .val (.ref xo), .val (.ref yo), .val (.int (1 : Int32)), .val (.ref sx), .unset] []))
                refine own_stW (fun _ z => XS.aconstNull X236.here hx rfl (hb hby at_214) z) ?_
                show OGoW p e below s _ Z _ _ (T236.setTop (mkF m 215 #[.val (.int q1), .val (.int q2), .val (.int q3), .val (.int q4), .val (.int ca), .val (.int cb), .val (.int cc), .val (.int da), .val (.int db), .val (.int dc), .val (.int (Int32.ofNat n)), .val (.int (Int32.ofNat n)), .val (.ref sx), .val (.ref sy), .val (.ref xo), .val (.ref yo), .val (.int (1 : Int32)), .val (.ref sx), .unset] [.null]))
                refine own_stW (fun _ z => XS.astore X236.here hx rfl (hb hby at_215) rfl rfl (l' := #[.val (.int q1), .val (.int q2), .val (.int q3), .val (.int q4), .val (.int ca), .val (.int cb), .val (.int cc), .val (.int da), .val (.int db), .val (.int dc), .val (.int (Int32.ofNat n)), .val (.int (Int32.ofNat n)), .val (.ref sx), .val (.ref sy), .val (.ref xo), .val (.ref yo), .val (.int (1 : Int32)), .val (.ref sx), .val .null]) rfl z) ?_
                show OGoW p e below s _ Z _ _ (T236.setTop (mkF m 217 #[.val (.int q1), .val (.int q2), .val (.int q3), .val (.int q4), .val (.int ca), .val (.int cb), .val (.int cc), .val (.int da), .val (.int db), .val (.int dc), .val (.int (Int32.ofNat n)), .val (.int (Int32.ofNat n)), .val (.ref sx), .val (.ref sy), .val (.ref xo), .val (.ref yo), .val (.int (1 : Int32)), .val (.ref sx), .val .null] []))
                refine own_stW (fun _ z => XS.aload X236.here hx rfl (hb hby at_217) rfl rfl z) ?_
                show OGoW p e below s _ Z _ _ (T236.setTop (mkF m 219 #[.val (.int q1), .val (.int q2), .val (.int q3), .val (.int q4), .val (.int ca), .val (.int cb), .val (.int cc), .val (.int da), .val (.int db), .val (.int dc), .val (.int (Int32.ofNat n)), .val (.int (Int32.ofNat n)), .val (.ref sx), .val (.ref sy), .val (.ref xo), .val (.ref yo), .val (.int (1 : Int32)), .val (.ref sx), .val .null] [(.ref xo)]))
                refine own_stW (fun _ z => XS.aload X236.here hx rfl (hb hby at_219) rfl rfl z) ?_
                show OGoW p e below s _ Z _ _ (T236.setTop (mkF m 221 #[.val (.int q1), .val (.int q2), .val (.int q3), .val (.int q4), .val (.int ca), .val (.int cb), .val (.int cc), .val (.int da), .val (.int db), .val (.int dc), .val (.int (Int32.ofNat n)), .val (.int (Int32.ofNat n)), .val (.ref sx), .val (.ref sy), .val (.ref xo), .val (.ref yo), .val (.int (1 : Int32)), .val (.ref sx), .val .null] [(.ref yo), (.ref xo)]))
                have y0s := y0.symm
                obtain ⟨T247, X247, e247, st247⟩ := own_callVP X236 hx hZ (y := (⟨"com/example/limpet/limpet/LockName", "equals", "(Ljava/lang/Object;)Z"⟩ : MethodName)) (z := (⟨"com/example/limpet/limpet/LockName", "equals", "(Ljava/lang/Object;)Z"⟩ : MethodName)) (W := 0) hown (own_w hw 236 rfl) (own_w hw 237 rfl) (notFace_of_selects (args := #[]) (mvT hZ (own_w hw 239 rfl))) (own_w hw 239 rfl) (own_w hw 238 rfl) (own_w hw 240 rfl) (own_w hw 40 rfl) (by decide) (e5_1 l Z a0 hw xo yo sy sx ty n (own_c3 da db dc) tx (own_c3 ca cb cc) cs T236.heap (Ne.symm ne_sx_sy) E_xo F_value_xo E_yo F_value_yo E_sy F_coder_sy F_value_sy A_ty E_sx F_coder_sx F_value_sx A_tx S_COMPACT_STRINGS hcs (by omega) (own_c3g g_da g_db g_dc n) (own_c3g g_ca g_cb g_cc n) (by rcases (by omega : n = 1) with hk <;> rw [hk] <;> simp [own_eqf, own_c3, OB, y0s])) (by decide) (by decide) E_xo (g := (mkF m 221 #[.val (.int q1), .val (.int q2), .val (.int q3), .val (.int q4), .val (.int ca), .val (.int cb), .val (.int cc), .val (.int da), .val (.int db), .val (.int dc), .val (.int (Int32.ofNat n)), .val (.int (Int32.ofNat n)), .val (.ref sx), .val (.ref sy), .val (.ref xo), .val (.ref yo), .val (.int (1 : Int32)), .val (.ref sx), .val .null] [(.ref yo), (.ref xo)])) rfl (by rw [hml]; rfl) (argsL := [(.ref yo)]) (rest := []) (lenOf pd_28 rfl) rfl (by show 2 * 0 + _ ≤ _; exact Nat.le_of_eq rfl) (hb hby at_221) rfl rfl (by decide) (by decide)
                refine own_stW st247 ?_
                show OGoW p e below s _ Z _ _ (T247.setTop (mkF m 224 #[.val (.int q1), .val (.int q2), .val (.int q3), .val (.int q4), .val (.int ca), .val (.int cb), .val (.int cc), .val (.int da), .val (.int db), .val (.int dc), .val (.int (Int32.ofNat n)), .val (.int (Int32.ofNat n)), .val (.ref sx), .val (.ref sy), .val (.ref xo), .val (.ref yo), .val (.int (1 : Int32)), .val (.ref sx), .val .null] [(.int (1 : Int32))]))
                refine own_stW (fun _ z => XS.iload X247.here hx rfl (hb hby at_224) rfl z) ?_
                show OGoW p e below s _ Z _ _ (T247.setTop (mkF m 226 #[.val (.int q1), .val (.int q2), .val (.int q3), .val (.int q4), .val (.int ca), .val (.int cb), .val (.int cc), .val (.int da), .val (.int db), .val (.int dc), .val (.int (Int32.ofNat n)), .val (.int (Int32.ofNat n)), .val (.ref sx), .val (.ref sy), .val (.ref xo), .val (.ref yo), .val (.int (1 : Int32)), .val (.ref sx), .val .null] [(.int (1 : Int32)), (.int (1 : Int32))]))
                refine own_stW (fun _ z => XS.icmpNo X247.here hx rfl (hb hby at_226) rfl (teq ((by decide : (1 : Int32) = (1 : Int32)))).2 z) ?_
                show OGoW p e below s _ Z _ _ (T247.setTop (mkF m 229 #[.val (.int q1), .val (.int q2), .val (.int q3), .val (.int q4), .val (.int ca), .val (.int cb), .val (.int cc), .val (.int da), .val (.int db), .val (.int dc), .val (.int (Int32.ofNat n)), .val (.int (Int32.ofNat n)), .val (.ref sx), .val (.ref sy), .val (.ref xo), .val (.ref yo), .val (.int (1 : Int32)), .val (.ref sx), .val .null] []))
                refine own_stW (fun _ z => XS.aload X247.here hx rfl (hb hby at_229) rfl rfl z) ?_
                show OGoW p e below s _ Z _ _ (T247.setTop (mkF m 231 #[.val (.int q1), .val (.int q2), .val (.int q3), .val (.int q4), .val (.int ca), .val (.int cb), .val (.int cc), .val (.int da), .val (.int db), .val (.int dc), .val (.int (Int32.ofNat n)), .val (.int (Int32.ofNat n)), .val (.ref sx), .val (.ref sy), .val (.ref xo), .val (.ref yo), .val (.int (1 : Int32)), .val (.ref sx), .val .null] [(.ref yo)]))
                refine own_stW (fun _ z => XS.aload X247.here hx rfl (hb hby at_231) rfl rfl z) ?_
                show OGoW p e below s _ Z _ _ (T247.setTop (mkF m 233 #[.val (.int q1), .val (.int q2), .val (.int q3), .val (.int q4), .val (.int ca), .val (.int cb), .val (.int cc), .val (.int da), .val (.int db), .val (.int dc), .val (.int (Int32.ofNat n)), .val (.int (Int32.ofNat n)), .val (.ref sx), .val (.ref sy), .val (.ref xo), .val (.ref yo), .val (.int (1 : Int32)), .val (.ref sx), .val .null] [(.ref xo), (.ref yo)]))
                obtain ⟨T248, X248, e248, st248⟩ := own_callVP X247 hx hZ (y := (⟨"com/example/limpet/limpet/LockName", "equals", "(Ljava/lang/Object;)Z"⟩ : MethodName)) (z := (⟨"com/example/limpet/limpet/LockName", "equals", "(Ljava/lang/Object;)Z"⟩ : MethodName)) (W := 0) hown (own_w hw 236 rfl) (own_w hw 237 rfl) (notFace_of_selects (args := #[]) (mvT hZ (own_w hw 239 rfl))) (own_w hw 239 rfl) (own_w hw 238 rfl) (own_w hw 240 rfl) (own_w hw 40 rfl) (by decide) (e5_1 l Z a0 hw yo xo sx sy tx n (own_c3 ca cb cc) ty (own_c3 da db dc) cs T236.heap ne_sx_sy E_yo F_value_yo E_xo F_value_xo E_sx F_coder_sx F_value_sx A_tx E_sy F_coder_sy F_value_sy A_ty S_COMPACT_STRINGS hcs (by omega) (own_c3g g_ca g_cb g_cc n) (own_c3g g_da g_db g_dc n) (by rcases (by omega : n = 1) with hk <;> rw [hk] <;> simp [own_eqf, own_c3, OB, y0])) (by decide) (by decide) E_yo (g := (mkF m 233 #[.val (.int q1), .val (.int q2), .val (.int q3), .val (.int q4), .val (.int ca), .val (.int cb), .val (.int cc), .val (.int da), .val (.int db), .val (.int dc), .val (.int (Int32.ofNat n)), .val (.int (Int32.ofNat n)), .val (.ref sx), .val (.ref sy), .val (.ref xo), .val (.ref yo), .val (.int (1 : Int32)), .val (.ref sx), .val .null] [(.ref xo), (.ref yo)])) rfl (by rw [hml]; rfl) (argsL := [(.ref xo)]) (rest := []) (lenOf pd_28 rfl) rfl (by show 2 * 0 + _ ≤ _; exact Nat.le_of_eq rfl) (hb hby at_233) rfl e247 (by decide) (by decide)
                refine own_stW st248 ?_
                show OGoW p e below s _ Z _ _ (T248.setTop (mkF m 236 #[.val (.int q1), .val (.int q2), .val (.int q3), .val (.int q4), .val (.int ca), .val (.int cb), .val (.int cc), .val (.int da), .val (.int db), .val (.int dc), .val (.int (Int32.ofNat n)), .val (.int (Int32.ofNat n)), .val (.ref sx), .val (.ref sy), .val (.ref xo), .val (.ref yo), .val (.int (1 : Int32)), .val (.ref sx), .val .null] [(.int (1 : Int32))]))
                refine own_stW (fun _ z => XS.iload X248.here hx rfl (hb hby at_236) rfl z) ?_
                show OGoW p e below s _ Z _ _ (T248.setTop (mkF m 238 #[.val (.int q1), .val (.int q2), .val (.int q3), .val (.int q4), .val (.int ca), .val (.int cb), .val (.int cc), .val (.int da), .val (.int db), .val (.int dc), .val (.int (Int32.ofNat n)), .val (.int (Int32.ofNat n)), .val (.ref sx), .val (.ref sy), .val (.ref xo), .val (.ref yo), .val (.int (1 : Int32)), .val (.ref sx), .val .null] [(.int (1 : Int32)), (.int (1 : Int32))]))
                refine own_stW (fun _ z => XS.icmpNo X248.here hx rfl (hb hby at_238) rfl (teq ((by decide : (1 : Int32) = (1 : Int32)))).2 z) ?_
                show OGoW p e below s _ Z _ _ (T248.setTop (mkF m 241 #[.val (.int q1), .val (.int q2), .val (.int q3), .val (.int q4), .val (.int ca), .val (.int cb), .val (.int cc), .val (.int da), .val (.int db), .val (.int dc), .val (.int (Int32.ofNat n)), .val (.int (Int32.ofNat n)), .val (.ref sx), .val (.ref sy), .val (.ref xo), .val (.ref yo), .val (.int (1 : Int32)), .val (.ref sx), .val .null] []))
                refine own_stW (fun _ z => XS.aload X248.here hx rfl (hb hby at_241) rfl rfl z) ?_
                show OGoW p e below s _ Z _ _ (T248.setTop (mkF m 243 #[.val (.int q1), .val (.int q2), .val (.int q3), .val (.int q4), .val (.int ca), .val (.int cb), .val (.int cc), .val (.int da), .val (.int db), .val (.int dc), .val (.int (Int32.ofNat n)), .val (.int (Int32.ofNat n)), .val (.ref sx), .val (.ref sy), .val (.ref xo), .val (.ref yo), .val (.int (1 : Int32)), .val (.ref sx), .val .null] [(.ref xo)]))
                refine own_stW (fun _ z => XS.aload X248.here hx rfl (hb hby at_243) rfl rfl z) ?_
                show OGoW p e below s _ Z _ _ (T248.setTop (mkF m 245 #[.val (.int q1), .val (.int q2), .val (.int q3), .val (.int q4), .val (.int ca), .val (.int cb), .val (.int cc), .val (.int da), .val (.int db), .val (.int dc), .val (.int (Int32.ofNat n)), .val (.int (Int32.ofNat n)), .val (.ref sx), .val (.ref sy), .val (.ref xo), .val (.ref yo), .val (.int (1 : Int32)), .val (.ref sx), .val .null] [(.ref xo), (.ref xo)]))
                obtain ⟨T249, X249, e249, st249⟩ := own_callVP X248 hx hZ (y := (⟨"com/example/limpet/limpet/LockName", "equals", "(Ljava/lang/Object;)Z"⟩ : MethodName)) (z := (⟨"com/example/limpet/limpet/LockName", "equals", "(Ljava/lang/Object;)Z"⟩ : MethodName)) (W := 0) hown (own_w hw 236 rfl) (own_w hw 237 rfl) (notFace_of_selects (args := #[]) (mvT hZ (own_w hw 239 rfl))) (own_w hw 239 rfl) (own_w hw 238 rfl) (own_w hw 240 rfl) (own_w hw 40 rfl) (by decide) (e6_ l Z a0 hw xo xo sx T236.heap E_xo F_value_xo E_xo F_value_xo E_sx) (by decide) (by decide) E_xo (g := (mkF m 245 #[.val (.int q1), .val (.int q2), .val (.int q3), .val (.int q4), .val (.int ca), .val (.int cb), .val (.int cc), .val (.int da), .val (.int db), .val (.int dc), .val (.int (Int32.ofNat n)), .val (.int (Int32.ofNat n)), .val (.ref sx), .val (.ref sy), .val (.ref xo), .val (.ref yo), .val (.int (1 : Int32)), .val (.ref sx), .val .null] [(.ref xo), (.ref xo)])) rfl (by rw [hml]; rfl) (argsL := [(.ref xo)]) (rest := []) (lenOf pd_28 rfl) rfl (by show 2 * 0 + _ ≤ _; exact Nat.le_of_eq rfl) (hb hby at_245) rfl e248 (by decide) (by decide)
                refine own_stW st249 ?_
                show OGoW p e below s _ Z _ _ (T249.setTop (mkF m 248 #[.val (.int q1), .val (.int q2), .val (.int q3), .val (.int q4), .val (.int ca), .val (.int cb), .val (.int cc), .val (.int da), .val (.int db), .val (.int dc), .val (.int (Int32.ofNat n)), .val (.int (Int32.ofNat n)), .val (.ref sx), .val (.ref sy), .val (.ref xo), .val (.ref yo), .val (.int (1 : Int32)), .val (.ref sx), .val .null] [(.int (1 : Int32))]))
                refine own_stW (fun _ z => XS.ifNo X249.here hx rfl (hb hby at_248) rfl ((if0 _ _).trans (feq ((by decide : ¬ (1 : Int32) = (0 : Int32)))).1) z) ?_
                show OGoW p e below s _ Z _ _ (T249.setTop (mkF m 251 #[.val (.int q1), .val (.int q2), .val (.int q3), .val (.int q4), .val (.int ca), .val (.int cb), .val (.int cc), .val (.int da), .val (.int db), .val (.int dc), .val (.int (Int32.ofNat n)), .val (.int (Int32.ofNat n)), .val (.ref sx), .val (.ref sy), .val (.ref xo), .val (.ref yo), .val (.int (1 : Int32)), .val (.ref sx), .val .null] []))
                refine own_stW (fun _ z => XS.aload X249.here hx rfl (hb hby at_251) rfl rfl z) ?_
                show OGoW p e below s _ Z _ _ (T249.setTop (mkF m 253 #[.val (.int q1), .val (.int q2), .val (.int q3), .val (.int q4), .val (.int ca), .val (.int cb), .val (.int cc), .val (.int da), .val (.int db), .val (.int dc), .val (.int (Int32.ofNat n)), .val (.int (Int32.ofNat n)), .val (.ref sx), .val (.ref sy), .val (.ref xo), .val (.ref yo), .val (.int (1 : Int32)), .val (.ref sx), .val .null] [(.ref xo)]))
                refine own_stW (fun _ z => XS.aload X249.here hx rfl (hb hby at_253) rfl rfl z) ?_
                show OGoW p e below s _ Z _ _ (T249.setTop (mkF m 255 #[.val (.int q1), .val (.int q2), .val (.int q3), .val (.int q4), .val (.int ca), .val (.int cb), .val (.int cc), .val (.int da), .val (.int db), .val (.int dc), .val (.int (Int32.ofNat n)), .val (.int (Int32.ofNat n)), .val (.ref sx), .val (.ref sy), .val (.ref xo), .val (.ref yo), .val (.int (1 : Int32)), .val (.ref sx), .val .null] [(.ref sx), (.ref xo)]))
                obtain ⟨T250, X250, e250, st250⟩ := own_callVP X249 hx hZ (y := (⟨"com/example/limpet/limpet/LockName", "equals", "(Ljava/lang/Object;)Z"⟩ : MethodName)) (z := (⟨"com/example/limpet/limpet/LockName", "equals", "(Ljava/lang/Object;)Z"⟩ : MethodName)) (W := 0) hown (own_w hw 236 rfl) (own_w hw 237 rfl) (notFace_of_selects (args := #[]) (mvT hZ (own_w hw 239 rfl))) (own_w hw 239 rfl) (own_w hw 238 rfl) (own_w hw 240 rfl) (own_w hw 40 rfl) (by decide) (e7_ l Z a0 hw xo sx T236.heap E_sx) (by decide) (by decide) E_xo (g := (mkF m 255 #[.val (.int q1), .val (.int q2), .val (.int q3), .val (.int q4), .val (.int ca), .val (.int cb), .val (.int cc), .val (.int da), .val (.int db), .val (.int dc), .val (.int (Int32.ofNat n)), .val (.int (Int32.ofNat n)), .val (.ref sx), .val (.ref sy), .val (.ref xo), .val (.ref yo), .val (.int (1 : Int32)), .val (.ref sx), .val .null] [(.ref sx), (.ref xo)])) rfl (by rw [hml]; rfl) (argsL := [(.ref sx)]) (rest := []) (lenOf pd_28 rfl) rfl (by show 2 * 0 + _ ≤ _; exact Nat.le_of_eq rfl) (hb hby at_255) rfl e249 (by decide) (by decide)
                refine own_stW st250 ?_
                show OGoW p e below s _ Z _ _ (T250.setTop (mkF m 258 #[.val (.int q1), .val (.int q2), .val (.int q3), .val (.int q4), .val (.int ca), .val (.int cb), .val (.int cc), .val (.int da), .val (.int db), .val (.int dc), .val (.int (Int32.ofNat n)), .val (.int (Int32.ofNat n)), .val (.ref sx), .val (.ref sy), .val (.ref xo), .val (.ref yo), .val (.int (1 : Int32)), .val (.ref sx), .val .null] [(.int (0 : Int32))]))
                refine own_stW (fun _ z => XS.ifNo X250.here hx rfl (hb hby at_258) rfl ((if0 _ _).trans (teq ((by decide : (0 : Int32) = (0 : Int32)))).2) z) ?_
                show OGoW p e below s _ Z _ _ (T250.setTop (mkF m 261 #[.val (.int q1), .val (.int q2), .val (.int q3), .val (.int q4), .val (.int ca), .val (.int cb), .val (.int cc), .val (.int da), .val (.int db), .val (.int dc), .val (.int (Int32.ofNat n)), .val (.int (Int32.ofNat n)), .val (.ref sx), .val (.ref sy), .val (.ref xo), .val (.ref yo), .val (.int (1 : Int32)), .val (.ref sx), .val .null] []))
                refine own_stW (fun _ z => XS.aload X250.here hx rfl (hb hby at_261) rfl rfl z) ?_
                show OGoW p e below s _ Z _ _ (T250.setTop (mkF m 263 #[.val (.int q1), .val (.int q2), .val (.int q3), .val (.int q4), .val (.int ca), .val (.int cb), .val (.int cc), .val (.int da), .val (.int db), .val (.int dc), .val (.int (Int32.ofNat n)), .val (.int (Int32.ofNat n)), .val (.ref sx), .val (.ref sy), .val (.ref xo), .val (.ref yo), .val (.int (1 : Int32)), .val (.ref sx), .val .null] [(.ref xo)]))
                refine own_stW (fun _ z => XS.aload X250.here hx rfl (hb hby at_263) rfl rfl z) ?_
                show OGoW p e below s _ Z _ _ (T250.setTop (mkF m 265 #[.val (.int q1), .val (.int q2), .val (.int q3), .val (.int q4), .val (.int ca), .val (.int cb), .val (.int cc), .val (.int da), .val (.int db), .val (.int dc), .val (.int (Int32.ofNat n)), .val (.int (Int32.ofNat n)), .val (.ref sx), .val (.ref sy), .val (.ref xo), .val (.ref yo), .val (.int (1 : Int32)), .val (.ref sx), .val .null] [.null, (.ref xo)]))
                obtain ⟨T251, X251, e251, st251⟩ := own_callVP X250 hx hZ (y := (⟨"com/example/limpet/limpet/LockName", "equals", "(Ljava/lang/Object;)Z"⟩ : MethodName)) (z := (⟨"com/example/limpet/limpet/LockName", "equals", "(Ljava/lang/Object;)Z"⟩ : MethodName)) (W := 0) hown (own_w hw 236 rfl) (own_w hw 237 rfl) (notFace_of_selects (args := #[]) (mvT hZ (own_w hw 239 rfl))) (own_w hw 239 rfl) (own_w hw 238 rfl) (own_w hw 240 rfl) (own_w hw 40 rfl) (by decide) (e8_ l Z a0 hw xo T236.heap) (by decide) (by decide) E_xo (g := (mkF m 265 #[.val (.int q1), .val (.int q2), .val (.int q3), .val (.int q4), .val (.int ca), .val (.int cb), .val (.int cc), .val (.int da), .val (.int db), .val (.int dc), .val (.int (Int32.ofNat n)), .val (.int (Int32.ofNat n)), .val (.ref sx), .val (.ref sy), .val (.ref xo), .val (.ref yo), .val (.int (1 : Int32)), .val (.ref sx), .val .null] [.null, (.ref xo)])) rfl (by rw [hml]; rfl) (argsL := [.null]) (rest := []) (lenOf pd_28 rfl) rfl (by show 2 * 0 + _ ≤ _; exact Nat.le_of_eq rfl) (hb hby at_265) rfl e250 (by decide) (by decide)
                refine own_stW st251 ?_
                show OGoW p e below s _ Z _ _ (T251.setTop (mkF m 268 #[.val (.int q1), .val (.int q2), .val (.int q3), .val (.int q4), .val (.int ca), .val (.int cb), .val (.int cc), .val (.int da), .val (.int db), .val (.int dc), .val (.int (Int32.ofNat n)), .val (.int (Int32.ofNat n)), .val (.ref sx), .val (.ref sy), .val (.ref xo), .val (.ref yo), .val (.int (1 : Int32)), .val (.ref sx), .val .null] [(.int (0 : Int32))]))
                refine own_stW (fun _ z => XS.ifNo X251.here hx rfl (hb hby at_268) rfl ((if0 _ _).trans (teq ((by decide : (0 : Int32) = (0 : Int32)))).2) z) ?_
                show OGoW p e below s _ Z _ _ (T251.setTop (mkF m 271 #[.val (.int q1), .val (.int q2), .val (.int q3), .val (.int q4), .val (.int ca), .val (.int cb), .val (.int cc), .val (.int da), .val (.int db), .val (.int dc), .val (.int (Int32.ofNat n)), .val (.int (Int32.ofNat n)), .val (.ref sx), .val (.ref sy), .val (.ref xo), .val (.ref yo), .val (.int (1 : Int32)), .val (.ref sx), .val .null] []))
                refine own_stW (fun _ z => XS.iconst X251.here hx rfl (hb hby at_271) z) ?_
                show OGoW p e below s _ Z _ _ (T251.setTop (mkF m 272 #[.val (.int q1), .val (.int q2), .val (.int q3), .val (.int q4), .val (.int ca), .val (.int cb), .val (.int cc), .val (.int da), .val (.int db), .val (.int dc), .val (.int (Int32.ofNat n)), .val (.int (Int32.ofNat n)), .val (.ref sx), .val (.ref sy), .val (.ref xo), .val (.ref yo), .val (.int (1 : Int32)), .val (.ref sx), .val .null] [(.int (1 : Int32))]))
                refine own_stW (fun _ z => XS.goto X251.here hx rfl (pc0 := 272) (pc' := 276) rfl (hb hby at_272) (by decide) (by decide) z) ?_
                show OGoW p e below s _ Z _ _ (T251.setTop (mkF m 276 #[.val (.int q1), .val (.int q2), .val (.int q3), .val (.int q4), .val (.int ca), .val (.int cb), .val (.int cc), .val (.int da), .val (.int db), .val (.int dc), .val (.int (Int32.ofNat n)), .val (.int (Int32.ofNat n)), .val (.ref sx), .val (.ref sy), .val (.ref xo), .val (.ref yo), .val (.int (1 : Int32)), .val (.ref sx), .val .null] [(.int (1 : Int32))]))
                exact own_retWN X251 hx hlk (t := .boolean) hret (by simp) (hb hby at_276) (by decide) (by decide) hS e251 es hk hZ hEL CH (⟨rfl, Nr236⟩)
              · refine own_stW (fun _ z => XS.icmpNo X236.here hx rfl (hb hby at_180) rfl (flt ((own_nltn (k := 2) h2 (by omega) (by decide)))).1 z) ?_
                show OGoW p e below s _ Z _ _ (T236.setTop (mkF m 183 #[.val (.int q1), .val (.int q2), .val (.int q3), .val (.int q4), .val (.int ca), .val (.int cb), .val (.int cc), .val (.int da), .val (.int db), .val (.int dc), .val (.int (Int32.ofNat n)), .val (.int (Int32.ofNat n)), .val (.ref sx), .val (.ref sy), .val (.ref xo), .val (.ref yo), .unset, .unset, .unset] []))
                refine own_stW (fun _ z => XS.iload X236.here hx rfl (hb hby at_183) rfl z) ?_
                show OGoW p e below s _ Z _ _ (T236.setTop (mkF m 185 #[.val (.int q1), .val (.int q2), .val (.int q3), .val (.int q4), .val (.int ca), .val (.int cb), .val (.int cc), .val (.int da), .val (.int db), .val (.int dc), .val (.int (Int32.ofNat n)), .val (.int (Int32.ofNat n)), .val (.ref sx), .val (.ref sy), .val (.ref xo), .val (.ref yo), .unset, .unset, .unset] [(.int cb)]))
                refine own_stW (fun _ z => XS.iload X236.here hx rfl (hb hby at_185) rfl z) ?_
                show OGoW p e below s _ Z _ _ (T236.setTop (mkF m 187 #[.val (.int q1), .val (.int q2), .val (.int q3), .val (.int q4), .val (.int ca), .val (.int cb), .val (.int cc), .val (.int da), .val (.int db), .val (.int dc), .val (.int (Int32.ofNat n)), .val (.int (Int32.ofNat n)), .val (.ref sx), .val (.ref sy), .val (.ref xo), .val (.ref yo), .unset, .unset, .unset] [(.int db), (.int cb)]))
                by_cases y1 : cb = db
                · refine own_stW (fun _ z => XS.icmpNo X236.here hx rfl (hb hby at_187) rfl (teq (y1)).2 z) ?_
                  show OGoW p e below s _ Z _ _ (T236.setTop (mkF m 190 #[.val (.int q1), .val (.int q2), .val (.int q3), .val (.int q4), .val (.int ca), .val (.int cb), .val (.int cc), .val (.int da), .val (.int db), .val (.int dc), .val (.int (Int32.ofNat n)), .val (.int (Int32.ofNat n)), .val (.ref sx), .val (.ref sy), .val (.ref xo), .val (.ref yo), .unset, .unset, .unset] []))
                  refine own_stW (fun _ z => XS.iload X236.here hx rfl (hb hby at_190) rfl z) ?_
                  show OGoW p e below s _ Z _ _ (T236.setTop (mkF m 192 #[.val (.int q1), .val (.int q2), .val (.int q3), .val (.int q4), .val (.int ca), .val (.int cb), .val (.int cc), .val (.int da), .val (.int db), .val (.int dc), .val (.int (Int32.ofNat n)), .val (.int (Int32.ofNat n)), .val (.ref sx), .val (.ref sy), .val (.ref xo), .val (.ref yo), .unset, .unset, .unset] [(.int (Int32.ofNat n))]))
                  refine own_stW (fun _ z => XS.iconst X236.here hx rfl (hb hby at_192) z) ?_
                  show OGoW p e below s _ Z _ _ (T236.setTop (mkF m 193 #[.val (.int q1), .val (.int q2), .val (.int q3), .val (.int q4), .val (.int ca), .val (.int cb), .val (.int cc), .val (.int da), .val (.int db), .val (.int dc), .val (.int (Int32.ofNat n)), .val (.int (Int32.ofNat n)), .val (.ref sx), .val (.ref sy), .val (.ref xo), .val (.ref yo), .unset, .unset, .unset] [(.int (3 : Int32)), (.int (Int32.ofNat n))]))
                  by_cases h3 : n < 3
                  · refine own_stW (fun _ z => XS.icmpYes X236.here hx rfl (pc0 := 193) (pc' := 203) rfl (hb hby at_193) rfl (tlt ((own_ltn (k := 3) h3 (by decide)))).1 (by decide) (by decide) z) ?_
                    show OGoW p e below s _ Z _ _ (T236.setTop (mkF m 203 #[.val (.int q1), .val (.int q2), .val (.int q3), .val (.int q4), .val (.int ca), .val (.int cb), .val (.int cc), .val (.int da), .val (.int db), .val (.int dc), .val (.int (Int32.ofNat n)), .val (.int (Int32.ofNat n)), .val (.ref sx), .val (.ref sy), .val (.ref xo), .val (.ref yo), .unset, .unset, .unset] []))
                    refine own_stW (fun _ z => XS.iconst X236.here hx rfl (hb hby at_203) z) ?_
                    show OGoW p e below s _ Z _ _ (T236.setTop (mkF m 204 #[.val (.int q1), .val (.int q2), .val (.int q3), .val (.int q4), .val (.int ca), .val (.int cb), .val (.int cc), .val (.int da), .val (.int db), .val (.int dc), .val (.int (Int32.ofNat n)), .val (.int (Int32.ofNat n)), .val (.ref sx), .val (.ref sy), .val (.ref xo), .val (.ref yo), .unset, .unset, .unset] [(.int (1 : Int32))]))
                    refine own_stW (fun _ z => XS.goto X236.here hx rfl (pc0 := 204) (pc' := 208) rfl (hb hby at_204) (by decide) (by decide) z) ?_
                    show OGoW p e below s _ Z _ _ (T236.setTop (mkF m 208 #[.val (.int q1), .val (.int q2), .val (.int q3), .val (.int q4), .val (.int ca), .val (.int cb), .val (.int cc), .val (.int da), .val (.int db), .val (.int dc), .val (.int (Int32.ofNat n)), .val (.int (Int32.ofNat n)), .val (.ref sx), .val (.ref sy), .val (.ref xo), .val (.ref yo), .unset, .unset, .unset] [(.int (1 : Int32))]))
                    refine own_stW (fun _ z => XS.istore X236.here hx rfl (hb hby at_208) rfl (l' := #[.val (.int q1), .val (.int q2), .val (.int q3), .val (.int q4), .val (.int ca), .val (.int cb), .val (.int cc), .val (.int da), .val (.int db), .val (.int dc), .val (.int (Int32.ofNat n)), .val (.int (Int32.ofNat n)), .val (.ref sx), .val (.ref sy), .val (.ref xo), .val (.ref yo), .val (.int (1 : Int32)), .unset, .unset]) rfl z) ?_
                    show OGoW p e below s _ Z _ _ (T236.setTop (mkF m 210 #[.val (.int q1), .val (.int q2), .val (.int q3), .val (.int q4), .val (.int ca), .val (.int cb), .val (.int cc), .val (.int da), .val (.int db), .val (.int dc), .val (.int (Int32.ofNat n)), .val (.int (Int32.ofNat n)), .val (.ref sx), .val (.ref sy), .val (.ref xo), .val (.ref yo), .val (.int (1 : Int32)), .unset, .unset] []))
                    refine own_stW (fun _ z => XS.aload X236.here hx rfl (hb hby at_210) rfl rfl z) ?_
                    show OGoW p e below s _ Z _ _ (T236.setTop (mkF m 212 #[.val (.int q1), .val (.int q2), .val (.int q3), .val (.int q4), .val (.int ca), .val (.int cb), .val (.int cc), .val (.int da), .val (.int db), .val (.int dc), .val (.int (Int32.ofNat n)), .val (.int (Int32.ofNat n)), .val (.ref sx), .val (.ref sy), .val (.ref xo), .val (.ref yo), .val (.int (1 : Int32)), .unset, .unset] [(.ref sx)]))
                    refine own_stW (fun _ z => XS.astore X236.here hx rfl (hb hby at_212) rfl rfl (l' := #[.val (.int q1), .val (.int q2), .val (.int q3), .val (.int q4), .val (.int ca), .val (.int cb), .val (.int cc), .val (.int da), .val (.int db), .val (.int dc), .val (.int (Int32.ofNat n)), .val (.int (Int32.ofNat n)), .val (.ref sx), .val (.ref sy), .val (.ref xo), .val (.ref yo), .val (.int (1 : Int32)), .val (.ref sx), .unset]) rfl z) ?_
                    show OGoW p e below s _ Z _ _ (T236.setTop (mkF m 214 #[.val (.int q1), .val (.int q2), .val (.int q3), .val (.int q4), .val (.int ca), .val (.int cb), .val (.int cc), .val (.int da), .val (.int db), .val (.int dc), .val (.int (Int32.ofNat n)), .val (.int (Int32.ofNat n)), .val (.ref sx), .val (.ref sy), .val (.ref xo), .val (.ref yo), .val (.int (1 : Int32)), .val (.ref sx), .unset] []))
                    refine own_stW (fun _ z => XS.aconstNull X236.here hx rfl (hb hby at_214) z) ?_
                    show OGoW p e below s _ Z _ _ (T236.setTop (mkF m 215 #[.val (.int q1), .val (.int q2), .val (.int q3), .val (.int q4), .val (.int ca), .val (.int cb), .val (.int cc), .val (.int da), .val (.int db), .val (.int dc), .val (.int (Int32.ofNat n)), .val (.int (Int32.ofNat n)), .val (.ref sx), .val (.ref sy), .val (.ref xo), .val (.ref yo), .val (.int (1 : Int32)), .val (.ref sx), .unset] [.null]))
                    refine own_stW (fun _ z => XS.astore X236.here hx rfl (hb hby at_215) rfl rfl (l' := #[.val (.int q1), .val (.int q2), .val (.int q3), .val (.int q4), .val (.int ca), .val (.int cb), .val (.int cc), .val (.int da), .val (.int db), .val (.int dc), .val (.int (Int32.ofNat n)), .val (.int (Int32.ofNat n)), .val (.ref sx), .val (.ref sy), .val (.ref xo), .val (.ref yo), .val (.int (1 : Int32)), .val (.ref sx), .val .null]) rfl z) ?_
                    show OGoW p e below s _ Z _ _ (T236.setTop (mkF m 217 #[.val (.int q1), .val (.int q2), .val (.int q3), .val (.int q4), .val (.int ca), .val (.int cb), .val (.int cc), .val (.int da), .val (.int db), .val (.int dc), .val (.int (Int32.ofNat n)), .val (.int (Int32.ofNat n)), .val (.ref sx), .val (.ref sy), .val (.ref xo), .val (.ref yo), .val (.int (1 : Int32)), .val (.ref sx), .val .null] []))
                    refine own_stW (fun _ z => XS.aload X236.here hx rfl (hb hby at_217) rfl rfl z) ?_
                    show OGoW p e below s _ Z _ _ (T236.setTop (mkF m 219 #[.val (.int q1), .val (.int q2), .val (.int q3), .val (.int q4), .val (.int ca), .val (.int cb), .val (.int cc), .val (.int da), .val (.int db), .val (.int dc), .val (.int (Int32.ofNat n)), .val (.int (Int32.ofNat n)), .val (.ref sx), .val (.ref sy), .val (.ref xo), .val (.ref yo), .val (.int (1 : Int32)), .val (.ref sx), .val .null] [(.ref xo)]))
                    refine own_stW (fun _ z => XS.aload X236.here hx rfl (hb hby at_219) rfl rfl z) ?_
                    show OGoW p e below s _ Z _ _ (T236.setTop (mkF m 221 #[.val (.int q1), .val (.int q2), .val (.int q3), .val (.int q4), .val (.int ca), .val (.int cb), .val (.int cc), .val (.int da), .val (.int db), .val (.int dc), .val (.int (Int32.ofNat n)), .val (.int (Int32.ofNat n)), .val (.ref sx), .val (.ref sy), .val (.ref xo), .val (.ref yo), .val (.int (1 : Int32)), .val (.ref sx), .val .null] [(.ref yo), (.ref xo)]))
                    have y0s := y0.symm
                    have y1s := y1.symm
                    obtain ⟨T257, X257, e257, st257⟩ := own_callVP X236 hx hZ (y := (⟨"com/example/limpet/limpet/LockName", "equals", "(Ljava/lang/Object;)Z"⟩ : MethodName)) (z := (⟨"com/example/limpet/limpet/LockName", "equals", "(Ljava/lang/Object;)Z"⟩ : MethodName)) (W := 0) hown (own_w hw 236 rfl) (own_w hw 237 rfl) (notFace_of_selects (args := #[]) (mvT hZ (own_w hw 239 rfl))) (own_w hw 239 rfl) (own_w hw 238 rfl) (own_w hw 240 rfl) (own_w hw 40 rfl) (by decide) (e5_1 l Z a0 hw xo yo sy sx ty n (own_c3 da db dc) tx (own_c3 ca cb cc) cs T236.heap (Ne.symm ne_sx_sy) E_xo F_value_xo E_yo F_value_yo E_sy F_coder_sy F_value_sy A_ty E_sx F_coder_sx F_value_sx A_tx S_COMPACT_STRINGS hcs (by omega) (own_c3g g_da g_db g_dc n) (own_c3g g_ca g_cb g_cc n) (by rcases (by omega : n = 2) with hk <;> rw [hk] <;> simp [own_eqf, own_c3, OB, y0s, y1s])) (by decide) (by decide) E_xo (g := (mkF m 221 #[.val (.int q1), .val (.int q2), .val (.int q3), .val (.int q4), .val (.int ca), .val (.int cb), .val (.int cc), .val (.int da), .val (.int db), .val (.int dc), .val (.int (Int32.ofNat n)), .val (.int (Int32.ofNat n)), .val (.ref sx), .val (.ref sy), .val (.ref xo), .val (.ref yo), .val (.int (1 : Int32)), .val (.ref sx), .val .null] [(.ref yo), (.ref xo)])) rfl (by rw [hml]; rfl) (argsL := [(.ref yo)]) (rest := []) (lenOf pd_28 rfl) rfl (by show 2 * 0 + _ ≤ _; exact Nat.le_of_eq rfl) (hb hby at_221) rfl rfl (by decide) (by decide)
                    refine own_stW st257 ?_
                    show OGoW p e below s _ Z _ _ (T257.setTop (mkF m 224 #[.val (.int q1), .val (.int q2), .val (.int q3), .val (.int q4), .val (.int ca), .val (.int cb), .val (.int cc), .val (.int da), .val (.int db), .val (.int dc), .val (.int (Int32.ofNat n)), .val (.int (Int32.ofNat n)), .val (.ref sx), .val (.ref sy), .val (.ref xo), .val (.ref yo), .val (.int (1 : Int32)), .val (.ref sx), .val .null] [(.int (1 : Int32))]))
                    refine own_stW (fun _ z => XS.iload X257.here hx rfl (hb hby at_224) rfl z) ?_
                    show OGoW p e below s _ Z _ _ (T257.setTop (mkF m 226 #[.val (.int q1), .val (.int q2), .val (.int q3), .val (.int q4), .val (.int ca), .val (.int cb), .val (.int cc), .val (.int da), .val (.int db), .val (.int dc), .val (.int (Int32.ofNat n)), .val (.int (Int32.ofNat n)), .val (.ref sx), .val (.ref sy), .val (.ref xo), .val (.ref yo), .val (.int (1 : Int32)), .val (.ref sx), .val .null] [(.int (1 : Int32)), (.int (1 : Int32))]))
                    refine own_stW (fun _ z => XS.icmpNo X257.here hx rfl (hb hby at_226) rfl (teq ((by decide : (1 : Int32) = (1 : Int32)))).2 z) ?_
                    show OGoW p e below s _ Z _ _ (T257.setTop (mkF m 229 #[.val (.int q1), .val (.int q2), .val (.int q3), .val (.int q4), .val (.int ca), .val (.int cb), .val (.int cc), .val (.int da), .val (.int db), .val (.int dc), .val (.int (Int32.ofNat n)), .val (.int (Int32.ofNat n)), .val (.ref sx), .val (.ref sy), .val (.ref xo), .val (.ref yo), .val (.int (1 : Int32)), .val (.ref sx), .val .null] []))
                    refine own_stW (fun _ z => XS.aload X257.here hx rfl (hb hby at_229) rfl rfl z) ?_
                    show OGoW p e below s _ Z _ _ (T257.setTop (mkF m 231 #[.val (.int q1), .val (.int q2), .val (.int q3), .val (.int q4), .val (.int ca), .val (.int cb), .val (.int cc), .val (.int da), .val (.int db), .val (.int dc), .val (.int (Int32.ofNat n)), .val (.int (Int32.ofNat n)), .val (.ref sx), .val (.ref sy), .val (.ref xo), .val (.ref yo), .val (.int (1 : Int32)), .val (.ref sx), .val .null] [(.ref yo)]))
                    refine own_stW (fun _ z => XS.aload X257.here hx rfl (hb hby at_231) rfl rfl z) ?_
                    show OGoW p e below s _ Z _ _ (T257.setTop (mkF m 233 #[.val (.int q1), .val (.int q2), .val (.int q3), .val (.int q4), .val (.int ca), .val (.int cb), .val (.int cc), .val (.int da), .val (.int db), .val (.int dc), .val (.int (Int32.ofNat n)), .val (.int (Int32.ofNat n)), .val (.ref sx), .val (.ref sy), .val (.ref xo), .val (.ref yo), .val (.int (1 : Int32)), .val (.ref sx), .val .null] [(.ref xo), (.ref yo)]))
                    obtain ⟨T258, X258, e258, st258⟩ := own_callVP X257 hx hZ (y := (⟨"com/example/limpet/limpet/LockName", "equals", "(Ljava/lang/Object;)Z"⟩ : MethodName)) (z := (⟨"com/example/limpet/limpet/LockName", "equals", "(Ljava/lang/Object;)Z"⟩ : MethodName)) (W := 0) hown (own_w hw 236 rfl) (own_w hw 237 rfl) (notFace_of_selects (args := #[]) (mvT hZ (own_w hw 239 rfl))) (own_w hw 239 rfl) (own_w hw 238 rfl) (own_w hw 240 rfl) (own_w hw 40 rfl) (by decide) (e5_1 l Z a0 hw yo xo sx sy tx n (own_c3 ca cb cc) ty (own_c3 da db dc) cs T236.heap ne_sx_sy E_yo F_value_yo E_xo F_value_xo E_sx F_coder_sx F_value_sx A_tx E_sy F_coder_sy F_value_sy A_ty S_COMPACT_STRINGS hcs (by omega) (own_c3g g_ca g_cb g_cc n) (own_c3g g_da g_db g_dc n) (by rcases (by omega : n = 2) with hk <;> rw [hk] <;> simp [own_eqf, own_c3, OB, y0, y1])) (by decide) (by decide) E_yo (g := (mkF m 233 #[.val (.int q1), .val (.int q2), .val (.int q3), .val (.int q4), .val (.int ca), .val (.int cb), .val (.int cc), .val (.int da), .val (.int db), .val (.int dc), .val (.int (Int32.ofNat n)), .val (.int (Int32.ofNat n)), .val (.ref sx), .val (.ref sy), .val (.ref xo), .val (.ref yo), .val (.int (1 : Int32)), .val (.ref sx), .val .null] [(.ref xo), (.ref yo)])) rfl (by rw [hml]; rfl) (argsL := [(.ref xo)]) (rest := []) (lenOf pd_28 rfl) rfl (by show 2 * 0 + _ ≤ _; exact Nat.le_of_eq rfl) (hb hby at_233) rfl e257 (by decide) (by decide)
                    refine own_stW st258 ?_
                    show OGoW p e below s _ Z _ _ (T258.setTop (mkF m 236 #[.val (.int q1), .val (.int q2), .val (.int q3), .val (.int q4), .val (.int ca), .val (.int cb), .val (.int cc), .val (.int da), .val (.int db), .val (.int dc), .val (.int (Int32.ofNat n)), .val (.int (Int32.ofNat n)), .val (.ref sx), .val (.ref sy), .val (.ref xo), .val (.ref yo), .val (.int (1 : Int32)), .val (.ref sx), .val .null] [(.int (1 : Int32))]))
                    refine own_stW (fun _ z => XS.iload X258.here hx rfl (hb hby at_236) rfl z) ?_
                    show OGoW p e below s _ Z _ _ (T258.setTop (mkF m 238 #[.val (.int q1), .val (.int q2), .val (.int q3), .val (.int q4), .val (.int ca), .val (.int cb), .val (.int cc), .val (.int da), .val (.int db), .val (.int dc), .val (.int (Int32.ofNat n)), .val (.int (Int32.ofNat n)), .val (.ref sx), .val (.ref sy), .val (.ref xo), .val (.ref yo), .val (.int (1 : Int32)), .val (.ref sx), .val .null] [(.int (1 : Int32)), (.int (1 : Int32))]))
                    refine own_stW (fun _ z => XS.icmpNo X258.here hx rfl (hb hby at_238) rfl (teq ((by decide : (1 : Int32) = (1 : Int32)))).2 z) ?_
                    show OGoW p e below s _ Z _ _ (T258.setTop (mkF m 241 #[.val (.int q1), .val (.int q2), .val (.int q3), .val (.int q4), .val (.int ca), .val (.int cb), .val (.int cc), .val (.int da), .val (.int db), .val (.int dc), .val (.int (Int32.ofNat n)), .val (.int (Int32.ofNat n)), .val (.ref sx), .val (.ref sy), .val (.ref xo), .val (.ref yo), .val (.int (1 : Int32)), .val (.ref sx), .val .null] []))
                    refine own_stW (fun _ z => XS.aload X258.here hx rfl (hb hby at_241) rfl rfl z) ?_
                    show OGoW p e below s _ Z _ _ (T258.setTop (mkF m 243 #[.val (.int q1), .val (.int q2), .val (.int q3), .val (.int q4), .val (.int ca), .val (.int cb), .val (.int cc), .val (.int da), .val (.int db), .val (.int dc), .val (.int (Int32.ofNat n)), .val (.int (Int32.ofNat n)), .val (.ref sx), .val (.ref sy), .val (.ref xo), .val (.ref yo), .val (.int (1 : Int32)), .val (.ref sx), .val .null] [(.ref xo)]))
                    refine own_stW (fun _ z => XS.aload X258.here hx rfl (hb hby at_243) rfl rfl z) ?_
                    show OGoW p e below s _ Z _ _ (T258.setTop (mkF m 245 #[.val (.int q1), .val (.int q2), .val (.int q3), .val (.int q4), .val (.int ca), .val (.int cb), .val (.int cc), .val (.int da), .val (.int db), .val (.int dc), .val (.int (Int32.ofNat n)), .val (.int (Int32.ofNat n)), .val (.ref sx), .val (.ref sy), .val (.ref xo), .val (.ref yo), .val (.int (1 : Int32)), .val (.ref sx), .val .null] [(.ref xo), (.ref xo)]))
                    obtain ⟨T259, X259, e259, st259⟩ := own_callVP X258 hx hZ (y := (⟨"com/example/limpet/limpet/LockName", "equals", "(Ljava/lang/Object;)Z"⟩ : MethodName)) (z := (⟨"com/example/limpet/limpet/LockName", "equals", "(Ljava/lang/Object;)Z"⟩ : MethodName)) (W := 0) hown (own_w hw 236 rfl) (own_w hw 237 rfl) (notFace_of_selects (args := #[]) (mvT hZ (own_w hw 239 rfl))) (own_w hw 239 rfl) (own_w hw 238 rfl) (own_w hw 240 rfl) (own_w hw 40 rfl) (by decide) (e6_ l Z a0 hw xo xo sx T236.heap E_xo F_value_xo E_xo F_value_xo E_sx) (by decide) (by decide) E_xo (g := (mkF m 245 #[.val (.int q1), .val (.int q2), .val (.int q3), .val (.int q4), .val (.int ca), .val (.int cb), .val (.int cc), .val (.int da), .val (.int db), .val (.int dc), .val (.int (Int32.ofNat n)), .val (.int (Int32.ofNat n)), .val (.ref sx), .val (.ref sy), .val (.ref xo), .val (.ref yo), .val (.int (1 : Int32)), .val (.ref sx), .val .null] [(.ref xo), (.ref xo)])) rfl (by rw [hml]; rfl) (argsL := [(.ref xo)]) (rest := []) (lenOf pd_28 rfl) rfl (by show 2 * 0 + _ ≤ _; exact Nat.le_of_eq rfl) (hb hby at_245) rfl e258 (by decide) (by decide)
                    refine own_stW st259 ?_
                    show OGoW p e below s _ Z _ _ (T259.setTop (mkF m 248 #[.val (.int q1), .val (.int q2), .val (.int q3), .val (.int q4), .val (.int ca), .val (.int cb), .val (.int cc), .val (.int da), .val (.int db), .val (.int dc), .val (.int (Int32.ofNat n)), .val (.int (Int32.ofNat n)), .val (.ref sx), .val (.ref sy), .val (.ref xo), .val (.ref yo), .val (.int (1 : Int32)), .val (.ref sx), .val .null] [(.int (1 : Int32))]))
                    refine own_stW (fun _ z => XS.ifNo X259.here hx rfl (hb hby at_248) rfl ((if0 _ _).trans (feq ((by decide : ¬ (1 : Int32) = (0 : Int32)))).1) z) ?_
                    show OGoW p e below s _ Z _ _ (T259.setTop (mkF m 251 #[.val (.int q1), .val (.int q2), .val (.int q3), .val (.int q4), .val (.int ca), .val (.int cb), .val (.int cc), .val (.int da), .val (.int db), .val (.int dc), .val (.int (Int32.ofNat n)), .val (.int (Int32.ofNat n)), .val (.ref sx), .val (.ref sy), .val (.ref xo), .val (.ref yo), .val (.int (1 : Int32)), .val (.ref sx), .val .null] []))
                    refine own_stW (fun _ z => XS.aload X259.here hx rfl (hb hby at_251) rfl rfl z) ?_
                    show OGoW p e below s _ Z _ _ (T259.setTop (mkF m 253 #[.val (.int q1), .val (.int q2), .val (.int q3), .val (.int q4), .val (.int ca), .val (.int cb), .val (.int cc), .val (.int da), .val (.int db), .val (.int dc), .val (.int (Int32.ofNat n)), .val (.int (Int32.ofNat n)), .val (.ref sx), .val (.ref sy), .val (.ref xo), .val (.ref yo), .val (.int (1 : Int32)), .val (.ref sx), .val .null] [(.ref xo)]))
                    refine own_stW (fun _ z => XS.aload X259.here hx rfl (hb hby at_253) rfl rfl z) ?_
                    show OGoW p e below s _ Z _ _ (T259.setTop (mkF m 255 #[.val (.int q1), .val (.int q2), .val (.int q3), .val (.int q4), .val (.int ca), .val (.int cb), .val (.int cc), .val (.int da), .val (.int db), .val (.int dc), .val (.int (Int32.ofNat n)), .val (.int (Int32.ofNat n)), .val (.ref sx), .val (.ref sy), .val (.ref xo), .val (.ref yo), .val (.int (1 : Int32)), .val (.ref sx), .val .null] [(.ref sx), (.ref xo)]))
                    obtain ⟨T260, X260, e260, st260⟩ := own_callVP X259 hx hZ (y := (⟨"com/example/limpet/limpet/LockName", "equals", "(Ljava/lang/Object;)Z"⟩ : MethodName)) (z := (⟨"com/example/limpet/limpet/LockName", "equals", "(Ljava/lang/Object;)Z"⟩ : MethodName)) (W := 0) hown (own_w hw 236 rfl) (own_w hw 237 rfl) (notFace_of_selects (args := #[]) (mvT hZ (own_w hw 239 rfl))) (own_w hw 239 rfl) (own_w hw 238 rfl) (own_w hw 240 rfl) (own_w hw 40 rfl) (by decide) (e7_ l Z a0 hw xo sx T236.heap E_sx) (by decide) (by decide) E_xo (g := (mkF m 255 #[.val (.int q1), .val (.int q2), .val (.int q3), .val (.int q4), .val (.int ca), .val (.int cb), .val (.int cc), .val (.int da), .val (.int db), .val (.int dc), .val (.int (Int32.ofNat n)), .val (.int (Int32.ofNat n)), .val (.ref sx), .val (.ref sy), .val (.ref xo), .val (.ref yo), .val (.int (1 : Int32)), .val (.ref sx), .val .null] [(.ref sx), (.ref xo)])) rfl (by rw [hml]; rfl) (argsL := [(.ref sx)]) (rest := []) (lenOf pd_28 rfl) rfl (by show 2 * 0 + _ ≤ _; exact Nat.le_of_eq rfl) (hb hby at_255) rfl e259 (by decide) (by decide)
                    refine own_stW st260 ?_
                    show OGoW p e below s _ Z _ _ (T260.setTop (mkF m 258 #[.val (.int q1), .val (.int q2), .val (.int q3), .val (.int q4), .val (.int ca), .val (.int cb), .val (.int cc), .val (.int da), .val (.int db), .val (.int dc), .val (.int (Int32.ofNat n)), .val (.int (Int32.ofNat n)), .val (.ref sx), .val (.ref sy), .val (.ref xo), .val (.ref yo), .val (.int (1 : Int32)), .val (.ref sx), .val .null] [(.int (0 : Int32))]))
                    refine own_stW (fun _ z => XS.ifNo X260.here hx rfl (hb hby at_258) rfl ((if0 _ _).trans (teq ((by decide : (0 : Int32) = (0 : Int32)))).2) z) ?_
                    show OGoW p e below s _ Z _ _ (T260.setTop (mkF m 261 #[.val (.int q1), .val (.int q2), .val (.int q3), .val (.int q4), .val (.int ca), .val (.int cb), .val (.int cc), .val (.int da), .val (.int db), .val (.int dc), .val (.int (Int32.ofNat n)), .val (.int (Int32.ofNat n)), .val (.ref sx), .val (.ref sy), .val (.ref xo), .val (.ref yo), .val (.int (1 : Int32)), .val (.ref sx), .val .null] []))
                    refine own_stW (fun _ z => XS.aload X260.here hx rfl (hb hby at_261) rfl rfl z) ?_
                    show OGoW p e below s _ Z _ _ (T260.setTop (mkF m 263 #[.val (.int q1), .val (.int q2), .val (.int q3), .val (.int q4), .val (.int ca), .val (.int cb), .val (.int cc), .val (.int da), .val (.int db), .val (.int dc), .val (.int (Int32.ofNat n)), .val (.int (Int32.ofNat n)), .val (.ref sx), .val (.ref sy), .val (.ref xo), .val (.ref yo), .val (.int (1 : Int32)), .val (.ref sx), .val .null] [(.ref xo)]))
                    refine own_stW (fun _ z => XS.aload X260.here hx rfl (hb hby at_263) rfl rfl z) ?_
                    show OGoW p e below s _ Z _ _ (T260.setTop (mkF m 265 #[.val (.int q1), .val (.int q2), .val (.int q3), .val (.int q4), .val (.int ca), .val (.int cb), .val (.int cc), .val (.int da), .val (.int db), .val (.int dc), .val (.int (Int32.ofNat n)), .val (.int (Int32.ofNat n)), .val (.ref sx), .val (.ref sy), .val (.ref xo), .val (.ref yo), .val (.int (1 : Int32)), .val (.ref sx), .val .null] [.null, (.ref xo)]))
                    obtain ⟨T261, X261, e261, st261⟩ := own_callVP X260 hx hZ (y := (⟨"com/example/limpet/limpet/LockName", "equals", "(Ljava/lang/Object;)Z"⟩ : MethodName)) (z := (⟨"com/example/limpet/limpet/LockName", "equals", "(Ljava/lang/Object;)Z"⟩ : MethodName)) (W := 0) hown (own_w hw 236 rfl) (own_w hw 237 rfl) (notFace_of_selects (args := #[]) (mvT hZ (own_w hw 239 rfl))) (own_w hw 239 rfl) (own_w hw 238 rfl) (own_w hw 240 rfl) (own_w hw 40 rfl) (by decide) (e8_ l Z a0 hw xo T236.heap) (by decide) (by decide) E_xo (g := (mkF m 265 #[.val (.int q1), .val (.int q2), .val (.int q3), .val (.int q4), .val (.int ca), .val (.int cb), .val (.int cc), .val (.int da), .val (.int db), .val (.int dc), .val (.int (Int32.ofNat n)), .val (.int (Int32.ofNat n)), .val (.ref sx), .val (.ref sy), .val (.ref xo), .val (.ref yo), .val (.int (1 : Int32)), .val (.ref sx), .val .null] [.null, (.ref xo)])) rfl (by rw [hml]; rfl) (argsL := [.null]) (rest := []) (lenOf pd_28 rfl) rfl (by show 2 * 0 + _ ≤ _; exact Nat.le_of_eq rfl) (hb hby at_265) rfl e260 (by decide) (by decide)
                    refine own_stW st261 ?_
                    show OGoW p e below s _ Z _ _ (T261.setTop (mkF m 268 #[.val (.int q1), .val (.int q2), .val (.int q3), .val (.int q4), .val (.int ca), .val (.int cb), .val (.int cc), .val (.int da), .val (.int db), .val (.int dc), .val (.int (Int32.ofNat n)), .val (.int (Int32.ofNat n)), .val (.ref sx), .val (.ref sy), .val (.ref xo), .val (.ref yo), .val (.int (1 : Int32)), .val (.ref sx), .val .null] [(.int (0 : Int32))]))
                    refine own_stW (fun _ z => XS.ifNo X261.here hx rfl (hb hby at_268) rfl ((if0 _ _).trans (teq ((by decide : (0 : Int32) = (0 : Int32)))).2) z) ?_
                    show OGoW p e below s _ Z _ _ (T261.setTop (mkF m 271 #[.val (.int q1), .val (.int q2), .val (.int q3), .val (.int q4), .val (.int ca), .val (.int cb), .val (.int cc), .val (.int da), .val (.int db), .val (.int dc), .val (.int (Int32.ofNat n)), .val (.int (Int32.ofNat n)), .val (.ref sx), .val (.ref sy), .val (.ref xo), .val (.ref yo), .val (.int (1 : Int32)), .val (.ref sx), .val .null] []))
                    refine own_stW (fun _ z => XS.iconst X261.here hx rfl (hb hby at_271) z) ?_
                    show OGoW p e below s _ Z _ _ (T261.setTop (mkF m 272 #[.val (.int q1), .val (.int q2), .val (.int q3), .val (.int q4), .val (.int ca), .val (.int cb), .val (.int cc), .val (.int da), .val (.int db), .val (.int dc), .val (.int (Int32.ofNat n)), .val (.int (Int32.ofNat n)), .val (.ref sx), .val (.ref sy), .val (.ref xo), .val (.ref yo), .val (.int (1 : Int32)), .val (.ref sx), .val .null] [(.int (1 : Int32))]))
                    refine own_stW (fun _ z => XS.goto X261.here hx rfl (pc0 := 272) (pc' := 276) rfl (hb hby at_272) (by decide) (by decide) z) ?_
                    show OGoW p e below s _ Z _ _ (T261.setTop (mkF m 276 #[.val (.int q1), .val (.int q2), .val (.int q3), .val (.int q4), .val (.int ca), .val (.int cb), .val (.int cc), .val (.int da), .val (.int db), .val (.int dc), .val (.int (Int32.ofNat n)), .val (.int (Int32.ofNat n)), .val (.ref sx), .val (.ref sy), .val (.ref xo), .val (.ref yo), .val (.int (1 : Int32)), .val (.ref sx), .val .null] [(.int (1 : Int32))]))
                    exact own_retWN X261 hx hlk (t := .boolean) hret (by simp) (hb hby at_276) (by decide) (by decide) hS e261 es hk hZ hEL CH (⟨rfl, Nr236⟩)
                  · refine own_stW (fun _ z => XS.icmpNo X236.here hx rfl (hb hby at_193) rfl (flt ((own_nltn (k := 3) h3 (by omega) (by decide)))).1 z) ?_
                    show OGoW p e below s _ Z _ _ (T236.setTop (mkF m 196 #[.val (.int q1), .val (.int q2), .val (.int q3), .val (.int q4), .val (.int ca), .val (.int cb), .val (.int cc), .val (.int da), .val (.int db), .val (.int dc), .val (.int (Int32.ofNat n)), .val (.int (Int32.ofNat n)), .val (.ref sx), .val (.ref sy), .val (.ref xo), .val (.ref yo), .unset, .unset, .unset] []))
                    refine own_stW (fun _ z => XS.iload X236.here hx rfl (hb hby at_196) rfl z) ?_
                    show OGoW p e below s _ Z _ _ (T236.setTop (mkF m 198 #[.val (.int q1), .val (.int q2), .val (.int q3), .val (.int q4), .val (.int ca), .val (.int cb), .val (.int cc), .val (.int da), .val (.int db), .val (.int dc), .val (.int (Int32.ofNat n)), .val (.int (Int32.ofNat n)), .val (.ref sx), .val (.ref sy), .val (.ref xo), .val (.ref yo), .unset, .unset, .unset] [(.int cc)]))
                    refine own_stW (fun _ z => XS.iload X236.here hx rfl (hb hby at_198) rfl z) ?_
                    show OGoW p e below s _ Z _ _ (T236.setTop (mkF m 200 #[.val (.int q1), .val (.int q2), .val (.int q3), .val (.int q4), .val (.int ca), .val (.int cb), .val (.int cc), .val (.int da), .val (.int db), .val (.int dc), .val (.int (Int32.ofNat n)), .val (.int (Int32.ofNat n)), .val (.ref sx), .val (.ref sy), .val (.ref xo), .val (.ref yo), .unset, .unset, .unset] [(.int dc), (.int cc)]))
                    by_cases y2 : cc = dc
                    · refine own_stW (fun _ z => XS.icmpNo X236.here hx rfl (hb hby at_200) rfl (teq (y2)).2 z) ?_
                      show OGoW p e below s _ Z _ _ (T236.setTop (mkF m 203 #[.val (.int q1), .val (.int q2), .val (.int q3), .val (.int q4), .val (.int ca), .val (.int cb), .val (.int cc), .val (.int da), .val (.int db), .val (.int dc), .val (.int (Int32.ofNat n)), .val (.int (Int32.ofNat n)), .val (.ref sx), .val (.ref sy), .val (.ref xo), .val (.ref yo), .unset, .unset, .unset] []))
                      refine own_stW (fun _ z => XS.iconst X236.here hx rfl (hb hby at_203) z) ?_
                      show OGoW p e below s _ Z _ _ (T236.setTop (mkF m 204 #[.val (.int q1), .val (.int q2), .val (.int q3), .val (.int q4), .val (.int ca), .val (.int cb), .val (.int cc), .val (.int da), .val (.int db), .val (.int dc), .val (.int (Int32.ofNat n)), .val (.int (Int32.ofNat n)), .val (.ref sx), .val (.ref sy), .val (.ref xo), .val (.ref yo), .unset, .unset, .unset] [(.int (1 : Int32))]))
                      refine own_stW (fun _ z => XS.goto X236.here hx rfl (pc0 := 204) (pc' := 208) rfl (hb hby at_204) (by decide) (by decide) z) ?_
                      show OGoW p e below s _ Z _ _ (T236.setTop (mkF m 208 #[.val (.int q1), .val (.int q2), .val (.int q3), .val (.int q4), .val (.int ca), .val (.int cb), .val (.int cc), .val (.int da), .val (.int db), .val (.int dc), .val (.int (Int32.ofNat n)), .val (.int (Int32.ofNat n)), .val (.ref sx), .val (.ref sy), .val (.ref xo), .val (.ref yo), .unset, .unset, .unset] [(.int (1 : Int32))]))
                      refine own_stW (fun _ z => XS.istore X236.here hx rfl (hb hby at_208) rfl (l' := #[.val (.int q1), .val (.int q2), .val (.int q3), .val (.int q4), .val (.int ca), .val (.int cb), .val (.int cc), .val (.int da), .val (.int db), .val (.int dc), .val (.int (Int32.ofNat n)), .val (.int (Int32.ofNat n)), .val (.ref sx), .val (.ref sy), .val (.ref xo), .val (.ref yo), .val (.int (1 : Int32)), .unset, .unset]) rfl z) ?_
                      show OGoW p e below s _ Z _ _ (T236.setTop (mkF m 210 #[.val (.int q1), .val (.int q2), .val (.int q3), .val (.int q4), .val (.int ca), .val (.int cb), .val (.int cc), .val (.int da), .val (.int db), .val (.int dc), .val (.int (Int32.ofNat n)), .val (.int (Int32.ofNat n)), .val (.ref sx), .val (.ref sy), .val (.ref xo), .val (.ref yo), .val (.int (1 : Int32)), .unset, .unset] []))
                      refine own_stW (fun _ z => XS.aload X236.here hx rfl (hb hby at_210) rfl rfl z) ?_
                      show OGoW p e below s _ Z _ _ (T236.setTop (mkF m 212 #[.val (.int q1), .val (.int q2), .val (.int q3), .val (.int q4), .val (.int ca), .val (.int cb), .val (.int cc), .val (.int da), .val (.int db), .val (.int dc), .val (.int (Int32.ofNat n)), .val (.int (Int32.ofNat n)), .val (.ref sx), .val (.ref sy), .val (.ref xo), .val (.ref yo), .val (.int (1 : Int32)), .unset, .unset] [(.ref sx)]))
                      refine own_stW (fun _ z => XS.astore X236.here hx rfl (hb hby at_212) rfl rfl (l' := #[.val (.int q1), .val (.int q2), .val (.int q3), .val (.int q4), .val (.int ca), .val (.int cb), .val (.int cc), .val (.int da), .val (.int db), .val (.int dc), .val (.int (Int32.ofNat n)), .val (.int (Int32.ofNat n)), .val (.ref sx), .val (.ref sy), .val (.ref xo), .val (.ref yo), .val (.int (1 : Int32)), .val (.ref sx), .unset]) rfl z) ?_
                      show OGoW p e below s _ Z _ _ (T236.setTop (mkF m 214 #[.val (.int q1), .val (.int q2), .val (.int q3), .val (.int q4), .val (.int ca), .val (.int cb), .val (.int cc), .val (.int da), .val (.int db), .val (.int dc), .val (.int (Int32.ofNat n)), .val (.int (Int32.ofNat n)), .val (.ref sx), .val (.ref sy), .val (.ref xo), .val (.ref yo), .val (.int (1 : Int32)), .val (.ref sx), .unset] []))
                      refine own_stW (fun _ z => XS.aconstNull X236.here hx rfl (hb hby at_214) z) ?_
                      show OGoW p e below s _ Z _ _ (T236.setTop (mkF m 215 #[.val (.int q1), .val (.int q2), .val (.int q3), .val (.int q4), .val (.int ca), .val (.int cb), .val (.int cc), .val (.int da), .val (.int db), .val (.int dc), .val (.int (Int32.ofNat n)), .val (.int (Int32.ofNat n)), .val (.ref sx), .val (.ref sy), .val (.ref xo), .val (.ref yo), .val (.int (1 : Int32)), .val (.ref sx), .unset] [.null]))
                      refine own_stW (fun _ z => XS.astore X236.here hx rfl (hb hby at_215) rfl rfl (l' := #[.val (.int q1), .val (.int q2), .val (.int q3), .val (.int q4), .val (.int ca), .val (.int cb), .val (.int cc), .val (.int da), .val (.int db), .val (.int dc), .val (.int (Int32.ofNat n)), .val (.int (Int32.ofNat n)), .val (.ref sx), .val (.ref sy), .val (.ref xo), .val (.ref yo), .val (.int (1 : Int32)), .val (.ref sx), .val .null]) rfl z) ?_
                      show OGoW p e below s _ Z _ _ (T236.setTop (mkF m 217 #[.val (.int q1), .val (.int q2), .val (.int q3), .val (.int q4), .val (.int ca), .val (.int cb), .val (.int cc), .val (.int da), .val (.int db), .val (.int dc), .val (.int (Int32.ofNat n)), .val (.int (Int32.ofNat n)), .val (.ref sx), .val (.ref sy), .val (.ref xo), .val (.ref yo), .val (.int (1 : Int32)), .val (.ref sx), .val .null] []))
                      refine own_stW (fun _ z => XS.aload X236.here hx rfl (hb hby at_217) rfl rfl z) ?_
                      show OGoW p e below s _ Z _ _ (T236.setTop (mkF m 219 #[.val (.int q1), .val (.int q2), .val (.int q3), .val (.int q4), .val (.int ca), .val (.int cb), .val (.int cc), .val (.int da), .val (.int db), .val (.int dc), .val (.int (Int32.ofNat n)), .val (.int (Int32.ofNat n)), .val (.ref sx), .val (.ref sy), .val (.ref xo), .val (.ref yo), .val (.int (1 : Int32)), .val (.ref sx), .val .null] [(.ref xo)]))
                      refine own_stW (fun _ z => XS.aload X236.here hx rfl (hb hby at_219) rfl rfl z) ?_
                      show OGoW p e below s _ Z _ _ (T236.setTop (mkF m 221 #[.val (.int q1), .val (.int q2), .val (.int q3), .val (.int q4), .val (.int ca), .val (.int cb), .val (.int cc), .val (.int da), .val (.int db), .val (.int dc), .val (.int (Int32.ofNat n)), .val (.int (Int32.ofNat n)), .val (.ref sx), .val (.ref sy), .val (.ref xo), .val (.ref yo), .val (.int (1 : Int32)), .val (.ref sx), .val .null] [(.ref yo), (.ref xo)]))
                      have y0s := y0.symm
                      have y1s := y1.symm
                      have y2s := y2.symm
                      obtain ⟨T267, X267, e267, st267⟩ := own_callVP X236 hx hZ (y := (⟨"com/example/limpet/limpet/LockName", "equals", "(Ljava/lang/Object;)Z"⟩ : MethodName)) (z := (⟨"com/example/limpet/limpet/LockName", "equals", "(Ljava/lang/Object;)Z"⟩ : MethodName)) (W := 0) hown (own_w hw 236 rfl) (own_w hw 237 rfl) (notFace_of_selects (args := #[]) (mvT hZ (own_w hw 239 rfl))) (own_w hw 239 rfl) (own_w hw 238 rfl) (own_w hw 240 rfl) (own_w hw 40 rfl) (by decide) (e5_1 l Z a0 hw xo yo sy sx ty n (own_c3 da db dc) tx (own_c3 ca cb cc) cs T236.heap (Ne.symm ne_sx_sy) E_xo F_value_xo E_yo F_value_yo E_sy F_coder_sy F_value_sy A_ty E_sx F_coder_sx F_value_sx A_tx S_COMPACT_STRINGS hcs (by omega) (own_c3g g_da g_db g_dc n) (own_c3g g_ca g_cb g_cc n) (by rcases (by omega : n = 3) with hk <;> rw [hk] <;> simp [own_eqf, own_c3, OB, y0s, y1s, y2s])) (by decide) (by decide) E_xo (g := (mkF m 221 #[.val (.int q1), .val (.int q2), .val (.int q3), .val (.int q4), .val (.int ca), .val (.int cb), .val (.int cc), .val (.int da), .val (.int db), .val (.int dc), .val (.int (Int32.ofNat n)), .val (.int (Int32.ofNat n)), .val (.ref sx), .val (.ref sy), .val (.ref xo), .val (.ref yo), .val (.int (1 : Int32)), .val (.ref sx), .val .null] [(.ref yo), (.ref xo)])) rfl (by rw [hml]; rfl) (argsL := [(.ref yo)]) (rest := []) (lenOf pd_28 rfl) rfl (by show 2 * 0 + _ ≤ _; exact Nat.le_of_eq rfl) (hb hby at_221) rfl rfl (by decide) (by decide)
                      refine own_stW st267 ?_
                      show OGoW p e below s _ Z _ _ (T267.setTop (mkF m 224 #[.val (.int q1), .val (.int q2), .val (.int q3), .val (.int q4), .val (.int ca), .val (.int cb), .val (.int cc), .val (.int da), .val (.int db), .val (.int dc), .val (.int (Int32.ofNat n)), .val (.int (Int32.ofNat n)), .val (.ref sx), .val (.ref sy), .val (.ref xo), .val (.ref yo), .val (.int (1 : Int32)), .val (.ref sx), .val .null] [(.int (1 : Int32))]))
                      refine own_stW (fun _ z => XS.iload X267.here hx rfl (hb hby at_224) rfl z) ?_
                      show OGoW p e below s _ Z _ _ (T267.setTop (mkF m 226 #[.val (.int q1), .val (.int q2), .val (.int q3), .val (.int q4), .val (.int ca), .val (.int cb), .val (.int cc), .val (.int da), .val (.int db), .val (.int dc), .val (.int (Int32.ofNat n)), .val (.int (Int32.ofNat n)), .val (.ref sx), .val (.ref sy), .val (.ref xo), .val (.ref yo), .val (.int (1 : Int32)), .val (.ref sx), .val .null] [(.int (1 : Int32)), (.int (1 : Int32))]))
                      refine own_stW (fun _ z => XS.icmpNo X267.here hx rfl (hb hby at_226) rfl (teq ((by decide : (1 : Int32) = (1 : Int32)))).2 z) ?_
                      show OGoW p e below s _ Z _ _ (T267.setTop (mkF m 229 #[.val (.int q1), .val (.int q2), .val (.int q3), .val (.int q4), .val (.int ca), .val (.int cb), .val (.int cc), .val (.int da), .val (.int db), .val (.int dc), .val (.int (Int32.ofNat n)), .val (.int (Int32.ofNat n)), .val (.ref sx), .val (.ref sy), .val (.ref xo), .val (.ref yo), .val (.int (1 : Int32)), .val (.ref sx), .val .null] []))
                      refine own_stW (fun _ z => XS.aload X267.here hx rfl (hb hby at_229) rfl rfl z) ?_
                      show OGoW p e below s _ Z _ _ (T267.setTop (mkF m 231 #[.val (.int q1), .val (.int q2), .val (.int q3), .val (.int q4), .val (.int ca), .val (.int cb), .val (.int cc), .val (.int da), .val (.int db), .val (.int dc), .val (.int (Int32.ofNat n)), .val (.int (Int32.ofNat n)), .val (.ref sx), .val (.ref sy), .val (.ref xo), .val (.ref yo), .val (.int (1 : Int32)), .val (.ref sx), .val .null] [(.ref yo)]))
                      refine own_stW (fun _ z => XS.aload X267.here hx rfl (hb hby at_231) rfl rfl z) ?_
                      show OGoW p e below s _ Z _ _ (T267.setTop (mkF m 233 #[.val (.int q1), .val (.int q2), .val (.int q3), .val (.int q4), .val (.int ca), .val (.int cb), .val (.int cc), .val (.int da), .val (.int db), .val (.int dc), .val (.int (Int32.ofNat n)), .val (.int (Int32.ofNat n)), .val (.ref sx), .val (.ref sy), .val (.ref xo), .val (.ref yo), .val (.int (1 : Int32)), .val (.ref sx), .val .null] [(.ref xo), (.ref yo)]))
                      obtain ⟨T268, X268, e268, st268⟩ := own_callVP X267 hx hZ (y := (⟨"com/example/limpet/limpet/LockName", "equals", "(Ljava/lang/Object;)Z"⟩ : MethodName)) (z := (⟨"com/example/limpet/limpet/LockName", "equals", "(Ljava/lang/Object;)Z"⟩ : MethodName)) (W := 0) hown (own_w hw 236 rfl) (own_w hw 237 rfl) (notFace_of_selects (args := #[]) (mvT hZ (own_w hw 239 rfl))) (own_w hw 239 rfl) (own_w hw 238 rfl) (own_w hw 240 rfl) (own_w hw 40 rfl) (by decide) (e5_1 l Z a0 hw yo xo sx sy tx n (own_c3 ca cb cc) ty (own_c3 da db dc) cs T236.heap ne_sx_sy E_yo F_value_yo E_xo F_value_xo E_sx F_coder_sx F_value_sx A_tx E_sy F_coder_sy F_value_sy A_ty S_COMPACT_STRINGS hcs (by omega) (own_c3g g_ca g_cb g_cc n) (own_c3g g_da g_db g_dc n) (by rcases (by omega : n = 3) with hk <;> rw [hk] <;> simp [own_eqf, own_c3, OB, y0, y1, y2])) (by decide) (by decide) E_yo (g := (mkF m 233 #[.val (.int q1), .val (.int q2), .val (.int q3), .val (.int q4), .val (.int ca), .val (.int cb), .val (.int cc), .val (.int da), .val (.int db), .val (.int dc), .val (.int (Int32.ofNat n)), .val (.int (Int32.ofNat n)), .val (.ref sx), .val (.ref sy), .val (.ref xo), .val (.ref yo), .val (.int (1 : Int32)), .val (.ref sx), .val .null] [(.ref xo), (.ref yo)])) rfl (by rw [hml]; rfl) (argsL := [(.ref xo)]) (rest := []) (lenOf pd_28 rfl) rfl (by show 2 * 0 + _ ≤ _; exact Nat.le_of_eq rfl) (hb hby at_233) rfl e267 (by decide) (by decide)
                      refine own_stW st268 ?_
                      show OGoW p e below s _ Z _ _ (T268.setTop (mkF m 236 #[.val (.int q1), .val (.int q2), .val (.int q3), .val (.int q4), .val (.int ca), .val (.int cb), .val (.int cc), .val (.int da), .val (.int db), .val (.int dc), .val (.int (Int32.ofNat n)), .val (.int (Int32.ofNat n)), .val (.ref sx), .val (.ref sy), .val (.ref xo), .val (.ref yo), .val (.int (1 : Int32)), .val (.ref sx), .val .null] [(.int (1 : Int32))]))
                      refine own_stW (fun _ z => XS.iload X268.here hx rfl (hb hby at_236) rfl z) ?_
                      show OGoW p e below s _ Z _ _ (T268.setTop (mkF m 238 #[.val (.int q1), .val (.int q2), .val (.int q3), .val (.int q4), .val (.int ca), .val (.int cb), .val (.int cc), .val (.int da), .val (.int db), .val (.int dc), .val (.int (Int32.ofNat n)), .val (.int (Int32.ofNat n)), .val (.ref sx), .val (.ref sy), .val (.ref xo), .val (.ref yo), .val (.int (1 : Int32)), .val (.ref sx), .val .null] [(.int (1 : Int32)), (.int (1 : Int32))]))
                      refine own_stW (fun _ z => XS.icmpNo X268.here hx rfl (hb hby at_238) rfl (teq ((by decide : (1 : Int32) = (1 : Int32)))).2 z) ?_
                      show OGoW p e below s _ Z _ _ (T268.setTop (mkF m 241 #[.val (.int q1), .val (.int q2), .val (.int q3), .val (.int q4), .val (.int ca), .val (.int cb), .val (.int cc), .val (.int da), .val (.int db), .val (.int dc), .val (.int (Int32.ofNat n)), .val (.int (Int32.ofNat n)), .val (.ref sx), .val (.ref sy), .val (.ref xo), .val (.ref yo), .val (.int (1 : Int32)), .val (.ref sx), .val .null] []))
                      refine own_stW (fun _ z => XS.aload X268.here hx rfl (hb hby at_241) rfl rfl z) ?_
                      show OGoW p e below s _ Z _ _ (T268.setTop (mkF m 243 #[.val (.int q1), .val (.int q2), .val (.int q3), .val (.int q4), .val (.int ca), .val (.int cb), .val (.int cc), .val (.int da), .val (.int db), .val (.int dc), .val (.int (Int32.ofNat n)), .val (.int (Int32.ofNat n)), .val (.ref sx), .val (.ref sy), .val (.ref xo), .val (.ref yo), .val (.int (1 : Int32)), .val (.ref sx), .val .null] [(.ref xo)]))
                      refine own_stW (fun _ z => XS.aload X268.here hx rfl (hb hby at_243) rfl rfl z) ?_
                      show OGoW p e below s _ Z _ _ (T268.setTop (mkF m 245 #[.val (.int q1), .val (.int q2), .val (.int q3), .val (.int q4), .val (.int ca), .val (.int cb), .val (.int cc), .val (.int da), .val (.int db), .val (.int dc), .val (.int (Int32.ofNat n)), .val (.int (Int32.ofNat n)), .val (.ref sx), .val (.ref sy), .val (.ref xo), .val (.ref yo), .val (.int (1 : Int32)), .val (.ref sx), .val .null] [(.ref xo), (.ref xo)]))
                      obtain ⟨T269, X269, e269, st269⟩ := own_callVP X268 hx hZ (y := (⟨"com/example/limpet/limpet/LockName", "equals", "(Ljava/lang/Object;)Z"⟩ : MethodName)) (z := (⟨"com/example/limpet/limpet/LockName", "equals", "(Ljava/lang/Object;)Z"⟩ : MethodName)) (W := 0) hown (own_w hw 236 rfl) (own_w hw 237 rfl) (notFace_of_selects (args := #[]) (mvT hZ (own_w hw 239 rfl))) (own_w hw 239 rfl) (own_w hw 238 rfl) (own_w hw 240 rfl) (own_w hw 40 rfl) (by decide) (e6_ l Z a0 hw xo xo sx T236.heap E_xo F_value_xo E_xo F_value_xo E_sx) (by decide) (by decide) E_xo (g := (mkF m 245 #[.val (.int q1), .val (.int q2), .val (.int q3), .val (.int q4), .val (.int ca), .val (.int cb), .val (.int cc), .val (.int da), .val (.int db), .val (.int dc), .val (.int (Int32.ofNat n)), .val (.int (Int32.ofNat n)), .val (.ref sx), .val (.ref sy), .val (.ref xo), .val (.ref yo), .val (.int (1 : Int32)), .val (.ref sx), .val .null] [(.ref xo), (.ref xo)])) rfl (by rw [hml]; rfl) (argsL := [(.ref xo)]) (rest := []) (lenOf pd_28 rfl) rfl (by show 2 * 0 + _ ≤ _; exact Nat.le_of_eq rfl) (hb hby at_245) rfl e268 (by decide) (by decide)
                      refine own_stW st269 ?_
                      show OGoW p e below s _ Z _ _ (T269.setTop (mkF m 248 #[.val (.int q1), .val (.int q2), .val (.int q3), .val (.int q4), .val (.int ca), .val (.int cb), .val (.int cc), .val (.int da), .val (.int db), .val (.int dc), .val (.int (Int32.ofNat n)), .val (.int (Int32.ofNat n)), .val (.ref sx), .val (.ref sy), .val (.ref xo), .val (.ref yo), .val (.int (1 : Int32)), .val (.ref sx), .val .null] [(.int (1 : Int32))]))
                      refine own_stW (fun _ z => XS.ifNo X269.here hx rfl (hb hby at_248) rfl ((if0 _ _).trans (feq ((by decide : ¬ (1 : Int32) = (0 : Int32)))).1) z) ?_
                      show OGoW p e below s _ Z _ _ (T269.setTop (mkF m 251 #[.val (.int q1), .val (.int q2), .val (.int q3), .val (.int q4), .val (.int ca), .val (.int cb), .val (.int cc), .val (.int da), .val (.int db), .val (.int dc), .val (.int (Int32.ofNat n)), .val (.int (Int32.ofNat n)), .val (.ref sx), .val (.ref sy), .val (.ref xo), .val (.ref yo), .val (.int (1 : Int32)), .val (.ref sx), .val .null] []))
                      refine own_stW (fun _ z => XS.aload X269.here hx rfl (hb hby at_251) rfl rfl z) ?_
                      show OGoW p e below s _ Z _ _ (T269.setTop (mkF m 253 #[.val (.int q1), .val (.int q2), .val (.int q3), .val (.int q4), .val (.int ca), .val (.int cb), .val (.int cc), .val (.int da), .val (.int db), .val (.int dc), .val (.int (Int32.ofNat n)), .val (.int (Int32.ofNat n)), .val (.ref sx), .val (.ref sy), .val (.ref xo), .val (.ref yo), .val (.int (1 : Int32)), .val (.ref sx), .val .null] [(.ref xo)]))
                      refine own_stW (fun _ z => XS.aload X269.here hx rfl (hb hby at_253) rfl rfl z) ?_
                      show OGoW p e below s _ Z _ _ (T269.setTop (mkF m 255 #[.val (.int q1), .val (.int q2), .val (.int q3), .val (.int q4), .val (.int ca), .val (.int cb), .val (.int cc), .val (.int da), .val (.int db), .val (.int dc), .val (.int (Int32.ofNat n)), .val (.int (Int32.ofNat n)), .val (.ref sx), .val (.ref sy), .val (.ref xo), .val (.ref yo), .val (.int (1 : Int32)), .val (.ref sx), .val .null] [(.ref sx), (.ref xo)]))
                      obtain ⟨T270, X270, e270, st270⟩ := own_callVP X269 hx hZ (y := (⟨"com/example/limpet/limpet/LockName", "equals", "(Ljava/lang/Object;)Z"⟩ : MethodName)) (z := (⟨"com/example/limpet/limpet/LockName", "equals", "(Ljava/lang/Object;)Z"⟩ : MethodName)) (W := 0) hown (own_w hw 236 rfl) (own_w hw 237 rfl) (notFace_of_selects (args := #[]) (mvT hZ (own_w hw 239 rfl))) (own_w hw 239 rfl) (own_w hw 238 rfl) (own_w hw 240 rfl) (own_w hw 40 rfl) (by decide) (e7_ l Z a0 hw xo sx T236.heap E_sx) (by decide) (by decide) E_xo (g := (mkF m 255 #[.val (.int q1), .val (.int q2), .val (.int q3), .val (.int q4), .val (.int ca), .val (.int cb), .val (.int cc), .val (.int da), .val (.int db), .val (.int dc), .val (.int (Int32.ofNat n)), .val (.int (Int32.ofNat n)), .val (.ref sx), .val (.ref sy), .val (.ref xo), .val (.ref yo), .val (.int (1 : Int32)), .val (.ref sx), .val .null] [(.ref sx), (.ref xo)])) rfl (by rw [hml]; rfl) (argsL := [(.ref sx)]) (rest := []) (lenOf pd_28 rfl) rfl (by show 2 * 0 + _ ≤ _; exact Nat.le_of_eq rfl) (hb hby at_255) rfl e269 (by decide) (by decide)
                      refine own_stW st270 ?_
                      show OGoW p e below s _ Z _ _ (T270.setTop (mkF m 258 #[.val (.int q1), .val (.int q2), .val (.int q3), .val (.int q4), .val (.int ca), .val (.int cb), .val (.int cc), .val (.int da), .val (.int db), .val (.int dc), .val (.int (Int32.ofNat n)), .val (.int (Int32.ofNat n)), .val (.ref sx), .val (.ref sy), .val (.ref xo), .val (.ref yo), .val (.int (1 : Int32)), .val (.ref sx), .val .null] [(.int (0 : Int32))]))
                      refine own_stW (fun _ z => XS.ifNo X270.here hx rfl (hb hby at_258) rfl ((if0 _ _).trans (teq ((by decide : (0 : Int32) = (0 : Int32)))).2) z) ?_
                      show OGoW p e below s _ Z _ _ (T270.setTop (mkF m 261 #[.val (.int q1), .val (.int q2), .val (.int q3), .val (.int q4), .val (.int ca), .val (.int cb), .val (.int cc), .val (.int da), .val (.int db), .val (.int dc), .val (.int (Int32.ofNat n)), .val (.int (Int32.ofNat n)), .val (.ref sx), .val (.ref sy), .val (.ref xo), .val (.ref yo), .val (.int (1 : Int32)), .val (.ref sx), .val .null] []))
                      refine own_stW (fun _ z => XS.aload X270.here hx rfl (hb hby at_261) rfl rfl z) ?_
                      show OGoW p e below s _ Z _ _ (T270.setTop (mkF m 263 #[.val (.int q1), .val (.int q2), .val (.int q3), .val (.int q4), .val (.int ca), .val (.int cb), .val (.int cc), .val (.int da), .val (.int db), .val (.int dc), .val (.int (Int32.ofNat n)), .val (.int (Int32.ofNat n)), .val (.ref sx), .val (.ref sy), .val (.ref xo), .val (.ref yo), .val (.int (1 : Int32)), .val (.ref sx), .val .null] [(.ref xo)]))
                      refine own_stW (fun _ z => XS.aload X270.here hx rfl (hb hby at_263) rfl rfl z) ?_
                      show OGoW p e below s _ Z _ _ (T270.setTop (mkF m 265 #[.val (.int q1), .val (.int q2), .val (.int q3), .val (.int q4), .val (.int ca), .val (.int cb), .val (.int cc), .val (.int da), .val (.int db), .val (.int dc), .val (.int (Int32.ofNat n)), .val (.int (Int32.ofNat n)), .val (.ref sx), .val (.ref sy), .val (.ref xo), .val (.ref yo), .val (.int (1 : Int32)), .val (.ref sx), .val .null] [.null, (.ref xo)]))
                      obtain ⟨T271, X271, e271, st271⟩ := own_callVP X270 hx hZ (y := (⟨"com/example/limpet/limpet/LockName", "equals", "(Ljava/lang/Object;)Z"⟩ : MethodName)) (z := (⟨"com/example/limpet/limpet/LockName", "equals", "(Ljava/lang/Object;)Z"⟩ : MethodName)) (W := 0) hown (own_w hw 236 rfl) (own_w hw 237 rfl) (notFace_of_selects (args := #[]) (mvT hZ (own_w hw 239 rfl))) (own_w hw 239 rfl) (own_w hw 238 rfl) (own_w hw 240 rfl) (own_w hw 40 rfl) (by decide) (e8_ l Z a0 hw xo T236.heap) (by decide) (by decide) E_xo (g := (mkF m 265 #[.val (.int q1), .val (.int q2), .val (.int q3), .val (.int q4), .val (.int ca), .val (.int cb), .val (.int cc), .val (.int da), .val (.int db), .val (.int dc), .val (.int (Int32.ofNat n)), .val (.int (Int32.ofNat n)), .val (.ref sx), .val (.ref sy), .val (.ref xo), .val (.ref yo), .val (.int (1 : Int32)), .val (.ref sx), .val .null] [.null, (.ref xo)])) rfl (by rw [hml]; rfl) (argsL := [.null]) (rest := []) (lenOf pd_28 rfl) rfl (by show 2 * 0 + _ ≤ _; exact Nat.le_of_eq rfl) (hb hby at_265) rfl e270 (by decide) (by decide)
                      refine own_stW st271 ?_
                      show OGoW p e below s _ Z _ _ (T271.setTop (mkF m 268 #[.val (.int q1), .val (.int q2), .val (.int q3), .val (.int q4), .val (.int ca), .val (.int cb), .val (.int cc), .val (.int da), .val (.int db), .val (.int dc), .val (.int (Int32.ofNat n)), .val (.int (Int32.ofNat n)), .val (.ref sx), .val (.ref sy), .val (.ref xo), .val (.ref yo), .val (.int (1 : Int32)), .val (.ref sx), .val .null] [(.int (0 : Int32))]))
                      refine own_stW (fun _ z => XS.ifNo X271.here hx rfl (hb hby at_268) rfl ((if0 _ _).trans (teq ((by decide : (0 : Int32) = (0 : Int32)))).2) z) ?_
                      show OGoW p e below s _ Z _ _ (T271.setTop (mkF m 271 #[.val (.int q1), .val (.int q2), .val (.int q3), .val (.int q4), .val (.int ca), .val (.int cb), .val (.int cc), .val (.int da), .val (.int db), .val (.int dc), .val (.int (Int32.ofNat n)), .val (.int (Int32.ofNat n)), .val (.ref sx), .val (.ref sy), .val (.ref xo), .val (.ref yo), .val (.int (1 : Int32)), .val (.ref sx), .val .null] []))
                      refine own_stW (fun _ z => XS.iconst X271.here hx rfl (hb hby at_271) z) ?_
                      show OGoW p e below s _ Z _ _ (T271.setTop (mkF m 272 #[.val (.int q1), .val (.int q2), .val (.int q3), .val (.int q4), .val (.int ca), .val (.int cb), .val (.int cc), .val (.int da), .val (.int db), .val (.int dc), .val (.int (Int32.ofNat n)), .val (.int (Int32.ofNat n)), .val (.ref sx), .val (.ref sy), .val (.ref xo), .val (.ref yo), .val (.int (1 : Int32)), .val (.ref sx), .val .null] [(.int (1 : Int32))]))
                      refine own_stW (fun _ z => XS.goto X271.here hx rfl (pc0 := 272) (pc' := 276) rfl (hb hby at_272) (by decide) (by decide) z) ?_
                      show OGoW p e below s _ Z _ _ (T271.setTop (mkF m 276 #[.val (.int q1), .val (.int q2), .val (.int q3), .val (.int q4), .val (.int ca), .val (.int cb), .val (.int cc), .val (.int da), .val (.int db), .val (.int dc), .val (.int (Int32.ofNat n)), .val (.int (Int32.ofNat n)), .val (.ref sx), .val (.ref sy), .val (.ref xo), .val (.ref yo), .val (.int (1 : Int32)), .val (.ref sx), .val .null] [(.int (1 : Int32))]))
                      exact own_retWN X271 hx hlk (t := .boolean) hret (by simp) (hb hby at_276) (by decide) (by decide) hS e271 es hk hZ hEL CH (⟨rfl, Nr236⟩)
                    · have n2 := y2
                      refine own_stW (fun _ z => XS.icmpYes X236.here hx rfl (pc0 := 200) (pc' := 207) rfl (hb hby at_200) rfl (feq (n2)).2 (by decide) (by decide) z) ?_
                      show OGoW p e below s _ Z _ _ (T236.setTop (mkF m 207 #[.val (.int q1), .val (.int q2), .val (.int q3), .val (.int q4), .val (.int ca), .val (.int cb), .val (.int cc), .val (.int da), .val (.int db), .val (.int dc), .val (.int (Int32.ofNat n)), .val (.int (Int32.ofNat n)), .val (.ref sx), .val (.ref sy), .val (.ref xo), .val (.ref yo), .unset, .unset, .unset] []))
                      refine own_stW (fun _ z => XS.iconst X236.here hx rfl (hb hby at_207) z) ?_
                      show OGoW p e below s _ Z _ _ (T236.setTop (mkF m 208 #[.val (.int q1), .val (.int q2), .val (.int q3), .val (.int q4), .val (.int ca), .val (.int cb), .val (.int cc), .val (.int da), .val (.int db), .val (.int dc), .val (.int (Int32.ofNat n)), .val (.int (Int32.ofNat n)), .val (.ref sx), .val (.ref sy), .val (.ref xo), .val (.ref yo), .unset, .unset, .unset] [(.int (0 : Int32))]))
                      refine own_stW (fun _ z => XS.istore X236.here hx rfl (hb hby at_208) rfl (l' := #[.val (.int q1), .val (.int q2), .val (.int q3), .val (.int q4), .val (.int ca), .val (.int cb), .val (.int cc), .val (.int da), .val (.int db), .val (.int dc), .val (.int (Int32.ofNat n)), .val (.int (Int32.ofNat n)), .val (.ref sx), .val (.ref sy), .val (.ref xo), .val (.ref yo), .val (.int (0 : Int32)), .unset, .unset]) rfl z) ?_
                      show OGoW p e below s _ Z _ _ (T236.setTop (mkF m 210 #[.val (.int q1), .val (.int q2), .val (.int q3), .val (.int q4), .val (.int ca), .val (.int cb), .val (.int cc), .val (.int da), .val (.int db), .val (.int dc), .val (.int (Int32.ofNat n)), .val (.int (Int32.ofNat n)), .val (.ref sx), .val (.ref sy), .val (.ref xo), .val (.ref yo), .val (.int (0 : Int32)), .unset, .unset] []))
                      refine own_stW (fun _ z => XS.aload X236.here hx rfl (hb hby at_210) rfl rfl z) ?_
                      show OGoW p e below s _ Z _ _ (T236.setTop (mkF m 212 #[.val (.int q1), .val (.int q2), .val (.int q3), .val (.int q4), .val (.int ca), .val (.int cb), .val (.int cc), .val (.int da), .val (.int db), .val (.int dc), .val (.int (Int32.ofNat n)), .val (.int (Int32.ofNat n)), .val (.ref sx), .val (.ref sy), .val (.ref xo), .val (.ref yo), .val (.int (0 : Int32)), .unset, .unset] [(.ref sx)]))
                      refine own_stW (fun _ z => XS.astore X236.here hx rfl (hb hby at_212) rfl rfl (l' := #[.val (.int q1), .val (.int q2), .val (.int q3), .val (.int q4), .val (.int ca), .val (.int cb), .val (.int cc), .val (.int da), .val (.int db), .val (.int dc), .val (.int (Int32.ofNat n)), .val (.int (Int32.ofNat n)), .val (.ref sx), .val (.ref sy), .val (.ref xo), .val (.ref yo), .val (.int (0 : Int32)), .val (.ref sx), .unset]) rfl z) ?_
                      show OGoW p e below s _ Z _ _ (T236.setTop (mkF m 214 #[.val (.int q1), .val (.int q2), .val (.int q3), .val (.int q4), .val (.int ca), .val (.int cb), .val (.int cc), .val (.int da), .val (.int db), .val (.int dc), .val (.int (Int32.ofNat n)), .val (.int (Int32.ofNat n)), .val (.ref sx), .val (.ref sy), .val (.ref xo), .val (.ref yo), .val (.int (0 : Int32)), .val (.ref sx), .unset] []))
                      refine own_stW (fun _ z => XS.aconstNull X236.here hx rfl (hb hby at_214) z) ?_
                      show OGoW p e below s _ Z _ _ (T236.setTop (mkF m 215 #[.val (.int q1), .val (.int q2), .val (.int q3), .val (.int q4), .val (.int ca), .val (.int cb), .val (.int cc), .val (.int da), .val (.int db), .val (.int dc), .val (.int (Int32.ofNat n)), .val (.int (Int32.ofNat n)), .val (.ref sx), .val (.ref sy), .val (.ref xo), .val (.ref yo), .val (.int (0 : Int32)), .val (.ref sx), .unset] [.null]))
                      refine own_stW (fun _ z => XS.astore X236.here hx rfl (hb hby at_215) rfl rfl (l' := #[.val (.int q1), .val (.int q2), .val (.int q3), .val (.int q4), .val (.int ca), .val (.int cb), .val (.int cc), .val (.int da), .val (.int db), .val (.int dc), .val (.int (Int32.ofNat n)), .val (.int (Int32.ofNat n)), .val (.ref sx), .val (.ref sy), .val (.ref xo), .val (.ref yo), .val (.int (0 : Int32)), .val (.ref sx), .val .null]) rfl z) ?_
                      show OGoW p e below s _ Z _ _ (T236.setTop (mkF m 217 #[.val (.int q1), .val (.int q2), .val (.int q3), .val (.int q4), .val (.int ca), .val (.int cb), .val (.int cc), .val (.int da), .val (.int db), .val (.int dc), .val (.int (Int32.ofNat n)), .val (.int (Int32.ofNat n)), .val (.ref sx), .val (.ref sy), .val (.ref xo), .val (.ref yo), .val (.int (0 : Int32)), .val (.ref sx), .val .null] []))
                      refine own_stW (fun _ z => XS.aload X236.here hx rfl (hb hby at_217) rfl rfl z) ?_
                      show OGoW p e below s _ Z _ _ (T236.setTop (mkF m 219 #[.val (.int q1), .val (.int q2), .val (.int q3), .val (.int q4), .val (.int ca), .val (.int cb), .val (.int cc), .val (.int da), .val (.int db), .val (.int dc), .val (.int (Int32.ofNat n)), .val (.int (Int32.ofNat n)), .val (.ref sx), .val (.ref sy), .val (.ref xo), .val (.ref yo), .val (.int (0 : Int32)), .val (.ref sx), .val .null] [(.ref xo)]))
                      refine own_stW (fun _ z => XS.aload X236.here hx rfl (hb hby at_219) rfl rfl z) ?_
                      show OGoW p e below s _ Z _ _ (T236.setTop (mkF m 221 #[.val (.int q1), .val (.int q2), .val (.int q3), .val (.int q4), .val (.int ca), .val (.int cb), .val (.int cc), .val (.int da), .val (.int db), .val (.int dc), .val (.int (Int32.ofNat n)), .val (.int (Int32.ofNat n)), .val (.ref sx), .val (.ref sy), .val (.ref xo), .val (.ref yo), .val (.int (0 : Int32)), .val (.ref sx), .val .null] [(.ref yo), (.ref xo)]))
                      have y0s := y0.symm
                      have y1s := y1.symm
                      have n2s : ¬ dc = cc := fun q => n2 q.symm
                      obtain ⟨T262, X262, e262, st262⟩ := own_callVP X236 hx hZ (y := (⟨"com/example/limpet/limpet/LockName", "equals", "(Ljava/lang/Object;)Z"⟩ : MethodName)) (z := (⟨"com/example/limpet/limpet/LockName", "equals", "(Ljava/lang/Object;)Z"⟩ : MethodName)) (W := 0) hown (own_w hw 236 rfl) (own_w hw 237 rfl) (notFace_of_selects (args := #[]) (mvT hZ (own_w hw 239 rfl))) (own_w hw 239 rfl) (own_w hw 238 rfl) (own_w hw 240 rfl) (own_w hw 40 rfl) (by decide) (e5_0 l Z a0 hw xo yo sy sx ty n (own_c3 da db dc) tx (own_c3 ca cb cc) cs T236.heap (Ne.symm ne_sx_sy) E_xo F_value_xo E_yo F_value_yo E_sy F_coder_sy F_value_sy A_ty E_sx F_coder_sx F_value_sx A_tx S_COMPACT_STRINGS hcs (by omega) (own_c3g g_da g_db g_dc n) (own_c3g g_ca g_cb g_cc n) (by rcases (by omega : n = 3) with hk <;> rw [hk] <;> simp [own_eqf, own_c3, OB, y0s, y1s, n2s])) (by decide) (by decide) E_xo (g := (mkF m 221 #[.val (.int q1), .val (.int q2), .val (.int q3), .val (.int q4), .val (.int ca), .val (.int cb), .val (.int cc), .val (.int da), .val (.int db), .val (.int dc), .val (.int (Int32.ofNat n)), .val (.int (Int32.ofNat n)), .val (.ref sx), .val (.ref sy), .val (.ref xo), .val (.ref yo), .val (.int (0 : Int32)), .val (.ref sx), .val .null] [(.ref yo), (.ref xo)])) rfl (by rw [hml]; rfl) (argsL := [(.ref yo)]) (rest := []) (lenOf pd_28 rfl) rfl (by show 2 * 0 + _ ≤ _; exact Nat.le_of_eq rfl) (hb hby at_221) rfl rfl (by decide) (by decide)
                      refine own_stW st262 ?_
                      show OGoW p e below s _ Z _ _ (T262.setTop (mkF m 224 #[.val (.int q1), .val (.int q2), .val (.int q3), .val (.int q4), .val (.int ca), .val (.int cb), .val (.int cc), .val (.int da), .val (.int db), .val (.int dc), .val (.int (Int32.ofNat n)), .val (.int (Int32.ofNat n)), .val (.ref sx), .val (.ref sy), .val (.ref xo), .val (.ref yo), .val (.int (0 : Int32)), .val (.ref sx), .val .null] [(.int (0 : Int32))]))
                      refine own_stW (fun _ z => XS.iload X262.here hx rfl (hb hby at_224) rfl z) ?_
                      show OGoW p e below s _ Z _ _ (T262.setTop (mkF m 226 #[.val (.int q1), .val (.int q2), .val (.int q3), .val (.int q4), .val (.int ca), .val (.int cb), .val (.int cc), .val (.int da), .val (.int db), .val (.int dc), .val (.int (Int32.ofNat n)), .val (.int (Int32.ofNat n)), .val (.ref sx), .val (.ref sy), .val (.ref xo), .val (.ref yo), .val (.int (0 : Int32)), .val (.ref sx), .val .null] [(.int (0 : Int32)), (.int (0 : Int32))]))
                      refine own_stW (fun _ z => XS.icmpNo X262.here hx rfl (hb hby at_226) rfl (teq ((by decide : (0 : Int32) = (0 : Int32)))).2 z) ?_
                      show OGoW p e below s _ Z _ _ (T262.setTop (mkF m 229 #[.val (.int q1), .val (.int q2), .val (.int q3), .val (.int q4), .val (.int ca), .val (.int cb), .val (.int cc), .val (.int da), .val (.int db), .val (.int dc), .val (.int (Int32.ofNat n)), .val (.int (Int32.ofNat n)), .val (.ref sx), .val (.ref sy), .val (.ref xo), .val (.ref yo), .val (.int (0 : Int32)), .val (.ref sx), .val .null] []))
                      refine own_stW (fun _ z => XS.aload X262.here hx rfl (hb hby at_229) rfl rfl z) ?_
                      show OGoW p e below s _ Z _ _ (T262.setTop (mkF m 231 #[.val (.int q1), .val (.int q2), .val (.int q3), .val (.int q4), .val (.int ca), .val (.int cb), .val (.int cc), .val (.int da), .val (.int db), .val (.int dc), .val (.int (Int32.ofNat n)), .val (.int (Int32.ofNat n)), .val (.ref sx), .val (.ref sy), .val (.ref xo), .val (.ref yo), .val (.int (0 : Int32)), .val (.ref sx), .val .null] [(.ref yo)]))
                      refine own_stW (fun _ z => XS.aload X262.here hx rfl (hb hby at_231) rfl rfl z) ?_
                      show OGoW p e below s _ Z _ _ (T262.setTop (mkF m 233 #[.val (.int q1), .val (.int q2), .val (.int q3), .val (.int q4), .val (.int ca), .val (.int cb), .val (.int cc), .val (.int da), .val (.int db), .val (.int dc), .val (.int (Int32.ofNat n)), .val (.int (Int32.ofNat n)), .val (.ref sx), .val (.ref sy), .val (.ref xo), .val (.ref yo), .val (.int (0 : Int32)), .val (.ref sx), .val .null] [(.ref xo), (.ref yo)]))
                      obtain ⟨T263, X263, e263, st263⟩ := own_callVP X262 hx hZ (y := (⟨"com/example/limpet/limpet/LockName", "equals", "(Ljava/lang/Object;)Z"⟩ : MethodName)) (z := (⟨"com/example/limpet/limpet/LockName", "equals", "(Ljava/lang/Object;)Z"⟩ : MethodName)) (W := 0) hown (own_w hw 236 rfl) (own_w hw 237 rfl) (notFace_of_selects (args := #[]) (mvT hZ (own_w hw 239 rfl))) (own_w hw 239 rfl) (own_w hw 238 rfl) (own_w hw 240 rfl) (own_w hw 40 rfl) (by decide) (e5_0 l Z a0 hw yo xo sx sy tx n (own_c3 ca cb cc) ty (own_c3 da db dc) cs T236.heap ne_sx_sy E_yo F_value_yo E_xo F_value_xo E_sx F_coder_sx F_value_sx A_tx E_sy F_coder_sy F_value_sy A_ty S_COMPACT_STRINGS hcs (by omega) (own_c3g g_ca g_cb g_cc n) (own_c3g g_da g_db g_dc n) (by rcases (by omega : n = 3) with hk <;> rw [hk] <;> simp [own_eqf, own_c3, OB, y0, y1, n2])) (by decide) (by decide) E_yo (g := (mkF m 233 #[.val (.int q1), .val (.int q2), .val (.int q3), .val (.int q4), .val (.int ca), .val (.int cb), .val (.int cc), .val (.int da), .val (.int db), .val (.int dc), .val (.int (Int32.ofNat n)), .val (.int (Int32.ofNat n)), .val (.ref sx), .val (.ref sy), .val (.ref xo), .val (.ref yo), .val (.int (0 : Int32)), .val (.ref sx), .val .null] [(.ref xo), (.ref yo)])) rfl (by rw [hml]; rfl) (argsL := [(.ref xo)]) (rest := []) (lenOf pd_28 rfl) rfl (by show 2 * 0 + _ ≤ _; exact Nat.le_of_eq rfl) (hb hby at_233) rfl e262 (by decide) (by decide)
                      refine own_stW st263 ?_
                      show OGoW p e below s _ Z _ _ (T263.setTop (mkF m 236 #[.val (.int q1), .val (.int q2), .val (.int q3), .val (.int q4), .val (.int ca), .val (.int cb), .val (.int cc), .val (.int da), .val (.int db), .val (.int dc), .val (.int (Int32.ofNat n)), .val (.int (Int32.ofNat n)), .val (.ref sx), .val (.ref sy), .val (.ref xo), .val (.ref yo), .val (.int (0 : Int32)), .val (.ref sx), .val .null] [(.int (0 : Int32))]))
                      refine own_stW (fun _ z => XS.iload X263.here hx rfl (hb hby at_236) rfl z) ?_
                      show OGoW p e below s _ Z _ _ (T263.setTop (mkF m 238 #[.val (.int q1), .val (.int q2), .val (.int q3), .val (.int q4), .val (.int ca), .val (.int cb), .val (.int cc), .val (.int da), .val (.int db), .val (.int dc), .val (.int (Int32.ofNat n)), .val (.int (Int32.ofNat n)), .val (.ref sx), .val (.ref sy), .val (.ref xo), .val (.ref yo), .val (.int (0 : Int32)), .val (.ref sx), .val .null] [(.int (0 : Int32)), (.int (0 : Int32))]))
                      refine own_stW (fun _ z => XS.icmpNo X263.here hx rfl (hb hby at_238) rfl (teq ((by decide : (0 : Int32) = (0 : Int32)))).2 z) ?_
                      show OGoW p e below s _ Z _ _ (T263.setTop (mkF m 241 #[.val (.int q1), .val (.int q2), .val (.int q3), .val (.int q4), .val (.int ca), .val (.int cb), .val (.int cc), .val (.int da), .val (.int db), .val (.int dc), .val (.int (Int32.ofNat n)), .val (.int (Int32.ofNat n)), .val (.ref sx), .val (.ref sy), .val (.ref xo), .val (.ref yo), .val (.int (0 : Int32)), .val (.ref sx), .val .null] []))
                      refine own_stW (fun _ z => XS.aload X263.here hx rfl (hb hby at_241) rfl rfl z) ?_
                      show OGoW p e below s _ Z _ _ (T263.setTop (mkF m 243 #[.val (.int q1), .val (.int q2), .val (.int q3), .val (.int q4), .val (.int ca), .val (.int cb), .val (.int cc), .val (.int da), .val (.int db), .val (.int dc), .val (.int (Int32.ofNat n)), .val (.int (Int32.ofNat n)), .val (.ref sx), .val (.ref sy), .val (.ref xo), .val (.ref yo), .val (.int (0 : Int32)), .val (.ref sx), .val .null] [(.ref xo)]))
                      refine own_stW (fun _ z => XS.aload X263.here hx rfl (hb hby at_243) rfl rfl z) ?_
                      show OGoW p e below s _ Z _ _ (T263.setTop (mkF m 245 #[.val (.int q1), .val (.int q2), .val (.int q3), .val (.int q4), .val (.int ca), .val (.int cb), .val (.int cc), .val (.int da), .val (.int db), .val (.int dc), .val (.int (Int32.ofNat n)), .val (.int (Int32.ofNat n)), .val (.ref sx), .val (.ref sy), .val (.ref xo), .val (.ref yo), .val (.int (0 : Int32)), .val (.ref sx), .val .null] [(.ref xo), (.ref xo)]))
                      obtain ⟨T264, X264, e264, st264⟩ := own_callVP X263 hx hZ (y := (⟨"com/example/limpet/limpet/LockName", "equals", "(Ljava/lang/Object;)Z"⟩ : MethodName)) (z := (⟨"com/example/limpet/limpet/LockName", "equals", "(Ljava/lang/Object;)Z"⟩ : MethodName)) (W := 0) hown (own_w hw 236 rfl) (own_w hw 237 rfl) (notFace_of_selects (args := #[]) (mvT hZ (own_w hw 239 rfl))) (own_w hw 239 rfl) (own_w hw 238 rfl) (own_w hw 240 rfl) (own_w hw 40 rfl) (by decide) (e6_ l Z a0 hw xo xo sx T236.heap E_xo F_value_xo E_xo F_value_xo E_sx) (by decide) (by decide) E_xo (g := (mkF m 245 #[.val (.int q1), .val (.int q2), .val (.int q3), .val (.int q4), .val (.int ca), .val (.int cb), .val (.int cc), .val (.int da), .val (.int db), .val (.int dc), .val (.int (Int32.ofNat n)), .val (.int (Int32.ofNat n)), .val (.ref sx), .val (.ref sy), .val (.ref xo), .val (.ref yo), .val (.int (0 : Int32)), .val (.ref sx), .val .null] [(.ref xo), (.ref xo)])) rfl (by rw [hml]; rfl) (argsL := [(.ref xo)]) (rest := []) (lenOf pd_28 rfl) rfl (by show 2 * 0 + _ ≤ _; exact Nat.le_of_eq rfl) (hb hby at_245) rfl e263 (by decide) (by decide)
                      refine own_stW st264 ?_
                      show OGoW p e below s _ Z _ _ (T264.setTop (mkF m 248 #[.val (.int q1), .val (.int q2), .val (.int q3), .val (.int q4), .val (.int ca), .val (.int cb), .val (.int cc), .val (.int da), .val (.int db), .val (.int dc), .val (.int (Int32.ofNat n)), .val (.int (Int32.ofNat n)), .val (.ref sx), .val (.ref sy), .val (.ref xo), .val (.ref yo), .val (.int (0 : Int32)), .val (.ref sx), .val .null] [(.int (1 : Int32))]))
                      refine own_stW (fun _ z => XS.ifNo X264.here hx rfl (hb hby at_248) rfl ((if0 _ _).trans (feq ((by decide : ¬ (1 : Int32) = (0 : Int32)))).1) z) ?_
                      show OGoW p e below s _ Z _ _ (T264.setTop (mkF m 251 #[.val (.int q1), .val (.int q2), .val (.int q3), .val (.int q4), .val (.int ca), .val (.int cb), .val (.int cc), .val (.int da), .val (.int db), .val (.int dc), .val (.int (Int32.ofNat n)), .val (.int (Int32.ofNat n)), .val (.ref sx), .val (.ref sy), .val (.ref xo), .val (.ref yo), .val (.int (0 : Int32)), .val (.ref sx), .val .null] []))
                      refine own_stW (fun _ z => XS.aload X264.here hx rfl (hb hby at_251) rfl rfl z) ?_
                      show OGoW p e below s _ Z _ _ (T264.setTop (mkF m 253 #[.val (.int q1), .val (.int q2), .val (.int q3), .val (.int q4), .val (.int ca), .val (.int cb), .val (.int cc), .val (.int da), .val (.int db), .val (.int dc), .val (.int (Int32.ofNat n)), .val (.int (Int32.ofNat n)), .val (.ref sx), .val (.ref sy), .val (.ref xo), .val (.ref yo), .val (.int (0 : Int32)), .val (.ref sx), .val .null] [(.ref xo)]))
                      refine own_stW (fun _ z => XS.aload X264.here hx rfl (hb hby at_253) rfl rfl z) ?_
                      show OGoW p e below s _ Z _ _ (T264.setTop (mkF m 255 #[.val (.int q1), .val (.int q2), .val (.int q3), .val (.int q4), .val (.int ca), .val (.int cb), .val (.int cc), .val (.int da), .val (.int db), .val (.int dc), .val (.int (Int32.ofNat n)), .val (.int (Int32.ofNat n)), .val (.ref sx), .val (.ref sy), .val (.ref xo), .val (.ref yo), .val (.int (0 : Int32)), .val (.ref sx), .val .null] [(.ref sx), (.ref xo)]))
                      obtain ⟨T265, X265, e265, st265⟩ := own_callVP X264 hx hZ (y := (⟨"com/example/limpet/limpet/LockName", "equals", "(Ljava/lang/Object;)Z"⟩ : MethodName)) (z := (⟨"com/example/limpet/limpet/LockName", "equals", "(Ljava/lang/Object;)Z"⟩ : MethodName)) (W := 0) hown (own_w hw 236 rfl) (own_w hw 237 rfl) (notFace_of_selects (args := #[]) (mvT hZ (own_w hw 239 rfl))) (own_w hw 239 rfl) (own_w hw 238 rfl) (own_w hw 240 rfl) (own_w hw 40 rfl) (by decide) (e7_ l Z a0 hw xo sx T236.heap E_sx) (by decide) (by decide) E_xo (g := (mkF m 255 #[.val (.int q1), .val (.int q2), .val (.int q3), .val (.int q4), .val (.int ca), .val (.int cb), .val (.int cc), .val (.int da), .val (.int db), .val (.int dc), .val (.int (Int32.ofNat n)), .val (.int (Int32.ofNat n)), .val (.ref sx), .val (.ref sy), .val (.ref xo), .val (.ref yo), .val (.int (0 : Int32)), .val (.ref sx), .val .null] [(.ref sx), (.ref xo)])) rfl (by rw [hml]; rfl) (argsL := [(.ref sx)]) (rest := []) (lenOf pd_28 rfl) rfl (by show 2 * 0 + _ ≤ _; exact Nat.le_of_eq rfl) (hb hby at_255) rfl e264 (by decide) (by decide)
                      refine own_stW st265 ?_
                      show OGoW p e below s _ Z _ _ (T265.setTop (mkF m 258 #[.val (.int q1), .val (.int q2), .val (.int q3), .val (.int q4), .val (.int ca), .val (.int cb), .val (.int cc), .val (.int da), .val (.int db), .val (.int dc), .val (.int (Int32.ofNat n)), .val (.int (Int32.ofNat n)), .val (.ref sx), .val (.ref sy), .val (.ref xo), .val (.ref yo), .val (.int (0 : Int32)), .val (.ref sx), .val .null] [(.int (0 : Int32))]))
                      refine own_stW (fun _ z => XS.ifNo X265.here hx rfl (hb hby at_258) rfl ((if0 _ _).trans (teq ((by decide : (0 : Int32) = (0 : Int32)))).2) z) ?_
                      show OGoW p e below s _ Z _ _ (T265.setTop (mkF m 261 #[.val (.int q1), .val (.int q2), .val (.int q3), .val (.int q4), .val (.int ca), .val (.int cb), .val (.int cc), .val (.int da), .val (.int db), .val (.int dc), .val (.int (Int32.ofNat n)), .val (.int (Int32.ofNat n)), .val (.ref sx), .val (.ref sy), .val (.ref xo), .val (.ref yo), .val (.int (0 : Int32)), .val (.ref sx), .val .null] []))
                      refine own_stW (fun _ z => XS.aload X265.here hx rfl (hb hby at_261) rfl rfl z) ?_
                      show OGoW p e below s _ Z _ _ (T265.setTop (mkF m 263 #[.val (.int q1), .val (.int q2), .val (.int q3), .val (.int q4), .val (.int ca), .val (.int cb), .val (.int cc), .val (.int da), .val (.int db), .val (.int dc), .val (.int (Int32.ofNat n)), .val (.int (Int32.ofNat n)), .val (.ref sx), .val (.ref sy), .val (.ref xo), .val (.ref yo), .val (.int (0 : Int32)), .val (.ref sx), .val .null] [(.ref xo)]))
                      refine own_stW (fun _ z => XS.aload X265.here hx rfl (hb hby at_263) rfl rfl z) ?_
                      show OGoW p e below s _ Z _ _ (T265.setTop (mkF m 265 #[.val (.int q1), .val (.int q2), .val (.int q3), .val (.int q4), .val (.int ca), .val (.int cb), .val (.int cc), .val (.int da), .val (.int db), .val (.int dc), .val (.int (Int32.ofNat n)), .val (.int (Int32.ofNat n)), .val (.ref sx), .val (.ref sy), .val (.ref xo), .val (.ref yo), .val (.int (0 : Int32)), .val (.ref sx), .val .null] [.null, (.ref xo)]))
                      obtain ⟨T266, X266, e266, st266⟩ := own_callVP X265 hx hZ (y := (⟨"com/example/limpet/limpet/LockName", "equals", "(Ljava/lang/Object;)Z"⟩ : MethodName)) (z := (⟨"com/example/limpet/limpet/LockName", "equals", "(Ljava/lang/Object;)Z"⟩ : MethodName)) (W := 0) hown (own_w hw 236 rfl) (own_w hw 237 rfl) (notFace_of_selects (args := #[]) (mvT hZ (own_w hw 239 rfl))) (own_w hw 239 rfl) (own_w hw 238 rfl) (own_w hw 240 rfl) (own_w hw 40 rfl) (by decide) (e8_ l Z a0 hw xo T236.heap) (by decide) (by decide) E_xo (g := (mkF m 265 #[.val (.int q1), .val (.int q2), .val (.int q3), .val (.int q4), .val (.int ca), .val (.int cb), .val (.int cc), .val (.int da), .val (.int db), .val (.int dc), .val (.int (Int32.ofNat n)), .val (.int (Int32.ofNat n)), .val (.ref sx), .val (.ref sy), .val (.ref xo), .val (.ref yo), .val (.int (0 : Int32)), .val (.ref sx), .val .null] [.null, (.ref xo)])) rfl (by rw [hml]; rfl) (argsL := [.null]) (rest := []) (lenOf pd_28 rfl) rfl (by show 2 * 0 + _ ≤ _; exact Nat.le_of_eq rfl) (hb hby at_265) rfl e265 (by decide) (by decide)
                      refine own_stW st266 ?_
                      show OGoW p e below s _ Z _ _ (T266.setTop (mkF m 268 #[.val (.int q1), .val (.int q2), .val (.int q3), .val (.int q4), .val (.int ca), .val (.int cb), .val (.int cc), .val (.int da), .val (.int db), .val (.int dc), .val (.int (Int32.ofNat n)), .val (.int (Int32.ofNat n)), .val (.ref sx), .val (.ref sy), .val (.ref xo), .val (.ref yo), .val (.int (0 : Int32)), .val (.ref sx), .val .null] [(.int (0 : Int32))]))
                      refine own_stW (fun _ z => XS.ifNo X266.here hx rfl (hb hby at_268) rfl ((if0 _ _).trans (teq ((by decide : (0 : Int32) = (0 : Int32)))).2) z) ?_
                      show OGoW p e below s _ Z _ _ (T266.setTop (mkF m 271 #[.val (.int q1), .val (.int q2), .val (.int q3), .val (.int q4), .val (.int ca), .val (.int cb), .val (.int cc), .val (.int da), .val (.int db), .val (.int dc), .val (.int (Int32.ofNat n)), .val (.int (Int32.ofNat n)), .val (.ref sx), .val (.ref sy), .val (.ref xo), .val (.ref yo), .val (.int (0 : Int32)), .val (.ref sx), .val .null] []))
                      refine own_stW (fun _ z => XS.iconst X266.here hx rfl (hb hby at_271) z) ?_
                      show OGoW p e below s _ Z _ _ (T266.setTop (mkF m 272 #[.val (.int q1), .val (.int q2), .val (.int q3), .val (.int q4), .val (.int ca), .val (.int cb), .val (.int cc), .val (.int da), .val (.int db), .val (.int dc), .val (.int (Int32.ofNat n)), .val (.int (Int32.ofNat n)), .val (.ref sx), .val (.ref sy), .val (.ref xo), .val (.ref yo), .val (.int (0 : Int32)), .val (.ref sx), .val .null] [(.int (1 : Int32))]))
                      refine own_stW (fun _ z => XS.goto X266.here hx rfl (pc0 := 272) (pc' := 276) rfl (hb hby at_272) (by decide) (by decide) z) ?_
                      show OGoW p e below s _ Z _ _ (T266.setTop (mkF m 276 #[.val (.int q1), .val (.int q2), .val (.int q3), .val (.int q4), .val (.int ca), .val (.int cb), .val (.int cc), .val (.int da), .val (.int db), .val (.int dc), .val (.int (Int32.ofNat n)), .val (.int (Int32.ofNat n)), .val (.ref sx), .val (.ref sy), .val (.ref xo), .val (.ref yo), .val (.int (0 : Int32)), .val (.ref sx), .val .null] [(.int (1 : Int32))]))
                      exact own_retWN X266 hx hlk (t := .boolean) hret (by simp) (hb hby at_276) (by decide) (by decide) hS e266 es hk hZ hEL CH (⟨rfl, Nr236⟩)
                · have n1 := y1
                  refine own_stW (fun _ z => XS.icmpYes X236.here hx rfl (pc0 := 187) (pc' := 207) rfl (hb hby at_187) rfl (feq (n1)).2 (by decide) (by decide) z) ?_
                  show OGoW p e below s _ Z _ _ (T236.setTop (mkF m 207 #[.val (.int q1), .val (.int q2), .val (.int q3), .val (.int q4), .val (.int ca), .val (.int cb), .val (.int cc), .val (.int da), .val (.int db), .val (.int dc), .val (.int (Int32.ofNat n)), .val (.int (Int32.ofNat n)), .val (.ref sx), .val (.ref sy), .val (.ref xo), .val (.ref yo), .unset, .unset, .unset] []))
                  refine own_stW (fun _ z => XS.iconst X236.here hx rfl (hb hby at_207) z) ?_
                  show OGoW p e below s _ Z _ _ (T236.setTop (mkF m 208 #[.val (.int q1), .val (.int q2), .val (.int q3), .val (.int q4), .val (.int ca), .val (.int cb), .val (.int cc), .val (.int da), .val (.int db), .val (.int dc), .val (.int (Int32.ofNat n)), .val (.int (Int32.ofNat n)), .val (.ref sx), .val (.ref sy), .val (.ref xo), .val (.ref yo), .unset, .unset, .unset] [(.int (0 : Int32))]))
                  refine own_stW (fun _ z => XS.istore X236.here hx rfl (hb hby at_208) rfl (l' := #[.val (.int q1), .val (.int q2), .val (.int q3), .val (.int q4), .val (.int ca), .val (.int cb), .val (.int cc), .val (.int da), .val (.int db), .val (.int dc), .val (.int (Int32.ofNat n)), .val (.int (Int32.ofNat n)), .val (.ref sx), .val (.ref sy), .val (.ref xo), .val (.ref yo), .val (.int (0 : Int32)), .unset, .unset]) rfl z) ?_
                  show OGoW p e below s _ Z _ _ (T236.setTop (mkF m 210 #[.val (.int q1), .val (.int q2), .val (.int q3), .val (.int q4), .val (.int ca), .val (.int cb), .val (.int cc), .val (.int da), .val (.int db), .val (.int dc), .val (.int (Int32.ofNat n)), .val (.int (Int32.ofNat n)), .val (.ref sx), .val (.ref sy), .val (.ref xo), .val (.ref yo), .val (.int (0 : Int32)), .unset, .unset] []))
                  refine own_stW (fun _ z => XS.aload X236.here hx rfl (hb hby at_210) rfl rfl z) ?_
                  show OGoW p e below s _ Z _ _ (T236.setTop (mkF m 212 #[.val (.int q1), .val (.int q2), .val (.int q3), .val (.int q4), .val (.int ca), .val (.int cb), .val (.int cc), .val (.int da), .val (.int db), .val (.int dc), .val (.int (Int32.ofNat n)), .val (.int (Int32.ofNat n)), .val (.ref sx), .val (.ref sy), .val (.ref xo), .val (.ref yo), .val (.int (0 : Int32)), .unset, .unset] [(.ref sx)]))
                  refine own_stW (fun _ z => XS.astore X236.here hx rfl (hb hby at_212) rfl rfl (l' := #[.val (.int q1), .val (.int q2), .val (.int q3), .val (.int q4), .val (.int ca), .val (.int cb), .val (.int cc), .val (.int da), .val (.int db), .val (.int dc), .val (.int (Int32.ofNat n)), .val (.int (Int32.ofNat n)), .val (.ref sx), .val (.ref sy), .val (.ref xo), .val (.ref yo), .val (.int (0 : Int32)), .val (.ref sx), .unset]) rfl z) ?_
                  show OGoW p e below s _ Z _ _ (T236.setTop (mkF m 214 #[.val (.int q1), .val (.int q2), .val (.int q3), .val (.int q4), .val (.int ca), .val (.int cb), .val (.int cc), .val (.int da), .val (.int db), .val (.int dc), .val (.int (Int32.ofNat n)), .val (.int (Int32.ofNat n)), .val (.ref sx), .val (.ref sy), .val (.ref xo), .val (.ref yo), .val (.int (0 : Int32)), .val (.ref sx), .unset] []))
                  refine own_stW (fun _ z => XS.aconstNull X236.here hx rfl (hb hby at_214) z) ?_
                  show OGoW p e below s _ Z _ _ (T236.setTop (mkF m 215 #[.val (.int q1), .val (.int q2), .val (.int q3), .val (.int q4), .val (.int ca), .val (.int cb), .val (.int cc), .val (.int da), .val (.int db), .val (.int dc), .val (.int (Int32.ofNat n)), .val (.int (Int32.ofNat n)), .val (.ref sx), .val (.ref sy), .val (.ref xo), .val (.ref yo), .val (.int (0 : Int32)), .val (.ref sx), .unset] [.null]))
                  refine own_stW (fun _ z => XS.astore X236.here hx rfl (hb hby at_215) rfl rfl (l' := #[.val (.int q1), .val (.int q2), .val (.int q3), .val (.int q4), .val (.int ca), .val (.int cb), .val (.int cc), .val (.int da), .val (.int db), .val (.int dc), .val (.int (Int32.ofNat n)), .val (.int (Int32.ofNat n)), .val (.ref sx), .val (.ref sy), .val (.ref xo), .val (.ref yo), .val (.int (0 : Int32)), .val (.ref sx), .val .null]) rfl z) ?_
                  show OGoW p e below s _ Z _ _ (T236.setTop (mkF m 217 #[.val (.int q1), .val (.int q2), .val (.int q3), .val (.int q4), .val (.int ca), .val (.int cb), .val (.int cc), .val (.int da), .val (.int db), .val (.int dc), .val (.int (Int32.ofNat n)), .val (.int (Int32.ofNat n)), .val (.ref sx), .val (.ref sy), .val (.ref xo), .val (.ref yo), .val (.int (0 : Int32)), .val (.ref sx), .val .null] []))
                  refine own_stW (fun _ z => XS.aload X236.here hx rfl (hb hby at_217) rfl rfl z) ?_
                  show OGoW p e below s _ Z _ _ (T236.setTop (mkF m 219 #[.val (.int q1), .val (.int q2), .val (.int q3), .val (.int q4), .val (.int ca), .val (.int cb), .val (.int cc), .val (.int da), .val (.int db), .val (.int dc), .val (.int (Int32.ofNat n)), .val (.int (Int32.ofNat n)), .val (.ref sx), .val (.ref sy), .val (.ref xo), .val (.ref yo), .val (.int (0 : Int32)), .val (.ref sx), .val .null] [(.ref xo)]))
                  refine own_stW (fun _ z => XS.aload X236.here hx rfl (hb hby at_219) rfl rfl z) ?_
                  show OGoW p e below s _ Z _ _ (T236.setTop (mkF m 221 #[.val (.int q1), .val (.int q2), .val (.int q3), .val (.int q4), .val (.int ca), .val (.int cb), .val (.int cc), .val (.int da), .val (.int db), .val (.int dc), .val (.int (Int32.ofNat n)), .val (.int (Int32.ofNat n)), .val (.ref sx), .val (.ref sy), .val (.ref xo), .val (.ref yo), .val (.int (0 : Int32)), .val (.ref sx), .val .null] [(.ref yo), (.ref xo)]))
                  have y0s := y0.symm
                  have n1s : ¬ db = cb := fun q => n1 q.symm
                  obtain ⟨T252, X252, e252, st252⟩ := own_callVP X236 hx hZ (y := (⟨"com/example/limpet/limpet/LockName", "equals", "(Ljava/lang/Object;)Z"⟩ : MethodName)) (z := (⟨"com/example/limpet/limpet/LockName", "equals", "(Ljava/lang/Object;)Z"⟩ : MethodName)) (W := 0) hown (own_w hw 236 rfl) (own_w hw 237 rfl) (notFace_of_selects (args := #[]) (mvT hZ (own_w hw 239 rfl))) (own_w hw 239 rfl) (own_w hw 238 rfl) (own_w hw 240 rfl) (own_w hw 40 rfl) (by decide) (e5_0 l Z a0 hw xo yo sy sx ty n (own_c3 da db dc) tx (own_c3 ca cb cc) cs T236.heap (Ne.symm ne_sx_sy) E_xo F_value_xo E_yo F_value_yo E_sy F_coder_sy F_value_sy A_ty E_sx F_coder_sx F_value_sx A_tx S_COMPACT_STRINGS hcs (by omega) (own_c3g g_da g_db g_dc n) (own_c3g g_ca g_cb g_cc n) (by rcases (by omega : n = 2 ∨ n = 3) with hk | hk <;> rw [hk] <;> simp [own_eqf, own_c3, OB, y0s, n1s])) (by decide) (by decide) E_xo (g := (mkF m 221 #[.val (.int q1), .val (.int q2), .val (.int q3), .val (.int q4), .val (.int ca), .val (.int cb), .val (.int cc), .val (.int da), .val (.int db), .val (.int dc), .val (.int (Int32.ofNat n)), .val (.int (Int32.ofNat n)), .val (.ref sx), .val (.ref sy), .val (.ref xo), .val (.ref yo), .val (.int (0 : Int32)), .val (.ref sx), .val .null] [(.ref yo), (.ref xo)])) rfl (by rw [hml]; rfl) (argsL := [(.ref yo)]) (rest := []) (lenOf pd_28 rfl) rfl (by show 2 * 0 + _ ≤ _; exact Nat.le_of_eq rfl) (hb hby at_221) rfl rfl (by decide) (by decide)
                  refine own_stW st252 ?_
                  show OGoW p e below s _ Z _ _ (T252.setTop (mkF m 224 #[.val (.int q1), .val (.int q2), .val (.int q3), .val (.int q4), .val (.int ca), .val (.int cb), .val (.int cc), .val (.int da), .val (.int db), .val (.int dc), .val (.int (Int32.ofNat n)), .val (.int (Int32.ofNat n)), .val (.ref sx), .val (.ref sy), .val (.ref xo), .val (.ref yo), .val (.int (0 : Int32)), .val (.ref sx), .val .null] [(.int (0 : Int32))]))
                  refine own_stW (fun _ z => XS.iload X252.here hx rfl (hb hby at_224) rfl z) ?_
                  show OGoW p e below s _ Z _ _ (T252.setTop (mkF m 226 #[.val (.int q1), .val (.int q2), .val (.int q3), .val (.int q4), .val (.int ca), .val (.int cb), .val (.int cc), .val (.int da), .val (.int db), .val (.int dc), .val (.int (Int32.ofNat n)), .val (.int (Int32.ofNat n)), .val (.ref sx), .val (.ref sy), .val (.ref xo), .val (.ref yo), .val (.int (0 : Int32)), .val (.ref sx), .val .null] [(.int (0 : Int32)), (.int (0 : Int32))]))
                  refine own_stW (fun _ z => XS.icmpNo X252.here hx rfl (hb hby at_226) rfl (teq ((by decide : (0 : Int32) = (0 : Int32)))).2 z) ?_
                  show OGoW p e below s _ Z _ _ (T252.setTop (mkF m 229 #[.val (.int q1), .val (.int q2), .val (.int q3), .val (.int q4), .val (.int ca), .val (.int cb), .val (.int cc), .val (.int da), .val (.int db), .val (.int dc), .val (.int (Int32.ofNat n)), .val (.int (Int32.ofNat n)), .val (.ref sx), .val (.ref sy), .val (.ref xo), .val (.ref yo), .val (.int (0 : Int32)), .val (.ref sx), .val .null] []))
                  refine own_stW (fun _ z => XS.aload X252.here hx rfl (hb hby at_229) rfl rfl z) ?_
                  show OGoW p e below s _ Z _ _ (T252.setTop (mkF m 231 #[.val (.int q1), .val (.int q2), .val (.int q3), .val (.int q4), .val (.int ca), .val (.int cb), .val (.int cc), .val (.int da), .val (.int db), .val (.int dc), .val (.int (Int32.ofNat n)), .val (.int (Int32.ofNat n)), .val (.ref sx), .val (.ref sy), .val (.ref xo), .val (.ref yo), .val (.int (0 : Int32)), .val (.ref sx), .val .null] [(.ref yo)]))
                  refine own_stW (fun _ z => XS.aload X252.here hx rfl (hb hby at_231) rfl rfl z) ?_
                  show OGoW p e below s _ Z _ _ (T252.setTop (mkF m 233 #[.val (.int q1), .val (.int q2), .val (.int q3), .val (.int q4), .val (.int ca), .val (.int cb), .val (.int cc), .val (.int da), .val (.int db), .val (.int dc), .val (.int (Int32.ofNat n)), .val (.int (Int32.ofNat n)), .val (.ref sx), .val (.ref sy), .val (.ref xo), .val (.ref yo), .val (.int (0 : Int32)), .val (.ref sx), .val .null] [(.ref xo), (.ref yo)]))
                  obtain ⟨T253, X253, e253, st253⟩ := own_callVP X252 hx hZ (y := (⟨"com/example/limpet/limpet/LockName", "equals", "(Ljava/lang/Object;)Z"⟩ : MethodName)) (z := (⟨"com/example/limpet/limpet/LockName", "equals", "(Ljava/lang/Object;)Z"⟩ : MethodName)) (W := 0) hown (own_w hw 236 rfl) (own_w hw 237 rfl) (notFace_of_selects (args := #[]) (mvT hZ (own_w hw 239 rfl))) (own_w hw 239 rfl) (own_w hw 238 rfl) (own_w hw 240 rfl) (own_w hw 40 rfl) (by decide) (e5_0 l Z a0 hw yo xo sx sy tx n (own_c3 ca cb cc) ty (own_c3 da db dc) cs T236.heap ne_sx_sy E_yo F_value_yo E_xo F_value_xo E_sx F_coder_sx F_value_sx A_tx E_sy F_coder_sy F_value_sy A_ty S_COMPACT_STRINGS hcs (by omega) (own_c3g g_ca g_cb g_cc n) (own_c3g g_da g_db g_dc n) (by rcases (by omega : n = 2 ∨ n = 3) with hk | hk <;> rw [hk] <;> simp [own_eqf, own_c3, OB, y0, n1])) (by decide) (by decide) E_yo (g := (mkF m 233 #[.val (.int q1), .val (.int q2), .val (.int q3), .val (.int q4), .val (.int ca), .val (.int cb), .val (.int cc), .val (.int da), .val (.int db), .val (.int dc), .val (.int (Int32.ofNat n)), .val (.int (Int32.ofNat n)), .val (.ref sx), .val (.ref sy), .val (.ref xo), .val (.ref yo), .val (.int (0 : Int32)), .val (.ref sx), .val .null] [(.ref xo), (.ref yo)])) rfl (by rw [hml]; rfl) (argsL := [(.ref xo)]) (rest := []) (lenOf pd_28 rfl) rfl (by show 2 * 0 + _ ≤ _; exact Nat.le_of_eq rfl) (hb hby at_233) rfl e252 (by decide) (by decide)
                  refine own_stW st253 ?_
                  show OGoW p e below s _ Z _ _ (T253.setTop (mkF m 236 #[.val (.int q1), .val (.int q2), .val (.int q3), .val (.int q4), .val (.int ca), .val (.int cb), .val (.int cc), .val (.int da), .val (.int db), .val (.int dc), .val (.int (Int32.ofNat n)), .val (.int (Int32.ofNat n)), .val (.ref sx), .val (.ref sy), .val (.ref xo), .val (.ref yo), .val (.int (0 : Int32)), .val (.ref sx), .val .null] [(.int (0 : Int32))]))
                  refine own_stW (fun _ z => XS.iload X253.here hx rfl (hb hby at_236) rfl z) ?_
                  show OGoW p e below s _ Z _ _ (T253.setTop (mkF m 238 #[.val (.int q1), .val (.int q2), .val (.int q3), .val (.int q4), .val (.int ca), .val (.int cb), .val (.int cc), .val (.int da), .val (.int db), .val (.int dc), .val (.int (Int32.ofNat n)), .val (.int (Int32.ofNat n)), .val (.ref sx), .val (.ref sy), .val (.ref xo), .val (.ref yo), .val (.int (0 : Int32)), .val (.ref sx), .val .null] [(.int (0 : Int32)), (.int (0 : Int32))]))
                  refine own_stW (fun _ z => XS.icmpNo X253.here hx rfl (hb hby at_238) rfl (teq ((by decide : (0 : Int32) = (0 : Int32)))).2 z) ?_
                  show OGoW p e below s _ Z _ _ (T253.setTop (mkF m 241 #[.val (.int q1), .val (.int q2), .val (.int q3), .val (.int q4), .val (.int ca), .val (.int cb), .val (.int cc), .val (.int da), .val (.int db), .val (.int dc), .val (.int (Int32.ofNat n)), .val (.int (Int32.ofNat n)), .val (.ref sx), .val (.ref sy), .val (.ref xo), .val (.ref yo), .val (.int (0 : Int32)), .val (.ref sx), .val .null] []))
                  refine own_stW (fun _ z => XS.aload X253.here hx rfl (hb hby at_241) rfl rfl z) ?_
                  show OGoW p e below s _ Z _ _ (T253.setTop (mkF m 243 #[.val (.int q1), .val (.int q2), .val (.int q3), .val (.int q4), .val (.int ca), .val (.int cb), .val (.int cc), .val (.int da), .val (.int db), .val (.int dc), .val (.int (Int32.ofNat n)), .val (.int (Int32.ofNat n)), .val (.ref sx), .val (.ref sy), .val (.ref xo), .val (.ref yo), .val (.int (0 : Int32)), .val (.ref sx), .val .null] [(.ref xo)]))
                  refine own_stW (fun _ z => XS.aload X253.here hx rfl (hb hby at_243) rfl rfl z) ?_
                  show OGoW p e below s _ Z _ _ (T253.setTop (mkF m 245 #[.val (.int q1), .val (.int q2), .val (.int q3), .val (.int q4), .val (.int ca), .val (.int cb), .val (.int cc), .val (.int da), .val (.int db), .val (.int dc), .val (.int (Int32.ofNat n)), .val (.int (Int32.ofNat n)), .val (.ref sx), .val (.ref sy), .val (.ref xo), .val (.ref yo), .val (.int (0 : Int32)), .val (.ref sx), .val .null] [(.ref xo), (.ref xo)]))
                  obtain ⟨T254, X254, e254, st254⟩ := own_callVP X253 hx hZ (y := (⟨"com/example/limpet/limpet/LockName", "equals", "(Ljava/lang/Object;)Z"⟩ : MethodName)) (z := (⟨"com/example/limpet/limpet/LockName", "equals", "(Ljava/lang/Object;)Z"⟩ : MethodName)) (W := 0) hown (own_w hw 236 rfl) (own_w hw 237 rfl) (notFace_of_selects (args := #[]) (mvT hZ (own_w hw 239 rfl))) (own_w hw 239 rfl) (own_w hw 238 rfl) (own_w hw 240 rfl) (own_w hw 40 rfl) (by decide) (e6_ l Z a0 hw xo xo sx T236.heap E_xo F_value_xo E_xo F_value_xo E_sx) (by decide) (by decide) E_xo (g := (mkF m 245 #[.val (.int q1), .val (.int q2), .val (.int q3), .val (.int q4), .val (.int ca), .val (.int cb), .val (.int cc), .val (.int da), .val (.int db), .val (.int dc), .val (.int (Int32.ofNat n)), .val (.int (Int32.ofNat n)), .val (.ref sx), .val (.ref sy), .val (.ref xo), .val (.ref yo), .val (.int (0 : Int32)), .val (.ref sx), .val .null] [(.ref xo), (.ref xo)])) rfl (by rw [hml]; rfl) (argsL := [(.ref xo)]) (rest := []) (lenOf pd_28 rfl) rfl (by show 2 * 0 + _ ≤ _; exact Nat.le_of_eq rfl) (hb hby at_245) rfl e253 (by decide) (by decide)
                  refine own_stW st254 ?_
                  show OGoW p e below s _ Z _ _ (T254.setTop (mkF m 248 #[.val (.int q1), .val (.int q2), .val (.int q3), .val (.int q4), .val (.int ca), .val (.int cb), .val (.int cc), .val (.int da), .val (.int db), .val (.int dc), .val (.int (Int32.ofNat n)), .val (.int (Int32.ofNat n)), .val (.ref sx), .val (.ref sy), .val (.ref xo), .val (.ref yo), .val (.int (0 : Int32)), .val (.ref sx), .val .null] [(.int (1 : Int32))]))
                  refine own_stW (fun _ z => XS.ifNo X254.here hx rfl (hb hby at_248) rfl ((if0 _ _).trans (feq ((by decide : ¬ (1 : Int32) = (0 : Int32)))).1) z) ?_
                  show OGoW p e below s _ Z _ _ (T254.setTop (mkF m 251 #[.val (.int q1), .val (.int q2), .val (.int q3), .val (.int q4), .val (.int ca), .val (.int cb), .val (.int cc), .val (.int da), .val (.int db), .val (.int dc), .val (.int (Int32.ofNat n)), .val (.int (Int32.ofNat n)), .val (.ref sx), .val (.ref sy), .val (.ref xo), .val (.ref yo), .val (.int (0 : Int32)), .val (.ref sx), .val .null] []))
                  refine own_stW (fun _ z => XS.aload X254.here hx rfl (hb hby at_251) rfl rfl z) ?_
                  show OGoW p e below s _ Z _ _ (T254.setTop (mkF m 253 #[.val (.int q1), .val (.int q2), .val (.int q3), .val (.int q4), .val (.int ca), .val (.int cb), .val (.int cc), .val (.int da), .val (.int db), .val (.int dc), .val (.int (Int32.ofNat n)), .val (.int (Int32.ofNat n)), .val (.ref sx), .val (.ref sy), .val (.ref xo), .val (.ref yo), .val (.int (0 : Int32)), .val (.ref sx), .val .null] [(.ref xo)]))
                  refine own_stW (fun _ z => XS.aload X254.here hx rfl (hb hby at_253) rfl rfl z) ?_
                  show OGoW p e below s _ Z _ _ (T254.setTop (mkF m 255 #[.val (.int q1), .val (.int q2), .val (.int q3), .val (.int q4), .val (.int ca), .val (.int cb), .val (.int cc), .val (.int da), .val (.int db), .val (.int dc), .val (.int (Int32.ofNat n)), .val (.int (Int32.ofNat n)), .val (.ref sx), .val (.ref sy), .val (.ref xo), .val (.ref yo), .val (.int (0 : Int32)), .val (.ref sx), .val .null] [(.ref sx), (.ref xo)]))
                  obtain ⟨T255, X255, e255, st255⟩ := own_callVP X254 hx hZ (y := (⟨"com/example/limpet/limpet/LockName", "equals", "(Ljava/lang/Object;)Z"⟩ : MethodName)) (z := (⟨"com/example/limpet/limpet/LockName", "equals", "(Ljava/lang/Object;)Z"⟩ : MethodName)) (W := 0) hown (own_w hw 236 rfl) (own_w hw 237 rfl) (notFace_of_selects (args := #[]) (mvT hZ (own_w hw 239 rfl))) (own_w hw 239 rfl) (own_w hw 238 rfl) (own_w hw 240 rfl) (own_w hw 40 rfl) (by decide) (e7_ l Z a0 hw xo sx T236.heap E_sx) (by decide) (by decide) E_xo (g := (mkF m 255 #[.val (.int q1), .val (.int q2), .val (.int q3), .val (.int q4), .val (.int ca), .val (.int cb), .val (.int cc), .val (.int da), .val (.int db), .val (.int dc), .val (.int (Int32.ofNat n)), .val (.int (Int32.ofNat n)), .val (.ref sx), .val (.ref sy), .val (.ref xo), .val (.ref yo), .val (.int (0 : Int32)), .val (.ref sx), .val .null] [(.ref sx), (.ref xo)])) rfl (by rw [hml]; rfl) (argsL := [(.ref sx)]) (rest := []) (lenOf pd_28 rfl) rfl (by show 2 * 0 + _ ≤ _; exact Nat.le_of_eq rfl) (hb hby at_255) rfl e254 (by decide) (by decide)
                  refine own_stW st255 ?_
                  show OGoW p e below s _ Z _ _ (T255.setTop (mkF m 258 #[.val (.int q1), .val (.int q2), .val (.int q3), .val (.int q4), .val (.int ca), .val (.int cb), .val (.int cc), .val (.int da), .val (.int db), .val (.int dc), .val (.int (Int32.ofNat n)), .val (.int (Int32.ofNat n)), .val (.ref sx), .val (.ref sy), .val (.ref xo), .val (.ref yo), .val (.int (0 : Int32)), .val (.ref sx), .val .null] [(.int (0 : Int32))]))
                  refine own_stW (fun _ z => XS.ifNo X255.here hx rfl (hb hby at_258) rfl ((if0 _ _).trans (teq ((by decide : (0 : Int32) = (0 : Int32)))).2) z) ?_
                  show OGoW p e below s _ Z _ _ (T255.setTop (mkF m 261 #[.val (.int q1), .val (.int q2), .val (.int q3), .val (.int q4), .val (.int ca), .val (.int cb), .val (.int cc), .val (.int da), .val (.int db), .val (.int dc), .val (.int (Int32.ofNat n)), .val (.int (Int32.ofNat n)), .val (.ref sx), .val (.ref sy), .val (.ref xo), .val (.ref yo), .val (.int (0 : Int32)), .val (.ref sx), .val .null] []))
                  refine own_stW (fun _ z => XS.aload X255.here hx rfl (hb hby at_261) rfl rfl z) ?_
                  show OGoW p e below s _ Z _ _ (T255.setTop (mkF m 263 #[.val (.int q1), .val (.int q2), .val (.int q3), .val (.int q4), .val (.int ca), .val (.int cb), .val (.int cc), .val (.int da), .val (.int db), .val (.int dc), .val (.int (Int32.ofNat n)), .val (.int (Int32.ofNat n)), .val (.ref sx), .val (.ref sy), .val (.ref xo), .val (.ref yo), .val (.int (0 : Int32)), .val (.ref sx), .val .null] [(.ref xo)]))
                  refine own_stW (fun _ z => XS.aload X255.here hx rfl (hb hby at_263) rfl rfl z) ?_
                  show OGoW p e below s _ Z _ _ (T255.setTop (mkF m 265 #[.val (.int q1), .val (.int q2), .val (.int q3), .val (.int q4), .val (.int ca), .val (.int cb), .val (.int cc), .val (.int da), .val (.int db), .val (.int dc), .val (.int (Int32.ofNat n)), .val (.int (Int32.ofNat n)), .val (.ref sx), .val (.ref sy), .val (.ref xo), .val (.ref yo), .val (.int (0 : Int32)), .val (.ref sx), .val .null] [.null, (.ref xo)]))
                  obtain ⟨T256, X256, e256, st256⟩ := own_callVP X255 hx hZ (y := (⟨"com/example/limpet/limpet/LockName", "equals", "(Ljava/lang/Object;)Z"⟩ : MethodName)) (z := (⟨"com/example/limpet/limpet/LockName", "equals", "(Ljava/lang/Object;)Z"⟩ : MethodName)) (W := 0) hown (own_w hw 236 rfl) (own_w hw 237 rfl) (notFace_of_selects (args := #[]) (mvT hZ (own_w hw 239 rfl))) (own_w hw 239 rfl) (own_w hw 238 rfl) (own_w hw 240 rfl) (own_w hw 40 rfl) (by decide) (e8_ l Z a0 hw xo T236.heap) (by decide) (by decide) E_xo (g := (mkF m 265 #[.val (.int q1), .val (.int q2), .val (.int q3), .val (.int q4), .val (.int ca), .val (.int cb), .val (.int cc), .val (.int da), .val (.int db), .val (.int dc), .val (.int (Int32.ofNat n)), .val (.int (Int32.ofNat n)), .val (.ref sx), .val (.ref sy), .val (.ref xo), .val (.ref yo), .val (.int (0 : Int32)), .val (.ref sx), .val .null] [.null, (.ref xo)])) rfl (by rw [hml]; rfl) (argsL := [.null]) (rest := []) (lenOf pd_28 rfl) rfl (by show 2 * 0 + _ ≤ _; exact Nat.le_of_eq rfl) (hb hby at_265) rfl e255 (by decide) (by decide)
                  refine own_stW st256 ?_
                  show OGoW p e below s _ Z _ _ (T256.setTop (mkF m 268 #[.val (.int q1), .val (.int q2), .val (.int q3), .val (.int q4), .val (.int ca), .val (.int cb), .val (.int cc), .val (.int da), .val (.int db), .val (.int dc), .val (.int (Int32.ofNat n)), .val (.int (Int32.ofNat n)), .val (.ref sx), .val (.ref sy), .val (.ref xo), .val (.ref yo), .val (.int (0 : Int32)), .val (.ref sx), .val .null] [(.int (0 : Int32))]))
                  refine own_stW (fun _ z => XS.ifNo X256.here hx rfl (hb hby at_268) rfl ((if0 _ _).trans (teq ((by decide : (0 : Int32) = (0 : Int32)))).2) z) ?_
                  show OGoW p e below s _ Z _ _ (T256.setTop (mkF m 271 #[.val (.int q1), .val (.int q2), .val (.int q3), .val (.int q4), .val (.int ca), .val (.int cb), .val (.int cc), .val (.int da), .val (.int db), .val (.int dc), .val (.int (Int32.ofNat n)), .val (.int (Int32.ofNat n)), .val (.ref sx), .val (.ref sy), .val (.ref xo), .val (.ref yo), .val (.int (0 : Int32)), .val (.ref sx), .val .null] []))
                  refine own_stW (fun _ z => XS.iconst X256.here hx rfl (hb hby at_271) z) ?_
                  show OGoW p e below s _ Z _ _ (T256.setTop (mkF m 272 #[.val (.int q1), .val (.int q2), .val (.int q3), .val (.int q4), .val (.int ca), .val (.int cb), .val (.int cc), .val (.int da), .val (.int db), .val (.int dc), .val (.int (Int32.ofNat n)), .val (.int (Int32.ofNat n)), .val (.ref sx), .val (.ref sy), .val (.ref xo), .val (.ref yo), .val (.int (0 : Int32)), .val (.ref sx), .val .null] [(.int (1 : Int32))]))
                  refine own_stW (fun _ z => XS.goto X256.here hx rfl (pc0 := 272) (pc' := 276) rfl (hb hby at_272) (by decide) (by decide) z) ?_
                  show OGoW p e below s _ Z _ _ (T256.setTop (mkF m 276 #[.val (.int q1), .val (.int q2), .val (.int q3), .val (.int q4), .val (.int ca), .val (.int cb), .val (.int cc), .val (.int da), .val (.int db), .val (.int dc), .val (.int (Int32.ofNat n)), .val (.int (Int32.ofNat n)), .val (.ref sx), .val (.ref sy), .val (.ref xo), .val (.ref yo), .val (.int (0 : Int32)), .val (.ref sx), .val .null] [(.int (1 : Int32))]))
                  exact own_retWN X256 hx hlk (t := .boolean) hret (by simp) (hb hby at_276) (by decide) (by decide) hS e256 es hk hZ hEL CH (⟨rfl, Nr236⟩)
            · have n0 := y0
              refine own_stW (fun _ z => XS.icmpYes X236.here hx rfl (pc0 := 174) (pc' := 207) rfl (hb hby at_174) rfl (feq (n0)).2 (by decide) (by decide) z) ?_
              show OGoW p e below s _ Z _ _ (T236.setTop (mkF m 207 #[.val (.int q1), .val (.int q2), .val (.int q3), .val (.int q4), .val (.int ca), .val (.int cb), .val (.int cc), .val (.int da), .val (.int db), .val (.int dc), .val (.int (Int32.ofNat n)), .val (.int (Int32.ofNat n)), .val (.ref sx), .val (.ref sy), .val (.ref xo), .val (.ref yo), .unset, .unset, .unset] []))
              refine own_stW (fun _ z => XS.iconst X236.here hx rfl (hb hby at_207) z) ?_
              show OGoW p e below s _ Z _ _ (T236.setTop (mkF m 208 #[.val (.int q1), .val (.int q2), .val (.int q3), .val (.int q4), .val (.int ca), .val (.int cb), .val (.int cc), .val (.int da), .val (.int db), .val (.int dc), .val (.int (Int32.ofNat n)), .val (.int (Int32.ofNat n)), .val (.ref sx), .val (.ref sy), .val (.ref xo), .val (.ref yo), .unset, .unset, .unset] [(.int (0 : Int32))]))
              refine own_stW (fun _ z => XS.istore X236.here hx rfl (hb hby at_208) rfl (l' := #[.val (.int q1), .val (.int q2), .val (.int q3), .val (.int q4), .val (.int ca), .val (.int cb), .val (.int cc), .val (.int da), .val (.int db), .val (.int dc), .val (.int (Int32.ofNat n)), .val (.int (Int32.ofNat n)), .val (.ref sx), .val (.ref sy), .val (.ref xo), .val (.ref yo), .val (.int (0 : Int32)), .unset, .unset]) rfl z) ?_
              show OGoW p e below s _ Z _ _ (T236.setTop (mkF m 210 #[.val (.int q1), .val (.int q2), .val (.int q3), .val (.int q4), .val (.int ca), .val (.int cb), .val (.int cc), .val (.int da), .val (.int db), .val (.int dc), .val (.int (Int32.ofNat n)), .val (.int (Int32.ofNat n)), .val (.ref sx), .val (.ref sy), .val (.ref xo), .val (.ref yo), .val (.int (0 : Int32)), .unset, .unset] []))
              refine own_stW (fun _ z => XS.aload X236.here hx rfl (hb hby at_210) rfl rfl z) ?_
              show OGoW p e below s _ Z _ _ (T236.setTop (mkF m 212 #[.val (.int q1), .val (.int q2), .val (.int q3), .val (.int q4), .val (.int ca), .val (.int cb), .val (.int cc), .val (.int da), .val (.int db), .val (.int dc), .val (.int (Int32.ofNat n)), .val (.int (Int32.ofNat n)), .val (.ref sx), .val (.ref sy), .val (.ref xo), .val (.ref yo), .val (.int (0 : Int32)), .unset, .unset] [(.ref sx)]))
              refine own_stW (fun _ z => XS.astore X236.here hx rfl (hb hby at_212) rfl rfl (l' := #[.val (.int q1), .val (.int q2), .val (.int q3), .val (.int q4), .val (.int ca), .val (.int cb), .val (.int cc), .val (.int da), .val (.int db), .val (.int dc), .val (.int (Int32.ofNat n)), .val (.int (Int32.ofNat n)), .val (.ref sx), .val (.ref sy), .val (.ref xo), .val (.ref yo), .val (.int (0 : Int32)), .val (.ref sx), .unset]) rfl z) ?_
              show OGoW p e below s _ Z _ _ (T236.setTop (mkF m 214 #[.val (.int q1), .val (.int q2), .val (.int q3), .val (.int q4), .val (.int ca), .val (.int cb), .val (.int cc), .val (.int da), .val (.int db), .val (.int dc), .val (.int (Int32.ofNat n)), .val (.int (Int32.ofNat n)), .val (.ref sx), .val (.ref sy), .val (.ref xo), .val (.ref yo), .val (.int (0 : Int32)), .val (.ref sx), .unset] []))
              refine own_stW (fun _ z => XS.aconstNull X236.here hx rfl (hb hby at_214) z) ?_
              show OGoW p e below s _ Z _ _ (T236.setTop (mkF m 215 #[.val (.int q1), .val (.int q2), .val (.int q3), .val (.int q4), .val (.int ca), .val (.int cb), .val (.int cc), .val (.int da), .val (.int db), .val (.int dc), .val (.int (Int32.ofNat n)), .val (.int (Int32.ofNat n)), .val (.ref sx), .val (.ref sy), .val (.ref xo), .val (.ref yo), .val (.int (0 : Int32)), .val (.ref sx), .unset] [.null]))
              refine own_stW (fun _ z => XS.astore X236.here hx rfl (hb hby at_215) rfl rfl (l' := #[.val (.int q1), .val (.int q2), .val (.int q3), .val (.int q4), .val (.int ca), .val (.int cb), .val (.int cc), .val (.int da), .val (.int db), .val (.int dc), .val (.int (Int32.ofNat n)), .val (.int (Int32.ofNat n)), .val (.ref sx), .val (.ref sy), .val (.ref xo), .val (.ref yo), .val (.int (0 : Int32)), .val (.ref sx), .val .null]) rfl z) ?_
              show OGoW p e below s _ Z _ _ (T236.setTop (mkF m 217 #[.val (.int q1), .val (.int q2), .val (.int q3), .val (.int q4), .val (.int ca), .val (.int cb), .val (.int cc), .val (.int da), .val (.int db), .val (.int dc), .val (.int (Int32.ofNat n)), .val (.int (Int32.ofNat n)), .val (.ref sx), .val (.ref sy), .val (.ref xo), .val (.ref yo), .val (.int (0 : Int32)), .val (.ref sx), .val .null] []))
              refine own_stW (fun _ z => XS.aload X236.here hx rfl (hb hby at_217) rfl rfl z) ?_
              show OGoW p e below s _ Z _ _ (T236.setTop (mkF m 219 #[.val (.int q1), .val (.int q2), .val (.int q3), .val (.int q4), .val (.int ca), .val (.int cb), .val (.int cc), .val (.int da), .val (.int db), .val (.int dc), .val (.int (Int32.ofNat n)), .val (.int (Int32.ofNat n)), .val (.ref sx), .val (.ref sy), .val (.ref xo), .val (.ref yo), .val (.int (0 : Int32)), .val (.ref sx), .val .null] [(.ref xo)]))
              refine own_stW (fun _ z => XS.aload X236.here hx rfl (hb hby at_219) rfl rfl z) ?_
              show OGoW p e below s _ Z _ _ (T236.setTop (mkF m 221 #[.val (.int q1), .val (.int q2), .val (.int q3), .val (.int q4), .val (.int ca), .val (.int cb), .val (.int cc), .val (.int da), .val (.int db), .val (.int dc), .val (.int (Int32.ofNat n)), .val (.int (Int32.ofNat n)), .val (.ref sx), .val (.ref sy), .val (.ref xo), .val (.ref yo), .val (.int (0 : Int32)), .val (.ref sx), .val .null] [(.ref yo), (.ref xo)]))
              have n0s : ¬ da = ca := fun q => n0 q.symm
              obtain ⟨T242, X242, e242, st242⟩ := own_callVP X236 hx hZ (y := (⟨"com/example/limpet/limpet/LockName", "equals", "(Ljava/lang/Object;)Z"⟩ : MethodName)) (z := (⟨"com/example/limpet/limpet/LockName", "equals", "(Ljava/lang/Object;)Z"⟩ : MethodName)) (W := 0) hown (own_w hw 236 rfl) (own_w hw 237 rfl) (notFace_of_selects (args := #[]) (mvT hZ (own_w hw 239 rfl))) (own_w hw 239 rfl) (own_w hw 238 rfl) (own_w hw 240 rfl) (own_w hw 40 rfl) (by decide) (e5_0 l Z a0 hw xo yo sy sx ty n (own_c3 da db dc) tx (own_c3 ca cb cc) cs T236.heap (Ne.symm ne_sx_sy) E_xo F_value_xo E_yo F_value_yo E_sy F_coder_sy F_value_sy A_ty E_sx F_coder_sx F_value_sx A_tx S_COMPACT_STRINGS hcs (by omega) (own_c3g g_da g_db g_dc n) (own_c3g g_ca g_cb g_cc n) (by rcases (by omega : n = 1 ∨ n = 2 ∨ n = 3) with hk | hk | hk <;> rw [hk] <;> simp [own_eqf, own_c3, OB, n0s])) (by decide) (by decide) E_xo (g := (mkF m 221 #[.val (.int q1), .val (.int q2), .val (.int q3), .val (.int q4), .val (.int ca), .val (.int cb), .val (.int cc), .val (.int da), .val (.int db), .val (.int dc), .val (.int (Int32.ofNat n)), .val (.int (Int32.ofNat n)), .val (.ref sx), .val (.ref sy), .val (.ref xo), .val (.ref yo), .val (.int (0 : Int32)), .val (.ref sx), .val .null] [(.ref yo), (.ref xo)])) rfl (by rw [hml]; rfl) (argsL := [(.ref yo)]) (rest := []) (lenOf pd_28 rfl) rfl (by show 2 * 0 + _ ≤ _; exact Nat.le_of_eq rfl) (hb hby at_221) rfl rfl (by decide) (by decide)
              refine own_stW st242 ?_
              show OGoW p e below s _ Z _ _ (T242.setTop (mkF m 224 #[.val (.int q1), .val (.int q2), .val (.int q3), .val (.int q4), .val (.int ca), .val (.int cb), .val (.int cc), .val (.int da), .val (.int db), .val (.int dc), .val (.int (Int32.ofNat n)), .val (.int (Int32.ofNat n)), .val (.ref sx), .val (.ref sy), .val (.ref xo), .val (.ref yo), .val (.int (0 : Int32)), .val (.ref sx), .val .null] [(.int (0 : Int32))]))
              refine own_stW (fun _ z => XS.iload X242.here hx rfl (hb hby at_224) rfl z) ?_
              show OGoW p e below s _ Z _ _ (T242.setTop (mkF m 226 #[.val (.int q1), .val (.int q2), .val (.int q3), .val (.int q4), .val (.int ca), .val (.int cb), .val (.int cc), .val (.int da), .val (.int db), .val (.int dc), .val (.int (Int32.ofNat n)), .val (.int (Int32.ofNat n)), .val (.ref sx), .val (.ref sy), .val (.ref xo), .val (.ref yo), .val (.int (0 : Int32)), .val (.ref sx), .val .null] [(.int (0 : Int32)), (.int (0 : Int32))]))
              refine own_stW (fun _ z => XS.icmpNo X242.here hx rfl (hb hby at_226) rfl (teq ((by decide : (0 : Int32) = (0 : Int32)))).2 z) ?_
              show OGoW p e below s _ Z _ _ (T242.setTop (mkF m 229 #[.val (.int q1), .val (.int q2), .val (.int q3), .val (.int q4), .val (.int ca), .val (.int cb), .val (.int cc), .val (.int da), .val (.int db), .val (.int dc), .val (.int (Int32.ofNat n)), .val (.int (Int32.ofNat n)), .val (.ref sx), .val (.ref sy), .val (.ref xo), .val (.ref yo), .val (.int (0 : Int32)), .val (.ref sx), .val .null] []))
              refine own_stW (fun _ z => XS.aload X242.here hx rfl (hb hby at_229) rfl rfl z) ?_
              show OGoW p e below s _ Z _ _ (T242.setTop (mkF m 231 #[.val (.int q1), .val (.int q2), .val (.int q3), .val (.int q4), .val (.int ca), .val (.int cb), .val (.int cc), .val (.int da), .val (.int db), .val (.int dc), .val (.int (Int32.ofNat n)), .val (.int (Int32.ofNat n)), .val (.ref sx), .val (.ref sy), .val (.ref xo), .val (.ref yo), .val (.int (0 : Int32)), .val (.ref sx), .val .null] [(.ref yo)]))
              refine own_stW (fun _ z => XS.aload X242.here hx rfl (hb hby at_231) rfl rfl z) ?_
              show OGoW p e below s _ Z _ _ (T242.setTop (mkF m 233 #[.val (.int q1), .val (.int q2), .val (.int q3), .val (.int q4), .val (.int ca), .val (.int cb), .val (.int cc), .val (.int da), .val (.int db), .val (.int dc), .val (.int (Int32.ofNat n)), .val (.int (Int32.ofNat n)), .val (.ref sx), .val (.ref sy), .val (.ref xo), .val (.ref yo), .val (.int (0 : Int32)), .val (.ref sx), .val .null] [(.ref xo), (.ref yo)]))
              obtain ⟨T243, X243, e243, st243⟩ := own_callVP X242 hx hZ (y := (⟨"com/example/limpet/limpet/LockName", "equals", "(Ljava/lang/Object;)Z"⟩ : MethodName)) (z := (⟨"com/example/limpet/limpet/LockName", "equals", "(Ljava/lang/Object;)Z"⟩ : MethodName)) (W := 0) hown (own_w hw 236 rfl) (own_w hw 237 rfl) (notFace_of_selects (args := #[]) (mvT hZ (own_w hw 239 rfl))) (own_w hw 239 rfl) (own_w hw 238 rfl) (own_w hw 240 rfl) (own_w hw 40 rfl) (by decide) (e5_0 l Z a0 hw yo xo sx sy tx n (own_c3 ca cb cc) ty (own_c3 da db dc) cs T236.heap ne_sx_sy E_yo F_value_yo E_xo F_value_xo E_sx F_coder_sx F_value_sx A_tx E_sy F_coder_sy F_value_sy A_ty S_COMPACT_STRINGS hcs (by omega) (own_c3g g_ca g_cb g_cc n) (own_c3g g_da g_db g_dc n) (by rcases (by omega : n = 1 ∨ n = 2 ∨ n = 3) with hk | hk | hk <;> rw [hk] <;> simp [own_eqf, own_c3, OB, n0])) (by decide) (by decide) E_yo (g := (mkF m 233 #[.val (.int q1), .val (.int q2), .val (.int q3), .val (.int q4), .val (.int ca), .val (.int cb), .val (.int cc), .val (.int da), .val (.int db), .val (.int dc), .val (.int (Int32.ofNat n)), .val (.int (Int32.ofNat n)), .val (.ref sx), .val (.ref sy), .val (.ref xo), .val (.ref yo), .val (.int (0 : Int32)), .val (.ref sx), .val .null] [(.ref xo), (.ref yo)])) rfl (by rw [hml]; rfl) (argsL := [(.ref xo)]) (rest := []) (lenOf pd_28 rfl) rfl (by show 2 * 0 + _ ≤ _; exact Nat.le_of_eq rfl) (hb hby at_233) rfl e242 (by decide) (by decide)
              refine own_stW st243 ?_
              show OGoW p e below s _ Z _ _ (T243.setTop (mkF m 236 #[.val (.int q1), .val (.int q2), .val (.int q3), .val (.int q4), .val (.int ca), .val (.int cb), .val (.int cc), .val (.int da), .val (.int db), .val (.int dc), .val (.int (Int32.ofNat n)), .val (.int (Int32.ofNat n)), .val (.ref sx), .val (.ref sy), .val (.ref xo), .val (.ref yo), .val (.int (0 : Int32)), .val (.ref sx), .val .null] [(.int (0 : Int32))]))
              refine own_stW (fun _ z => XS.iload X243.here hx rfl (hb hby at_236) rfl z) ?_
              show OGoW p e below s _ Z _ _ (T243.setTop (mkF m 238 #[.val (.int q1), .val (.int q2), .val (.int q3), .val (.int q4), .val (.int ca), .val (.int cb), .val (.int cc), .val (.int da), .val (.int db), .val (.int dc), .val (.int (Int32.ofNat n)), .val (.int (Int32.ofNat n)), .val (.ref sx), .val (.ref sy), .val (.ref xo), .val (.ref yo), .val (.int (0 : Int32)), .val (.ref sx), .val .null] [(.int (0 : Int32)), (.int (0 : Int32))]))
              refine own_stW (fun _ z => XS.icmpNo X243.here hx rfl (hb hby at_238) rfl (teq ((by decide : (0 : Int32) = (0 : Int32)))).2 z) ?_
              show OGoW p e below s _ Z _ _ (T243.setTop (mkF m 241 #[.val (.int q1), .val (.int q2), .val (.int q3), .val (.int q4), .val (.int ca), .val (.int cb), .val (.int cc), .val (.int da), .val (.int db), .val (.int dc), .val (.int (Int32.ofNat n)), .val (.int (Int32.ofNat n)), .val (.ref sx), .val (.ref sy), .val (.ref xo), .val (.ref yo), .val (.int (0 : Int32)), .val (.ref sx), .val .null] []))
              refine own_stW (fun _ z => XS.aload X243.here hx rfl (hb hby at_241) rfl rfl z) ?_
              show OGoW p e below s _ Z _ _ (T243.setTop (mkF m 243 #[.val (.int q1), .val (.int q2), .val (.int q3), .val (.int q4), .val (.int ca), .val (.int cb), .val (.int cc), .val (.int da), .val (.int db), .val (.int dc), .val (.int (Int32.ofNat n)), .val (.int (Int32.ofNat n)), .val (.ref sx), .val (.ref sy), .val (.ref xo), .val (.ref yo), .val (.int (0 : Int32)), .val (.ref sx), .val .null] [(.ref xo)]))
              refine own_stW (fun _ z => XS.aload X243.here hx rfl (hb hby at_243) rfl rfl z) ?_
              show OGoW p e below s _ Z _ _ (T243.setTop (mkF m 245 #[.val (.int q1), .val (.int q2), .val (.int q3), .val (.int q4), .val (.int ca), .val (.int cb), .val (.int cc), .val (.int da), .val (.int db), .val (.int dc), .val (.int (Int32.ofNat n)), .val (.int (Int32.ofNat n)), .val (.ref sx), .val (.ref sy), .val (.ref xo), .val (.ref yo), .val (.int (0 : Int32)), .val (.ref sx), .val .null] [(.ref xo), (.ref xo)]))
              obtain ⟨T244, X244, e244, st244⟩ := own_callVP X243 hx hZ (y := (⟨"com/example/limpet/limpet/LockName", "equals", "(Ljava/lang/Object;)Z"⟩ : MethodName)) (z := (⟨"com/example/limpet/limpet/LockName", "equals", "(Ljava/lang/Object;)Z"⟩ : MethodName)) (W := 0) hown (own_w hw 236 rfl) (own_w hw 237 rfl) (notFace_of_selects (args := #[]) (mvT hZ (own_w hw 239 rfl))) (own_w hw 239 rfl) (own_w hw 238 rfl) (own_w hw 240 rfl) (own_w hw 40 rfl) (by decide) (e6_ l Z a0 hw xo xo sx T236.heap E_xo F_value_xo E_xo F_value_xo E_sx) (by decide) (by decide) E_xo (g := (mkF m 245 #[.val (.int q1), .val (.int q2), .val (.int q3), .val (.int q4), .val (.int ca), .val (.int cb), .val (.int cc), .val (.int da), .val (.int db), .val (.int dc), .val (.int (Int32.ofNat n)), .val (.int (Int32.ofNat n)), .val (.ref sx), .val (.ref sy), .val (.ref xo), .val (.ref yo), .val (.int (0 : Int32)), .val (.ref sx), .val .null] [(.ref xo), (.ref xo)])) rfl (by rw [hml]; rfl) (argsL := [(.ref xo)]) (rest := []) (lenOf pd_28 rfl) rfl (by show 2 * 0 + _ ≤ _; exact Nat.le_of_eq rfl) (hb hby at_245) rfl e243 (by decide) (by decide)
              refine own_stW st244 ?_
              show OGoW p e below s _ Z _ _ (T244.setTop (mkF m 248 #[.val (.int q1), .val (.int q2), .val (.int q3), .val (.int q4), .val (.int ca), .val (.int cb), .val (.int cc), .val (.int da), .val (.int db), .val (.int dc), .val (.int (Int32.ofNat n)), .val (.int (Int32.ofNat n)), .val (.ref sx), .val (.ref sy), .val (.ref xo), .val (.ref yo), .val (.int (0 : Int32)), .val (.ref sx), .val .null] [(.int (1 : Int32))]))
              refine own_stW (fun _ z => XS.ifNo X244.here hx rfl (hb hby at_248) rfl ((if0 _ _).trans (feq ((by decide : ¬ (1 : Int32) = (0 : Int32)))).1) z) ?_
              show OGoW p e below s _ Z _ _ (T244.setTop (mkF m 251 #[.val (.int q1), .val (.int q2), .val (.int q3), .val (.int q4), .val (.int ca), .val (.int cb), .val (.int cc), .val (.int da), .val (.int db), .val (.int dc), .val (.int (Int32.ofNat n)), .val (.int (Int32.ofNat n)), .val (.ref sx), .val (.ref sy), .val (.ref xo), .val (.ref yo), .val (.int (0 : Int32)), .val (.ref sx), .val .null] []))
              refine own_stW (fun _ z => XS.aload X244.here hx rfl (hb hby at_251) rfl rfl z) ?_
              show OGoW p e below s _ Z _ _ (T244.setTop (mkF m 253 #[.val (.int q1), .val (.int q2), .val (.int q3), .val (.int q4), .val (.int ca), .val (.int cb), .val (.int cc), .val (.int da), .val (.int db), .val (.int dc), .val (.int (Int32.ofNat n)), .val (.int (Int32.ofNat n)), .val (.ref sx), .val (.ref sy), .val (.ref xo), .val (.ref yo), .val (.int (0 : Int32)), .val (.ref sx), .val .null] [(.ref xo)]))
              refine own_stW (fun _ z => XS.aload X244.here hx rfl (hb hby at_253) rfl rfl z) ?_
              show OGoW p e below s _ Z _ _ (T244.setTop (mkF m 255 #[.val (.int q1), .val (.int q2), .val (.int q3), .val (.int q4), .val (.int ca), .val (.int cb), .val (.int cc), .val (.int da), .val (.int db), .val (.int dc), .val (.int (Int32.ofNat n)), .val (.int (Int32.ofNat n)), .val (.ref sx), .val (.ref sy), .val (.ref xo), .val (.ref yo), .val (.int (0 : Int32)), .val (.ref sx), .val .null] [(.ref sx), (.ref xo)]))
              obtain ⟨T245, X245, e245, st245⟩ := own_callVP X244 hx hZ (y := (⟨"com/example/limpet/limpet/LockName", "equals", "(Ljava/lang/Object;)Z"⟩ : MethodName)) (z := (⟨"com/example/limpet/limpet/LockName", "equals", "(Ljava/lang/Object;)Z"⟩ : MethodName)) (W := 0) hown (own_w hw 236 rfl) (own_w hw 237 rfl) (notFace_of_selects (args := #[]) (mvT hZ (own_w hw 239 rfl))) (own_w hw 239 rfl) (own_w hw 238 rfl) (own_w hw 240 rfl) (own_w hw 40 rfl) (by decide) (e7_ l Z a0 hw xo sx T236.heap E_sx) (by decide) (by decide) E_xo (g := (mkF m 255 #[.val (.int q1), .val (.int q2), .val (.int q3), .val (.int q4), .val (.int ca), .val (.int cb), .val (.int cc), .val (.int da), .val (.int db), .val (.int dc), .val (.int (Int32.ofNat n)), .val (.int (Int32.ofNat n)), .val (.ref sx), .val (.ref sy), .val (.ref xo), .val (.ref yo), .val (.int (0 : Int32)), .val (.ref sx), .val .null] [(.ref sx), (.ref xo)])) rfl (by rw [hml]; rfl) (argsL := [(.ref sx)]) (rest := []) (lenOf pd_28 rfl) rfl (by show 2 * 0 + _ ≤ _; exact Nat.le_of_eq rfl) (hb hby at_255) rfl e244 (by decide) (by decide)
              refine own_stW st245 ?_
              show OGoW p e below s _ Z _ _ (T245.setTop (mkF m 258 #[.val (.int q1), .val (.int q2), .val (.int q3), .val (.int q4), .val (.int ca), .val (.int cb), .val (.int cc), .val (.int da), .val (.int db), .val (.int dc), .val (.int (Int32.ofNat n)), .val (.int (Int32.ofNat n)), .val (.ref sx), .val (.ref sy), .val (.ref xo), .val (.ref yo), .val (.int (0 : Int32)), .val (.ref sx), .val .null] [(.int (0 : Int32))]))
              refine own_stW (fun _ z => XS.ifNo X245.here hx rfl (hb hby at_258) rfl ((if0 _ _).trans (teq ((by decide : (0 : Int32) = (0 : Int32)))).2) z) ?_
              show OGoW p e below s _ Z _ _ (T245.setTop (mkF m 261 #[.val (.int q1), .val (.int q2), .val (.int q3), .val (.int q4), .val (.int ca), .val (.int cb), .val (.int cc), .val (.int da), .val (.int db), .val (.int dc), .val (.int (Int32.ofNat n)), .val (.int (Int32.ofNat n)), .val (.ref sx), .val (.ref sy), .val (.ref xo), .val (.ref yo), .val (.int (0 : Int32)), .val (.ref sx), .val .null] []))
              refine own_stW (fun _ z => XS.aload X245.here hx rfl (hb hby at_261) rfl rfl z) ?_
              show OGoW p e below s _ Z _ _ (T245.setTop (mkF m 263 #[.val (.int q1), .val (.int q2), .val (.int q3), .val (.int q4), .val (.int ca), .val (.int cb), .val (.int cc), .val (.int da), .val (.int db), .val (.int dc), .val (.int (Int32.ofNat n)), .val (.int (Int32.ofNat n)), .val (.ref sx), .val (.ref sy), .val (.ref xo), .val (.ref yo), .val (.int (0 : Int32)), .val (.ref sx), .val .null] [(.ref xo)]))
              refine own_stW (fun _ z => XS.aload X245.here hx rfl (hb hby at_263) rfl rfl z) ?_
              show OGoW p e below s _ Z _ _ (T245.setTop (mkF m 265 #[.val (.int q1), .val (.int q2), .val (.int q3), .val (.int q4), .val (.int ca), .val (.int cb), .val (.int cc), .val (.int da), .val (.int db), .val (.int dc), .val (.int (Int32.ofNat n)), .val (.int (Int32.ofNat n)), .val (.ref sx), .val (.ref sy), .val (.ref xo), .val (.ref yo), .val (.int (0 : Int32)), .val (.ref sx), .val .null] [.null, (.ref xo)]))
              obtain ⟨T246, X246, e246, st246⟩ := own_callVP X245 hx hZ (y := (⟨"com/example/limpet/limpet/LockName", "equals", "(Ljava/lang/Object;)Z"⟩ : MethodName)) (z := (⟨"com/example/limpet/limpet/LockName", "equals", "(Ljava/lang/Object;)Z"⟩ : MethodName)) (W := 0) hown (own_w hw 236 rfl) (own_w hw 237 rfl) (notFace_of_selects (args := #[]) (mvT hZ (own_w hw 239 rfl))) (own_w hw 239 rfl) (own_w hw 238 rfl) (own_w hw 240 rfl) (own_w hw 40 rfl) (by decide) (e8_ l Z a0 hw xo T236.heap) (by decide) (by decide) E_xo (g := (mkF m 265 #[.val (.int q1), .val (.int q2), .val (.int q3), .val (.int q4), .val (.int ca), .val (.int cb), .val (.int cc), .val (.int da), .val (.int db), .val (.int dc), .val (.int (Int32.ofNat n)), .val (.int (Int32.ofNat n)), .val (.ref sx), .val (.ref sy), .val (.ref xo), .val (.ref yo), .val (.int (0 : Int32)), .val (.ref sx), .val .null] [.null, (.ref xo)])) rfl (by rw [hml]; rfl) (argsL := [.null]) (rest := []) (lenOf pd_28 rfl) rfl (by show 2 * 0 + _ ≤ _; exact Nat.le_of_eq rfl) (hb hby at_265) rfl e245 (by decide) (by decide)
              refine own_stW st246 ?_
              show OGoW p e below s _ Z _ _ (T246.setTop (mkF m 268 #[.val (.int q1), .val (.int q2), .val (.int q3), .val (.int q4), .val (.int ca), .val (.int cb), .val (.int cc), .val (.int da), .val (.int db), .val (.int dc), .val (.int (Int32.ofNat n)), .val (.int (Int32.ofNat n)), .val (.ref sx), .val (.ref sy), .val (.ref xo), .val (.ref yo), .val (.int (0 : Int32)), .val (.ref sx), .val .null] [(.int (0 : Int32))]))
              refine own_stW (fun _ z => XS.ifNo X246.here hx rfl (hb hby at_268) rfl ((if0 _ _).trans (teq ((by decide : (0 : Int32) = (0 : Int32)))).2) z) ?_
              show OGoW p e below s _ Z _ _ (T246.setTop (mkF m 271 #[.val (.int q1), .val (.int q2), .val (.int q3), .val (.int q4), .val (.int ca), .val (.int cb), .val (.int cc), .val (.int da), .val (.int db), .val (.int dc), .val (.int (Int32.ofNat n)), .val (.int (Int32.ofNat n)), .val (.ref sx), .val (.ref sy), .val (.ref xo), .val (.ref yo), .val (.int (0 : Int32)), .val (.ref sx), .val .null] []))
              refine own_stW (fun _ z => XS.iconst X246.here hx rfl (hb hby at_271) z) ?_
              show OGoW p e below s _ Z _ _ (T246.setTop (mkF m 272 #[.val (.int q1), .val (.int q2), .val (.int q3), .val (.int q4), .val (.int ca), .val (.int cb), .val (.int cc), .val (.int da), .val (.int db), .val (.int dc), .val (.int (Int32.ofNat n)), .val (.int (Int32.ofNat n)), .val (.ref sx), .val (.ref sy), .val (.ref xo), .val (.ref yo), .val (.int (0 : Int32)), .val (.ref sx), .val .null] [(.int (1 : Int32))]))
              refine own_stW (fun _ z => XS.goto X246.here hx rfl (pc0 := 272) (pc' := 276) rfl (hb hby at_272) (by decide) (by decide) z) ?_
              show OGoW p e below s _ Z _ _ (T246.setTop (mkF m 276 #[.val (.int q1), .val (.int q2), .val (.int q3), .val (.int q4), .val (.int ca), .val (.int cb), .val (.int cc), .val (.int da), .val (.int db), .val (.int dc), .val (.int (Int32.ofNat n)), .val (.int (Int32.ofNat n)), .val (.ref sx), .val (.ref sy), .val (.ref xo), .val (.ref yo), .val (.int (0 : Int32)), .val (.ref sx), .val .null] [(.int (1 : Int32))]))
              exact own_retWN X246 hx hlk (t := .boolean) hret (by simp) (hb hby at_276) (by decide) (by decide) hS e246 es hk hZ hEL CH (⟨rfl, Nr236⟩)
          · refine own_stW (fun _ z => XS.icmpYes X236.here hx rfl (pc0 := 167) (pc' := 207) rfl (hb hby at_167) rfl (feq ((own_neqn hdf (by omega) (by omega)))).2 (by decide) (by decide) z) ?_
            show OGoW p e below s _ Z _ _ (T236.setTop (mkF m 207 #[.val (.int q1), .val (.int q2), .val (.int q3), .val (.int q4), .val (.int ca), .val (.int cb), .val (.int cc), .val (.int da), .val (.int db), .val (.int dc), .val (.int (Int32.ofNat n)), .val (.int (Int32.ofNat mm)), .val (.ref sx), .val (.ref sy), .val (.ref xo), .val (.ref yo), .unset, .unset, .unset] []))
            refine own_stW (fun _ z => XS.iconst X236.here hx rfl (hb hby at_207) z) ?_
            show OGoW p e below s _ Z _ _ (T236.setTop (mkF m 208 #[.val (.int q1), .val (.int q2), .val (.int q3), .val (.int q4), .val (.int ca), .val (.int cb), .val (.int cc), .val (.int da), .val (.int db), .val (.int dc), .val (.int (Int32.ofNat n)), .val (.int (Int32.ofNat mm)), .val (.ref sx), .val (.ref sy), .val (.ref xo), .val (.ref yo), .unset, .unset, .unset] [(.int (0 : Int32))]))
            refine own_stW (fun _ z => XS.istore X236.here hx rfl (hb hby at_208) rfl (l' := #[.val (.int q1), .val (.int q2), .val (.int q3), .val (.int q4), .val (.int ca), .val (.int cb), .val (.int cc), .val (.int da), .val (.int db), .val (.int dc), .val (.int (Int32.ofNat n)), .val (.int (Int32.ofNat mm)), .val (.ref sx), .val (.ref sy), .val (.ref xo), .val (.ref yo), .val (.int (0 : Int32)), .unset, .unset]) rfl z) ?_
            show OGoW p e below s _ Z _ _ (T236.setTop (mkF m 210 #[.val (.int q1), .val (.int q2), .val (.int q3), .val (.int q4), .val (.int ca), .val (.int cb), .val (.int cc), .val (.int da), .val (.int db), .val (.int dc), .val (.int (Int32.ofNat n)), .val (.int (Int32.ofNat mm)), .val (.ref sx), .val (.ref sy), .val (.ref xo), .val (.ref yo), .val (.int (0 : Int32)), .unset, .unset] []))
            refine own_stW (fun _ z => XS.aload X236.here hx rfl (hb hby at_210) rfl rfl z) ?_
            show OGoW p e below s _ Z _ _ (T236.setTop (mkF m 212 #[.val (.int q1), .val (.int q2), .val (.int q3), .val (.int q4), .val (.int ca), .val (.int cb), .val (.int cc), .val (.int da), .val (.int db), .val (.int dc), .val (.int (Int32.ofNat n)), .val (.int (Int32.ofNat mm)), .val (.ref sx), .val (.ref sy), .val (.ref xo), .val (.ref yo), .val (.int (0 : Int32)), .unset, .unset] [(.ref sx)]))
            refine own_stW (fun _ z => XS.astore X236.here hx rfl (hb hby at_212) rfl rfl (l' := #[.val (.int q1), .val (.int q2), .val (.int q3), .val (.int q4), .val (.int ca), .val (.int cb), .val (.int cc), .val (.int da), .val (.int db), .val (.int dc), .val (.int (Int32.ofNat n)), .val (.int (Int32.ofNat mm)), .val (.ref sx), .val (.ref sy), .val (.ref xo), .val (.ref yo), .val (.int (0 : Int32)), .val (.ref sx), .unset]) rfl z) ?_
            show OGoW p e below s _ Z _ _ (T236.setTop (mkF m 214 #[.val (.int q1), .val (.int q2), .val (.int q3), .val (.int q4), .val (.int ca), .val (.int cb), .val (.int cc), .val (.int da), .val (.int db), .val (.int dc), .val (.int (Int32.ofNat n)), .val (.int (Int32.ofNat mm)), .val (.ref sx), .val (.ref sy), .val (.ref xo), .val (.ref yo), .val (.int (0 : Int32)), .val (.ref sx), .unset] []))
            refine own_stW (fun _ z => XS.aconstNull X236.here hx rfl (hb hby at_214) z) ?_
            show OGoW p e below s _ Z _ _ (T236.setTop (mkF m 215 #[.val (.int q1), .val (.int q2), .val (.int q3), .val (.int q4), .val (.int ca), .val (.int cb), .val (.int cc), .val (.int da), .val (.int db), .val (.int dc), .val (.int (Int32.ofNat n)), .val (.int (Int32.ofNat mm)), .val (.ref sx), .val (.ref sy), .val (.ref xo), .val (.ref yo), .val (.int (0 : Int32)), .val (.ref sx), .unset] [.null]))
            refine own_stW (fun _ z => XS.astore X236.here hx rfl (hb hby at_215) rfl rfl (l' := #[.val (.int q1), .val (.int q2), .val (.int q3), .val (.int q4), .val (.int ca), .val (.int cb), .val (.int cc), .val (.int da), .val (.int db), .val (.int dc), .val (.int (Int32.ofNat n)), .val (.int (Int32.ofNat mm)), .val (.ref sx), .val (.ref sy), .val (.ref xo), .val (.ref yo), .val (.int (0 : Int32)), .val (.ref sx), .val .null]) rfl z) ?_
            show OGoW p e below s _ Z _ _ (T236.setTop (mkF m 217 #[.val (.int q1), .val (.int q2), .val (.int q3), .val (.int q4), .val (.int ca), .val (.int cb), .val (.int cc), .val (.int da), .val (.int db), .val (.int dc), .val (.int (Int32.ofNat n)), .val (.int (Int32.ofNat mm)), .val (.ref sx), .val (.ref sy), .val (.ref xo), .val (.ref yo), .val (.int (0 : Int32)), .val (.ref sx), .val .null] []))
            refine own_stW (fun _ z => XS.aload X236.here hx rfl (hb hby at_217) rfl rfl z) ?_
            show OGoW p e below s _ Z _ _ (T236.setTop (mkF m 219 #[.val (.int q1), .val (.int q2), .val (.int q3), .val (.int q4), .val (.int ca), .val (.int cb), .val (.int cc), .val (.int da), .val (.int db), .val (.int dc), .val (.int (Int32.ofNat n)), .val (.int (Int32.ofNat mm)), .val (.ref sx), .val (.ref sy), .val (.ref xo), .val (.ref yo), .val (.int (0 : Int32)), .val (.ref sx), .val .null] [(.ref xo)]))
            refine own_stW (fun _ z => XS.aload X236.here hx rfl (hb hby at_219) rfl rfl z) ?_
            show OGoW p e below s _ Z _ _ (T236.setTop (mkF m 221 #[.val (.int q1), .val (.int q2), .val (.int q3), .val (.int q4), .val (.int ca), .val (.int cb), .val (.int cc), .val (.int da), .val (.int db), .val (.int dc), .val (.int (Int32.ofNat n)), .val (.int (Int32.ofNat mm)), .val (.ref sx), .val (.ref sy), .val (.ref xo), .val (.ref yo), .val (.int (0 : Int32)), .val (.ref sx), .val .null] [(.ref yo), (.ref xo)]))
            obtain ⟨T237, X237, e237, st237⟩ := own_callVP X236 hx hZ (y := (⟨"com/example/limpet/limpet/LockName", "equals", "(Ljava/lang/Object;)Z"⟩ : MethodName)) (z := (⟨"com/example/limpet/limpet/LockName", "equals", "(Ljava/lang/Object;)Z"⟩ : MethodName)) (W := 0) hown (own_w hw 236 rfl) (own_w hw 237 rfl) (notFace_of_selects (args := #[]) (mvT hZ (own_w hw 239 rfl))) (own_w hw 239 rfl) (own_w hw 238 rfl) (own_w hw 240 rfl) (own_w hw 40 rfl) (by decide) (e5_N l Z a0 hw xo yo sy sx ty mm (own_c3 da db dc) tx n (own_c3 ca cb cc) cs T236.heap (Ne.symm ne_sx_sy) E_xo F_value_xo E_yo F_value_yo E_sy F_coder_sy F_value_sy A_ty E_sx F_coder_sx F_value_sx A_tx S_COMPACT_STRINGS hcs (by omega) (by omega) (fun q => hdf q.symm)) (by decide) (by decide) E_xo (g := (mkF m 221 #[.val (.int q1), .val (.int q2), .val (.int q3), .val (.int q4), .val (.int ca), .val (.int cb), .val (.int cc), .val (.int da), .val (.int db), .val (.int dc), .val (.int (Int32.ofNat n)), .val (.int (Int32.ofNat mm)), .val (.ref sx), .val (.ref sy), .val (.ref xo), .val (.ref yo), .val (.int (0 : Int32)), .val (.ref sx), .val .null] [(.ref yo), (.ref xo)])) rfl (by rw [hml]; rfl) (argsL := [(.ref yo)]) (rest := []) (lenOf pd_28 rfl) rfl (by show 2 * 0 + _ ≤ _; exact Nat.le_of_eq rfl) (hb hby at_221) rfl rfl (by decide) (by decide)
            refine own_stW st237 ?_
            show OGoW p e below s _ Z _ _ (T237.setTop (mkF m 224 #[.val (.int q1), .val (.int q2), .val (.int q3), .val (.int q4), .val (.int ca), .val (.int cb), .val (.int cc), .val (.int da), .val (.int db), .val (.int dc), .val (.int (Int32.ofNat n)), .val (.int (Int32.ofNat mm)), .val (.ref sx), .val (.ref sy), .val (.ref xo), .val (.ref yo), .val (.int (0 : Int32)), .val (.ref sx), .val .null] [(.int (0 : Int32))]))
            refine own_stW (fun _ z => XS.iload X237.here hx rfl (hb hby at_224) rfl z) ?_
            show OGoW p e below s _ Z _ _ (T237.setTop (mkF m 226 #[.val (.int q1), .val (.int q2), .val (.int q3), .val (.int q4), .val (.int ca), .val (.int cb), .val (.int cc), .val (.int da), .val (.int db), .val (.int dc), .val (.int (Int32.ofNat n)), .val (.int (Int32.ofNat mm)), .val (.ref sx), .val (.ref sy), .val (.ref xo), .val (.ref yo), .val (.int (0 : Int32)), .val (.ref sx), .val .null] [(.int (0 : Int32)), (.int (0 : Int32))]))
            refine own_stW (fun _ z => XS.icmpNo X237.here hx rfl (hb hby at_226) rfl (teq ((by decide : (0 : Int32) = (0 : Int32)))).2 z) ?_
            show OGoW p e below s _ Z _ _ (T237.setTop (mkF m 229 #[.val (.int q1), .val (.int q2), .val (.int q3), .val (.int q4), .val (.int ca), .val (.int cb), .val (.int cc), .val (.int da), .val (.int db), .val (.int dc), .val (.int (Int32.ofNat n)), .val (.int (Int32.ofNat mm)), .val (.ref sx), .val (.ref sy), .val (.ref xo), .val (.ref yo), .val (.int (0 : Int32)), .val (.ref sx), .val .null] []))
            refine own_stW (fun _ z => XS.aload X237.here hx rfl (hb hby at_229) rfl rfl z) ?_
            show OGoW p e below s _ Z _ _ (T237.setTop (mkF m 231 #[.val (.int q1), .val (.int q2), .val (.int q3), .val (.int q4), .val (.int ca), .val (.int cb), .val (.int cc), .val (.int da), .val (.int db), .val (.int dc), .val (.int (Int32.ofNat n)), .val (.int (Int32.ofNat mm)), .val (.ref sx), .val (.ref sy), .val (.ref xo), .val (.ref yo), .val (.int (0 : Int32)), .val (.ref sx), .val .null] [(.ref yo)]))
            refine own_stW (fun _ z => XS.aload X237.here hx rfl (hb hby at_231) rfl rfl z) ?_
            show OGoW p e below s _ Z _ _ (T237.setTop (mkF m 233 #[.val (.int q1), .val (.int q2), .val (.int q3), .val (.int q4), .val (.int ca), .val (.int cb), .val (.int cc), .val (.int da), .val (.int db), .val (.int dc), .val (.int (Int32.ofNat n)), .val (.int (Int32.ofNat mm)), .val (.ref sx), .val (.ref sy), .val (.ref xo), .val (.ref yo), .val (.int (0 : Int32)), .val (.ref sx), .val .null] [(.ref xo), (.ref yo)]))
            obtain ⟨T238, X238, e238, st238⟩ := own_callVP X237 hx hZ (y := (⟨"com/example/limpet/limpet/LockName", "equals", "(Ljava/lang/Object;)Z"⟩ : MethodName)) (z := (⟨"com/example/limpet/limpet/LockName", "equals", "(Ljava/lang/Object;)Z"⟩ : MethodName)) (W := 0) hown (own_w hw 236 rfl) (own_w hw 237 rfl) (notFace_of_selects (args := #[]) (mvT hZ (own_w hw 239 rfl))) (own_w hw 239 rfl) (own_w hw 238 rfl) (own_w hw 240 rfl) (own_w hw 40 rfl) (by decide) (e5_N l Z a0 hw yo xo sx sy tx n (own_c3 ca cb cc) ty mm (own_c3 da db dc) cs T236.heap ne_sx_sy E_yo F_value_yo E_xo F_value_xo E_sx F_coder_sx F_value_sx A_tx E_sy F_coder_sy F_value_sy A_ty S_COMPACT_STRINGS hcs (by omega) (by omega) hdf) (by decide) (by decide) E_yo (g := (mkF m 233 #[.val (.int q1), .val (.int q2), .val (.int q3), .val (.int q4), .val (.int ca), .val (.int cb), .val (.int cc), .val (.int da), .val (.int db), .val (.int dc), .val (.int (Int32.ofNat n)), .val (.int (Int32.ofNat mm)), .val (.ref sx), .val (.ref sy), .val (.ref xo), .val (.ref yo), .val (.int (0 : Int32)), .val (.ref sx), .val .null] [(.ref xo), (.ref yo)])) rfl (by rw [hml]; rfl) (argsL := [(.ref xo)]) (rest := []) (lenOf pd_28 rfl) rfl (by show 2 * 0 + _ ≤ _; exact Nat.le_of_eq rfl) (hb hby at_233) rfl e237 (by decide) (by decide)
            refine own_stW st238 ?_
            show OGoW p e below s _ Z _ _ (T238.setTop (mkF m 236 #[.val (.int q1), .val (.int q2), .val (.int q3), .val (.int q4), .val (.int ca), .val (.int cb), .val (.int cc), .val (.int da), .val (.int db), .val (.int dc), .val (.int (Int32.ofNat n)), .val (.int (Int32.ofNat mm)), .val (.ref sx), .val (.ref sy), .val (.ref xo), .val (.ref yo), .val (.int (0 : Int32)), .val (.ref sx), .val .null] [(.int (0 : Int32))]))
            refine own_stW (fun _ z => XS.iload X238.here hx rfl (hb hby at_236) rfl z) ?_
            show OGoW p e below s _ Z _ _ (T238.setTop (mkF m 238 #[.val (.int q1), .val (.int q2), .val (.int q3), .val (.int q4), .val (.int ca), .val (.int cb), .val (.int cc), .val (.int da), .val (.int db), .val (.int dc), .val (.int (Int32.ofNat n)), .val (.int (Int32.ofNat mm)), .val (.ref sx), .val (.ref sy), .val (.ref xo), .val (.ref yo), .val (.int (0 : Int32)), .val (.ref sx), .val .null] [(.int (0 : Int32)), (.int (0 : Int32))]))
            refine own_stW (fun _ z => XS.icmpNo X238.here hx rfl (hb hby at_238) rfl (teq ((by decide : (0 : Int32) = (0 : Int32)))).2 z) ?_
            show OGoW p e below s _ Z _ _ (T238.setTop (mkF m 241 #[.val (.int q1), .val (.int q2), .val (.int q3), .val (.int q4), .val (.int ca), .val (.int cb), .val (.int cc), .val (.int da), .val (.int db), .val (.int dc), .val (.int (Int32.ofNat n)), .val (.int (Int32.ofNat mm)), .val (.ref sx), .val (.ref sy), .val (.ref xo), .val (.ref yo), .val (.int (0 : Int32)), .val (.ref sx), .val .null] []))
            refine own_stW (fun _ z => XS.aload X238.here hx rfl (hb hby at_241) rfl rfl z) ?_
            show OGoW p e below s _ Z _ _ (T238.setTop (mkF m 243 #[.val (.int q1), .val (.int q2), .val (.int q3), .val (.int q4), .val (.int ca), .val (.int cb), .val (.int cc), .val (.int da), .val (.int db), .val (.int dc), .val (.int (Int32.ofNat n)), .val (.int (Int32.ofNat mm)), .val (.ref sx), .val (.ref sy), .val (.ref xo), .val (.ref yo), .val (.int (0 : Int32)), .val (.ref sx), .val .null] [(.ref xo)]))
            refine own_stW (fun _ z => XS.aload X238.here hx rfl (hb hby at_243) rfl rfl z) ?_
            show OGoW p e below s _ Z _ _ (T238.setTop (mkF m 245 #[.val (.int q1), .val (.int q2), .val (.int q3), .val (.int q4), .val (.int ca), .val (.int cb), .val (.int cc), .val (.int da), .val (.int db), .val (.int dc), .val (.int (Int32.ofNat n)), .val (.int (Int32.ofNat mm)), .val (.ref sx), .val (.ref sy), .val (.ref xo), .val (.ref yo), .val (.int (0 : Int32)), .val (.ref sx), .val .null] [(.ref xo), (.ref xo)]))
            obtain ⟨T239, X239, e239, st239⟩ := own_callVP X238 hx hZ (y := (⟨"com/example/limpet/limpet/LockName", "equals", "(Ljava/lang/Object;)Z"⟩ : MethodName)) (z := (⟨"com/example/limpet/limpet/LockName", "equals", "(Ljava/lang/Object;)Z"⟩ : MethodName)) (W := 0) hown (own_w hw 236 rfl) (own_w hw 237 rfl) (notFace_of_selects (args := #[]) (mvT hZ (own_w hw 239 rfl))) (own_w hw 239 rfl) (own_w hw 238 rfl) (own_w hw 240 rfl) (own_w hw 40 rfl) (by decide) (e6_ l Z a0 hw xo xo sx T236.heap E_xo F_value_xo E_xo F_value_xo E_sx) (by decide) (by decide) E_xo (g := (mkF m 245 #[.val (.int q1), .val (.int q2), .val (.int q3), .val (.int q4), .val (.int ca), .val (.int cb), .val (.int cc), .val (.int da), .val (.int db), .val (.int dc), .val (.int (Int32.ofNat n)), .val (.int (Int32.ofNat mm)), .val (.ref sx), .val (.ref sy), .val (.ref xo), .val (.ref yo), .val (.int (0 : Int32)), .val (.ref sx), .val .null] [(.ref xo), (.ref xo)])) rfl (by rw [hml]; rfl) (argsL := [(.ref xo)]) (rest := []) (lenOf pd_28 rfl) rfl (by show 2 * 0 + _ ≤ _; exact Nat.le_of_eq rfl) (hb hby at_245) rfl e238 (by decide) (by decide)
            refine own_stW st239 ?_
            show OGoW p e below s _ Z _ _ (T239.setTop (mkF m 248 #[.val (.int q1), .val (.int q2), .val (.int q3), .val (.int q4), .val (.int ca), .val (.int cb), .val (.int cc), .val (.int da), .val (.int db), .val (.int dc), .val (.int (Int32.ofNat n)), .val (.int (Int32.ofNat mm)), .val (.ref sx), .val (.ref sy), .val (.ref xo), .val (.ref yo), .val (.int (0 : Int32)), .val (.ref sx), .val .null] [(.int (1 : Int32))]))
            refine own_stW (fun _ z => XS.ifNo X239.here hx rfl (hb hby at_248) rfl ((if0 _ _).trans (feq ((by decide : ¬ (1 : Int32) = (0 : Int32)))).1) z) ?_
            show OGoW p e below s _ Z _ _ (T239.setTop (mkF m 251 #[.val (.int q1), .val (.int q2), .val (.int q3), .val (.int q4), .val (.int ca), .val (.int cb), .val (.int cc), .val (.int da), .val (.int db), .val (.int dc), .val (.int (Int32.ofNat n)), .val (.int (Int32.ofNat mm)), .val (.ref sx), .val (.ref sy), .val (.ref xo), .val (.ref yo), .val (.int (0 : Int32)), .val (.ref sx), .val .null] []))
            refine own_stW (fun _ z => XS.aload X239.here hx rfl (hb hby at_251) rfl rfl z) ?_
            show OGoW p e below s _ Z _ _ (T239.setTop (mkF m 253 #[.val (.int q1), .val (.int q2), .val (.int q3), .val (.int q4), .val (.int ca), .val (.int cb), .val (.int cc), .val (.int da), .val (.int db), .val (.int dc), .val (.int (Int32.ofNat n)), .val (.int (Int32.ofNat mm)), .val (.ref sx), .val (.ref sy), .val (.ref xo), .val (.ref yo), .val (.int (0 : Int32)), .val (.ref sx), .val .null] [(.ref xo)]))
            refine own_stW (fun _ z => XS.aload X239.here hx rfl (hb hby at_253) rfl rfl z) ?_
            show OGoW p e below s _ Z _ _ (T239.setTop (mkF m 255 #[.val (.int q1), .val (.int q2), .val (.int q3), .val (.int q4), .val (.int ca), .val (.int cb), .val (.int cc), .val (.int da), .val (.int db), .val (.int dc), .val (.int (Int32.ofNat n)), .val (.int (Int32.ofNat mm)), .val (.ref sx), .val (.ref sy), .val (.ref xo), .val (.ref yo), .val (.int (0 : Int32)), .val (.ref sx), .val .null] [(.ref sx), (.ref xo)]))
            obtain ⟨T240, X240, e240, st240⟩ := own_callVP X239 hx hZ (y := (⟨"com/example/limpet/limpet/LockName", "equals", "(Ljava/lang/Object;)Z"⟩ : MethodName)) (z := (⟨"com/example/limpet/limpet/LockName", "equals", "(Ljava/lang/Object;)Z"⟩ : MethodName)) (W := 0) hown (own_w hw 236 rfl) (own_w hw 237 rfl) (notFace_of_selects (args := #[]) (mvT hZ (own_w hw 239 rfl))) (own_w hw 239 rfl) (own_w hw 238 rfl) (own_w hw 240 rfl) (own_w hw 40 rfl) (by decide) (e7_ l Z a0 hw xo sx T236.heap E_sx) (by decide) (by decide) E_xo (g := (mkF m 255 #[.val (.int q1), .val (.int q2), .val (.int q3), .val (.int q4), .val (.int ca), .val (.int cb), .val (.int cc), .val (.int da), .val (.int db), .val (.int dc), .val (.int (Int32.ofNat n)), .val (.int (Int32.ofNat mm)), .val (.ref sx), .val (.ref sy), .val (.ref xo), .val (.ref yo), .val (.int (0 : Int32)), .val (.ref sx), .val .null] [(.ref sx), (.ref xo)])) rfl (by rw [hml]; rfl) (argsL := [(.ref sx)]) (rest := []) (lenOf pd_28 rfl) rfl (by show 2 * 0 + _ ≤ _; exact Nat.le_of_eq rfl) (hb hby at_255) rfl e239 (by decide) (by decide)
            refine own_stW st240 ?_
            show OGoW p e below s _ Z _ _ (T240.setTop (mkF m 258 #[.val (.int q1), .val (.int q2), .val (.int q3), .val (.int q4), .val (.int ca), .val (.int cb), .val (.int cc), .val (.int da), .val (.int db), .val (.int dc), .val (.int (Int32.ofNat n)), .val (.int (Int32.ofNat mm)), .val (.ref sx), .val (.ref sy), .val (.ref xo), .val (.ref yo), .val (.int (0 : Int32)), .val (.ref sx), .val .null] [(.int (0 : Int32))]))
            refine own_stW (fun _ z => XS.ifNo X240.here hx rfl (hb hby at_258) rfl ((if0 _ _).trans (teq ((by decide : (0 : Int32) = (0 : Int32)))).2) z) ?_
            show OGoW p e below s _ Z _ _ (T240.setTop (mkF m 261 #[.val (.int q1), .val (.int q2), .val (.int q3), .val (.int q4), .val (.int ca), .val (.int cb), .val (.int cc), .val (.int da), .val (.int db), .val (.int dc), .val (.int (Int32.ofNat n)), .val (.int (Int32.ofNat mm)), .val (.ref sx), .val (.ref sy), .val (.ref xo), .val (.ref yo), .val (.int (0 : Int32)), .val (.ref sx), .val .null] []))
            refine own_stW (fun _ z => XS.aload X240.here hx rfl (hb hby at_261) rfl rfl z) ?_
            show OGoW p e below s _ Z _ _ (T240.setTop (mkF m 263 #[.val (.int q1), .val (.int q2), .val (.int q3), .val (.int q4), .val (.int ca), .val (.int cb), .val (.int cc), .val (.int da), .val (.int db), .val (.int dc), .val (.int (Int32.ofNat n)), .val (.int (Int32.ofNat mm)), .val (.ref sx), .val (.ref sy), .val (.ref xo), .val (.ref yo), .val (.int (0 : Int32)), .val (.ref sx), .val .null] [(.ref xo)]))
            refine own_stW (fun _ z => XS.aload X240.here hx rfl (hb hby at_263) rfl rfl z) ?_
            show OGoW p e below s _ Z _ _ (T240.setTop (mkF m 265 #[.val (.int q1), .val (.int q2), .val (.int q3), .val (.int q4), .val (.int ca), .val (.int cb), .val (.int cc), .val (.int da), .val (.int db), .val (.int dc), .val (.int (Int32.ofNat n)), .val (.int (Int32.ofNat mm)), .val (.ref sx), .val (.ref sy), .val (.ref xo), .val (.ref yo), .val (.int (0 : Int32)), .val (.ref sx), .val .null] [.null, (.ref xo)]))
            obtain ⟨T241, X241, e241, st241⟩ := own_callVP X240 hx hZ (y := (⟨"com/example/limpet/limpet/LockName", "equals", "(Ljava/lang/Object;)Z"⟩ : MethodName)) (z := (⟨"com/example/limpet/limpet/LockName", "equals", "(Ljava/lang/Object;)Z"⟩ : MethodName)) (W := 0) hown (own_w hw 236 rfl) (own_w hw 237 rfl) (notFace_of_selects (args := #[]) (mvT hZ (own_w hw 239 rfl))) (own_w hw 239 rfl) (own_w hw 238 rfl) (own_w hw 240 rfl) (own_w hw 40 rfl) (by decide) (e8_ l Z a0 hw xo T236.heap) (by decide) (by decide) E_xo (g := (mkF m 265 #[.val (.int q1), .val (.int q2), .val (.int q3), .val (.int q4), .val (.int ca), .val (.int cb), .val (.int cc), .val (.int da), .val (.int db), .val (.int dc), .val (.int (Int32.ofNat n)), .val (.int (Int32.ofNat mm)), .val (.ref sx), .val (.ref sy), .val (.ref xo), .val (.ref yo), .val (.int (0 : Int32)), .val (.ref sx), .val .null] [.null, (.ref xo)])) rfl (by rw [hml]; rfl) (argsL := [.null]) (rest := []) (lenOf pd_28 rfl) rfl (by show 2 * 0 + _ ≤ _; exact Nat.le_of_eq rfl) (hb hby at_265) rfl e240 (by decide) (by decide)
            refine own_stW st241 ?_
            show OGoW p e below s _ Z _ _ (T241.setTop (mkF m 268 #[.val (.int q1), .val (.int q2), .val (.int q3), .val (.int q4), .val (.int ca), .val (.int cb), .val (.int cc), .val (.int da), .val (.int db), .val (.int dc), .val (.int (Int32.ofNat n)), .val (.int (Int32.ofNat mm)), .val (.ref sx), .val (.ref sy), .val (.ref xo), .val (.ref yo), .val (.int (0 : Int32)), .val (.ref sx), .val .null] [(.int (0 : Int32))]))
            refine own_stW (fun _ z => XS.ifNo X241.here hx rfl (hb hby at_268) rfl ((if0 _ _).trans (teq ((by decide : (0 : Int32) = (0 : Int32)))).2) z) ?_
            show OGoW p e below s _ Z _ _ (T241.setTop (mkF m 271 #[.val (.int q1), .val (.int q2), .val (.int q3), .val (.int q4), .val (.int ca), .val (.int cb), .val (.int cc), .val (.int da), .val (.int db), .val (.int dc), .val (.int (Int32.ofNat n)), .val (.int (Int32.ofNat mm)), .val (.ref sx), .val (.ref sy), .val (.ref xo), .val (.ref yo), .val (.int (0 : Int32)), .val (.ref sx), .val .null] []))
            refine own_stW (fun _ z => XS.iconst X241.here hx rfl (hb hby at_271) z) ?_
            show OGoW p e below s _ Z _ _ (T241.setTop (mkF m 272 #[.val (.int q1), .val (.int q2), .val (.int q3), .val (.int q4), .val (.int ca), .val (.int cb), .val (.int cc), .val (.int da), .val (.int db), .val (.int dc), .val (.int (Int32.ofNat n)), .val (.int (Int32.ofNat mm)), .val (.ref sx), .val (.ref sy), .val (.ref xo), .val (.ref yo), .val (.int (0 : Int32)), .val (.ref sx), .val .null] [(.int (1 : Int32))]))
            refine own_stW (fun _ z => XS.goto X241.here hx rfl (pc0 := 272) (pc' := 276) rfl (hb hby at_272) (by decide) (by decide) z) ?_
            show OGoW p e below s _ Z _ _ (T241.setTop (mkF m 276 #[.val (.int q1), .val (.int q2), .val (.int q3), .val (.int q4), .val (.int ca), .val (.int cb), .val (.int cc), .val (.int da), .val (.int db), .val (.int dc), .val (.int (Int32.ofNat n)), .val (.int (Int32.ofNat mm)), .val (.ref sx), .val (.ref sy), .val (.ref xo), .val (.ref yo), .val (.int (0 : Int32)), .val (.ref sx), .val .null] [(.int (1 : Int32))]))
            exact own_retWN X241 hx hlk (t := .boolean) hret (by simp) (hb hby at_276) (by decide) (by decide) hS e241 es hk hZ hEL CH (⟨rfl, Nr236⟩)
        by_cases hb113 : (q4 &&& (8 : Int32)) = (0 : Int32)
        · refine own_stW (fun _ z => XS.ifYes XJ79.here hx rfl (pc0 := 95) (pc' := 103) rfl (hb hby at_95) rfl ((if0 _ _).trans (teq (hb113)).1) (by decide) (by decide) z) ?_
          show OGoW p e below s _ Z _ _ (TJ79.setTop (mkF m 103 #[.val (.int q1), .val (.int q2), .val (.int q3), .val (.int q4), .val (.int ca), .val (.int cb), .val (.int cc), .val (.int da), .val (.int db), .val (.int dc), .val (.int (Int32.ofNat n)), .unset, .unset, .unset, .unset, .unset, .unset, .unset, .unset] []))
          refine own_stW (fun _ z => XS.iconst XJ79.here hx rfl (hb hby at_103) z) ?_
          show OGoW p e below s _ Z _ _ (TJ79.setTop (mkF m 104 #[.val (.int q1), .val (.int q2), .val (.int q3), .val (.int q4), .val (.int ca), .val (.int cb), .val (.int cc), .val (.int da), .val (.int db), .val (.int dc), .val (.int (Int32.ofNat n)), .unset, .unset, .unset, .unset, .unset, .unset, .unset, .unset] [(.int (1 : Int32))]))
          refine own_stW (fun _ z => XS.iloadN XJ79.here hx rfl (hb hby at_104) rfl z) ?_
          show OGoW p e below s _ Z _ _ (TJ79.setTop (mkF m 105 #[.val (.int q1), .val (.int q2), .val (.int q3), .val (.int q4), .val (.int ca), .val (.int cb), .val (.int cc), .val (.int da), .val (.int db), .val (.int dc), .val (.int (Int32.ofNat n)), .unset, .unset, .unset, .unset, .unset, .unset, .unset, .unset] [(.int q3), (.int (1 : Int32))]))
          refine own_stW (fun _ z => XS.iconst XJ79.here hx rfl (hb hby at_105) z) ?_
          show OGoW p e below s _ Z _ _ (TJ79.setTop (mkF m 106 #[.val (.int q1), .val (.int q2), .val (.int q3), .val (.int q4), .val (.int ca), .val (.int cb), .val (.int cc), .val (.int da), .val (.int db), .val (.int dc), .val (.int (Int32.ofNat n)), .unset, .unset, .unset, .unset, .unset, .unset, .unset, .unset] [(.int (2 : Int32)), (.int q3), (.int (1 : Int32))]))
          refine own_stW (fun _ z => XS.iushr XJ79.here hx rfl (hb hby at_106) rfl z) ?_
          show OGoW p e below s _ Z _ _ (TJ79.setTop (mkF m 107 #[.val (.int q1), .val (.int q2), .val (.int q3), .val (.int q4), .val (.int ca), .val (.int cb), .val (.int cc), .val (.int da), .val (.int db), .val (.int dc), .val (.int (Int32.ofNat n)), .unset, .unset, .unset, .unset, .unset, .unset, .unset, .unset] [(.int ((q3.toUInt32 >>> ((2 : Int32) &&& 31).toUInt32).toInt32)), (.int (1 : Int32))]))
          refine own_stW (XJ79.ldcInt hx hown (mvT hZ (own_w hw 4 rfl)) (g := (mkF m 107 #[.val (.int q1), .val (.int q2), .val (.int q3), .val (.int q4), .val (.int ca), .val (.int cb), .val (.int cc), .val (.int da), .val (.int db), .val (.int dc), .val (.int (Int32.ofNat n)), .unset, .unset, .unset, .unset, .unset, .unset, .unset, .unset] [(.int ((q3.toUInt32 >>> ((2 : Int32) &&& 31).toUInt32).toInt32)), (.int (1 : Int32))])) rfl (hb hby at_107)) ?_
          show OGoW p e below s _ Z _ _ (TJ79.setTop (mkF m 109 #[.val (.int q1), .val (.int q2), .val (.int q3), .val (.int q4), .val (.int ca), .val (.int cb), .val (.int cc), .val (.int da), .val (.int db), .val (.int dc), .val (.int (Int32.ofNat n)), .unset, .unset, .unset, .unset, .unset, .unset, .unset, .unset] [(.int (2147483647 : Int32)), (.int ((q3.toUInt32 >>> ((2 : Int32) &&& 31).toUInt32).toInt32)), (.int (1 : Int32))]))
          refine own_stW (fun _ z => XS.iand XJ79.here hx rfl (hb hby at_109) rfl z) ?_
          show OGoW p e below s _ Z _ _ (TJ79.setTop (mkF m 110 #[.val (.int q1), .val (.int q2), .val (.int q3), .val (.int q4), .val (.int ca), .val (.int cb), .val (.int cc), .val (.int da), .val (.int db), .val (.int dc), .val (.int (Int32.ofNat n)), .unset, .unset, .unset, .unset, .unset, .unset, .unset, .unset] [(.int (((q3.toUInt32 >>> ((2 : Int32) &&& 31).toUInt32).toInt32) &&& (2147483647 : Int32))), (.int (1 : Int32))]))
          refine own_stW (fun _ z => XS.iconst XJ79.here hx rfl (hb hby at_110) z) ?_
          show OGoW p e below s _ Z _ _ (TJ79.setTop (mkF m 111 #[.val (.int q1), .val (.int q2), .val (.int q3), .val (.int q4), .val (.int ca), .val (.int cb), .val (.int cc), .val (.int da), .val (.int db), .val (.int dc), .val (.int (Int32.ofNat n)), .unset, .unset, .unset, .unset, .unset, .unset, .unset, .unset] [(.int (3 : Int32)), (.int (((q3.toUInt32 >>> ((2 : Int32) &&& 31).toUInt32).toInt32) &&& (2147483647 : Int32))), (.int (1 : Int32))]))
          refine own_stW (fun _ z => iremM XJ79 hx rfl (hb hby at_111) rfl (by decide) z) ?_
          show OGoW p e below s _ Z _ _ (TJ79.setTop (mkF m 112 #[.val (.int q1), .val (.int q2), .val (.int q3), .val (.int q4), .val (.int ca), .val (.int cb), .val (.int cc), .val (.int da), .val (.int db), .val (.int dc), .val (.int (Int32.ofNat n)), .unset, .unset, .unset, .unset, .unset, .unset, .unset, .unset] [(.int ((((q3.toUInt32 >>> ((2 : Int32) &&& 31).toUInt32).toInt32) &&& (2147483647 : Int32)) % (3 : Int32))), (.int (1 : Int32))]))
          refine own_stW (fun _ z => XS.iadd XJ79.here hx rfl (hb hby at_112) rfl z) ?_
          show OGoW p e below s _ Z _ _ (TJ79.setTop (mkF m 113 #[.val (.int q1), .val (.int q2), .val (.int q3), .val (.int q4), .val (.int ca), .val (.int cb), .val (.int cc), .val (.int da), .val (.int db), .val (.int dc), .val (.int (Int32.ofNat n)), .unset, .unset, .unset, .unset, .unset, .unset, .unset, .unset] [(.int ((1 : Int32) + ((((q3.toUInt32 >>> ((2 : Int32) &&& 31).toUInt32).toInt32) &&& (2147483647 : Int32)) % (3 : Int32))))]))
          obtain ⟨lz, e_lz, h_lz⟩ := own_m3 ((q3.toUInt32 >>> ((2 : Int32) &&& 31).toUInt32).toInt32)
          rw [e_lz]
          exact J113 TJ79 lz XJ79 eJ79 h_lz
        · refine own_stW (fun _ z => XS.ifNo XJ79.here hx rfl (hb hby at_95) rfl ((if0 _ _).trans (feq (hb113)).1) z) ?_
          show OGoW p e below s _ Z _ _ (TJ79.setTop (mkF m 98 #[.val (.int q1), .val (.int q2), .val (.int q3), .val (.int q4), .val (.int ca), .val (.int cb), .val (.int cc), .val (.int da), .val (.int db), .val (.int dc), .val (.int (Int32.ofNat n)), .unset, .unset, .unset, .unset, .unset, .unset, .unset, .unset] []))
          refine own_stW (fun _ z => XS.iload XJ79.here hx rfl (hb hby at_98) rfl z) ?_
          show OGoW p e below s _ Z _ _ (TJ79.setTop (mkF m 100 #[.val (.int q1), .val (.int q2), .val (.int q3), .val (.int q4), .val (.int ca), .val (.int cb), .val (.int cc), .val (.int da), .val (.int db), .val (.int dc), .val (.int (Int32.ofNat n)), .unset, .unset, .unset, .unset, .unset, .unset, .unset, .unset] [(.int (Int32.ofNat n))]))
          refine own_stW (fun _ z => XS.goto XJ79.here hx rfl (pc0 := 100) (pc' := 113) rfl (hb hby at_100) (by decide) (by decide) z) ?_
          show OGoW p e below s _ Z _ _ (TJ79.setTop (mkF m 113 #[.val (.int q1), .val (.int q2), .val (.int q3), .val (.int q4), .val (.int ca), .val (.int cb), .val (.int cc), .val (.int da), .val (.int db), .val (.int dc), .val (.int (Int32.ofNat n)), .unset, .unset, .unset, .unset, .unset, .unset, .unset, .unset] [(.int (Int32.ofNat n))]))
          exact J113 TJ79 n XJ79 eJ79 h_la
      by_cases hb79 : (q4 &&& (4 : Int32)) = (0 : Int32)
      · refine own_stW (fun _ z => XS.ifYes XJ59.here hx rfl (pc0 := 64) (pc' := 72) rfl (hb hby at_64) rfl ((if0 _ _).trans (teq (hb79)).1) (by decide) (by decide) z) ?_
        show OGoW p e below s _ Z _ _ (TJ59.setTop (mkF m 72 #[.val (.int q1), .val (.int q2), .val (.int q3), .val (.int q4), .val (.int ca), .val (.int cb), .val (.int cc), .val (.int da), .val (.int db), .unset, .unset, .unset, .unset, .unset, .unset, .unset, .unset, .unset, .unset] []))
        refine own_stW (fun _ z => XS.iloadN XJ59.here hx rfl (hb hby at_72) rfl z) ?_
        show OGoW p e below s _ Z _ _ (TJ59.setTop (mkF m 73 #[.val (.int q1), .val (.int q2), .val (.int q3), .val (.int q4), .val (.int ca), .val (.int cb), .val (.int cc), .val (.int da), .val (.int db), .unset, .unset, .unset, .unset, .unset, .unset, .unset, .unset, .unset, .unset] [(.int q2)]))
        refine own_stW (fun _ z => XS.bipush XJ59.here hx rfl (hb hby at_73) z) ?_
        show OGoW p e below s _ Z _ _ (TJ59.setTop (mkF m 75 #[.val (.int q1), .val (.int q2), .val (.int q3), .val (.int q4), .val (.int ca), .val (.int cb), .val (.int cc), .val (.int da), .val (.int db), .unset, .unset, .unset, .unset, .unset, .unset, .unset, .unset, .unset, .unset] [(.int (16 : Int32)), (.int q2)]))
        refine own_stW (fun _ z => XS.iushr XJ59.here hx rfl (hb hby at_75) rfl z) ?_
        show OGoW p e below s _ Z _ _ (TJ59.setTop (mkF m 76 #[.val (.int q1), .val (.int q2), .val (.int q3), .val (.int q4), .val (.int ca), .val (.int cb), .val (.int cc), .val (.int da), .val (.int db), .unset, .unset, .unset, .unset, .unset, .unset, .unset, .unset, .unset, .unset] [(.int ((q2.toUInt32 >>> ((16 : Int32) &&& 31).toUInt32).toInt32))]))
        obtain ⟨ex, e_ex, g_ex⟩ := own_che ((q2.toUInt32 >>> ((16 : Int32) &&& 31).toUInt32).toInt32)
        obtain ⟨T272, X272, e272, st272⟩ := own_callSP XJ59 hx hZ (y := (⟨"com/example/limpet/limpet/LockNameEqualsPinLaw", "ch", "(I)C"⟩ : MethodName)) (W := 0) hown (own_w hw 0 rfl) (own_w hw 1 rfl) (own_w hw 2 rfl) (own_w hw 3 rfl) (by decide) (rch l Z a0 hw ((q2.toUInt32 >>> ((16 : Int32) &&& 31).toUInt32).toInt32) ex h0 e_ex) (by decide) (by decide) (g := (mkF m 76 #[.val (.int q1), .val (.int q2), .val (.int q3), .val (.int q4), .val (.int ca), .val (.int cb), .val (.int cc), .val (.int da), .val (.int db), .unset, .unset, .unset, .unset, .unset, .unset, .unset, .unset, .unset, .unset] [(.int ((q2.toUInt32 >>> ((16 : Int32) &&& 31).toUInt32).toInt32))])) rfl (by rw [hml]; rfl) (argsL := [(.int ((q2.toUInt32 >>> ((16 : Int32) &&& 31).toUInt32).toInt32))]) (rest := []) (lenOf pd_30 rfl) rfl (by show 2 * 0 + _ ≤ _; exact Nat.le_of_eq rfl) (hb hby at_76) rfl eJ59 (by decide) (by decide)
        refine own_stW st272 ?_
        show OGoW p e below s _ Z _ _ (T272.setTop (mkF m 79 #[.val (.int q1), .val (.int q2), .val (.int q3), .val (.int q4), .val (.int ca), .val (.int cb), .val (.int cc), .val (.int da), .val (.int db), .unset, .unset, .unset, .unset, .unset, .unset, .unset, .unset, .unset, .unset] [(.int ex)]))
        exact J79 T272 ex X272 e272 g_ex
      · refine own_stW (fun _ z => XS.ifNo XJ59.here hx rfl (hb hby at_64) rfl ((if0 _ _).trans (feq (hb79)).1) z) ?_
        show OGoW p e below s _ Z _ _ (TJ59.setTop (mkF m 67 #[.val (.int q1), .val (.int q2), .val (.int q3), .val (.int q4), .val (.int ca), .val (.int cb), .val (.int cc), .val (.int da), .val (.int db), .unset, .unset, .unset, .unset, .unset, .unset, .unset, .unset, .unset, .unset] []))
        refine own_stW (fun _ z => XS.iload XJ59.here hx rfl (hb hby at_67) rfl z) ?_
        show OGoW p e below s _ Z _ _ (TJ59.setTop (mkF m 69 #[.val (.int q1), .val (.int q2), .val (.int q3), .val (.int q4), .val (.int ca), .val (.int cb), .val (.int cc), .val (.int da), .val (.int db), .unset, .unset, .unset, .unset, .unset, .unset, .unset, .unset, .unset, .unset] [(.int cc)]))
        refine own_stW (fun _ z => XS.goto XJ59.here hx rfl (pc0 := 69) (pc' := 79) rfl (hb hby at_69) (by decide) (by decide) z) ?_
        show OGoW p e below s _ Z _ _ (TJ59.setTop (mkF m 79 #[.val (.int q1), .val (.int q2), .val (.int q3), .val (.int q4), .val (.int ca), .val (.int cb), .val (.int cc), .val (.int da), .val (.int db), .unset, .unset, .unset, .unset, .unset, .unset, .unset, .unset, .unset, .unset] [(.int cc)]))
        exact J79 TJ59 cc XJ59 eJ59 g_cc
    by_cases hb59 : (q4 &&& (2 : Int32)) = (0 : Int32)
    · refine own_stW (fun _ z => XS.ifYes XJ39.here hx rfl (pc0 := 44) (pc' := 52) rfl (hb hby at_44) rfl ((if0 _ _).trans (teq (hb59)).1) (by decide) (by decide) z) ?_
      show OGoW p e below s _ Z _ _ (TJ39.setTop (mkF m 52 #[.val (.int q1), .val (.int q2), .val (.int q3), .val (.int q4), .val (.int ca), .val (.int cb), .val (.int cc), .val (.int da), .unset, .unset, .unset, .unset, .unset, .unset, .unset, .unset, .unset, .unset, .unset] []))
      refine own_stW (fun _ z => XS.iloadN XJ39.here hx rfl (hb hby at_52) rfl z) ?_
      show OGoW p e below s _ Z _ _ (TJ39.setTop (mkF m 53 #[.val (.int q1), .val (.int q2), .val (.int q3), .val (.int q4), .val (.int ca), .val (.int cb), .val (.int cc), .val (.int da), .unset, .unset, .unset, .unset, .unset, .unset, .unset, .unset, .unset, .unset, .unset] [(.int q2)]))
      refine own_stW (fun _ z => XS.bipush XJ39.here hx rfl (hb hby at_53) z) ?_
      show OGoW p e below s _ Z _ _ (TJ39.setTop (mkF m 55 #[.val (.int q1), .val (.int q2), .val (.int q3), .val (.int q4), .val (.int ca), .val (.int cb), .val (.int cc), .val (.int da), .unset, .unset, .unset, .unset, .unset, .unset, .unset, .unset, .unset, .unset, .unset] [(.int (8 : Int32)), (.int q2)]))
      refine own_stW (fun _ z => XS.iushr XJ39.here hx rfl (hb hby at_55) rfl z) ?_
      show OGoW p e below s _ Z _ _ (TJ39.setTop (mkF m 56 #[.val (.int q1), .val (.int q2), .val (.int q3), .val (.int q4), .val (.int ca), .val (.int cb), .val (.int cc), .val (.int da), .unset, .unset, .unset, .unset, .unset, .unset, .unset, .unset, .unset, .unset, .unset] [(.int ((q2.toUInt32 >>> ((8 : Int32) &&& 31).toUInt32).toInt32))]))
      obtain ⟨ex, e_ex, g_ex⟩ := own_che ((q2.toUInt32 >>> ((8 : Int32) &&& 31).toUInt32).toInt32)
      obtain ⟨T273, X273, e273, st273⟩ := own_callSP XJ39 hx hZ (y := (⟨"com/example/limpet/limpet/LockNameEqualsPinLaw", "ch", "(I)C"⟩ : MethodName)) (W := 0) hown (own_w hw 0 rfl) (own_w hw 1 rfl) (own_w hw 2 rfl) (own_w hw 3 rfl) (by decide) (rch l Z a0 hw ((q2.toUInt32 >>> ((8 : Int32) &&& 31).toUInt32).toInt32) ex h0 e_ex) (by decide) (by decide) (g := (mkF m 56 #[.val (.int q1), .val (.int q2), .val (.int q3), .val (.int q4), .val (.int ca), .val (.int cb), .val (.int cc), .val (.int da), .unset, .unset, .unset, .unset, .unset, .unset, .unset, .unset, .unset, .unset, .unset] [(.int ((q2.toUInt32 >>> ((8 : Int32) &&& 31).toUInt32).toInt32))])) rfl (by rw [hml]; rfl) (argsL := [(.int ((q2.toUInt32 >>> ((8 : Int32) &&& 31).toUInt32).toInt32))]) (rest := []) (lenOf pd_30 rfl) rfl (by show 2 * 0 + _ ≤ _; exact Nat.le_of_eq rfl) (hb hby at_56) rfl eJ39 (by decide) (by decide)
      refine own_stW st273 ?_
      show OGoW p e below s _ Z _ _ (T273.setTop (mkF m 59 #[.val (.int q1), .val (.int q2), .val (.int q3), .val (.int q4), .val (.int ca), .val (.int cb), .val (.int cc), .val (.int da), .unset, .unset, .unset, .unset, .unset, .unset, .unset, .unset, .unset, .unset, .unset] [(.int ex)]))
      exact J59 T273 ex X273 e273 g_ex
    · refine own_stW (fun _ z => XS.ifNo XJ39.here hx rfl (hb hby at_44) rfl ((if0 _ _).trans (feq (hb59)).1) z) ?_
      show OGoW p e below s _ Z _ _ (TJ39.setTop (mkF m 47 #[.val (.int q1), .val (.int q2), .val (.int q3), .val (.int q4), .val (.int ca), .val (.int cb), .val (.int cc), .val (.int da), .unset, .unset, .unset, .unset, .unset, .unset, .unset, .unset, .unset, .unset, .unset] []))
      refine own_stW (fun _ z => XS.iload XJ39.here hx rfl (hb hby at_47) rfl z) ?_
      show OGoW p e below s _ Z _ _ (TJ39.setTop (mkF m 49 #[.val (.int q1), .val (.int q2), .val (.int q3), .val (.int q4), .val (.int ca), .val (.int cb), .val (.int cc), .val (.int da), .unset, .unset, .unset, .unset, .unset, .unset, .unset, .unset, .unset, .unset, .unset] [(.int cb)]))
      refine own_stW (fun _ z => XS.goto XJ39.here hx rfl (pc0 := 49) (pc' := 59) rfl (hb hby at_49) (by decide) (by decide) z) ?_
      show OGoW p e below s _ Z _ _ (TJ39.setTop (mkF m 59 #[.val (.int q1), .val (.int q2), .val (.int q3), .val (.int q4), .val (.int ca), .val (.int cb), .val (.int cc), .val (.int da), .unset, .unset, .unset, .unset, .unset, .unset, .unset, .unset, .unset, .unset, .unset] [(.int cb)]))
      exact J59 TJ39 cb XJ39 eJ39 g_cb
  by_cases hb39 : (q4 &&& (1 : Int32)) = (0 : Int32)
  · refine own_stW (fun _ z => XS.ifYes X230.here hx rfl (pc0 := 27) (pc' := 35) rfl (hb hby at_27) rfl ((if0 _ _).trans (teq (hb39)).1) (by decide) (by decide) z) ?_
    show OGoW p e below s _ Z _ _ (T230.setTop (mkF m 35 #[.val (.int q1), .val (.int q2), .val (.int q3), .val (.int q4), .val (.int ca), .val (.int cb), .val (.int cc), .unset, .unset, .unset, .unset, .unset, .unset, .unset, .unset, .unset, .unset, .unset, .unset] []))
    refine own_stW (fun _ z => XS.iloadN X230.here hx rfl (hb hby at_35) rfl z) ?_
    show OGoW p e below s _ Z _ _ (T230.setTop (mkF m 36 #[.val (.int q1), .val (.int q2), .val (.int q3), .val (.int q4), .val (.int ca), .val (.int cb), .val (.int cc), .unset, .unset, .unset, .unset, .unset, .unset, .unset, .unset, .unset, .unset, .unset, .unset] [(.int q2)]))
    obtain ⟨ex, e_ex, g_ex⟩ := own_che q2
    obtain ⟨T274, X274, e274, st274⟩ := own_callSP X230 hx hZ (y := (⟨"com/example/limpet/limpet/LockNameEqualsPinLaw", "ch", "(I)C"⟩ : MethodName)) (W := 0) hown (own_w hw 0 rfl) (own_w hw 1 rfl) (own_w hw 2 rfl) (own_w hw 3 rfl) (by decide) (rch l Z a0 hw q2 ex h0 e_ex) (by decide) (by decide) (g := (mkF m 36 #[.val (.int q1), .val (.int q2), .val (.int q3), .val (.int q4), .val (.int ca), .val (.int cb), .val (.int cc), .unset, .unset, .unset, .unset, .unset, .unset, .unset, .unset, .unset, .unset, .unset, .unset] [(.int q2)])) rfl (by rw [hml]; rfl) (argsL := [(.int q2)]) (rest := []) (lenOf pd_30 rfl) rfl (by show 2 * 0 + _ ≤ _; exact Nat.le_of_eq rfl) (hb hby at_36) rfl e230 (by decide) (by decide)
    refine own_stW st274 ?_
    show OGoW p e below s _ Z _ _ (T274.setTop (mkF m 39 #[.val (.int q1), .val (.int q2), .val (.int q3), .val (.int q4), .val (.int ca), .val (.int cb), .val (.int cc), .unset, .unset, .unset, .unset, .unset, .unset, .unset, .unset, .unset, .unset, .unset, .unset] [(.int ex)]))
    exact J39 T274 ex X274 e274 g_ex
  · refine own_stW (fun _ z => XS.ifNo X230.here hx rfl (hb hby at_27) rfl ((if0 _ _).trans (feq (hb39)).1) z) ?_
    show OGoW p e below s _ Z _ _ (T230.setTop (mkF m 30 #[.val (.int q1), .val (.int q2), .val (.int q3), .val (.int q4), .val (.int ca), .val (.int cb), .val (.int cc), .unset, .unset, .unset, .unset, .unset, .unset, .unset, .unset, .unset, .unset, .unset, .unset] []))
    refine own_stW (fun _ z => XS.iload X230.here hx rfl (hb hby at_30) rfl z) ?_
    show OGoW p e below s _ Z _ _ (T230.setTop (mkF m 32 #[.val (.int q1), .val (.int q2), .val (.int q3), .val (.int q4), .val (.int ca), .val (.int cb), .val (.int cc), .unset, .unset, .unset, .unset, .unset, .unset, .unset, .unset, .unset, .unset, .unset, .unset] [(.int ca)]))
    refine own_stW (fun _ z => XS.goto X230.here hx rfl (pc0 := 32) (pc' := 39) rfl (hb hby at_32) (by decide) (by decide) z) ?_
    show OGoW p e below s _ Z _ _ (T230.setTop (mkF m 39 #[.val (.int q1), .val (.int q2), .val (.int q3), .val (.int q4), .val (.int ca), .val (.int cb), .val (.int cc), .unset, .unset, .unset, .unset, .unset, .unset, .unset, .unset, .unset, .unset, .unset, .unset] [(.int ca)]))
    exact J39 T230 ca X230 e230 g_ca
set_option maxRecDepth 65536 in
set_option maxHeartbeats 40000000 in
theorem comes_1 {Post : Tables → Env → Array Value → State → Outcome → State → Prop} (hpost : ∀ tb e args s v u, (limb_1_1.after args s (.returned v) u = true ∧ limb_1_2.after args s (.returned v) u = true ∧ True) → ReturnedEndW s (.returned v) u (Jvm.fieldLocs frame_1_writes args s ++ Jvm.arrayLocs frame_1_arrays args s ++ Jvm.staticLocs frame_1_statics s) 120 8576 → Post tb e args s (.returned v) u) :
    ArmFor flags0 classFile x code maxLocals ret World_1 tables_1 room_1 Calls_1 rest_1 Pre_1 Post := by
  intro l hfl _ _ p e ha hc hk s m args below hf hA hF happ hP
  obtain ⟨hcalls, hrest, hpre⟩ := hP
  obtain ⟨-, -, -, hnamed, -, -, -, hat⟩ := (Spec.applies_iff hf).mp happ
  obtain ⟨hg, hn⟩ := and_e (Cond.before_iff.mp (show (Jvm.Cond.and given_1 narrow_1).before args s = true from hpre))
  obtain ⟨gs1, gs2⟩ := and_e hg
  obtain ⟨gs3, gs4⟩ := and_e gs2
  obtain ⟨gs5, gs6⟩ := and_e gs4
  obtain ⟨gs7, gs8⟩ := and_e gs6
  obtain ⟨w0, w1, w2, w3, rfl⟩ : ∃ w0 w1 w2 w3 : Value, args = #[w0, w1, w2, w3] := by
    have hs : args.size = 4 := by simpa [Cond.value, given_1] using gs1
    obtain ⟨L⟩ := args
    match L, hs with
    | [w0, w1, w2, w3], _ => exact ⟨w0, w1, w2, w3, rfl⟩
  have hw := fun d (hd : d ∈ tables_1) => atoms_spec (ws := Jvm.Cond.code x code maxLocals ret :: tables_1) hat d (List.mem_cons_of_mem _ hd)
  have hfit : Fit s := fun {y c} hc i hi => by
    obtain ⟨ha, rfl⟩ := Array.getElem?_eq_some_iff.mp hc
    have q := List.all_eq_true.mp ((Array.all_eq_true_iff_forall_mem.mp hF) _ (Array.getElem_mem ha)) i (List.mem_range.mpr hi)
    simpa [Array.getElem?_eq_getElem hi] using q
  obtain ⟨hsets, hown0⟩ := atoms_of _ (rest_1_c_eq ▸ (show rest_1_c.before _ s = true from hrest))
  have hr0 := Cond.before_iff.mp hown0
  obtain ⟨i0, ei0⟩ := is_v gs3
  obtain rfl : w0 = (.int i0) := Option.some.inj ei0
  obtain ⟨i1, ei1⟩ := is_v gs5
  obtain rfl : w1 = (.int i1) := Option.some.inj ei1
  obtain ⟨i2, ei2⟩ := is_v gs7
  obtain rfl : w2 = (.int i2) := Option.some.inj ei2
  obtain ⟨i3, ei3⟩ := is_v gs8
  obtain rfl : w3 = (.int i3) := Option.some.inj ei3
  obtain ⟨cs, hcs⟩ := is_v (Cond.before_iff.mp (hsets _ (List.mem_of_getElem? (i := 1) rfl)))
  have hScs := Sta.start hcs (Or.inl (hsets _ (List.mem_of_getElem? (i := 0) rfl)))
  have hnz : ¬ cs = (0 : Int32) := by
    have u8 := not_v (Cond.before_iff.mp (hsets _ (List.mem_of_getElem? (i := 2) rfl)))
    simp only [Cond.value, hcs, Term.int_eval] at u8
    simpa using u8
  obtain ⟨fm, hfm, ir_fm⟩ := isR_v (Cond.before_iff.mp (hsets _ (List.mem_of_getElem? (i := 8) rfl)))
  have cat_fm : fm.category = 1 := by rcases ref_cases ir_fm with rfl | ⟨_, rfl⟩ <;> rfl
  have hSfm := Sta.start hfm (Or.inl (hsets _ (List.mem_of_getElem? (i := 7) rfl)))
  have hheld : ∀ p ∈ own_EL, Jvm.Lit.constHeld s p.1 p.2 := hcalls.1
  have hCH : CHv s own_EL s.vm s.heap := CHv.start (own_EW hw) hheld (show Jvm.Lit.compactW.before _ s = true from (hsets _ (List.mem_of_getElem? (i := 2) rfl))) (own_w hw 27 rfl) (own_w hw 9 rfl)
  obtain ⟨n, o, h1, h2, h3, _, L, rfl, ⟨rfl, N⟩, -, hq⟩ := rm0 l s _ hw tables_1 i0 i1 i2 i3 cs fm s.heap s.heap.size (Nat.le_refl _) hScs hSfm hnz cat_fm ir_fm p e ha hc hk s m _ below hf ((Spec.applies_iff_loose hf).mp happ).1 ⟨rfl, State.Warmed39.refl s, rfl, hCH⟩ trivial
  refine ⟨n, _, h1, h2, h3, hpost _ _ _ _ _ _ ⟨Cond.after_iff.mpr rfl, Cond.after_iff.mpr (eq_i res_at (Term.int_eval (1)) rfl), trivial⟩ ⟨hq.1, hq.2.1, hq.2.2.1, (hq.2.2.2.sift fun y hy => Or.inr (N y hy)).mono (by decide) (by decide)⟩⟩
theorem main_1_1 : Claimed_1_1 := comes_1 fun _ _ _ _ _ _ h hF => ⟨h.1, hF⟩
theorem main_1_2 : Claimed_1_2 := comes_1 fun _ _ _ _ _ _ h hF => ⟨h.2.1, hF⟩
end Jvm.Pilot.@@N@@
namespace Jvm.Pilot.@@N@@
open Jvm Jvm.ClassFile Sem Op Lib Jvm.Free Jvm.Stand Jvm.Pilot.@@N@@.Jvm.D
/-! MADE BY PROGRAM (witnessworld.py) out of the Statement's table words and the real class files: 28 classes; the members and pool entries that the words name. The judged class is class 1, her method 1. -/
namespace start1
open Jvm.ClassFile
def u (s : String) : CpInfo := .utf8 (stringToUtf16 s)
/-- a pool by its gaps: so many unusable entries, then the entry; so many at the end -/
def gap : Nat → List CpInfo → List CpInfo
  | 0, r => r
  | n + 1, r => .unusable :: gap n r
def poolList (es : List (Nat × CpInfo)) (last : Nat) : List CpInfo := es.foldr (fun e r => gap e.1 (e.2 :: r)) (gap last [])
def pool (es : List (Nat × CpInfo)) (last : Nat) : Array CpInfo := ⟨poolList es last⟩
def fileOf (pool : Array CpInfo) (this : Nat) (attrs : Array Attribute := #[]) (ms : Array MethodInfo := #[]) (fl : Nat := 33) (sup : Nat := 0) (ifs : Array Nat := #[]) (fds : Array FieldInfo := #[]) : ClassFile where
  minorVersion := 0
  majorVersion := 65
  constantPool := pool
  accessFlags := fl
  thisClass := this
  superClass := sup
  interfaces := ifs
  fields := fds
  methods := ms
  attributes := attrs
def plain (name : String) (sup : Option ClassId) : Class where
  name := name
  kind := .ordinary
  loader := none
  accessFlags := 33
  super := sup
  interfaces := #[]
  cf := none
  fields := #[]
  methods := #[]
  instanceTypes := #[]
  staticTypes := #[]
  resolved := #[]
  callSites := []
  init := .initialized
  statics := none
  mirror := none

def pool0 : Array CpInfo := pool [(5, u "<init>"), (0, u "()V"), (1, .class_ 10), (1, u "java/lang/Object"), (85, u "clone"), (0, u "()Ljava/lang/Object;")] 26

def k0c0 : Code := { maxStack := 0, maxLocals := 1, code := object_method_1_code, exceptionTable := #[], attributes := #[] }
def k0m0 : Method := { name := "<init>", desc := "()V", sig := { parameters := [], returnType := none }, accessFlags := 1, code := some k0c0 }
def k0m1 : Method := { name := "clone", desc := "()Ljava/lang/Object;", sig := { parameters := [], returnType := some (.object "java/lang/Object") }, accessFlags := 260, code := none }
/-- java/lang/Object -/
def k0 : Class := { plain "java/lang/Object" none with
  accessFlags := 33
  interfaces := #[]
  cf := some (fileOf pool0 8 #[] #[{ accessFlags := 1, nameIndex := 5, descriptorIndex := 6, attributes := #[] }, { accessFlags := 260, nameIndex := 96, descriptorIndex := 97, attributes := #[] }] 33 0 #[] #[])
  fields := #[]
  methods := #[k0m0, k0m1]
  instanceTypes := #[]
  staticTypes := #[]
  resolved := Array.replicate 124 none
  statics := none }

def pool1 : Array CpInfo := pool [(2, .class_ 4), (1, u "java/lang/Object"), (0, u "<init>"), (0, u "()V"), (0, .methodref 8 9), (0, .class_ 10), (0, .nameAndType 11 12), (0, u "com/example/limpet/limpet/LockNameEqualsPinLaw"), (0, u "ch"), (0, u "(I)C"), (0, .integer 2147483647), (0, .methodref 8 15), (0, .nameAndType 16 17), (0, u "mk"), (0, u "(CCCI)Ljava/lang/String;"), (0, .class_ 19), (0, u "com/example/limpet/limpet/LockName"), (0, .methodref 18 21), (0, .nameAndType 5 22), (0, u "(Ljava/lang/String;)V"), (0, .methodref 18 24), (0, .nameAndType 25 26), (0, u "equals"), (0, u "(Ljava/lang/Object;)Z"), (0, .class_ 28), (0, u "java/lang/String"), (0, .methodref 27 30), (0, .nameAndType 5 31), (0, u "([C)V"), (2, u "law"), (0, u "(IIII)Z")] 3

def k1m0 : Method := { name := "<init>", desc := "()V", sig := { parameters := [], returnType := none }, accessFlags := 1, code := none }
def k1c1 : Code := { maxStack := 4, maxLocals := 19, code := code, exceptionTable := #[], attributes := #[] }
def k1m1 : Method := { name := "law", desc := "(IIII)Z", sig := { parameters := [.int, .int, .int, .int], returnType := some .boolean }, accessFlags := 9, code := some k1c1 }
def k1c2 : Code := { maxStack := 2, maxLocals := 2, code := method_3_code, exceptionTable := #[], attributes := #[] }
def k1m2 : Method := { name := "ch", desc := "(I)C", sig := { parameters := [.int], returnType := some .char }, accessFlags := 10, code := some k1c2 }
def k1c3 : Code := { maxStack := 6, maxLocals := 4, code := method_4_code, exceptionTable := #[], attributes := #[] }
def k1m3 : Method := { name := "mk", desc := "(CCCI)Ljava/lang/String;", sig := { parameters := [.char, .char, .char, .int], returnType := some (.object "java/lang/String") }, accessFlags := 10, code := some k1c3 }
/-- com/example/limpet/limpet/LockNameEqualsPinLaw -/
def k1 : Class := { plain "com/example/limpet/limpet/LockNameEqualsPinLaw" (some 0) with
  accessFlags := 49
  interfaces := #[]
  cf := some (fileOf pool1 8 #[] #[{ accessFlags := 1, nameIndex := 5, descriptorIndex := 6, attributes := #[] }, { accessFlags := 9, nameIndex := 34, descriptorIndex := 35, attributes := #[] }, { accessFlags := 10, nameIndex := 11, descriptorIndex := 12, attributes := #[] }, { accessFlags := 10, nameIndex := 16, descriptorIndex := 17, attributes := #[] }] 49 2 #[] #[])
  fields := #[]
  methods := #[k1m0, k1m1, k1m2, k1m3]
  instanceTypes := #[]
  staticTypes := #[]
  resolved := Array.replicate 39 none
  statics := none }

def pool2 : Array CpInfo := pool [(1, .class_ 2), (0, u "java/io/Serializable"), (0, .class_ 4), (0, u "java/lang/Object")] 2

/-- java/io/Serializable -/
def k2 : Class := { plain "java/io/Serializable" (some 0) with
  accessFlags := 1537
  interfaces := #[]
  cf := some (fileOf pool2 1 #[] #[] 1537 3 #[] #[])
  fields := #[]
  methods := #[]
  instanceTypes := #[]
  staticTypes := #[]
  resolved := Array.replicate 7 none
  statics := none }

def pool3 : Array CpInfo := pool [(1, .class_ 2), (0, u "java/lang/Comparable"), (0, .class_ 4), (0, u "java/lang/Object")] 7

/-- java/lang/Comparable -/
def k3 : Class := { plain "java/lang/Comparable" (some 0) with
  accessFlags := 1537
  interfaces := #[]
  cf := some (fileOf pool3 1 #[] #[] 1537 3 #[] #[])
  fields := #[]
  methods := #[]
  instanceTypes := #[]
  staticTypes := #[]
  resolved := Array.replicate 12 none
  statics := none }

def pool4 : Array CpInfo := pool [(2, .class_ 4), (1, u "java/lang/CharSequence"), (42, .class_ 48), (0, u "java/lang/CharSequence$1CodePointIterator"), (10, .class_ 60), (0, u "java/lang/CharSequence$1CharIterator"), (5, .class_ 67), (0, u "java/lang/Object")] 63

/-- java/lang/CharSequence -/
def k4 : Class := { plain "java/lang/CharSequence" (some 0) with
  accessFlags := 1537
  interfaces := #[]
  cf := some (fileOf pool4 2 #[.nestMembers #[47, 59]] #[] 1537 66 #[] #[])
  fields := #[]
  methods := #[]
  instanceTypes := #[]
  staticTypes := #[]
  resolved := Array.replicate 131 none
  statics := none }

def pool5 : Array CpInfo := pool [(1, .class_ 2), (0, u "java/lang/constant/Constable"), (0, .class_ 4), (0, u "java/lang/Object")] 6

/-- java/lang/constant/Constable -/
def k5 : Class := { plain "java/lang/constant/Constable" (some 0) with
  accessFlags := 1537
  interfaces := #[]
  cf := some (fileOf pool5 1 #[] #[] 1537 3 #[] #[])
  fields := #[]
  methods := #[]
  instanceTypes := #[]
  staticTypes := #[]
  resolved := Array.replicate 11 none
  statics := none }

def pool6 : Array CpInfo := pool [(1, .class_ 2), (0, u "java/lang/constant/ConstantDesc"), (0, .class_ 4), (0, u "java/lang/Object")] 32

/-- java/lang/constant/ConstantDesc -/
def k6 : Class := { plain "java/lang/constant/ConstantDesc" (some 0) with
  accessFlags := 1537
  interfaces := #[]
  cf := some (fileOf pool6 1 #[] #[] 1537 3 #[] #[])
  fields := #[]
  methods := #[]
  instanceTypes := #[]
  staticTypes := #[]
  resolved := Array.replicate 37 none
  statics := none }

def pool7 : Array CpInfo := pool [(1, .methodref 2 3), (0, .class_ 4), (0, .nameAndType 5 6), (0, u "java/lang/Object"), (0, u "<init>"), (0, u "()V"), (2, .fieldref 10 11), (0, .class_ 12), (0, .nameAndType 13 14), (0, u "java/lang/String"), (0, u "value"), (0, u "[B"), (0, .fieldref 10 16), (0, .nameAndType 17 18), (0, u "coder"), (0, u "B"), (2, u "hash"), (0, u "I"), (2, u "hashIsZero"), (0, u "Z"), (0, .methodref 10 28), (0, .nameAndType 5 29), (0, u "([CIILjava/lang/Void;)V"), (8, .fieldref 10 39), (0, .nameAndType 40 26), (0, u "COMPACT_STRINGS"), (1, .class_ 44), (1, u "java/lang/StringUTF16"), (0, u "compress"), (1, .methodref 42 48), (0, .nameAndType 49 50), (0, u "coderFromArrayLen"), (0, u "([BI)B"), (3, .methodref 55 56), (0, .class_ 57), (0, .nameAndType 58 59), (0, u "java/util/Arrays"), (0, u "copyOfRange"), (0, u "([BII)[B"), (47, .class_ 109), (1, u "java/lang/StringLatin1"), (32, u "()Z"), (34, .methodref 42 178), (0, .nameAndType 45 179), (0, u "([CII)[B"), (13, .class_ 195), (1, u "java/lang/System"), (16, .methodref 193 213), (0, .nameAndType 214 215), (0, u "arraycopy"), (0, u "(Ljava/lang/Object;ILjava/lang/Object;II)V"), (118, u "()I"), (0, .methodref 10 336), (0, .nameAndType 17 337), (0, u "()B"), (2, u "()[B"), (50, u "(II)V"), (97, .methodref 10 490), (0, .nameAndType 5 491), (0, u "(Ljava/lang/AbstractStringBuilder;Ljava/lang/Void;)V"), (0, .methodref 10 493), (0, .nameAndType 494 142), (0, u "isLatin1"), (4, .methodref 10 500), (0, .nameAndType 501 391), (0, u "checkIndex"), (2, u "codePointAt"), (1, .nameAndType 507 334), (0, u "length"), (24, u "getBytes"), (8, .methodref 107 542), (0, .nameAndType 543 544), (0, u "equals"), (0, u "([B[B)Z"), (4, .methodref 550 506), (0, .class_ 551), (0, u "java/lang/AbstractStringBuilder"), (0, .methodref 550 553), (0, .nameAndType 554 340), (0, u "getValue"), (18, u "(Ljava/lang/Object;)Z"), (1, .class_ 576), (0, u "java/lang/CharSequence"), (22, u "CASE_INSENSITIVE_ORDER"), (0, u "Ljava/util/Comparator;"), (164, u "(I)I"), (55, u "([BIB)V"), (188, u "([C)V"), (36, .methodref 550 493), (5, .fieldref 1054 1055), (0, .class_ 1056), (0, .nameAndType 1057 1058), (0, u "jdk/internal/util/Preconditions"), (0, u "SIOOBE_FORMATTER"), (0, u "Ljava/util/function/BiFunction;"), (0, .methodref 1054 1060), (0, .nameAndType 501 1061), (0, u "(IILjava/util/function/BiFunction;)I"), (39, u "serialPersistentFields"), (0, u "[Ljava/io/ObjectStreamField;"), (0, .class_ 1104), (0, u "java/lang/String$CaseInsensitiveComparator"), (1, .class_ 1107), (0, u "java/io/Serializable"), (0, .class_ 1109), (0, u "java/lang/Comparable"), (0, .class_ 1111), (0, u "java/lang/constant/Constable"), (0, .class_ 1113), (0, u "java/lang/constant/ConstantDesc"), (2, u "serialVersionUID"), (0, u "J"), (3, u "REPL"), (0, u "C"), (2, u "LATIN1"), (1, u "UTF16"), (105, u "(Ljava/lang/StringBuilder;)V")] 217

def k7m0 : Method := { name := "<init>", desc := "()V", sig := { parameters := [], returnType := none }, accessFlags := 1, code := none }
def k7c1 : Code := { maxStack := 5, maxLocals := 2, code := jdk_42_method_3_code, exceptionTable := #[], attributes := #[] }
def k7m1 : Method := { name := "<init>", desc := "([C)V", sig := { parameters := [(.array .char)], returnType := none }, accessFlags := 1, code := some k7c1 }
def k7c2 : Code := { maxStack := 3, maxLocals := 2, code := jdk_42_method_53_code, exceptionTable := #[], attributes := #[] }
def k7m2 : Method := { name := "<init>", desc := "(Ljava/lang/StringBuilder;)V", sig := { parameters := [(.object "java/lang/StringBuilder")], returnType := none }, accessFlags := 1, code := some k7c2 }
def k7c3 : Code := { maxStack := 2, maxLocals := 1, code := jdk_42_method_54_code, exceptionTable := #[], attributes := #[] }
def k7m3 : Method := { name := "length", desc := "()I", sig := { parameters := [], returnType := some .int }, accessFlags := 1, code := some k7c3 }
def k7c4 : Code := { maxStack := 3, maxLocals := 3, code := jdk_42_method_57_code, exceptionTable := #[], attributes := #[] }
def k7m4 : Method := { name := "codePointAt", desc := "(I)I", sig := { parameters := [.int], returnType := some .int }, accessFlags := 1, code := some k7c4 }
def k7c5 : Code := { maxStack := 2, maxLocals := 3, code := jdk_42_method_66_code, exceptionTable := #[], attributes := #[] }
def k7m5 : Method := { name := "equals", desc := "(Ljava/lang/Object;)Z", sig := { parameters := [(.object "java/lang/Object")], returnType := some .boolean }, accessFlags := 1, code := some k7c5 }
def k7c6 : Code := { maxStack := 5, maxLocals := 4, code := jdk_42_method_147_code, exceptionTable := #[], attributes := #[] }
def k7m6 : Method := { name := "getBytes", desc := "([BIB)V", sig := { parameters := [(.array .byte), .int, .byte], returnType := none }, accessFlags := 0, code := some k7c6 }
def k7c7 : Code := { maxStack := 4, maxLocals := 6, code := jdk_42_method_149_code, exceptionTable := #[], attributes := #[] }
def k7m7 : Method := { name := "<init>", desc := "([CIILjava/lang/Void;)V", sig := { parameters := [(.array .char), .int, .int, (.object "java/lang/Void")], returnType := none }, accessFlags := 2, code := some k7c7 }
def k7c8 : Code := { maxStack := 5, maxLocals := 5, code := jdk_42_method_150_code, exceptionTable := #[], attributes := #[] }
def k7m8 : Method := { name := "<init>", desc := "(Ljava/lang/AbstractStringBuilder;Ljava/lang/Void;)V", sig := { parameters := [(.object "java/lang/AbstractStringBuilder"), (.object "java/lang/Void")], returnType := none }, accessFlags := 0, code := some k7c8 }
def k7c9 : Code := { maxStack := 1, maxLocals := 1, code := jdk_42_method_152_code, exceptionTable := #[], attributes := #[] }
def k7m9 : Method := { name := "coder", desc := "()B", sig := { parameters := [], returnType := some .byte }, accessFlags := 0, code := some k7c9 }
def k7c10 : Code := { maxStack := 1, maxLocals := 1, code := jdk_42_method_154_code, exceptionTable := #[], attributes := #[] }
def k7m10 : Method := { name := "isLatin1", desc := "()Z", sig := { parameters := [], returnType := some .boolean }, accessFlags := 0, code := some k7c10 }
def k7c11 : Code := { maxStack := 3, maxLocals := 2, code := jdk_42_method_155_code, exceptionTable := #[], attributes := #[] }
def k7m11 : Method := { name := "checkIndex", desc := "(II)V", sig := { parameters := [.int, .int], returnType := none }, accessFlags := 8, code := some k7c11 }
/-- java/lang/String -/
def k7 : Class := { plain "java/lang/String" (some 0) with
  accessFlags := 49
  interfaces := #[2, 3, 4, 5, 6]
  cf := some (fileOf pool7 10 #[.nestMembers #[1103]] #[{ accessFlags := 1, nameIndex := 5, descriptorIndex := 6, attributes := #[] }, { accessFlags := 1, nameIndex := 5, descriptorIndex := 1010, attributes := #[] }, { accessFlags := 1, nameIndex := 5, descriptorIndex := 1233, attributes := #[] }, { accessFlags := 1, nameIndex := 507, descriptorIndex := 334, attributes := #[] }, { accessFlags := 1, nameIndex := 504, descriptorIndex := 765, attributes := #[] }, { accessFlags := 1, nameIndex := 543, descriptorIndex := 573, attributes := #[] }, { accessFlags := 0, nameIndex := 532, descriptorIndex := 821, attributes := #[] }, { accessFlags := 2, nameIndex := 5, descriptorIndex := 29, attributes := #[] }, { accessFlags := 0, nameIndex := 5, descriptorIndex := 491, attributes := #[] }, { accessFlags := 0, nameIndex := 17, descriptorIndex := 337, attributes := #[] }, { accessFlags := 0, nameIndex := 494, descriptorIndex := 142, attributes := #[] }, { accessFlags := 8, nameIndex := 501, descriptorIndex := 391, attributes := #[] }] 49 2 #[1106, 1108, 575, 1110, 1112] #[{ accessFlags := 18, nameIndex := 13, descriptorIndex := 14, attributes := #[] }, { accessFlags := 18, nameIndex := 17, descriptorIndex := 18, attributes := #[] }, { accessFlags := 2, nameIndex := 21, descriptorIndex := 22, attributes := #[] }, { accessFlags := 2, nameIndex := 25, descriptorIndex := 26, attributes := #[] }, { accessFlags := 26, nameIndex := 1116, descriptorIndex := 1117, attributes := #[] }, { accessFlags := 24, nameIndex := 40, descriptorIndex := 26, attributes := #[] }, { accessFlags := 26, nameIndex := 1101, descriptorIndex := 1102, attributes := #[] }, { accessFlags := 26, nameIndex := 1121, descriptorIndex := 1122, attributes := #[] }, { accessFlags := 25, nameIndex := 599, descriptorIndex := 600, attributes := #[] }, { accessFlags := 24, nameIndex := 1125, descriptorIndex := 18, attributes := #[] }, { accessFlags := 24, nameIndex := 1127, descriptorIndex := 18, attributes := #[] }])
  fields := #[{ name := "value", type := (.array .byte), accessFlags := 18, slot := 0, constantValue := 0 }, { name := "coder", type := .byte, accessFlags := 18, slot := 1, constantValue := 0 }, { name := "hash", type := .int, accessFlags := 2, slot := 2, constantValue := 0 }, { name := "hashIsZero", type := .boolean, accessFlags := 2, slot := 3, constantValue := 0 }, { name := "serialVersionUID", type := .long, accessFlags := 26, slot := 0, constantValue := 0 }, { name := "COMPACT_STRINGS", type := .boolean, accessFlags := 24, slot := 1, constantValue := 0 }, { name := "serialPersistentFields", type := (.array (.object "java/io/ObjectStreamField")), accessFlags := 26, slot := 2, constantValue := 0 }, { name := "REPL", type := .char, accessFlags := 26, slot := 3, constantValue := 0 }, { name := "CASE_INSENSITIVE_ORDER", type := (.object "java/util/Comparator"), accessFlags := 25, slot := 4, constantValue := 0 }, { name := "LATIN1", type := .byte, accessFlags := 24, slot := 5, constantValue := 0 }, { name := "UTF16", type := .byte, accessFlags := 24, slot := 6, constantValue := 0 }]
  methods := #[k7m0, k7m1, k7m2, k7m3, k7m4, k7m5, k7m6, k7m7, k7m8, k7m9, k7m10, k7m11]
  instanceTypes := #[(.array .byte), .byte, .int, .boolean]
  staticTypes := #[.long, .boolean, (.array (.object "java/io/ObjectStreamField")), .char, (.object "java/util/Comparator"), .byte, .byte]
  resolved := Array.replicate 1451 none
  statics := some 0 }

def pool8 : Array CpInfo := pool [(6, .class_ 8), (1, u "java/lang/Object"), (0, u "<init>"), (0, u "()V"), (1, .class_ 14), (1, u "java/lang/StringUTF16"), (31, u "$assertionsDisabled"), (0, u "Z"), (13, u "HI_BYTE_SHIFT"), (0, u "I"), (2, u "LO_BYTE_SHIFT"), (49, .methodref 12 116), (0, .nameAndType 117 118), (0, u "compress"), (0, u "([CI[BII)I"), (3, u "([CII)[B"), (138, u "coderFromArrayLen"), (0, u "([BI)B"), (106, .class_ 371), (1, u "java/lang/StringUTF16$LinesSpliterator"), (58, u "MAX_LENGTH"), (196, .class_ 628), (0, u "java/lang/StringUTF16$CodePointsSpliterator"), (0, .class_ 630), (0, u "java/lang/StringUTF16$CharsSpliterator")] 4

def k8m0 : Method := { name := "<init>", desc := "()V", sig := { parameters := [], returnType := none }, accessFlags := 0, code := none }
def k8c1 : Code := { maxStack := 2, maxLocals := 2, code := jdk_52_method_15_code, exceptionTable := #[], attributes := #[] }
def k8m1 : Method := { name := "coderFromArrayLen", desc := "([BI)B", sig := { parameters := [(.array .byte), .int], returnType := some .byte }, accessFlags := 8, code := some k8c1 }
def k8c2 : Code := { maxStack := 5, maxLocals := 6, code := jdk_52_method_16_code, exceptionTable := #[], attributes := #[] }
def k8m2 : Method := { name := "compress", desc := "([CII)[B", sig := { parameters := [(.array .char), .int, .int], returnType := some (.array .byte) }, accessFlags := 9, code := some k8c2 }
def k8c3 : Code := { maxStack := 3, maxLocals := 7, code := jdk_52_method_21_code, exceptionTable := #[], attributes := #[] }
def k8m3 : Method := { name := "compress", desc := "([CI[BII)I", sig := { parameters := [(.array .char), .int, (.array .byte), .int, .int], returnType := some .int }, accessFlags := 9, code := some k8c3 }
/-- java/lang/StringUTF16 -/
def k8 : Class := { plain "java/lang/StringUTF16" (some 0) with
  accessFlags := 48
  interfaces := #[]
  cf := some (fileOf pool8 12 #[.nestMembers #[627, 629, 369]] #[{ accessFlags := 0, nameIndex := 9, descriptorIndex := 10, attributes := #[] }, { accessFlags := 8, nameIndex := 261, descriptorIndex := 262, attributes := #[] }, { accessFlags := 9, nameIndex := 117, descriptorIndex := 122, attributes := #[] }, { accessFlags := 9, nameIndex := 117, descriptorIndex := 118, attributes := #[] }] 48 6 #[] #[{ accessFlags := 26, nameIndex := 61, descriptorIndex := 62, attributes := #[] }, { accessFlags := 26, nameIndex := 65, descriptorIndex := 62, attributes := #[] }, { accessFlags := 24, nameIndex := 430, descriptorIndex := 62, attributes := #[] }, { accessFlags := 4120, nameIndex := 46, descriptorIndex := 47, attributes := #[] }])
  fields := #[{ name := "HI_BYTE_SHIFT", type := .int, accessFlags := 26, slot := 0, constantValue := 0 }, { name := "LO_BYTE_SHIFT", type := .int, accessFlags := 26, slot := 1, constantValue := 0 }, { name := "MAX_LENGTH", type := .int, accessFlags := 24, slot := 2, constantValue := 0 }, { name := "$assertionsDisabled", type := .boolean, accessFlags := 4120, slot := 3, constantValue := 0 }]
  methods := #[k8m0, k8m1, k8m2, k8m3]
  instanceTypes := #[]
  staticTypes := #[.int, .int, .int, .boolean]
  resolved := Array.replicate 635 none
  statics := none }

def pool9 : Array CpInfo := pool [(1, .methodref 2 3), (0, .class_ 4), (0, .nameAndType 5 6), (0, u "java/lang/Object"), (0, u "<init>"), (0, u "()V"), (0, .string 8), (0, u "value"), (0, .methodref 10 11), (0, .class_ 12), (0, .nameAndType 13 14), (0, u "java/util/Objects"), (0, u "requireNonNull"), (0, u "(Ljava/lang/Object;Ljava/lang/String;)Ljava/lang/Object;"), (0, .methodref 16 17), (0, .class_ 18), (0, .nameAndType 19 20), (0, u "java/lang/String"), (0, u "length"), (0, u "()I"), (0, .methodref 16 22), (0, .nameAndType 23 24), (0, u "codePointAt"), (0, u "(I)I"), (0, .class_ 26), (0, u "java/lang/Character"), (0, .integer 55296), (0, .integer 57343), (2, .class_ 32), (0, u "java/lang/StringBuilder"), (0, .methodref 31 3), (2, .methodref 31 37), (0, .nameAndType 38 39), (0, u "append"), (0, u "(Ljava/lang/String;)Ljava/lang/StringBuilder;"), (3, .methodref 31 44), (0, .nameAndType 45 46), (0, u "toString"), (0, u "()Ljava/lang/String;"), (2, u "(Ljava/lang/String;)V"), (14, .methodref 65 66), (0, .class_ 67), (0, .nameAndType 68 24), (0, u "com/example/limpet/limpet/LockName"), (0, u "utf8Length"), (0, .methodref 25 70), (0, .nameAndType 71 24), (0, u "charCount"), (4, .fieldref 65 77), (0, .nameAndType 8 78), (0, u "Ljava/lang/String;"), (0, .string 80), (0, u "lock"), (0, .methodref 65 82), (0, .nameAndType 83 84), (0, u "key"), (0, u "(Ljava/lang/String;)Ljava/lang/String;"), (0, .fieldref 65 86), (0, .nameAndType 87 78), (0, u "lockKey"), (0, .string 89), (0, u "fence"), (0, .fieldref 65 91), (0, .nameAndType 92 78), (0, u "fenceKey"), (0, .string 94), (0, u "released"), (0, .fieldref 65 96), (0, .nameAndType 97 78), (0, u "releasedChannel"), (0, .string 99), (0, u "waiters"), (0, .fieldref 65 101), (0, .nameAndType 102 78), (0, u "waitersChannel"), (0, .methodref 16 104), (0, .nameAndType 105 106), (0, u "equals"), (0, u "(Ljava/lang/Object;)Z"), (5, .string 113), (0, u "limpet:{"), (0, .string 115), (0, u "}:"), (0, .integer 65536), (0, u "MAX_UTF8_BYTES"), (0, u "I")] 7

def k9c0 : Code := { maxStack := 7, maxLocals := 5, code := prog_3_method_1_code, exceptionTable := #[], attributes := #[] }
def k9m0 : Method := { name := "<init>", desc := "(Ljava/lang/String;)V", sig := { parameters := [(.object "java/lang/String")], returnType := none }, accessFlags := 0, code := some k9c0 }
def k9c1 : Code := { maxStack := 2, maxLocals := 3, code := prog_3_method_7_code, exceptionTable := #[], attributes := #[] }
def k9m1 : Method := { name := "equals", desc := "(Ljava/lang/Object;)Z", sig := { parameters := [(.object "java/lang/Object")], returnType := some .boolean }, accessFlags := 1, code := some k9c1 }
def k9c2 : Code := { maxStack := 2, maxLocals := 2, code := prog_3_method_10_code, exceptionTable := #[], attributes := #[] }
def k9m2 : Method := { name := "key", desc := "(Ljava/lang/String;)Ljava/lang/String;", sig := { parameters := [(.object "java/lang/String")], returnType := some (.object "java/lang/String") }, accessFlags := 2, code := some k9c2 }
def k9c3 : Code := { maxStack := 2, maxLocals := 2, code := prog_3_method_11_code, exceptionTable := #[], attributes := #[] }
def k9m3 : Method := { name := "utf8Length", desc := "(I)I", sig := { parameters := [.int], returnType := some .int }, accessFlags := 10, code := some k9c3 }
/-- com/example/limpet/limpet/LockName -/
def k9 : Class := { plain "com/example/limpet/limpet/LockName" (some 0) with
  accessFlags := 32
  interfaces := #[]
  cf := some (fileOf pool9 65 #[] #[{ accessFlags := 0, nameIndex := 5, descriptorIndex := 49, attributes := #[] }, { accessFlags := 1, nameIndex := 105, descriptorIndex := 106, attributes := #[] }, { accessFlags := 2, nameIndex := 83, descriptorIndex := 84, attributes := #[] }, { accessFlags := 10, nameIndex := 68, descriptorIndex := 24, attributes := #[] }] 32 2 #[] #[{ accessFlags := 26, nameIndex := 117, descriptorIndex := 118, attributes := #[] }, { accessFlags := 18, nameIndex := 8, descriptorIndex := 78, attributes := #[] }, { accessFlags := 18, nameIndex := 87, descriptorIndex := 78, attributes := #[] }, { accessFlags := 18, nameIndex := 92, descriptorIndex := 78, attributes := #[] }, { accessFlags := 18, nameIndex := 97, descriptorIndex := 78, attributes := #[] }, { accessFlags := 18, nameIndex := 102, descriptorIndex := 78, attributes := #[] }])
  fields := #[{ name := "MAX_UTF8_BYTES", type := .int, accessFlags := 26, slot := 0, constantValue := 0 }, { name := "value", type := (.object "java/lang/String"), accessFlags := 18, slot := 0, constantValue := 0 }, { name := "lockKey", type := (.object "java/lang/String"), accessFlags := 18, slot := 1, constantValue := 0 }, { name := "fenceKey", type := (.object "java/lang/String"), accessFlags := 18, slot := 2, constantValue := 0 }, { name := "releasedChannel", type := (.object "java/lang/String"), accessFlags := 18, slot := 3, constantValue := 0 }, { name := "waitersChannel", type := (.object "java/lang/String"), accessFlags := 18, slot := 4, constantValue := 0 }]
  methods := #[k9m0, k9m1, k9m2, k9m3]
  instanceTypes := #[(.object "java/lang/String"), (.object "java/lang/String"), (.object "java/lang/String"), (.object "java/lang/String"), (.object "java/lang/String")]
  staticTypes := #[.int]
  resolved := Array.replicate 126 none
  statics := none }

def pool10 : Array CpInfo := pool [(2, .class_ 4), (1, u "java/lang/Object"), (0, u "<init>"), (0, u "()V"), (35, .class_ 44), (1, u "java/util/Objects"), (0, u "requireNonNull"), (48, u "(Ljava/lang/Object;Ljava/lang/String;)Ljava/lang/Object;")] 89

def k10m0 : Method := { name := "<init>", desc := "()V", sig := { parameters := [], returnType := none }, accessFlags := 2, code := none }
def k10c1 : Code := { maxStack := 3, maxLocals := 2, code := jdk_31_method_11_code, exceptionTable := #[], attributes := #[] }
def k10m1 : Method := { name := "requireNonNull", desc := "(Ljava/lang/Object;Ljava/lang/String;)Ljava/lang/Object;", sig := { parameters := [(.object "java/lang/Object"), (.object "java/lang/String")], returnType := some (.object "java/lang/Object") }, accessFlags := 9, code := some k10c1 }
/-- java/util/Objects -/
def k10 : Class := { plain "java/util/Objects" (some 0) with
  accessFlags := 49
  interfaces := #[]
  cf := some (fileOf pool10 42 #[] #[{ accessFlags := 2, nameIndex := 5, descriptorIndex := 6, attributes := #[] }, { accessFlags := 9, nameIndex := 45, descriptorIndex := 94, attributes := #[] }] 49 2 #[] #[])
  fields := #[]
  methods := #[k10m0, k10m1]
  instanceTypes := #[]
  staticTypes := #[]
  resolved := Array.replicate 184 none
  statics := none }

def pool11 : Array CpInfo := pool [(2, .class_ 4), (1, u "java/lang/Object"), (0, u "<init>"), (0, u "()V"), (17, .class_ 26), (1, u "jdk/internal/util/Preconditions"), (6, u "checkIndex"), (21, .class_ 56), (0, u "jdk/internal/util/Preconditions$4"), (57, .class_ 115), (0, u "jdk/internal/util/Preconditions$1"), (7, u "SIOOBE_FORMATTER"), (0, u "Ljava/util/function/BiFunction;"), (0, .class_ 126), (0, u "jdk/internal/util/Preconditions$2"), (3, u "AIOOBE_FORMATTER"), (0, .class_ 132), (0, u "jdk/internal/util/Preconditions$3"), (3, u "IOOBE_FORMATTER"), (41, u "(IILjava/util/function/BiFunction;)I")] 15

def k11m0 : Method := { name := "<init>", desc := "()V", sig := { parameters := [], returnType := none }, accessFlags := 1, code := none }
def k11c1 : Code := { maxStack := 3, maxLocals := 3, code := jdk_41_method_11_code, exceptionTable := #[], attributes := #[] }
def k11m1 : Method := { name := "checkIndex", desc := "(IILjava/util/function/BiFunction;)I", sig := { parameters := [.int, .int, (.object "java/util/function/BiFunction")], returnType := some .int }, accessFlags := 9, code := some k11c1 }
/-- jdk/internal/util/Preconditions -/
def k11 : Class := { plain "jdk/internal/util/Preconditions" (some 0) with
  accessFlags := 33
  interfaces := #[]
  cf := some (fileOf pool11 24 #[.nestMembers #[55, 131, 125, 114]] #[{ accessFlags := 1, nameIndex := 5, descriptorIndex := 6, attributes := #[] }, { accessFlags := 9, nameIndex := 33, descriptorIndex := 178, attributes := #[] }] 33 2 #[] #[{ accessFlags := 25, nameIndex := 123, descriptorIndex := 124, attributes := #[] }, { accessFlags := 25, nameIndex := 130, descriptorIndex := 124, attributes := #[] }, { accessFlags := 25, nameIndex := 136, descriptorIndex := 124, attributes := #[] }])
  fields := #[{ name := "SIOOBE_FORMATTER", type := (.object "java/util/function/BiFunction"), accessFlags := 25, slot := 0, constantValue := 0 }, { name := "AIOOBE_FORMATTER", type := (.object "java/util/function/BiFunction"), accessFlags := 25, slot := 1, constantValue := 0 }, { name := "IOOBE_FORMATTER", type := (.object "java/util/function/BiFunction"), accessFlags := 25, slot := 2, constantValue := 0 }]
  methods := #[k11m0, k11m1]
  instanceTypes := #[]
  staticTypes := #[(.object "java/util/function/BiFunction"), (.object "java/util/function/BiFunction"), (.object "java/util/function/BiFunction")]
  resolved := Array.replicate 194 none
  statics := some 1 }

def pool12 : Array CpInfo := pool [(1, .class_ 2), (0, u "java/lang/Character"), (18, u "value"), (0, u "C"), (19, .class_ 44), (1, u "java/lang/Object"), (3, .class_ 50), (1, u "java/lang/Character$CharacterCache"), (22, .integer 65536), (100, u "(I)I"), (109, u "$assertionsDisabled"), (0, u "Z"), (21, .class_ 309), (1, u "java/lang/Character$UnicodeBlock"), (73, u "TYPE"), (0, u "Ljava/lang/Class;"), (0, .class_ 386), (0, u "java/io/Serializable"), (0, .class_ 388), (0, u "java/lang/Comparable"), (0, .class_ 390), (0, u "java/lang/constant/Constable"), (0, u "MIN_RADIX"), (0, u "I"), (2, u "MAX_RADIX"), (1, u "MIN_VALUE"), (1, u "MAX_VALUE"), (3, u "UNASSIGNED"), (0, u "B"), (0, u "UPPERCASE_LETTER"), (1, u "LOWERCASE_LETTER"), (0, u "TITLECASE_LETTER"), (1, u "MODIFIER_LETTER"), (1, u "OTHER_LETTER"), (1, u "NON_SPACING_MARK"), (1, u "ENCLOSING_MARK"), (1, u "COMBINING_SPACING_MARK"), (1, u "DECIMAL_DIGIT_NUMBER"), (1, u "LETTER_NUMBER"), (1, u "OTHER_NUMBER"), (1, u "SPACE_SEPARATOR"), (1, u "LINE_SEPARATOR"), (1, u "PARAGRAPH_SEPARATOR"), (1, u "CONTROL"), (1, u "FORMAT"), (1, u "PRIVATE_USE"), (1, u "SURROGATE"), (1, u "DASH_PUNCTUATION"), (1, u "START_PUNCTUATION"), (1, u "END_PUNCTUATION"), (1, u "CONNECTOR_PUNCTUATION"), (1, u "OTHER_PUNCTUATION"), (1, u "MATH_SYMBOL"), (1, u "CURRENCY_SYMBOL"), (1, u "MODIFIER_SYMBOL"), (1, u "OTHER_SYMBOL"), (1, u "INITIAL_QUOTE_PUNCTUATION"), (1, u "FINAL_QUOTE_PUNCTUATION"), (1, u "ERROR"), (1, u "DIRECTIONALITY_UNDEFINED"), (0, u "DIRECTIONALITY_LEFT_TO_RIGHT"), (0, u "DIRECTIONALITY_RIGHT_TO_LEFT"), (0, u "DIRECTIONALITY_RIGHT_TO_LEFT_ARABIC"), (0, u "DIRECTIONALITY_EUROPEAN_NUMBER"), (0, u "DIRECTIONALITY_EUROPEAN_NUMBER_SEPARATOR"), (0, u "DIRECTIONALITY_EUROPEAN_NUMBER_TERMINATOR"), (0, u "DIRECTIONALITY_ARABIC_NUMBER"), (0, u "DIRECTIONALITY_COMMON_NUMBER_SEPARATOR"), (0, u "DIRECTIONALITY_NONSPACING_MARK"), (0, u "DIRECTIONALITY_BOUNDARY_NEUTRAL"), (0, u "DIRECTIONALITY_PARAGRAPH_SEPARATOR"), (0, u "DIRECTIONALITY_SEGMENT_SEPARATOR"), (0, u "DIRECTIONALITY_WHITESPACE"), (0, u "DIRECTIONALITY_OTHER_NEUTRALS"), (0, u "DIRECTIONALITY_LEFT_TO_RIGHT_EMBEDDING"), (0, u "DIRECTIONALITY_LEFT_TO_RIGHT_OVERRIDE"), (0, u "DIRECTIONALITY_RIGHT_TO_LEFT_EMBEDDING"), (0, u "DIRECTIONALITY_RIGHT_TO_LEFT_OVERRIDE"), (1, u "DIRECTIONALITY_POP_DIRECTIONAL_FORMAT"), (0, u "DIRECTIONALITY_LEFT_TO_RIGHT_ISOLATE"), (0, u "DIRECTIONALITY_RIGHT_TO_LEFT_ISOLATE"), (0, u "DIRECTIONALITY_FIRST_STRONG_ISOLATE"), (0, u "DIRECTIONALITY_POP_DIRECTIONAL_ISOLATE"), (0, u "MIN_HIGH_SURROGATE"), (0, u "MAX_HIGH_SURROGATE"), (1, u "MIN_LOW_SURROGATE"), (0, u "MAX_LOW_SURROGATE"), (1, u "MIN_SURROGATE"), (0, u "MAX_SURROGATE"), (0, u "MIN_SUPPLEMENTARY_CODE_POINT"), (0, u "MIN_CODE_POINT"), (0, u "MAX_CODE_POINT"), (1, u "serialVersionUID"), (0, u "J"), (2, u "SIZE"), (0, u "BYTES"), (29, u "charCount"), (58, .class_ 596), (0, u "java/lang/Character$UnicodeScript"), (0, .class_ 598), (0, u "java/lang/Character$Subset")] 5

def k12c0 : Code := { maxStack := 2, maxLocals := 1, code := jdk_89_method_18_code, exceptionTable := #[], attributes := #[] }
def k12m0 : Method := { name := "charCount", desc := "(I)I", sig := { parameters := [.int], returnType := some .int }, accessFlags := 9, code := some k12c0 }
/-- java/lang/Character -/
def k12 : Class := { plain "java/lang/Character" (some 0) with
  accessFlags := 49
  interfaces := #[2, 3, 5]
  cf := some (fileOf pool12 1 #[.nestMembers #[48, 595, 307, 597]] #[{ accessFlags := 9, nameIndex := 536, descriptorIndex := 174, attributes := #[] }] 49 42 #[385, 387, 389] #[{ accessFlags := 25, nameIndex := 391, descriptorIndex := 392, attributes := #[] }, { accessFlags := 25, nameIndex := 395, descriptorIndex := 392, attributes := #[] }, { accessFlags := 25, nameIndex := 397, descriptorIndex := 22, attributes := #[] }, { accessFlags := 25, nameIndex := 399, descriptorIndex := 22, attributes := #[] }, { accessFlags := 25, nameIndex := 383, descriptorIndex := 384, attributes := #[] }, { accessFlags := 25, nameIndex := 403, descriptorIndex := 404, attributes := #[] }, { accessFlags := 25, nameIndex := 405, descriptorIndex := 404, attributes := #[] }, { accessFlags := 25, nameIndex := 407, descriptorIndex := 404, attributes := #[] }, { accessFlags := 25, nameIndex := 408, descriptorIndex := 404, attributes := #[] }, { accessFlags := 25, nameIndex := 410, descriptorIndex := 404, attributes := #[] }, { accessFlags := 25, nameIndex := 412, descriptorIndex := 404, attributes := #[] }, { accessFlags := 25, nameIndex := 414, descriptorIndex := 404, attributes := #[] }, { accessFlags := 25, nameIndex := 416, descriptorIndex := 404, attributes := #[] }, { accessFlags := 25, nameIndex := 418, descriptorIndex := 404, attributes := #[] }, { accessFlags := 25, nameIndex := 420, descriptorIndex := 404, attributes := #[] }, { accessFlags := 25, nameIndex := 422, descriptorIndex := 404, attributes := #[] }, { accessFlags := 25, nameIndex := 424, descriptorIndex := 404, attributes := #[] }, { accessFlags := 25, nameIndex := 426, descriptorIndex := 404, attributes := #[] }, { accessFlags := 25, nameIndex := 428, descriptorIndex := 404, attributes := #[] }, { accessFlags := 25, nameIndex := 430, descriptorIndex := 404, attributes := #[] }, { accessFlags := 25, nameIndex := 432, descriptorIndex := 404, attributes := #[] }, { accessFlags := 25, nameIndex := 434, descriptorIndex := 404, attributes := #[] }, { accessFlags := 25, nameIndex := 436, descriptorIndex := 404, attributes := #[] }, { accessFlags := 25, nameIndex := 438, descriptorIndex := 404, attributes := #[] }, { accessFlags := 25, nameIndex := 440, descriptorIndex := 404, attributes := #[] }, { accessFlags := 25, nameIndex := 442, descriptorIndex := 404, attributes := #[] }, { accessFlags := 25, nameIndex := 444, descriptorIndex := 404, attributes := #[] }, { accessFlags := 25, nameIndex := 446, descriptorIndex := 404, attributes := #[] }, { accessFlags := 25, nameIndex := 448, descriptorIndex := 404, attributes := #[] }, { accessFlags := 25, nameIndex := 450, descriptorIndex := 404, attributes := #[] }, { accessFlags := 25, nameIndex := 452, descriptorIndex := 404, attributes := #[] }, { accessFlags := 25, nameIndex := 454, descriptorIndex := 404, attributes := #[] }, { accessFlags := 25, nameIndex := 456, descriptorIndex := 404, attributes := #[] }, { accessFlags := 25, nameIndex := 458, descriptorIndex := 404, attributes := #[] }, { accessFlags := 25, nameIndex := 460, descriptorIndex := 404, attributes := #[] }, { accessFlags := 24, nameIndex := 462, descriptorIndex := 392, attributes := #[] }, { accessFlags := 25, nameIndex := 464, descriptorIndex := 404, attributes := #[] }, { accessFlags := 25, nameIndex := 465, descriptorIndex := 404, attributes := #[] }, { accessFlags := 25, nameIndex := 466, descriptorIndex := 404, attributes := #[] }, { accessFlags := 25, nameIndex := 467, descriptorIndex := 404, attributes := #[] }, { accessFlags := 25, nameIndex := 468, descriptorIndex := 404, attributes := #[] }, { accessFlags := 25, nameIndex := 469, descriptorIndex := 404, attributes := #[] }, { accessFlags := 25, nameIndex := 470, descriptorIndex := 404, attributes := #[] }, { accessFlags := 25, nameIndex := 471, descriptorIndex := 404, attributes := #[] }, { accessFlags := 25, nameIndex := 472, descriptorIndex := 404, attributes := #[] }, { accessFlags := 25, nameIndex := 473, descriptorIndex := 404, attributes := #[] }, { accessFlags := 25, nameIndex := 474, descriptorIndex := 404, attributes := #[] }, { accessFlags := 25, nameIndex := 475, descriptorIndex := 404, attributes := #[] }, { accessFlags := 25, nameIndex := 476, descriptorIndex := 404, attributes := #[] }, { accessFlags := 25, nameIndex := 477, descriptorIndex := 404, attributes := #[] }, { accessFlags := 25, nameIndex := 478, descriptorIndex := 404, attributes := #[] }, { accessFlags := 25, nameIndex := 479, descriptorIndex := 404, attributes := #[] }, { accessFlags := 25, nameIndex := 480, descriptorIndex := 404, attributes := #[] }, { accessFlags := 25, nameIndex := 481, descriptorIndex := 404, attributes := #[] }, { accessFlags := 25, nameIndex := 482, descriptorIndex := 404, attributes := #[] }, { accessFlags := 25, nameIndex := 484, descriptorIndex := 404, attributes := #[] }, { accessFlags := 25, nameIndex := 485, descriptorIndex := 404, attributes := #[] }, { accessFlags := 25, nameIndex := 486, descriptorIndex := 404, attributes := #[] }, { accessFlags := 25, nameIndex := 487, descriptorIndex := 404, attributes := #[] }, { accessFlags := 25, nameIndex := 488, descriptorIndex := 404, attributes := #[] }, { accessFlags := 25, nameIndex := 489, descriptorIndex := 22, attributes := #[] }, { accessFlags := 25, nameIndex := 490, descriptorIndex := 22, attributes := #[] }, { accessFlags := 25, nameIndex := 492, descriptorIndex := 22, attributes := #[] }, { accessFlags := 25, nameIndex := 493, descriptorIndex := 22, attributes := #[] }, { accessFlags := 25, nameIndex := 495, descriptorIndex := 22, attributes := #[] }, { accessFlags := 25, nameIndex := 496, descriptorIndex := 22, attributes := #[] }, { accessFlags := 25, nameIndex := 497, descriptorIndex := 392, attributes := #[] }, { accessFlags := 25, nameIndex := 498, descriptorIndex := 392, attributes := #[] }, { accessFlags := 25, nameIndex := 499, descriptorIndex := 392, attributes := #[] }, { accessFlags := 18, nameIndex := 21, descriptorIndex := 22, attributes := #[] }, { accessFlags := 26, nameIndex := 501, descriptorIndex := 502, attributes := #[] }, { accessFlags := 25, nameIndex := 505, descriptorIndex := 392, attributes := #[] }, { accessFlags := 25, nameIndex := 506, descriptorIndex := 392, attributes := #[] }, { accessFlags := 4120, nameIndex := 284, descriptorIndex := 285, attributes := #[] }])
  fields := #[{ name := "MIN_RADIX", type := .int, accessFlags := 25, slot := 0, constantValue := 0 }, { name := "MAX_RADIX", type := .int, accessFlags := 25, slot := 1, constantValue := 0 }, { name := "MIN_VALUE", type := .char, accessFlags := 25, slot := 2, constantValue := 0 }, { name := "MAX_VALUE", type := .char, accessFlags := 25, slot := 3, constantValue := 0 }, { name := "TYPE", type := (.object "java/lang/Class"), accessFlags := 25, slot := 4, constantValue := 0 }, { name := "UNASSIGNED", type := .byte, accessFlags := 25, slot := 5, constantValue := 0 }, { name := "UPPERCASE_LETTER", type := .byte, accessFlags := 25, slot := 6, constantValue := 0 }, { name := "LOWERCASE_LETTER", type := .byte, accessFlags := 25, slot := 7, constantValue := 0 }, { name := "TITLECASE_LETTER", type := .byte, accessFlags := 25, slot := 8, constantValue := 0 }, { name := "MODIFIER_LETTER", type := .byte, accessFlags := 25, slot := 9, constantValue := 0 }, { name := "OTHER_LETTER", type := .byte, accessFlags := 25, slot := 10, constantValue := 0 }, { name := "NON_SPACING_MARK", type := .byte, accessFlags := 25, slot := 11, constantValue := 0 }, { name := "ENCLOSING_MARK", type := .byte, accessFlags := 25, slot := 12, constantValue := 0 }, { name := "COMBINING_SPACING_MARK", type := .byte, accessFlags := 25, slot := 13, constantValue := 0 }, { name := "DECIMAL_DIGIT_NUMBER", type := .byte, accessFlags := 25, slot := 14, constantValue := 0 }, { name := "LETTER_NUMBER", type := .byte, accessFlags := 25, slot := 15, constantValue := 0 }, { name := "OTHER_NUMBER", type := .byte, accessFlags := 25, slot := 16, constantValue := 0 }, { name := "SPACE_SEPARATOR", type := .byte, accessFlags := 25, slot := 17, constantValue := 0 }, { name := "LINE_SEPARATOR", type := .byte, accessFlags := 25, slot := 18, constantValue := 0 }, { name := "PARAGRAPH_SEPARATOR", type := .byte, accessFlags := 25, slot := 19, constantValue := 0 }, { name := "CONTROL", type := .byte, accessFlags := 25, slot := 20, constantValue := 0 }, { name := "FORMAT", type := .byte, accessFlags := 25, slot := 21, constantValue := 0 }, { name := "PRIVATE_USE", type := .byte, accessFlags := 25, slot := 22, constantValue := 0 }, { name := "SURROGATE", type := .byte, accessFlags := 25, slot := 23, constantValue := 0 }, { name := "DASH_PUNCTUATION", type := .byte, accessFlags := 25, slot := 24, constantValue := 0 }, { name := "START_PUNCTUATION", type := .byte, accessFlags := 25, slot := 25, constantValue := 0 }, { name := "END_PUNCTUATION", type := .byte, accessFlags := 25, slot := 26, constantValue := 0 }, { name := "CONNECTOR_PUNCTUATION", type := .byte, accessFlags := 25, slot := 27, constantValue := 0 }, { name := "OTHER_PUNCTUATION", type := .byte, accessFlags := 25, slot := 28, constantValue := 0 }, { name := "MATH_SYMBOL", type := .byte, accessFlags := 25, slot := 29, constantValue := 0 }, { name := "CURRENCY_SYMBOL", type := .byte, accessFlags := 25, slot := 30, constantValue := 0 }, { name := "MODIFIER_SYMBOL", type := .byte, accessFlags := 25, slot := 31, constantValue := 0 }, { name := "OTHER_SYMBOL", type := .byte, accessFlags := 25, slot := 32, constantValue := 0 }, { name := "INITIAL_QUOTE_PUNCTUATION", type := .byte, accessFlags := 25, slot := 33, constantValue := 0 }, { name := "FINAL_QUOTE_PUNCTUATION", type := .byte, accessFlags := 25, slot := 34, constantValue := 0 }, { name := "ERROR", type := .int, accessFlags := 24, slot := 35, constantValue := 0 }, { name := "DIRECTIONALITY_UNDEFINED", type := .byte, accessFlags := 25, slot := 36, constantValue := 0 }, { name := "DIRECTIONALITY_LEFT_TO_RIGHT", type := .byte, accessFlags := 25, slot := 37, constantValue := 0 }, { name := "DIRECTIONALITY_RIGHT_TO_LEFT", type := .byte, accessFlags := 25, slot := 38, constantValue := 0 }, { name := "DIRECTIONALITY_RIGHT_TO_LEFT_ARABIC", type := .byte, accessFlags := 25, slot := 39, constantValue := 0 }, { name := "DIRECTIONALITY_EUROPEAN_NUMBER", type := .byte, accessFlags := 25, slot := 40, constantValue := 0 }, { name := "DIRECTIONALITY_EUROPEAN_NUMBER_SEPARATOR", type := .byte, accessFlags := 25, slot := 41, constantValue := 0 }, { name := "DIRECTIONALITY_EUROPEAN_NUMBER_TERMINATOR", type := .byte, accessFlags := 25, slot := 42, constantValue := 0 }, { name := "DIRECTIONALITY_ARABIC_NUMBER", type := .byte, accessFlags := 25, slot := 43, constantValue := 0 }, { name := "DIRECTIONALITY_COMMON_NUMBER_SEPARATOR", type := .byte, accessFlags := 25, slot := 44, constantValue := 0 }, { name := "DIRECTIONALITY_NONSPACING_MARK", type := .byte, accessFlags := 25, slot := 45, constantValue := 0 }, { name := "DIRECTIONALITY_BOUNDARY_NEUTRAL", type := .byte, accessFlags := 25, slot := 46, constantValue := 0 }, { name := "DIRECTIONALITY_PARAGRAPH_SEPARATOR", type := .byte, accessFlags := 25, slot := 47, constantValue := 0 }, { name := "DIRECTIONALITY_SEGMENT_SEPARATOR", type := .byte, accessFlags := 25, slot := 48, constantValue := 0 }, { name := "DIRECTIONALITY_WHITESPACE", type := .byte, accessFlags := 25, slot := 49, constantValue := 0 }, { name := "DIRECTIONALITY_OTHER_NEUTRALS", type := .byte, accessFlags := 25, slot := 50, constantValue := 0 }, { name := "DIRECTIONALITY_LEFT_TO_RIGHT_EMBEDDING", type := .byte, accessFlags := 25, slot := 51, constantValue := 0 }, { name := "DIRECTIONALITY_LEFT_TO_RIGHT_OVERRIDE", type := .byte, accessFlags := 25, slot := 52, constantValue := 0 }, { name := "DIRECTIONALITY_RIGHT_TO_LEFT_EMBEDDING", type := .byte, accessFlags := 25, slot := 53, constantValue := 0 }, { name := "DIRECTIONALITY_RIGHT_TO_LEFT_OVERRIDE", type := .byte, accessFlags := 25, slot := 54, constantValue := 0 }, { name := "DIRECTIONALITY_POP_DIRECTIONAL_FORMAT", type := .byte, accessFlags := 25, slot := 55, constantValue := 0 }, { name := "DIRECTIONALITY_LEFT_TO_RIGHT_ISOLATE", type := .byte, accessFlags := 25, slot := 56, constantValue := 0 }, { name := "DIRECTIONALITY_RIGHT_TO_LEFT_ISOLATE", type := .byte, accessFlags := 25, slot := 57, constantValue := 0 }, { name := "DIRECTIONALITY_FIRST_STRONG_ISOLATE", type := .byte, accessFlags := 25, slot := 58, constantValue := 0 }, { name := "DIRECTIONALITY_POP_DIRECTIONAL_ISOLATE", type := .byte, accessFlags := 25, slot := 59, constantValue := 0 }, { name := "MIN_HIGH_SURROGATE", type := .char, accessFlags := 25, slot := 60, constantValue := 0 }, { name := "MAX_HIGH_SURROGATE", type := .char, accessFlags := 25, slot := 61, constantValue := 0 }, { name := "MIN_LOW_SURROGATE", type := .char, accessFlags := 25, slot := 62, constantValue := 0 }, { name := "MAX_LOW_SURROGATE", type := .char, accessFlags := 25, slot := 63, constantValue := 0 }, { name := "MIN_SURROGATE", type := .char, accessFlags := 25, slot := 64, constantValue := 0 }, { name := "MAX_SURROGATE", type := .char, accessFlags := 25, slot := 65, constantValue := 0 }, { name := "MIN_SUPPLEMENTARY_CODE_POINT", type := .int, accessFlags := 25, slot := 66, constantValue := 0 }, { name := "MIN_CODE_POINT", type := .int, accessFlags := 25, slot := 67, constantValue := 0 }, { name := "MAX_CODE_POINT", type := .int, accessFlags := 25, slot := 68, constantValue := 0 }, { name := "value", type := .char, accessFlags := 18, slot := 0, constantValue := 0 }, { name := "serialVersionUID", type := .long, accessFlags := 26, slot := 69, constantValue := 0 }, { name := "SIZE", type := .int, accessFlags := 25, slot := 70, constantValue := 0 }, { name := "BYTES", type := .int, accessFlags := 25, slot := 71, constantValue := 0 }, { name := "$assertionsDisabled", type := .boolean, accessFlags := 4120, slot := 72, constantValue := 0 }]
  methods := #[k12m0]
  instanceTypes := #[.char]
  staticTypes := #[.int, .int, .char, .char, (.object "java/lang/Class"), .byte, .byte, .byte, .byte, .byte, .byte, .byte, .byte, .byte, .byte, .byte, .byte, .byte, .byte, .byte, .byte, .byte, .byte, .byte, .byte, .byte, .byte, .byte, .byte, .byte, .byte, .byte, .byte, .byte, .byte, .int, .byte, .byte, .byte, .byte, .byte, .byte, .byte, .byte, .byte, .byte, .byte, .byte, .byte, .byte, .byte, .byte, .byte, .byte, .byte, .byte, .byte, .byte, .byte, .byte, .char, .char, .char, .char, .char, .char, .int, .int, .int, .long, .int, .int, .boolean]
  resolved := Array.replicate 604 none
  statics := none }

def pool13 : Array CpInfo := pool [(1, .class_ 2), (0, u "java/lang/Appendable"), (0, .class_ 4), (0, u "java/lang/Object")] 9

/-- java/lang/Appendable -/
def k13 : Class := { plain "java/lang/Appendable" (some 0) with
  accessFlags := 1537
  interfaces := #[]
  cf := some (fileOf pool13 1 #[] #[] 1537 3 #[] #[])
  fields := #[]
  methods := #[]
  instanceTypes := #[]
  staticTypes := #[]
  resolved := Array.replicate 14 none
  statics := none }

def pool14 : Array CpInfo := pool [(1, .class_ 2), (0, u "java/lang/String"), (0, .methodref 4 5), (0, .class_ 6), (0, .nameAndType 7 8), (0, u "java/lang/Object"), (0, u "<init>"), (0, u "()V"), (1, .class_ 12), (1, u "java/lang/AbstractStringBuilder"), (0, u "EMPTYVALUE"), (0, u "[B"), (0, .fieldref 10 16), (0, .nameAndType 17 14), (0, u "value"), (0, .fieldref 1 19), (0, .nameAndType 20 21), (0, u "COMPACT_STRINGS"), (0, u "Z"), (0, .fieldref 10 23), (0, .nameAndType 24 25), (0, u "coder"), (0, u "B"), (6, .methodref 1 33), (0, .nameAndType 34 35), (0, u "length"), (0, u "()I"), (3, .integer 2147483647), (0, .methodref 1 41), (0, .nameAndType 24 42), (0, u "()B"), (2, u "append"), (0, u "(Ljava/lang/String;)Ljava/lang/AbstractStringBuilder;"), (1, .class_ 49), (0, u "java/lang/CharSequence"), (19, u "(Ljava/lang/String;)V"), (5, u "maybeLatin1"), (3, .fieldref 10 80), (0, .nameAndType 81 82), (0, u "count"), (0, u "I"), (2, u "isLatin1"), (0, u "()Z"), (13, .methodref 10 101), (0, .nameAndType 102 103), (0, u "ensureCapacityInternal"), (0, u "(I)V"), (0, .methodref 10 105), (0, .nameAndType 106 107), (0, u "newCapacity"), (0, u "(I)I"), (0, .methodref 109 110), (0, .class_ 111), (0, .nameAndType 112 113), (0, u "java/util/Arrays"), (0, u "copyOf"), (0, u "([BI)[B"), (0, .methodref 115 116), (0, .class_ 117), (0, .nameAndType 118 119), (0, u "jdk/internal/util/ArraysSupport"), (0, u "newLength"), (0, u "(III)I"), (88, .methodref 10 209), (0, .nameAndType 210 211), (0, u "putStringAt"), (0, u "(ILjava/lang/String;)V"), (5, u "inflateIfNeededFor"), (2, .nameAndType 221 222), (0, u "getBytes"), (0, u "([BIB)V"), (174, .methodref 10 398), (0, .nameAndType 217 69), (0, .methodref 1 220), (3, u "()[B"), (40, .class_ 445), (0, u "java/lang/Appendable"), (106, u "getValue")] 56

def k14m0 : Method := { name := "<init>", desc := "()V", sig := { parameters := [], returnType := none }, accessFlags := 0, code := none }
def k14c1 : Code := { maxStack := 2, maxLocals := 2, code := jdk_68_method_2_code, exceptionTable := #[], attributes := #[] }
def k14m1 : Method := { name := "<init>", desc := "(I)V", sig := { parameters := [.int], returnType := none }, accessFlags := 0, code := some k14c1 }
def k14c2 : Code := { maxStack := 1, maxLocals := 1, code := jdk_68_method_6_code, exceptionTable := #[], attributes := #[] }
def k14m2 : Method := { name := "length", desc := "()I", sig := { parameters := [], returnType := some .int }, accessFlags := 1, code := some k14c2 }
def k14c3 : Code := { maxStack := 4, maxLocals := 3, code := jdk_68_method_9_code, exceptionTable := #[], attributes := #[] }
def k14m3 : Method := { name := "ensureCapacityInternal", desc := "(I)V", sig := { parameters := [.int], returnType := none }, accessFlags := 2, code := some k14c3 }
def k14c4 : Code := { maxStack := 5, maxLocals := 6, code := jdk_68_method_10_code, exceptionTable := #[], attributes := #[] }
def k14m4 : Method := { name := "newCapacity", desc := "(I)I", sig := { parameters := [.int], returnType := some .int }, accessFlags := 2, code := some k14c4 }
def k14c5 : Code := { maxStack := 3, maxLocals := 3, code := jdk_68_method_22_code, exceptionTable := #[], attributes := #[] }
def k14m5 : Method := { name := "append", desc := "(Ljava/lang/String;)Ljava/lang/AbstractStringBuilder;", sig := { parameters := [(.object "java/lang/String")], returnType := some (.object "java/lang/AbstractStringBuilder") }, accessFlags := 1, code := some k14c5 }
def k14c6 : Code := { maxStack := 1, maxLocals := 1, code := jdk_68_method_64_code, exceptionTable := #[], attributes := #[] }
def k14m6 : Method := { name := "getValue", desc := "()[B", sig := { parameters := [], returnType := some (.array .byte) }, accessFlags := 16, code := some k14c6 }
def k14c7 : Code := { maxStack := 1, maxLocals := 1, code := jdk_68_method_68_code, exceptionTable := #[], attributes := #[] }
def k14m7 : Method := { name := "isLatin1", desc := "()Z", sig := { parameters := [], returnType := some .boolean }, accessFlags := 16, code := some k14c7 }
def k14c8 : Code := { maxStack := 2, maxLocals := 2, code := jdk_68_method_71_code, exceptionTable := #[], attributes := #[] }
def k14m8 : Method := { name := "inflateIfNeededFor", desc := "(Ljava/lang/String;)V", sig := { parameters := [(.object "java/lang/String")], returnType := none }, accessFlags := 2, code := some k14c8 }
def k14c9 : Code := { maxStack := 4, maxLocals := 3, code := jdk_68_method_73_code, exceptionTable := #[], attributes := #[] }
def k14m9 : Method := { name := "putStringAt", desc := "(ILjava/lang/String;)V", sig := { parameters := [.int, (.object "java/lang/String")], returnType := none }, accessFlags := 2, code := some k14c9 }
/-- java/lang/AbstractStringBuilder -/
def k14 : Class := { plain "java/lang/AbstractStringBuilder" (some 0) with
  accessFlags := 1056
  interfaces := #[13, 4]
  cf := some (fileOf pool14 10 #[] #[{ accessFlags := 0, nameIndex := 7, descriptorIndex := 8, attributes := #[] }, { accessFlags := 0, nameIndex := 7, descriptorIndex := 103, attributes := #[] }, { accessFlags := 1, nameIndex := 34, descriptorIndex := 35, attributes := #[] }, { accessFlags := 2, nameIndex := 102, descriptorIndex := 103, attributes := #[] }, { accessFlags := 2, nameIndex := 106, descriptorIndex := 107, attributes := #[] }, { accessFlags := 1, nameIndex := 45, descriptorIndex := 46, attributes := #[] }, { accessFlags := 16, nameIndex := 552, descriptorIndex := 403, attributes := #[] }, { accessFlags := 16, nameIndex := 85, descriptorIndex := 86, attributes := #[] }, { accessFlags := 2, nameIndex := 217, descriptorIndex := 69, attributes := #[] }, { accessFlags := 2, nameIndex := 210, descriptorIndex := 211, attributes := #[] }] 1056 4 #[444, 48] #[{ accessFlags := 0, nameIndex := 17, descriptorIndex := 14, attributes := #[] }, { accessFlags := 0, nameIndex := 24, descriptorIndex := 25, attributes := #[] }, { accessFlags := 0, nameIndex := 75, descriptorIndex := 21, attributes := #[] }, { accessFlags := 0, nameIndex := 81, descriptorIndex := 82, attributes := #[] }, { accessFlags := 26, nameIndex := 13, descriptorIndex := 14, attributes := #[] }])
  fields := #[{ name := "value", type := (.array .byte), accessFlags := 0, slot := 0, constantValue := 0 }, { name := "coder", type := .byte, accessFlags := 0, slot := 1, constantValue := 0 }, { name := "maybeLatin1", type := .boolean, accessFlags := 0, slot := 2, constantValue := 0 }, { name := "count", type := .int, accessFlags := 0, slot := 3, constantValue := 0 }, { name := "EMPTYVALUE", type := (.array .byte), accessFlags := 26, slot := 0, constantValue := 0 }]
  methods := #[k14m0, k14m1, k14m2, k14m3, k14m4, k14m5, k14m6, k14m7, k14m8, k14m9]
  instanceTypes := #[(.array .byte), .byte, .boolean, .int]
  staticTypes := #[(.array .byte)]
  resolved := Array.replicate 609 none
  statics := none }

def pool15 : Array CpInfo := pool [(1, .methodref 2 3), (0, .class_ 4), (0, .nameAndType 5 6), (0, u "java/lang/AbstractStringBuilder"), (0, u "<init>"), (0, u "(I)V"), (11, .class_ 20), (1, u "java/lang/String"), (3, .class_ 26), (1, u "java/lang/StringBuilder"), (0, u "append"), (0, u "(Ljava/lang/String;)Ljava/lang/StringBuilder;"), (0, .methodref 2 30), (0, .nameAndType 27 31), (0, u "(Ljava/lang/String;)Ljava/lang/AbstractStringBuilder;"), (105, .methodref 18 138), (0, .nameAndType 5 139), (0, u "(Ljava/lang/StringBuilder;)V"), (5, u "()V"), (10, u "()I"), (186, .methodref 2 344), (0, .nameAndType 345 156), (0, u "length"), (3, .class_ 350), (0, u "java/lang/Appendable"), (0, .class_ 352), (0, u "java/io/Serializable"), (0, .class_ 354), (0, u "java/lang/Comparable"), (0, .class_ 356), (0, u "java/lang/CharSequence"), (0, u "serialVersionUID"), (0, u "J"), (40, u "toString"), (0, u "()Ljava/lang/String;")] 21

def k15c0 : Code := { maxStack := 2, maxLocals := 1, code := jdk_67_method_1_code, exceptionTable := #[], attributes := #[] }
def k15m0 : Method := { name := "<init>", desc := "()V", sig := { parameters := [], returnType := none }, accessFlags := 1, code := some k15c0 }
def k15c1 : Code := { maxStack := 2, maxLocals := 2, code := jdk_67_method_7_code, exceptionTable := #[], attributes := #[] }
def k15m1 : Method := { name := "append", desc := "(Ljava/lang/String;)Ljava/lang/StringBuilder;", sig := { parameters := [(.object "java/lang/String")], returnType := some (.object "java/lang/StringBuilder") }, accessFlags := 1, code := some k15c1 }
def k15c2 : Code := { maxStack := 3, maxLocals := 1, code := jdk_67_method_42_code, exceptionTable := #[], attributes := #[] }
def k15m2 : Method := { name := "toString", desc := "()Ljava/lang/String;", sig := { parameters := [], returnType := some (.object "java/lang/String") }, accessFlags := 1, code := some k15c2 }
def k15c3 : Code := { maxStack := 1, maxLocals := 1, code := jdk_67_method_93_code, exceptionTable := #[], attributes := #[] }
def k15m3 : Method := { name := "length", desc := "()I", sig := { parameters := [], returnType := some .int }, accessFlags := 4161, code := some k15c3 }
/-- java/lang/StringBuilder -/
def k15 : Class := { plain "java/lang/StringBuilder" (some 14) with
  accessFlags := 49
  interfaces := #[13, 2, 3, 4]
  cf := some (fileOf pool15 24 #[] #[{ accessFlags := 1, nameIndex := 5, descriptorIndex := 145, attributes := #[] }, { accessFlags := 1, nameIndex := 27, descriptorIndex := 28, attributes := #[] }, { accessFlags := 1, nameIndex := 399, descriptorIndex := 400, attributes := #[] }, { accessFlags := 4161, nameIndex := 345, descriptorIndex := 156, attributes := #[] }] 49 2 #[349, 351, 353, 355] #[{ accessFlags := 24, nameIndex := 357, descriptorIndex := 358, attributes := #[] }])
  fields := #[{ name := "serialVersionUID", type := .long, accessFlags := 24, slot := 0, constantValue := 0 }]
  methods := #[k15m0, k15m1, k15m2, k15m3]
  instanceTypes := #[(.array .byte), .byte, .boolean, .int]
  staticTypes := #[.long]
  resolved := Array.replicate 422 none
  statics := none }

def pool16 : Array CpInfo := pool [(2, .class_ 4), (1, u "java/lang/Object"), (0, u "<init>"), (0, u "()V"), (1, .class_ 10), (1, u "java/lang/System"), (0, u "allowSecurityManager"), (0, u "I"), (16, u "cons"), (0, u "Ljava/io/Console;"), (77, .class_ 110), (1, u "java/lang/System$CallersHolder"), (43, u "initialErrStream"), (0, u "Ljava/io/PrintStream;"), (19, u "security"), (0, u "Ljava/lang/SecurityManager;"), (31, .class_ 209), (0, u "java/lang/System$1"), (7, u "props"), (0, u "Ljava/util/Properties;"), (2, u "lineSeparator"), (0, u "Ljava/lang/String;"), (96, .class_ 321), (1, u "java/lang/System$LoggerFinder"), (5, .class_ 328), (0, u "java/lang/System$Logger"), (67, u "err"), (2, u "out"), (91, u "notSupportedJnuEncoding"), (15, u "in"), (17, u "initialIn"), (0, u "Ljava/io/InputStream;"), (35, u "bootLayer"), (0, u "Ljava/lang/ModuleLayer;"), (99, .class_ 664), (0, u "java/lang/System$2"), (9, u "NEVER"), (2, u "MAYBE"), (49, u "arraycopy"), (0, u "(Ljava/lang/Object;ILjava/lang/Object;II)V"), (72, .class_ 802), (0, u "java/lang/System$Logger$Level")] 31

def k16m0 : Method := { name := "<init>", desc := "()V", sig := { parameters := [], returnType := none }, accessFlags := 2, code := none }
def k16m1 : Method := { name := "arraycopy", desc := "(Ljava/lang/Object;ILjava/lang/Object;II)V", sig := { parameters := [(.object "java/lang/Object"), .int, (.object "java/lang/Object"), .int, .int], returnType := none }, accessFlags := 265, code := none }
/-- java/lang/System -/
def k16 : Class := { plain "java/lang/System" (some 0) with
  accessFlags := 49
  interfaces := #[]
  cf := some (fileOf pool16 8 #[.nestMembers #[319, 327, 801, 108, 663, 208]] #[{ accessFlags := 2, nameIndex := 5, descriptorIndex := 6, attributes := #[] }, { accessFlags := 265, nameIndex := 727, descriptorIndex := 728, attributes := #[] }] 49 2 #[] #[{ accessFlags := 25, nameIndex := 507, descriptorIndex := 526, attributes := #[] }, { accessFlags := 25, nameIndex := 399, descriptorIndex := 155, attributes := #[] }, { accessFlags := 25, nameIndex := 396, descriptorIndex := 155, attributes := #[] }, { accessFlags := 10, nameIndex := 525, descriptorIndex := 526, attributes := #[] }, { accessFlags := 26, nameIndex := 674, descriptorIndex := 12, attributes := #[] }, { accessFlags := 26, nameIndex := 677, descriptorIndex := 12, attributes := #[] }, { accessFlags := 10, nameIndex := 11, descriptorIndex := 12, attributes := #[] }, { accessFlags := 74, nameIndex := 175, descriptorIndex := 176, attributes := #[] }, { accessFlags := 10, nameIndex := 491, descriptorIndex := 222, attributes := #[] }, { accessFlags := 74, nameIndex := 29, descriptorIndex := 30, attributes := #[] }, { accessFlags := 74, nameIndex := 154, descriptorIndex := 155, attributes := #[] }, { accessFlags := 10, nameIndex := 217, descriptorIndex := 218, attributes := #[] }, { accessFlags := 10, nameIndex := 221, descriptorIndex := 222, attributes := #[] }, { accessFlags := 8, nameIndex := 562, descriptorIndex := 563, attributes := #[] }])
  fields := #[{ name := "in", type := (.object "java/io/InputStream"), accessFlags := 25, slot := 0, constantValue := 0 }, { name := "out", type := (.object "java/io/PrintStream"), accessFlags := 25, slot := 1, constantValue := 0 }, { name := "err", type := (.object "java/io/PrintStream"), accessFlags := 25, slot := 2, constantValue := 0 }, { name := "initialIn", type := (.object "java/io/InputStream"), accessFlags := 10, slot := 3, constantValue := 0 }, { name := "NEVER", type := .int, accessFlags := 26, slot := 4, constantValue := 0 }, { name := "MAYBE", type := .int, accessFlags := 26, slot := 5, constantValue := 0 }, { name := "allowSecurityManager", type := .int, accessFlags := 10, slot := 6, constantValue := 0 }, { name := "security", type := (.object "java/lang/SecurityManager"), accessFlags := 74, slot := 7, constantValue := 0 }, { name := "notSupportedJnuEncoding", type := (.object "java/lang/String"), accessFlags := 10, slot := 8, constantValue := 0 }, { name := "cons", type := (.object "java/io/Console"), accessFlags := 74, slot := 9, constantValue := 0 }, { name := "initialErrStream", type := (.object "java/io/PrintStream"), accessFlags := 74, slot := 10, constantValue := 0 }, { name := "props", type := (.object "java/util/Properties"), accessFlags := 10, slot := 11, constantValue := 0 }, { name := "lineSeparator", type := (.object "java/lang/String"), accessFlags := 10, slot := 12, constantValue := 0 }, { name := "bootLayer", type := (.object "java/lang/ModuleLayer"), accessFlags := 8, slot := 13, constantValue := 0 }]
  methods := #[k16m0, k16m1]
  instanceTypes := #[]
  staticTypes := #[(.object "java/io/InputStream"), (.object "java/io/PrintStream"), (.object "java/io/PrintStream"), (.object "java/io/InputStream"), .int, .int, .int, (.object "java/lang/SecurityManager"), (.object "java/lang/String"), (.object "java/io/Console"), (.object "java/io/PrintStream"), (.object "java/util/Properties"), (.object "java/lang/String"), (.object "java/lang/ModuleLayer")]
  resolved := Array.replicate 834 none
  statics := none }

def pool17 : Array CpInfo := pool [(9, u "<init>"), (6, .class_ 18), (1, u "java/lang/Object"), (0, u "()V"), (1, .class_ 23), (1, u "jdk/internal/util/ArraysSupport"), (0, u "LOG2_ARRAY_LONG_INDEX_SCALE"), (0, u "I"), (2, u "U"), (0, u "Ljdk/internal/misc/Unsafe;"), (8, u "BIG_ENDIAN"), (0, u "Z"), (8, u "LOG2_BYTE_BIT_SIZE"), (4, u "LOG2_ARRAY_INT_INDEX_SCALE"), (54, u "JLA"), (0, u "Ljdk/internal/access/JavaLangAccess;"), (11, u "LOG2_ARRAY_BOOLEAN_INDEX_SCALE"), (9, u "LOG2_ARRAY_BYTE_INDEX_SCALE"), (5, u "LOG2_ARRAY_CHAR_INDEX_SCALE"), (5, u "LOG2_ARRAY_SHORT_INDEX_SCALE"), (18, u "LOG2_ARRAY_FLOAT_INDEX_SCALE"), (24, u "LOG2_ARRAY_DOUBLE_INDEX_SCALE"), (6, .methodref 195 196), (0, .class_ 197), (0, .nameAndType 198 199), (0, u "java/lang/Math"), (0, u "max"), (0, u "(II)I"), (0, .integer 2147483639), (76, u "T_BOOLEAN"), (2, u "T_CHAR"), (1, u "T_FLOAT"), (1, u "T_DOUBLE"), (1, u "T_BYTE"), (1, u "T_SHORT"), (1, u "T_INT"), (1, u "T_LONG"), (1, u "SOFT_MAX_ARRAY_LENGTH"), (56, u "newLength"), (0, u "(III)I")] 25

def k17m0 : Method := { name := "<init>", desc := "()V", sig := { parameters := [], returnType := none }, accessFlags := 2, code := none }
def k17c1 : Code := { maxStack := 3, maxLocals := 4, code := jdk_48_method_27_code, exceptionTable := #[], attributes := #[] }
def k17m1 : Method := { name := "newLength", desc := "(III)I", sig := { parameters := [.int, .int, .int], returnType := some .int }, accessFlags := 9, code := some k17c1 }
/-- jdk/internal/util/ArraysSupport -/
def k17 : Class := { plain "jdk/internal/util/ArraysSupport" (some 0) with
  accessFlags := 33
  interfaces := #[]
  cf := some (fileOf pool17 21 #[] #[{ accessFlags := 2, nameIndex := 9, descriptorIndex := 19, attributes := #[] }, { accessFlags := 9, nameIndex := 351, descriptorIndex := 352, attributes := #[] }] 33 16 #[] #[{ accessFlags := 24, nameIndex := 28, descriptorIndex := 29, attributes := #[] }, { accessFlags := 26, nameIndex := 38, descriptorIndex := 39, attributes := #[] }, { accessFlags := 25, nameIndex := 121, descriptorIndex := 25, attributes := #[] }, { accessFlags := 25, nameIndex := 131, descriptorIndex := 25, attributes := #[] }, { accessFlags := 25, nameIndex := 137, descriptorIndex := 25, attributes := #[] }, { accessFlags := 25, nameIndex := 143, descriptorIndex := 25, attributes := #[] }, { accessFlags := 25, nameIndex := 53, descriptorIndex := 25, attributes := #[] }, { accessFlags := 25, nameIndex := 24, descriptorIndex := 25, attributes := #[] }, { accessFlags := 25, nameIndex := 162, descriptorIndex := 25, attributes := #[] }, { accessFlags := 25, nameIndex := 187, descriptorIndex := 25, attributes := #[] }, { accessFlags := 26, nameIndex := 48, descriptorIndex := 25, attributes := #[] }, { accessFlags := 25, nameIndex := 277, descriptorIndex := 25, attributes := #[] }, { accessFlags := 25, nameIndex := 280, descriptorIndex := 25, attributes := #[] }, { accessFlags := 25, nameIndex := 282, descriptorIndex := 25, attributes := #[] }, { accessFlags := 25, nameIndex := 284, descriptorIndex := 25, attributes := #[] }, { accessFlags := 25, nameIndex := 286, descriptorIndex := 25, attributes := #[] }, { accessFlags := 25, nameIndex := 288, descriptorIndex := 25, attributes := #[] }, { accessFlags := 25, nameIndex := 290, descriptorIndex := 25, attributes := #[] }, { accessFlags := 25, nameIndex := 292, descriptorIndex := 25, attributes := #[] }, { accessFlags := 26, nameIndex := 108, descriptorIndex := 109, attributes := #[] }, { accessFlags := 25, nameIndex := 294, descriptorIndex := 25, attributes := #[] }])
  fields := #[{ name := "U", type := (.object "jdk/internal/misc/Unsafe"), accessFlags := 24, slot := 0, constantValue := 0 }, { name := "BIG_ENDIAN", type := .boolean, accessFlags := 26, slot := 1, constantValue := 0 }, { name := "LOG2_ARRAY_BOOLEAN_INDEX_SCALE", type := .int, accessFlags := 25, slot := 2, constantValue := 0 }, { name := "LOG2_ARRAY_BYTE_INDEX_SCALE", type := .int, accessFlags := 25, slot := 3, constantValue := 0 }, { name := "LOG2_ARRAY_CHAR_INDEX_SCALE", type := .int, accessFlags := 25, slot := 4, constantValue := 0 }, { name := "LOG2_ARRAY_SHORT_INDEX_SCALE", type := .int, accessFlags := 25, slot := 5, constantValue := 0 }, { name := "LOG2_ARRAY_INT_INDEX_SCALE", type := .int, accessFlags := 25, slot := 6, constantValue := 0 }, { name := "LOG2_ARRAY_LONG_INDEX_SCALE", type := .int, accessFlags := 25, slot := 7, constantValue := 0 }, { name := "LOG2_ARRAY_FLOAT_INDEX_SCALE", type := .int, accessFlags := 25, slot := 8, constantValue := 0 }, { name := "LOG2_ARRAY_DOUBLE_INDEX_SCALE", type := .int, accessFlags := 25, slot := 9, constantValue := 0 }, { name := "LOG2_BYTE_BIT_SIZE", type := .int, accessFlags := 26, slot := 10, constantValue := 0 }, { name := "T_BOOLEAN", type := .int, accessFlags := 25, slot := 11, constantValue := 0 }, { name := "T_CHAR", type := .int, accessFlags := 25, slot := 12, constantValue := 0 }, { name := "T_FLOAT", type := .int, accessFlags := 25, slot := 13, constantValue := 0 }, { name := "T_DOUBLE", type := .int, accessFlags := 25, slot := 14, constantValue := 0 }, { name := "T_BYTE", type := .int, accessFlags := 25, slot := 15, constantValue := 0 }, { name := "T_SHORT", type := .int, accessFlags := 25, slot := 16, constantValue := 0 }, { name := "T_INT", type := .int, accessFlags := 25, slot := 17, constantValue := 0 }, { name := "T_LONG", type := .int, accessFlags := 25, slot := 18, constantValue := 0 }, { name := "JLA", type := (.object "jdk/internal/access/JavaLangAccess"), accessFlags := 26, slot := 19, constantValue := 0 }, { name := "SOFT_MAX_ARRAY_LENGTH", type := .int, accessFlags := 25, slot := 20, constantValue := 0 }]
  methods := #[k17m0, k17m1]
  instanceTypes := #[]
  staticTypes := #[(.object "jdk/internal/misc/Unsafe"), .boolean, .int, .int, .int, .int, .int, .int, .int, .int, .int, .int, .int, .int, .int, .int, .int, .int, .int, (.object "jdk/internal/access/JavaLangAccess"), .int]
  resolved := Array.replicate 378 none
  statics := none }

def pool18 : Array CpInfo := pool [(1, .class_ 2), (0, u "java/lang/Math"), (1, .class_ 6), (1, u "java/lang/Object"), (0, u "<init>"), (0, u "()V"), (89, .class_ 100), (1, u "java/lang/Math$RandomNumberGeneratorHolder"), (71, u "negativeZeroFloatBits"), (0, u "J"), (2, u "negativeZeroDoubleBits"), (21, u "max"), (2, u "min"), (43, u "$assertionsDisabled"), (0, u "Z"), (88, u "(II)I"), (2, u "twoToTheDoubleScaleDown"), (0, u "D"), (4, u "twoToTheDoubleScaleUp"), (9, u "E"), (3, u "PI"), (2, u "TAU"), (2, u "DEGREES_TO_RADIANS"), (0, u "RADIANS_TO_DEGREES")] 94

def k18m0 : Method := { name := "<init>", desc := "()V", sig := { parameters := [], returnType := none }, accessFlags := 2, code := none }
def k18c1 : Code := { maxStack := 2, maxLocals := 2, code := jdk_29_method_65_code, exceptionTable := #[], attributes := #[] }
def k18m1 : Method := { name := "max", desc := "(II)I", sig := { parameters := [.int, .int], returnType := some .int }, accessFlags := 9, code := some k18c1 }
def k18c2 : Code := { maxStack := 2, maxLocals := 2, code := jdk_29_method_69_code, exceptionTable := #[], attributes := #[] }
def k18m2 : Method := { name := "min", desc := "(II)I", sig := { parameters := [.int, .int], returnType := some .int }, accessFlags := 9, code := some k18c2 }
/-- java/lang/Math -/
def k18 : Class := { plain "java/lang/Math" (some 0) with
  accessFlags := 49
  interfaces := #[]
  cf := some (fileOf pool18 1 #[.nestMembers #[98]] #[{ accessFlags := 2, nameIndex := 7, descriptorIndex := 8, attributes := #[] }, { accessFlags := 9, nameIndex := 198, descriptorIndex := 335, attributes := #[] }, { accessFlags := 9, nameIndex := 201, descriptorIndex := 335, attributes := #[] }] 49 4 #[] #[{ accessFlags := 25, nameIndex := 354, descriptorIndex := 339, attributes := #[] }, { accessFlags := 25, nameIndex := 358, descriptorIndex := 339, attributes := #[] }, { accessFlags := 25, nameIndex := 361, descriptorIndex := 339, attributes := #[] }, { accessFlags := 26, nameIndex := 364, descriptorIndex := 339, attributes := #[] }, { accessFlags := 26, nameIndex := 365, descriptorIndex := 339, attributes := #[] }, { accessFlags := 26, nameIndex := 172, descriptorIndex := 173, attributes := #[] }, { accessFlags := 26, nameIndex := 176, descriptorIndex := 173, attributes := #[] }, { accessFlags := 8, nameIndex := 344, descriptorIndex := 339, attributes := #[] }, { accessFlags := 8, nameIndex := 338, descriptorIndex := 339, attributes := #[] }, { accessFlags := 4120, nameIndex := 245, descriptorIndex := 246, attributes := #[] }])
  fields := #[{ name := "E", type := .double, accessFlags := 25, slot := 0, constantValue := 0 }, { name := "PI", type := .double, accessFlags := 25, slot := 1, constantValue := 0 }, { name := "TAU", type := .double, accessFlags := 25, slot := 2, constantValue := 0 }, { name := "DEGREES_TO_RADIANS", type := .double, accessFlags := 26, slot := 3, constantValue := 0 }, { name := "RADIANS_TO_DEGREES", type := .double, accessFlags := 26, slot := 4, constantValue := 0 }, { name := "negativeZeroFloatBits", type := .long, accessFlags := 26, slot := 5, constantValue := 0 }, { name := "negativeZeroDoubleBits", type := .long, accessFlags := 26, slot := 6, constantValue := 0 }, { name := "twoToTheDoubleScaleUp", type := .double, accessFlags := 8, slot := 7, constantValue := 0 }, { name := "twoToTheDoubleScaleDown", type := .double, accessFlags := 8, slot := 8, constantValue := 0 }, { name := "$assertionsDisabled", type := .boolean, accessFlags := 4120, slot := 9, constantValue := 0 }]
  methods := #[k18m0, k18m1, k18m2]
  instanceTypes := #[]
  staticTypes := #[.double, .double, .double, .double, .double, .long, .long, .double, .double, .boolean]
  resolved := Array.replicate 460 none
  statics := none }

def pool19 : Array CpInfo := pool [(2, .class_ 4), (1, u "java/lang/Object"), (0, u "<init>"), (0, u "()V"), (7, .class_ 16), (1, u "java/util/Arrays"), (57, .class_ 76), (1, u "java/util/Arrays$NaturalOrder"), (32, u "()Ljava/lang/Object;"), (3, .class_ 115), (1, u "java/util/Arrays$LegacyMergeSort"), (1, u "Z"), (10, .nameAndType 129 109), (0, u "clone"), (9, u "copyOfRange"), (10, .methodref 151 152), (0, .class_ 153), (0, .nameAndType 154 155), (0, u "java/lang/System"), (0, u "arraycopy"), (0, u "(Ljava/lang/Object;ILjava/lang/Object;II)V"), (146, u "copyOf"), (1, .methodref 305 306), (0, .class_ 307), (0, .nameAndType 308 309), (0, u "java/lang/Math"), (0, u "min"), (0, u "(II)I"), (0, .methodref 311 128), (0, .class_ 312), (0, u "[B"), (26, .methodref 14 340), (0, .nameAndType 341 342), (0, u "copyOfRangeByte"), (0, u "([BII)[B"), (0, .methodref 14 344), (0, .nameAndType 345 346), (0, u "checkLength"), (0, u "(II)V"), (28, .class_ 376), (0, u "java/util/Arrays$ArrayList"), (68, u "$assertionsDisabled"), (269, u "MIN_ARRAY_SORT_GRAN"), (0, u "I"), (2, u "INSERTIONSORT_THRESHOLD"), (149, u "([BI)[B"), (105, .class_ 976), (0, u "java/util/Arrays$ArrayItr")] 52

def k19m0 : Method := { name := "<init>", desc := "()V", sig := { parameters := [], returnType := none }, accessFlags := 2, code := none }
def k19c1 : Code := { maxStack := 6, maxLocals := 3, code := jdk_65_method_121_code, exceptionTable := #[], attributes := #[] }
def k19m1 : Method := { name := "copyOf", desc := "([BI)[B", sig := { parameters := [(.array .byte), .int], returnType := some (.array .byte) }, accessFlags := 9, code := some k19c1 }
def k19c2 : Code := { maxStack := 4, maxLocals := 2, code := jdk_65_method_131_code, exceptionTable := #[], attributes := #[] }
def k19m2 : Method := { name := "checkLength", desc := "(II)V", sig := { parameters := [.int, .int], returnType := none }, accessFlags := 10, code := some k19c2 }
def k19c3 : Code := { maxStack := 3, maxLocals := 3, code := jdk_65_method_132_code, exceptionTable := #[], attributes := #[] }
def k19m3 : Method := { name := "copyOfRange", desc := "([BII)[B", sig := { parameters := [(.array .byte), .int, .int], returnType := some (.array .byte) }, accessFlags := 9, code := some k19c3 }
def k19c4 : Code := { maxStack := 6, maxLocals := 5, code := jdk_65_method_133_code, exceptionTable := #[], attributes := #[] }
def k19m4 : Method := { name := "copyOfRangeByte", desc := "([BII)[B", sig := { parameters := [(.array .byte), .int, .int], returnType := some (.array .byte) }, accessFlags := 10, code := some k19c4 }
/-- java/util/Arrays -/
def k19 : Class := { plain "java/util/Arrays" (some 0) with
  accessFlags := 49
  interfaces := #[]
  cf := some (fileOf pool19 14 #[.nestMembers #[975, 375, 113, 74]] #[{ accessFlags := 2, nameIndex := 5, descriptorIndex := 6, attributes := #[] }, { accessFlags := 9, nameIndex := 302, descriptorIndex := 869, attributes := #[] }, { accessFlags := 10, nameIndex := 345, descriptorIndex := 346, attributes := #[] }, { accessFlags := 9, nameIndex := 139, descriptorIndex := 342, attributes := #[] }, { accessFlags := 10, nameIndex := 341, descriptorIndex := 342, attributes := #[] }] 49 2 #[] #[{ accessFlags := 26, nameIndex := 715, descriptorIndex := 716, attributes := #[] }, { accessFlags := 26, nameIndex := 719, descriptorIndex := 716, attributes := #[] }, { accessFlags := 4120, nameIndex := 445, descriptorIndex := 117, attributes := #[] }])
  fields := #[{ name := "MIN_ARRAY_SORT_GRAN", type := .int, accessFlags := 26, slot := 0, constantValue := 0 }, { name := "INSERTIONSORT_THRESHOLD", type := .int, accessFlags := 26, slot := 1, constantValue := 0 }, { name := "$assertionsDisabled", type := .boolean, accessFlags := 4120, slot := 2, constantValue := 0 }]
  methods := #[k19m0, k19m1, k19m2, k19m3, k19m4]
  instanceTypes := #[]
  staticTypes := #[.int, .int, .boolean]
  resolved := Array.replicate 1029 none
  statics := none }

def pool20 : Array CpInfo := pool [(1, .class_ 2), (0, u "java/lang/Cloneable"), (0, .class_ 4), (0, u "java/lang/Object")] 2

/-- java/lang/Cloneable -/
def k20 : Class := { plain "java/lang/Cloneable" (some 0) with
  accessFlags := 1537
  interfaces := #[]
  cf := some (fileOf pool20 1 #[] #[] 1537 3 #[] #[])
  fields := #[]
  methods := #[]
  instanceTypes := #[]
  staticTypes := #[]
  resolved := Array.replicate 7 none
  statics := none }

def pool21 : Array CpInfo := pool [(4, .class_ 6), (1, u "java/lang/Object"), (0, u "<init>"), (0, u "()V"), (5, .class_ 16), (1, u "java/lang/StringLatin1"), (104, u "$assertionsDisabled"), (0, u "Z"), (98, .class_ 223), (1, u "java/lang/StringLatin1$LinesSpliterator"), (57, u "equals"), (0, u "([B[B)Z"), (107, .class_ 391), (0, u "java/lang/StringLatin1$CharsSpliterator")] 3

def k21m0 : Method := { name := "<init>", desc := "()V", sig := { parameters := [], returnType := none }, accessFlags := 0, code := none }
def k21c1 : Code := { maxStack := 3, maxLocals := 3, code := jdk_43_method_13_code, exceptionTable := #[], attributes := #[] }
def k21m1 : Method := { name := "equals", desc := "([B[B)Z", sig := { parameters := [(.array .byte), (.array .byte)], returnType := some .boolean }, accessFlags := 9, code := some k21c1 }
/-- java/lang/StringLatin1 -/
def k21 : Class := { plain "java/lang/StringLatin1" (some 0) with
  accessFlags := 48
  interfaces := #[]
  cf := some (fileOf pool21 14 #[.nestMembers #[390, 221]] #[{ accessFlags := 0, nameIndex := 7, descriptorIndex := 8, attributes := #[] }, { accessFlags := 9, nameIndex := 281, descriptorIndex := 282, attributes := #[] }] 48 4 #[] #[{ accessFlags := 4120, nameIndex := 121, descriptorIndex := 122, attributes := #[] }])
  fields := #[{ name := "$assertionsDisabled", type := .boolean, accessFlags := 4120, slot := 0, constantValue := 0 }]
  methods := #[k21m0, k21m1]
  instanceTypes := #[]
  staticTypes := #[.boolean]
  resolved := Array.replicate 395 none
  statics := none }

/-- the primitive byte -/
def k22 : Class := { plain "byte" none with kind := .primitive 'B', accessFlags := 0x411 }
/-- [B -/
def k23 : Class := { plain "[B" (some 0) with kind := .array 22 .byte, interfaces := #[20, 2], accessFlags := 1041 }

/-- the primitive char -/
def k24 : Class := { plain "char" none with kind := .primitive 'C', accessFlags := 0x411 }
/-- [C -/
def k25 : Class := { plain "[C" (some 0) with kind := .array 24 .char, interfaces := #[20, 2], accessFlags := 1041 }

/-- the primitive int -/
def k26 : Class := { plain "int" none with kind := .primitive 'I', accessFlags := 0x411 }
/-- [I -/
def k27 : Class := { plain "[I" (some 0) with kind := .array 26 .int, interfaces := #[20, 2], accessFlags := 1041 }

def heap : Heap := #[{ cls := 7, slots := #[.long 0, .int 1, .null, .int 0, .null, .int 0, .int 0], vm := .statics 7 },
  { cls := 11, slots := #[.null, .null, .null], vm := .statics 11 }]
def classes : Array Class := #[k0, k1, k2, k3, k4, k5, k6, k7, k8, k9, k10, k11, k12, k13, k14, k15, k16, k17, k18, k19, k20, k21, k22, k23, k24, k25, k26, k27]
def interned : List (Array UInt16 × Addr) := []
def slotsUsed : Nat := 10
def theMethod : MethodId := ⟨1, 1⟩
def args0 : Array Value := #[.int 5, .int 7, .int 1, .int 2]
def aboutOver (below : List Frame) : State where
  vm := { classes := classes, interned := interned.toArray }
  heap := heap
  slotsUsed := slotsUsed
  threads := #[{ frames := .invoking theMethod args0 :: below }]
def below0 : List Frame := [.native { method := ⟨0, 0⟩, args := #[] }]
def about1 : State := aboutOver below0
def p0 : Program := .bare "" "" ""
def e0 : Env := launch0.env 0 0 0
theorem w_frames : about1.frames = Frame.invoking theMethod args0 :: below0 := rfl
set_option maxRecDepth 65536 in
theorem w_args : argsFit about1.vm theMethod args0 = true := by decide +kernel
set_option maxRecDepth 65536 in
theorem w_heap : heapFits about1 = true := by decide +kernel
set_option maxRecDepth 65536 in
theorem w_runnable : about1.curStatus? = some .runnable := by decide +kernel
set_option maxRecDepth 65536 in
theorem w_alone : about1.alone = true := by decide +kernel
set_option maxRecDepth 65536 in
theorem w_named : about1.methodNamed? x = some theMethod := by decide +kernel
set_option maxRecDepth 65536 in
theorem w_hears : about1.hears theMethod below0 = true := by decide +kernel
set_option maxRecDepth 65536 in
theorem w_ripe : about1.ripe theMethod args0 below0 = true := by decide +kernel
theorem w_running : about1.status = .running := rfl
set_option maxRecDepth 65536 in
theorem w_room : about1.hasRoom e0.platform room_1 = true :=
  launch0.hasRoom_least _ room_1 (by decide +kernel) (by decide +kernel) (by decide +kernel) (by decide +kernel) (by decide +kernel) (by decide +kernel)
theorem allAtoms_all (ts : List Jvm.Cond) (a : Array Jvm.Value) (st : Jvm.State) : (allAtoms ts).before a st = ts.all (fun c => c.before a st) := by
  induction ts with
  | nil => rfl
  | cons c t ih =>
    show (Jvm.Cond.and c (allAtoms t)).before a st = _
    rw [Jvm.Cond.before_and, ih, List.all_cons]
def words1 : List Jvm.Cond := Jvm.Cond.code x code maxLocals ret :: tables_1
/-- a 'code' word, met by the world's own term for the bytes: nothing is compared byte by byte -/
theorem code_word {y : MethodName} {bytes : ByteArray} {mx : Nat} {rt : Option FieldType} {a : Array Value} {s : State} {m : MethodId} {meth : Method} {c : Code} (h1 : s.methodNamed? y = some m) (h2 : s.vm.method? m = some meth) (h3 : meth.code = some c) (h4 : c.code = bytes)
    (h5 : (c.maxLocals == mx && c.exceptionTable.isEmpty && decide (c.maxStack ≤ mostOperands) && decide (meth.sig.returnType = rt) && !meth.locks && decide (parseMethodDescriptor y.desc = some meth.sig)) = true) : (Jvm.Cond.code y bytes mx rt).before a s = true := by
  simp only [Bool.and_eq_true, beq_iff_eq, Bool.not_eq_true', decide_eq_true_eq] at h5
  obtain ⟨⟨⟨⟨⟨g1, g2⟩, g3⟩, g4⟩, g5⟩, g6⟩ := h5
  simp [Cond.before, Cond.holds, Cond.value, h1, h2, h3, h4, g1, g2, g3, g4, g5, g6]
def isCode : Jvm.Cond → Bool
  | .code _ _ _ _ => true
  | _ => false
theorem all_split {L : List Jvm.Cond} {P : Jvm.Cond → Bool} (h1 : L.all (fun c => isCode c || P c) = true) (h2 : ∀ c ∈ L.filter isCode, P c = true) : L.all P = true := by
  refine List.all_eq_true.mpr fun c hc => ?_
  have h := List.all_eq_true.mp h1 c hc
  rcases Bool.eq_false_or_eq_true (isCode c) with hi | hi
  · exact h2 c (List.mem_filter.mpr ⟨hc, hi⟩)
  · simpa [hi] using h
set_option maxRecDepth 65536 in
theorem w_c0 : (Jvm.Cond.code x code maxLocals ret).before args0 about1 = true := code_word (m := ⟨1, 1⟩) (meth := k1m1) (c := k1c1) (by decide +kernel) rfl rfl rfl (by decide +kernel)
set_option maxRecDepth 65536 in
theorem w_c1 : (Jvm.Cond.code ({ cls := "com/example/limpet/limpet/LockNameEqualsPinLaw", name := "ch", desc := "(I)C" } : Jvm.MethodName) method_3_code (2 : Nat) (Option.some Jvm.ClassFile.FieldType.char)).before args0 about1 = true := code_word (m := ⟨1, 2⟩) (meth := k1m2) (c := k1c2) (by decide +kernel) rfl rfl rfl (by decide +kernel)
set_option maxRecDepth 65536 in
theorem w_c2 : (Jvm.Cond.code ({ cls := "com/example/limpet/limpet/LockNameEqualsPinLaw", name := "mk", desc := "(CCCI)Ljava/lang/String;" } : Jvm.MethodName) method_4_code (4 : Nat) (Option.some (Jvm.ClassFile.FieldType.object "java/lang/String"))).before args0 about1 = true := code_word (m := ⟨1, 3⟩) (meth := k1m3) (c := k1c3) (by decide +kernel) rfl rfl rfl (by decide +kernel)
set_option maxRecDepth 65536 in
theorem w_c3 : (Jvm.Cond.code ({ cls := "java/lang/String", name := "<init>", desc := "([C)V" } : Jvm.MethodName) jdk_42_method_3_code (2 : Nat) (Option.none : Option Jvm.ClassFile.FieldType)).before args0 about1 = true := code_word (m := ⟨7, 1⟩) (meth := k7m1) (c := k7c1) (by decide +kernel) rfl rfl rfl (by decide +kernel)
set_option maxRecDepth 65536 in
theorem w_c4 : (Jvm.Cond.code ({ cls := "java/lang/String", name := "<init>", desc := "([CIILjava/lang/Void;)V" } : Jvm.MethodName) jdk_42_method_149_code (6 : Nat) (Option.none : Option Jvm.ClassFile.FieldType)).before args0 about1 = true := code_word (m := ⟨7, 7⟩) (meth := k7m7) (c := k7c7) (by decide +kernel) rfl rfl rfl (by decide +kernel)
set_option maxRecDepth 65536 in
theorem w_c5 : (Jvm.Cond.code ({ cls := "java/lang/Object", name := "<init>", desc := "()V" } : Jvm.MethodName) object_method_1_code (1 : Nat) (Option.none : Option Jvm.ClassFile.FieldType)).before args0 about1 = true := code_word (m := ⟨0, 0⟩) (meth := k0m0) (c := k0c0) (by decide +kernel) rfl rfl rfl (by decide +kernel)
set_option maxRecDepth 65536 in
theorem w_c6 : (Jvm.Cond.code ({ cls := "java/lang/StringUTF16", name := "compress", desc := "([CII)[B" } : Jvm.MethodName) jdk_52_method_16_code (6 : Nat) (Option.some (Jvm.ClassFile.FieldType.array Jvm.ClassFile.FieldType.byte))).before args0 about1 = true := code_word (m := ⟨8, 2⟩) (meth := k8m2) (c := k8c2) (by decide +kernel) rfl rfl rfl (by decide +kernel)
set_option maxRecDepth 65536 in
theorem w_c7 : (Jvm.Cond.code ({ cls := "java/lang/StringUTF16", name := "compress", desc := "([CI[BII)I" } : Jvm.MethodName) jdk_52_method_21_code (7 : Nat) (Option.some Jvm.ClassFile.FieldType.int)).before args0 about1 = true := code_word (m := ⟨8, 3⟩) (meth := k8m3) (c := k8c3) (by decide +kernel) rfl rfl rfl (by decide +kernel)
set_option maxRecDepth 65536 in
theorem w_c8 : (Jvm.Cond.code ({ cls := "java/lang/StringUTF16", name := "coderFromArrayLen", desc := "([BI)B" } : Jvm.MethodName) jdk_52_method_15_code (2 : Nat) (Option.some Jvm.ClassFile.FieldType.byte)).before args0 about1 = true := code_word (m := ⟨8, 1⟩) (meth := k8m1) (c := k8c1) (by decide +kernel) rfl rfl rfl (by decide +kernel)
set_option maxRecDepth 65536 in
theorem w_c9 : (Jvm.Cond.code ({ cls := "com/example/limpet/limpet/LockName", name := "<init>", desc := "(Ljava/lang/String;)V" } : Jvm.MethodName) prog_3_method_1_code (5 : Nat) (Option.none : Option Jvm.ClassFile.FieldType)).before args0 about1 = true := code_word (m := ⟨9, 0⟩) (meth := k9m0) (c := k9c0) (by decide +kernel) rfl rfl rfl (by decide +kernel)
set_option maxRecDepth 65536 in
theorem w_c10 : (Jvm.Cond.code ({ cls := "java/util/Objects", name := "requireNonNull", desc := "(Ljava/lang/Object;Ljava/lang/String;)Ljava/lang/Object;" } : Jvm.MethodName) jdk_31_method_11_code (2 : Nat) (Option.some (Jvm.ClassFile.FieldType.object "java/lang/Object"))).before args0 about1 = true := code_word (m := ⟨10, 1⟩) (meth := k10m1) (c := k10c1) (by decide +kernel) rfl rfl rfl (by decide +kernel)
set_option maxRecDepth 65536 in
theorem w_c11 : (Jvm.Cond.code ({ cls := "java/lang/String", name := "length", desc := "()I" } : Jvm.MethodName) jdk_42_method_54_code (1 : Nat) (Option.some Jvm.ClassFile.FieldType.int)).before args0 about1 = true := code_word (m := ⟨7, 3⟩) (meth := k7m3) (c := k7c3) (by decide +kernel) rfl rfl rfl (by decide +kernel)
set_option maxRecDepth 65536 in
theorem w_c12 : (Jvm.Cond.code ({ cls := "java/lang/String", name := "coder", desc := "()B" } : Jvm.MethodName) jdk_42_method_152_code (1 : Nat) (Option.some Jvm.ClassFile.FieldType.byte)).before args0 about1 = true := code_word (m := ⟨7, 9⟩) (meth := k7m9) (c := k7c9) (by decide +kernel) rfl rfl rfl (by decide +kernel)
set_option maxRecDepth 65536 in
theorem w_c13 : (Jvm.Cond.code ({ cls := "java/lang/String", name := "codePointAt", desc := "(I)I" } : Jvm.MethodName) jdk_42_method_57_code (3 : Nat) (Option.some Jvm.ClassFile.FieldType.int)).before args0 about1 = true := code_word (m := ⟨7, 4⟩) (meth := k7m4) (c := k7c4) (by decide +kernel) rfl rfl rfl (by decide +kernel)
set_option maxRecDepth 65536 in
theorem w_c14 : (Jvm.Cond.code ({ cls := "java/lang/String", name := "isLatin1", desc := "()Z" } : Jvm.MethodName) jdk_42_method_154_code (1 : Nat) (Option.some Jvm.ClassFile.FieldType.boolean)).before args0 about1 = true := code_word (m := ⟨7, 10⟩) (meth := k7m10) (c := k7c10) (by decide +kernel) rfl rfl rfl (by decide +kernel)
set_option maxRecDepth 65536 in
theorem w_c15 : (Jvm.Cond.code ({ cls := "java/lang/String", name := "checkIndex", desc := "(II)V" } : Jvm.MethodName) jdk_42_method_155_code (2 : Nat) (Option.none : Option Jvm.ClassFile.FieldType)).before args0 about1 = true := code_word (m := ⟨7, 11⟩) (meth := k7m11) (c := k7c11) (by decide +kernel) rfl rfl rfl (by decide +kernel)
set_option maxRecDepth 65536 in
theorem w_c16 : (Jvm.Cond.code ({ cls := "jdk/internal/util/Preconditions", name := "checkIndex", desc := "(IILjava/util/function/BiFunction;)I" } : Jvm.MethodName) jdk_41_method_11_code (3 : Nat) (Option.some Jvm.ClassFile.FieldType.int)).before args0 about1 = true := code_word (m := ⟨11, 1⟩) (meth := k11m1) (c := k11c1) (by decide +kernel) rfl rfl rfl (by decide +kernel)
set_option maxRecDepth 65536 in
theorem w_c17 : (Jvm.Cond.code ({ cls := "com/example/limpet/limpet/LockName", name := "utf8Length", desc := "(I)I" } : Jvm.MethodName) prog_3_method_11_code (2 : Nat) (Option.some Jvm.ClassFile.FieldType.int)).before args0 about1 = true := code_word (m := ⟨9, 3⟩) (meth := k9m3) (c := k9c3) (by decide +kernel) rfl rfl rfl (by decide +kernel)
set_option maxRecDepth 65536 in
theorem w_c18 : (Jvm.Cond.code ({ cls := "java/lang/Character", name := "charCount", desc := "(I)I" } : Jvm.MethodName) jdk_89_method_18_code (1 : Nat) (Option.some Jvm.ClassFile.FieldType.int)).before args0 about1 = true := code_word (m := ⟨12, 0⟩) (meth := k12m0) (c := k12c0) (by decide +kernel) rfl rfl rfl (by decide +kernel)
set_option maxRecDepth 65536 in
theorem w_c19 : (Jvm.Cond.code ({ cls := "com/example/limpet/limpet/LockName", name := "key", desc := "(Ljava/lang/String;)Ljava/lang/String;" } : Jvm.MethodName) prog_3_method_10_code (2 : Nat) (Option.some (Jvm.ClassFile.FieldType.object "java/lang/String"))).before args0 about1 = true := code_word (m := ⟨9, 2⟩) (meth := k9m2) (c := k9c2) (by decide +kernel) rfl rfl rfl (by decide +kernel)
set_option maxRecDepth 65536 in
theorem w_c20 : (Jvm.Cond.code ({ cls := "java/lang/StringBuilder", name := "<init>", desc := "()V" } : Jvm.MethodName) jdk_67_method_1_code (1 : Nat) (Option.none : Option Jvm.ClassFile.FieldType)).before args0 about1 = true := code_word (m := ⟨15, 0⟩) (meth := k15m0) (c := k15c0) (by decide +kernel) rfl rfl rfl (by decide +kernel)
set_option maxRecDepth 65536 in
theorem w_c21 : (Jvm.Cond.code ({ cls := "java/lang/AbstractStringBuilder", name := "<init>", desc := "(I)V" } : Jvm.MethodName) jdk_68_method_2_code (2 : Nat) (Option.none : Option Jvm.ClassFile.FieldType)).before args0 about1 = true := code_word (m := ⟨14, 1⟩) (meth := k14m1) (c := k14c1) (by decide +kernel) rfl rfl rfl (by decide +kernel)
set_option maxRecDepth 65536 in
theorem w_c22 : (Jvm.Cond.code ({ cls := "java/lang/StringBuilder", name := "append", desc := "(Ljava/lang/String;)Ljava/lang/StringBuilder;" } : Jvm.MethodName) jdk_67_method_7_code (2 : Nat) (Option.some (Jvm.ClassFile.FieldType.object "java/lang/StringBuilder"))).before args0 about1 = true := code_word (m := ⟨15, 1⟩) (meth := k15m1) (c := k15c1) (by decide +kernel) rfl rfl rfl (by decide +kernel)
set_option maxRecDepth 65536 in
theorem w_c23 : (Jvm.Cond.code ({ cls := "java/lang/AbstractStringBuilder", name := "append", desc := "(Ljava/lang/String;)Ljava/lang/AbstractStringBuilder;" } : Jvm.MethodName) jdk_68_method_22_code (3 : Nat) (Option.some (Jvm.ClassFile.FieldType.object "java/lang/AbstractStringBuilder"))).before args0 about1 = true := code_word (m := ⟨14, 5⟩) (meth := k14m5) (c := k14c5) (by decide +kernel) rfl rfl rfl (by decide +kernel)
set_option maxRecDepth 65536 in
theorem w_c24 : (Jvm.Cond.code ({ cls := "java/lang/AbstractStringBuilder", name := "ensureCapacityInternal", desc := "(I)V" } : Jvm.MethodName) jdk_68_method_9_code (3 : Nat) (Option.none : Option Jvm.ClassFile.FieldType)).before args0 about1 = true := code_word (m := ⟨14, 3⟩) (meth := k14m3) (c := k14c3) (by decide +kernel) rfl rfl rfl (by decide +kernel)
set_option maxRecDepth 65536 in
theorem w_c25 : (Jvm.Cond.code ({ cls := "java/lang/AbstractStringBuilder", name := "putStringAt", desc := "(ILjava/lang/String;)V" } : Jvm.MethodName) jdk_68_method_73_code (3 : Nat) (Option.none : Option Jvm.ClassFile.FieldType)).before args0 about1 = true := code_word (m := ⟨14, 9⟩) (meth := k14m9) (c := k14c9) (by decide +kernel) rfl rfl rfl (by decide +kernel)
set_option maxRecDepth 65536 in
theorem w_c26 : (Jvm.Cond.code ({ cls := "java/lang/AbstractStringBuilder", name := "inflateIfNeededFor", desc := "(Ljava/lang/String;)V" } : Jvm.MethodName) jdk_68_method_71_code (2 : Nat) (Option.none : Option Jvm.ClassFile.FieldType)).before args0 about1 = true := code_word (m := ⟨14, 8⟩) (meth := k14m8) (c := k14c8) (by decide +kernel) rfl rfl rfl (by decide +kernel)
set_option maxRecDepth 65536 in
theorem w_c27 : (Jvm.Cond.code ({ cls := "java/lang/String", name := "getBytes", desc := "([BIB)V" } : Jvm.MethodName) jdk_42_method_147_code (4 : Nat) (Option.none : Option Jvm.ClassFile.FieldType)).before args0 about1 = true := code_word (m := ⟨7, 6⟩) (meth := k7m6) (c := k7c6) (by decide +kernel) rfl rfl rfl (by decide +kernel)
set_option maxRecDepth 65536 in
theorem w_c28 : (Jvm.Cond.code ({ cls := "java/lang/AbstractStringBuilder", name := "newCapacity", desc := "(I)I" } : Jvm.MethodName) jdk_68_method_10_code (6 : Nat) (Option.some Jvm.ClassFile.FieldType.int)).before args0 about1 = true := code_word (m := ⟨14, 4⟩) (meth := k14m4) (c := k14c4) (by decide +kernel) rfl rfl rfl (by decide +kernel)
set_option maxRecDepth 65536 in
theorem w_c29 : (Jvm.Cond.code ({ cls := "jdk/internal/util/ArraysSupport", name := "newLength", desc := "(III)I" } : Jvm.MethodName) jdk_48_method_27_code (4 : Nat) (Option.some Jvm.ClassFile.FieldType.int)).before args0 about1 = true := code_word (m := ⟨17, 1⟩) (meth := k17m1) (c := k17c1) (by decide +kernel) rfl rfl rfl (by decide +kernel)
set_option maxRecDepth 65536 in
theorem w_c30 : (Jvm.Cond.code ({ cls := "java/lang/Math", name := "max", desc := "(II)I" } : Jvm.MethodName) jdk_29_method_65_code (2 : Nat) (Option.some Jvm.ClassFile.FieldType.int)).before args0 about1 = true := code_word (m := ⟨18, 1⟩) (meth := k18m1) (c := k18c1) (by decide +kernel) rfl rfl rfl (by decide +kernel)
set_option maxRecDepth 65536 in
theorem w_c31 : (Jvm.Cond.code ({ cls := "java/util/Arrays", name := "copyOf", desc := "([BI)[B" } : Jvm.MethodName) jdk_65_method_121_code (3 : Nat) (Option.some (Jvm.ClassFile.FieldType.array Jvm.ClassFile.FieldType.byte))).before args0 about1 = true := code_word (m := ⟨19, 1⟩) (meth := k19m1) (c := k19c1) (by decide +kernel) rfl rfl rfl (by decide +kernel)
set_option maxRecDepth 65536 in
theorem w_c32 : (Jvm.Cond.code ({ cls := "java/lang/Math", name := "min", desc := "(II)I" } : Jvm.MethodName) jdk_29_method_69_code (2 : Nat) (Option.some Jvm.ClassFile.FieldType.int)).before args0 about1 = true := code_word (m := ⟨18, 2⟩) (meth := k18m2) (c := k18c2) (by decide +kernel) rfl rfl rfl (by decide +kernel)
set_option maxRecDepth 65536 in
theorem w_c33 : (Jvm.Cond.code ({ cls := "java/lang/StringBuilder", name := "toString", desc := "()Ljava/lang/String;" } : Jvm.MethodName) jdk_67_method_42_code (1 : Nat) (Option.some (Jvm.ClassFile.FieldType.object "java/lang/String"))).before args0 about1 = true := code_word (m := ⟨15, 2⟩) (meth := k15m2) (c := k15c2) (by decide +kernel) rfl rfl rfl (by decide +kernel)
set_option maxRecDepth 65536 in
theorem w_c34 : (Jvm.Cond.code ({ cls := "java/lang/String", name := "<init>", desc := "(Ljava/lang/StringBuilder;)V" } : Jvm.MethodName) jdk_42_method_53_code (2 : Nat) (Option.none : Option Jvm.ClassFile.FieldType)).before args0 about1 = true := code_word (m := ⟨7, 2⟩) (meth := k7m2) (c := k7c2) (by decide +kernel) rfl rfl rfl (by decide +kernel)
set_option maxRecDepth 65536 in
theorem w_c35 : (Jvm.Cond.code ({ cls := "java/lang/String", name := "<init>", desc := "(Ljava/lang/AbstractStringBuilder;Ljava/lang/Void;)V" } : Jvm.MethodName) jdk_42_method_150_code (5 : Nat) (Option.none : Option Jvm.ClassFile.FieldType)).before args0 about1 = true := code_word (m := ⟨7, 8⟩) (meth := k7m8) (c := k7c8) (by decide +kernel) rfl rfl rfl (by decide +kernel)
set_option maxRecDepth 65536 in
theorem w_c36 : (Jvm.Cond.code ({ cls := "java/lang/AbstractStringBuilder", name := "getValue", desc := "()[B" } : Jvm.MethodName) jdk_68_method_64_code (1 : Nat) (Option.some (Jvm.ClassFile.FieldType.array Jvm.ClassFile.FieldType.byte))).before args0 about1 = true := code_word (m := ⟨14, 6⟩) (meth := k14m6) (c := k14c6) (by decide +kernel) rfl rfl rfl (by decide +kernel)
set_option maxRecDepth 65536 in
theorem w_c37 : (Jvm.Cond.code ({ cls := "java/lang/StringBuilder", name := "length", desc := "()I" } : Jvm.MethodName) jdk_67_method_93_code (1 : Nat) (Option.some Jvm.ClassFile.FieldType.int)).before args0 about1 = true := code_word (m := ⟨15, 3⟩) (meth := k15m3) (c := k15c3) (by decide +kernel) rfl rfl rfl (by decide +kernel)
set_option maxRecDepth 65536 in
theorem w_c38 : (Jvm.Cond.code ({ cls := "java/lang/AbstractStringBuilder", name := "length", desc := "()I" } : Jvm.MethodName) jdk_68_method_6_code (1 : Nat) (Option.some Jvm.ClassFile.FieldType.int)).before args0 about1 = true := code_word (m := ⟨14, 2⟩) (meth := k14m2) (c := k14c2) (by decide +kernel) rfl rfl rfl (by decide +kernel)
set_option maxRecDepth 65536 in
theorem w_c39 : (Jvm.Cond.code ({ cls := "java/lang/AbstractStringBuilder", name := "isLatin1", desc := "()Z" } : Jvm.MethodName) jdk_68_method_68_code (1 : Nat) (Option.some Jvm.ClassFile.FieldType.boolean)).before args0 about1 = true := code_word (m := ⟨14, 7⟩) (meth := k14m7) (c := k14c7) (by decide +kernel) rfl rfl rfl (by decide +kernel)
set_option maxRecDepth 65536 in
theorem w_c40 : (Jvm.Cond.code ({ cls := "java/util/Arrays", name := "copyOfRange", desc := "([BII)[B" } : Jvm.MethodName) jdk_65_method_132_code (3 : Nat) (Option.some (Jvm.ClassFile.FieldType.array Jvm.ClassFile.FieldType.byte))).before args0 about1 = true := code_word (m := ⟨19, 3⟩) (meth := k19m3) (c := k19c3) (by decide +kernel) rfl rfl rfl (by decide +kernel)
set_option maxRecDepth 65536 in
theorem w_c41 : (Jvm.Cond.code ({ cls := "java/util/Arrays", name := "copyOfRangeByte", desc := "([BII)[B" } : Jvm.MethodName) jdk_65_method_133_code (5 : Nat) (Option.some (Jvm.ClassFile.FieldType.array Jvm.ClassFile.FieldType.byte))).before args0 about1 = true := code_word (m := ⟨19, 4⟩) (meth := k19m4) (c := k19c4) (by decide +kernel) rfl rfl rfl (by decide +kernel)
set_option maxRecDepth 65536 in
theorem w_c42 : (Jvm.Cond.code ({ cls := "java/util/Arrays", name := "checkLength", desc := "(II)V" } : Jvm.MethodName) jdk_65_method_131_code (2 : Nat) (Option.none : Option Jvm.ClassFile.FieldType)).before args0 about1 = true := code_word (m := ⟨19, 2⟩) (meth := k19m2) (c := k19c2) (by decide +kernel) rfl rfl rfl (by decide +kernel)
set_option maxRecDepth 65536 in
theorem w_c43 : (Jvm.Cond.code ({ cls := "com/example/limpet/limpet/LockName", name := "equals", desc := "(Ljava/lang/Object;)Z" } : Jvm.MethodName) prog_3_method_7_code (3 : Nat) (Option.some Jvm.ClassFile.FieldType.boolean)).before args0 about1 = true := code_word (m := ⟨9, 1⟩) (meth := k9m1) (c := k9c1) (by decide +kernel) rfl rfl rfl (by decide +kernel)
set_option maxRecDepth 65536 in
theorem w_c44 : (Jvm.Cond.code ({ cls := "java/lang/String", name := "equals", desc := "(Ljava/lang/Object;)Z" } : Jvm.MethodName) jdk_42_method_66_code (3 : Nat) (Option.some Jvm.ClassFile.FieldType.boolean)).before args0 about1 = true := code_word (m := ⟨7, 5⟩) (meth := k7m5) (c := k7c5) (by decide +kernel) rfl rfl rfl (by decide +kernel)
set_option maxRecDepth 65536 in
theorem w_c45 : (Jvm.Cond.code ({ cls := "java/lang/StringLatin1", name := "equals", desc := "([B[B)Z" } : Jvm.MethodName) jdk_43_method_13_code (3 : Nat) (Option.some Jvm.ClassFile.FieldType.boolean)).before args0 about1 = true := code_word (m := ⟨21, 1⟩) (meth := k21m1) (c := k21c1) (by decide +kernel) rfl rfl rfl (by decide +kernel)
def codes1 : List Jvm.Cond := [Jvm.Cond.code x code maxLocals ret, Jvm.Cond.code ({ cls := "com/example/limpet/limpet/LockNameEqualsPinLaw", name := "ch", desc := "(I)C" } : Jvm.MethodName) method_3_code (2 : Nat) (Option.some Jvm.ClassFile.FieldType.char), Jvm.Cond.code ({ cls := "com/example/limpet/limpet/LockNameEqualsPinLaw", name := "mk", desc := "(CCCI)Ljava/lang/String;" } : Jvm.MethodName) method_4_code (4 : Nat) (Option.some (Jvm.ClassFile.FieldType.object "java/lang/String")), Jvm.Cond.code ({ cls := "java/lang/String", name := "<init>", desc := "([C)V" } : Jvm.MethodName) jdk_42_method_3_code (2 : Nat) (Option.none : Option Jvm.ClassFile.FieldType), Jvm.Cond.code ({ cls := "java/lang/String", name := "<init>", desc := "([CIILjava/lang/Void;)V" } : Jvm.MethodName) jdk_42_method_149_code (6 : Nat) (Option.none : Option Jvm.ClassFile.FieldType), Jvm.Cond.code ({ cls := "java/lang/Object", name := "<init>", desc := "()V" } : Jvm.MethodName) object_method_1_code (1 : Nat) (Option.none : Option Jvm.ClassFile.FieldType), Jvm.Cond.code ({ cls := "java/lang/StringUTF16", name := "compress", desc := "([CII)[B" } : Jvm.MethodName) jdk_52_method_16_code (6 : Nat) (Option.some (Jvm.ClassFile.FieldType.array Jvm.ClassFile.FieldType.byte)), Jvm.Cond.code ({ cls := "java/lang/StringUTF16", name := "compress", desc := "([CI[BII)I" } : Jvm.MethodName) jdk_52_method_21_code (7 : Nat) (Option.some Jvm.ClassFile.FieldType.int), Jvm.Cond.code ({ cls := "java/lang/StringUTF16", name := "coderFromArrayLen", desc := "([BI)B" } : Jvm.MethodName) jdk_52_method_15_code (2 : Nat) (Option.some Jvm.ClassFile.FieldType.byte), Jvm.Cond.code ({ cls := "com/example/limpet/limpet/LockName", name := "<init>", desc := "(Ljava/lang/String;)V" } : Jvm.MethodName) prog_3_method_1_code (5 : Nat) (Option.none : Option Jvm.ClassFile.FieldType), Jvm.Cond.code ({ cls := "java/util/Objects", name := "requireNonNull", desc := "(Ljava/lang/Object;Ljava/lang/String;)Ljava/lang/Object;" } : Jvm.MethodName) jdk_31_method_11_code (2 : Nat) (Option.some (Jvm.ClassFile.FieldType.object "java/lang/Object")), Jvm.Cond.code ({ cls := "java/lang/String", name := "length", desc := "()I" } : Jvm.MethodName) jdk_42_method_54_code (1 : Nat) (Option.some Jvm.ClassFile.FieldType.int), Jvm.Cond.code ({ cls := "java/lang/String", name := "coder", desc := "()B" } : Jvm.MethodName) jdk_42_method_152_code (1 : Nat) (Option.some Jvm.ClassFile.FieldType.byte), Jvm.Cond.code ({ cls := "java/lang/String", name := "codePointAt", desc := "(I)I" } : Jvm.MethodName) jdk_42_method_57_code (3 : Nat) (Option.some Jvm.ClassFile.FieldType.int), Jvm.Cond.code ({ cls := "java/lang/String", name := "isLatin1", desc := "()Z" } : Jvm.MethodName) jdk_42_method_154_code (1 : Nat) (Option.some Jvm.ClassFile.FieldType.boolean), Jvm.Cond.code ({ cls := "java/lang/String", name := "checkIndex", desc := "(II)V" } : Jvm.MethodName) jdk_42_method_155_code (2 : Nat) (Option.none : Option Jvm.ClassFile.FieldType), Jvm.Cond.code ({ cls := "jdk/internal/util/Preconditions", name := "checkIndex", desc := "(IILjava/util/function/BiFunction;)I" } : Jvm.MethodName) jdk_41_method_11_code (3 : Nat) (Option.some Jvm.ClassFile.FieldType.int), Jvm.Cond.code ({ cls := "com/example/limpet/limpet/LockName", name := "utf8Length", desc := "(I)I" } : Jvm.MethodName) prog_3_method_11_code (2 : Nat) (Option.some Jvm.ClassFile.FieldType.int), Jvm.Cond.code ({ cls := "java/lang/Character", name := "charCount", desc := "(I)I" } : Jvm.MethodName) jdk_89_method_18_code (1 : Nat) (Option.some Jvm.ClassFile.FieldType.int), Jvm.Cond.code ({ cls := "com/example/limpet/limpet/LockName", name := "key", desc := "(Ljava/lang/String;)Ljava/lang/String;" } : Jvm.MethodName) prog_3_method_10_code (2 : Nat) (Option.some (Jvm.ClassFile.FieldType.object "java/lang/String")), Jvm.Cond.code ({ cls := "java/lang/StringBuilder", name := "<init>", desc := "()V" } : Jvm.MethodName) jdk_67_method_1_code (1 : Nat) (Option.none : Option Jvm.ClassFile.FieldType), Jvm.Cond.code ({ cls := "java/lang/AbstractStringBuilder", name := "<init>", desc := "(I)V" } : Jvm.MethodName) jdk_68_method_2_code (2 : Nat) (Option.none : Option Jvm.ClassFile.FieldType), Jvm.Cond.code ({ cls := "java/lang/StringBuilder", name := "append", desc := "(Ljava/lang/String;)Ljava/lang/StringBuilder;" } : Jvm.MethodName) jdk_67_method_7_code (2 : Nat) (Option.some (Jvm.ClassFile.FieldType.object "java/lang/StringBuilder")), Jvm.Cond.code ({ cls := "java/lang/AbstractStringBuilder", name := "append", desc := "(Ljava/lang/String;)Ljava/lang/AbstractStringBuilder;" } : Jvm.MethodName) jdk_68_method_22_code (3 : Nat) (Option.some (Jvm.ClassFile.FieldType.object "java/lang/AbstractStringBuilder")), Jvm.Cond.code ({ cls := "java/lang/AbstractStringBuilder", name := "ensureCapacityInternal", desc := "(I)V" } : Jvm.MethodName) jdk_68_method_9_code (3 : Nat) (Option.none : Option Jvm.ClassFile.FieldType), Jvm.Cond.code ({ cls := "java/lang/AbstractStringBuilder", name := "putStringAt", desc := "(ILjava/lang/String;)V" } : Jvm.MethodName) jdk_68_method_73_code (3 : Nat) (Option.none : Option Jvm.ClassFile.FieldType), Jvm.Cond.code ({ cls := "java/lang/AbstractStringBuilder", name := "inflateIfNeededFor", desc := "(Ljava/lang/String;)V" } : Jvm.MethodName) jdk_68_method_71_code (2 : Nat) (Option.none : Option Jvm.ClassFile.FieldType), Jvm.Cond.code ({ cls := "java/lang/String", name := "getBytes", desc := "([BIB)V" } : Jvm.MethodName) jdk_42_method_147_code (4 : Nat) (Option.none : Option Jvm.ClassFile.FieldType), Jvm.Cond.code ({ cls := "java/lang/AbstractStringBuilder", name := "newCapacity", desc := "(I)I" } : Jvm.MethodName) jdk_68_method_10_code (6 : Nat) (Option.some Jvm.ClassFile.FieldType.int), Jvm.Cond.code ({ cls := "jdk/internal/util/ArraysSupport", name := "newLength", desc := "(III)I" } : Jvm.MethodName) jdk_48_method_27_code (4 : Nat) (Option.some Jvm.ClassFile.FieldType.int), Jvm.Cond.code ({ cls := "java/lang/Math", name := "max", desc := "(II)I" } : Jvm.MethodName) jdk_29_method_65_code (2 : Nat) (Option.some Jvm.ClassFile.FieldType.int), Jvm.Cond.code ({ cls := "java/util/Arrays", name := "copyOf", desc := "([BI)[B" } : Jvm.MethodName) jdk_65_method_121_code (3 : Nat) (Option.some (Jvm.ClassFile.FieldType.array Jvm.ClassFile.FieldType.byte)), Jvm.Cond.code ({ cls := "java/lang/Math", name := "min", desc := "(II)I" } : Jvm.MethodName) jdk_29_method_69_code (2 : Nat) (Option.some Jvm.ClassFile.FieldType.int), Jvm.Cond.code ({ cls := "java/lang/StringBuilder", name := "toString", desc := "()Ljava/lang/String;" } : Jvm.MethodName) jdk_67_method_42_code (1 : Nat) (Option.some (Jvm.ClassFile.FieldType.object "java/lang/String")), Jvm.Cond.code ({ cls := "java/lang/String", name := "<init>", desc := "(Ljava/lang/StringBuilder;)V" } : Jvm.MethodName) jdk_42_method_53_code (2 : Nat) (Option.none : Option Jvm.ClassFile.FieldType), Jvm.Cond.code ({ cls := "java/lang/String", name := "<init>", desc := "(Ljava/lang/AbstractStringBuilder;Ljava/lang/Void;)V" } : Jvm.MethodName) jdk_42_method_150_code (5 : Nat) (Option.none : Option Jvm.ClassFile.FieldType), Jvm.Cond.code ({ cls := "java/lang/AbstractStringBuilder", name := "getValue", desc := "()[B" } : Jvm.MethodName) jdk_68_method_64_code (1 : Nat) (Option.some (Jvm.ClassFile.FieldType.array Jvm.ClassFile.FieldType.byte)), Jvm.Cond.code ({ cls := "java/lang/StringBuilder", name := "length", desc := "()I" } : Jvm.MethodName) jdk_67_method_93_code (1 : Nat) (Option.some Jvm.ClassFile.FieldType.int), Jvm.Cond.code ({ cls := "java/lang/AbstractStringBuilder", name := "length", desc := "()I" } : Jvm.MethodName) jdk_68_method_6_code (1 : Nat) (Option.some Jvm.ClassFile.FieldType.int), Jvm.Cond.code ({ cls := "java/lang/AbstractStringBuilder", name := "isLatin1", desc := "()Z" } : Jvm.MethodName) jdk_68_method_68_code (1 : Nat) (Option.some Jvm.ClassFile.FieldType.boolean), Jvm.Cond.code ({ cls := "java/util/Arrays", name := "copyOfRange", desc := "([BII)[B" } : Jvm.MethodName) jdk_65_method_132_code (3 : Nat) (Option.some (Jvm.ClassFile.FieldType.array Jvm.ClassFile.FieldType.byte)), Jvm.Cond.code ({ cls := "java/util/Arrays", name := "copyOfRangeByte", desc := "([BII)[B" } : Jvm.MethodName) jdk_65_method_133_code (5 : Nat) (Option.some (Jvm.ClassFile.FieldType.array Jvm.ClassFile.FieldType.byte)), Jvm.Cond.code ({ cls := "java/util/Arrays", name := "checkLength", desc := "(II)V" } : Jvm.MethodName) jdk_65_method_131_code (2 : Nat) (Option.none : Option Jvm.ClassFile.FieldType), Jvm.Cond.code ({ cls := "com/example/limpet/limpet/LockName", name := "equals", desc := "(Ljava/lang/Object;)Z" } : Jvm.MethodName) prog_3_method_7_code (3 : Nat) (Option.some Jvm.ClassFile.FieldType.boolean), Jvm.Cond.code ({ cls := "java/lang/String", name := "equals", desc := "(Ljava/lang/Object;)Z" } : Jvm.MethodName) jdk_42_method_66_code (3 : Nat) (Option.some Jvm.ClassFile.FieldType.boolean), Jvm.Cond.code ({ cls := "java/lang/StringLatin1", name := "equals", desc := "([B[B)Z" } : Jvm.MethodName) jdk_43_method_13_code (3 : Nat) (Option.some Jvm.ClassFile.FieldType.boolean)]
set_option maxRecDepth 65536 in
theorem codes_eq : words1.filter isCode = codes1 := rfl
theorem w_codes : ∀ c ∈ words1.filter isCode, c.before args0 about1 = true := by
  rw [codes_eq]
  intro c hc
  simp only [codes1, List.mem_cons, List.not_mem_nil, or_false] at hc
  rcases hc with rfl | rfl | rfl | rfl | rfl | rfl | rfl | rfl | rfl | rfl | rfl | rfl | rfl | rfl | rfl | rfl | rfl | rfl | rfl | rfl | rfl | rfl | rfl | rfl | rfl | rfl | rfl | rfl | rfl | rfl | rfl | rfl | rfl | rfl | rfl | rfl | rfl | rfl | rfl | rfl | rfl | rfl | rfl | rfl | rfl | rfl
  · exact w_c0
  · exact w_c1
  · exact w_c2
  · exact w_c3
  · exact w_c4
  · exact w_c5
  · exact w_c6
  · exact w_c7
  · exact w_c8
  · exact w_c9
  · exact w_c10
  · exact w_c11
  · exact w_c12
  · exact w_c13
  · exact w_c14
  · exact w_c15
  · exact w_c16
  · exact w_c17
  · exact w_c18
  · exact w_c19
  · exact w_c20
  · exact w_c21
  · exact w_c22
  · exact w_c23
  · exact w_c24
  · exact w_c25
  · exact w_c26
  · exact w_c27
  · exact w_c28
  · exact w_c29
  · exact w_c30
  · exact w_c31
  · exact w_c32
  · exact w_c33
  · exact w_c34
  · exact w_c35
  · exact w_c36
  · exact w_c37
  · exact w_c38
  · exact w_c39
  · exact w_c40
  · exact w_c41
  · exact w_c42
  · exact w_c43
  · exact w_c44
  · exact w_c45
set_option maxRecDepth 65536 in
theorem w_t1 : (words1.take 24).all (fun c => isCode c || c.before args0 about1) = true := by decide +kernel
set_option maxRecDepth 65536 in
theorem w_t2 : ((words1.drop 24).take 24).all (fun c => isCode c || c.before args0 about1) = true := by decide +kernel
set_option maxRecDepth 65536 in
theorem w_t3 : (((words1.drop 24).drop 24).take 24).all (fun c => isCode c || c.before args0 about1) = true := by decide +kernel
set_option maxRecDepth 65536 in
theorem w_t4 : ((((words1.drop 24).drop 24).drop 24).take 24).all (fun c => isCode c || c.before args0 about1) = true := by decide +kernel
set_option maxRecDepth 65536 in
theorem w_t5 : (((((words1.drop 24).drop 24).drop 24).drop 24).take 24).all (fun c => isCode c || c.before args0 about1) = true := by decide +kernel
set_option maxRecDepth 65536 in
theorem w_t6 : ((((((words1.drop 24).drop 24).drop 24).drop 24).drop 24).take 24).all (fun c => isCode c || c.before args0 about1) = true := by decide +kernel
set_option maxRecDepth 65536 in
theorem w_t7 : (((((((words1.drop 24).drop 24).drop 24).drop 24).drop 24).drop 24).take 24).all (fun c => isCode c || c.before args0 about1) = true := by decide +kernel
set_option maxRecDepth 65536 in
theorem w_t8 : ((((((((words1.drop 24).drop 24).drop 24).drop 24).drop 24).drop 24).drop 24).take 24).all (fun c => isCode c || c.before args0 about1) = true := by decide +kernel
set_option maxRecDepth 65536 in
theorem w_t9 : (((((((((words1.drop 24).drop 24).drop 24).drop 24).drop 24).drop 24).drop 24).drop 24).take 24).all (fun c => isCode c || c.before args0 about1) = true := by decide +kernel
set_option maxRecDepth 65536 in
theorem w_t10 : ((((((((((words1.drop 24).drop 24).drop 24).drop 24).drop 24).drop 24).drop 24).drop 24).drop 24).take 24).all (fun c => isCode c || c.before args0 about1) = true := by decide +kernel
set_option maxRecDepth 65536 in
theorem w_t11 : ((((((((((words1.drop 24).drop 24).drop 24).drop 24).drop 24).drop 24).drop 24).drop 24).drop 24).drop 24).all (fun c => isCode c || c.before args0 about1) = true := by decide +kernel
theorem w_tables : (allAtoms (Jvm.Cond.code x code maxLocals ret :: tables_1)).before args0 about1 = true := by
  rw [allAtoms_all]
  show words1.all (fun c => c.before args0 about1) = true
  refine all_split ?_ w_codes
  rw [← List.take_append_drop 24 words1, List.all_append, w_t1, ← List.take_append_drop 24 (words1.drop 24), List.all_append, w_t2, ← List.take_append_drop 24 ((words1.drop 24).drop 24), List.all_append, w_t3, ← List.take_append_drop 24 (((words1.drop 24).drop 24).drop 24), List.all_append, w_t4, ← List.take_append_drop 24 ((((words1.drop 24).drop 24).drop 24).drop 24), List.all_append, w_t5, ← List.take_append_drop 24 (((((words1.drop 24).drop 24).drop 24).drop 24).drop 24), List.all_append, w_t6, ← List.take_append_drop 24 ((((((words1.drop 24).drop 24).drop 24).drop 24).drop 24).drop 24), List.all_append, w_t7, ← List.take_append_drop 24 (((((((words1.drop 24).drop 24).drop 24).drop 24).drop 24).drop 24).drop 24), List.all_append, w_t8, ← List.take_append_drop 24 ((((((((words1.drop 24).drop 24).drop 24).drop 24).drop 24).drop 24).drop 24).drop 24), List.all_append, w_t9, ← List.take_append_drop 24 (((((((((words1.drop 24).drop 24).drop 24).drop 24).drop 24).drop 24).drop 24).drop 24).drop 24), List.all_append, w_t10, w_t11]
  rfl
set_option maxRecDepth 65536 in
theorem w_rest : rest_1_c.before args0 about1 = true := by decide +kernel
set_option maxRecDepth 65536 in
theorem w_case : (Jvm.Cond.and given_1 narrow_1).before args0 about1 = true := by decide +kernel
set_option maxRecDepth 65536 in
theorem w_consts : constsHeld consts_1 about1 := Jvm.Lit.constsHeldB_iff.mp (by decide +kernel)
theorem w_applies : (headSpec (Jvm.Cond.code x code maxLocals ret :: tables_1) room_1).applies x e0.platform about1 = true :=
  (Spec.applies_iff w_frames).mpr ⟨w_running, w_runnable, w_alone, w_named, w_hears, w_ripe, w_room, w_tables⟩
theorem atStart : AtStart classFile x code maxLocals ret World_1 tables_1 room_1 Calls_1 rest_1 Pre_1 launch0 p0 e0 about1 theMethod args0 below0 :=
  ⟨lists_1, trivial, launch0.admits_env _ _ _, launch0.least_env, fairChoices_fair.cas, fairChoices_fair.clock, w_frames, w_args, w_heap, w_applies, ⟨w_consts, trivial⟩, w_rest, w_case⟩
end start1
theorem witness_1 : WitnessClaimed_1 := ⟨start1.p0, start1.e0, start1.about1, start1.theMethod, start1.args0, start1.below0, start1.atStart⟩
end Jvm.Pilot.@@N@@
